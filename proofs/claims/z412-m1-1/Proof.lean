import JvmDerived
import JvmDerived.Pilot.@@N@@Statement
import JvmDerived.Pilot.@@N@@Code
set_option linter.unusedVariables false
set_option linter.unusedSimpArgs false
namespace Jvm.RoadKit
open Sem ClassFile Op Lib Jvm.Stand Jvm.Free Jvm.LawKit
section New
variable {p : Program} {l : Launch} {e : Env} {R : Room} {s : State} {m : MethodId} {args : Array Value} {below : List Frame} {meth : Method} {c : Code} {T : State} {locs : List Loc} {cells slots : Nat}
theorem retI (X : Stand p l e R s m args below meth c T locs cells slots) (hx : p.tables.exec = Jvm.exec) {pc : Nat} {Ls : Array Slot} {z : Int32} {rest : List Value} (hret : meth.sig.returnType = some .int) (hd : decode c.code pc = .ok (.ireturn, 1)) {fs : List Frame}
    (hl : ∀ (f : JFrame) (acts : List Action), f.method = m → f.locked = none → f.entered = [] → (doReturn e (T.setTop f) acts (some (.int z))).1 = T.setFrames fs) : Steps p.tables e below (T.setTop (mkF m pc Ls (.int z :: rest))) (T.setFrames fs) := by
  have hm' : T.vm.method? m = some meth := X.method'
  have hn : narrow .int (.int z) = .int z := rfl
  show Steps p.tables e below (T.setTop { method := m, pc := pc, locals := Ls, stack := _ :: rest, locked := none }) _
  jvm_step X.here [X.here.top, hx, hd, hm', hret, hn]
  first | (intro acts; rw [hl _ acts rfl rfl rfl]) | rw [hl _ _ rfl rfl rfl]
  exact Steps.refl _
end New
end Jvm.RoadKit
namespace Jvm.Pilot.@@N@@
open Jvm Jvm.ClassFile Sem Op Lib Jvm.Free Jvm.Stand Jvm.LawKit Jvm.RoadKit Bundle Jvm.Pilot.@@N@@.Jvm.D
/-- whatever the machine reaches from (T', g') it reaches from (T, g) -/
def own_Go (p : Program) (e : Env) (below : List Frame) (T : State) (g : JFrame) (T' : State) (g' : JFrame) : Prop := ∀ t, Steps p.tables e below (T'.setTop g') t → Steps p.tables e below (T.setTop g) t
theorem own_Go.refl {p : Program} {e : Env} {below : List Frame} (T : State) (g : JFrame) : own_Go p e below T g T g := fun _ k => k
theorem own_Go.trans {p : Program} {e : Env} {below : List Frame} {T T' T'' : State} {g g' g'' : JFrame} (h : own_Go p e below T g T' g') (h' : own_Go p e below T' g' T'' g'') : own_Go p e below T g T'' g'' := fun tg_ kk_ => h tg_ (h' tg_ kk_)
/-! ## calls by their contracts, in one row each -/
section OwnCalls
variable {p : Program} {l : Launch} {e : Env} {R : Room} {s : State} {m : MethodId} {args : Array Value} {below : List Frame} {meth : Method} {c : Code} {T : State} {locs : List Loc} {cells slots : Nat} {Z : State} {a0 : Array Value} {h : Heap}
theorem own_callS (X : Stand p l e R s m args below meth c T locs cells slots) (hx : p.tables.exec = Jvm.exec) (hZ : Z.Warmed39 s.vm) {own : String} {index : Nat} {y : MethodName} {bytes : ByteArray} {maxL : Nat} {ret : Option FieldType} {rm : Room} {Q : Option Value → Heap → List Loc → Prop}
    (hown : s.vm.findClass own = some m.cls) (w1 : (Cond.methodLink own index y).before a0 Z = true) (w2 : (Cond.static y).before a0 Z = true) (w3 : (Cond.initialized y.cls).before a0 Z = true) (w4 : (Cond.code y bytes maxL ret).before a0 Z = true)
    (hy : y.cls ≠ "java/lang/invoke/MethodHandle" ∧ y.cls ≠ "java/lang/invoke/VarHandle") (W : Nat) {g : JFrame} (hg : g.method = m) (hsize : g.locals.size = c.maxLocals) (argsL rest : List Value)
    (hM : MetFree l y (head1 [Cond.code y bytes maxL ret] rm) (fun a U => a = argsL.toArray ∧ Z.Warmed39 U.vm ∧ U.heap = h) (fun _ _ _ _ _ => True) (fun _ U o U' => ∃ v L, o = .returned v ∧ Q v U'.heap L ∧ FrameEnd U o U' L rm.cells rm.slots))
    (hlen : ∀ sig, parseMethodDescriptor y.desc = some sig → argsL.length = sig.parameters.length) (hstack : g.stack = argsL.reverse ++ rest) (hW : 2 * g.monitorRoom + (rest.map fun v => v.category).sum ≤ W) (hd : decode c.code g.pc = .ok (.invokestatic index, 3))
    (hf : rm.frames + 1 ≤ R.frames) (hl : W + (maxL + 11) + rm.locals ≤ R.locals) (eT : T.heap = h) (hc : cells + rm.cells ≤ R.cells) (hs : slots + rm.slots ≤ R.slots) :
    ∃ (v : Option Value) (T' : State) (h' : Heap) (L : List Loc), Stand p l e R s m args below meth c T' (locs ++ L) (cells + rm.cells) (slots + rm.slots) ∧ T'.heap = h' ∧ Q v h' L ∧
      ∀ t, Steps p.tables e below (T'.setTop { g with pc := g.pc + 3, stack := v.toList ++ rest }) t → Steps p.tables e below (T.setTop g) t := by
  obtain ⟨v, _, ⟨T4, L4, k4, n4⟩, -, X4, ⟨Lc, hQ, l4, y4, z4⟩, st⟩ := Jvm.LawKit.callS X hx (y := y) hown (mvT hZ w1) (mvT hZ w2) (mvT hZ w3) (mvT hZ w4) hy (backOf (W := W) hM hZ w4 w3 hf hl) (g := g) hg hsize (argsL := argsL) (rest := rest) hlen hstack hW hd (fun _ _ => ⟨rfl, eT, hc, hs⟩)
  dsimp only [Pt.U, Pt.locs, Pt.cells, Pt.slots] at X4 l4 y4 z4 st hQ
  subst l4 y4 z4
  exact ⟨v, T4, _, Lc, X4, rfl, hQ, st⟩
theorem own_callI (X : Stand p l e R s m args below meth c T locs cells slots) (hx : p.tables.exec = Jvm.exec) (hZ : Z.Warmed39 s.vm) {own : String} {index : Nat} {y : MethodName} {bytes : ByteArray} {maxL : Nat} {rm : Room} {Q : Option Value → Heap → List Loc → Prop}
    (hy1 : y.name = "<init>") (hown : s.vm.findClass own = some m.cls) (w1 : (Cond.methodLink own index y).before a0 Z = true) (w2 : (Cond.instanceMethod y).before a0 Z = true) (w3 : (Cond.initialized y.cls).before a0 Z = true) (w4 : (Cond.code y bytes maxL none).before a0 Z = true)
    (hy : y.cls ≠ "java/lang/invoke/MethodHandle" ∧ y.cls ≠ "java/lang/invoke/VarHandle") (W : Nat) {g : JFrame} (hg : g.method = m) (hsize : g.locals.size = c.maxLocals) (a : Addr) (argsL rest : List Value)
    (hM : MetFree l y (head1 [Cond.code y bytes maxL none] rm) (fun a' U => a' = (.ref a :: argsL).toArray ∧ Z.Warmed39 U.vm ∧ U.heap = h) (fun _ _ _ _ _ => True) (fun _ U o U' => ∃ v L, o = .returned v ∧ Q v U'.heap L ∧ FrameEnd U o U' L rm.cells rm.slots))
    (hlen : ∀ sig, parseMethodDescriptor y.desc = some sig → argsL.length = sig.parameters.length) (hstack : g.stack = argsL.reverse ++ .ref a :: rest) (hW : 2 * g.monitorRoom + (rest.map fun v => v.category).sum ≤ W) (hd : decode c.code g.pc = .ok (.invokespecial index, 3))
    (hf : rm.frames + 1 ≤ R.frames) (hl : W + (maxL + 11) + rm.locals ≤ R.locals) (eT : T.heap = h) (hc : cells + rm.cells ≤ R.cells) (hs : slots + rm.slots ≤ R.slots) :
    ∃ (v : Option Value) (T' : State) (h' : Heap) (L : List Loc), Stand p l e R s m args below meth c T' (locs ++ L) (cells + rm.cells) (slots + rm.slots) ∧ T'.heap = h' ∧ Q v h' L ∧
      ∀ t, Steps p.tables e below (T'.setTop { g with pc := g.pc + 3, stack := v.toList ++ rest }) t → Steps p.tables e below (T.setTop g) t := by
  obtain ⟨v, _, ⟨T4, L4, k4, n4⟩, -, X4, ⟨Lc, hQ, l4, y4, z4⟩, st⟩ := X.specialBack hx (y := y) hy1 hown (mvT hZ w1) (mvT hZ w2) (mvT hZ w4) hy (backOf (W := W) hM hZ w4 w3 hf hl) (g := g) hg hsize (Steps.refl _) (a := a) (argsL := argsL) (rest := rest) hlen hstack hW hd (fun _ _ => ⟨rfl, eT, hc, hs⟩)
  dsimp only [Pt.U, Pt.locs, Pt.cells, Pt.slots] at X4 l4 y4 z4 st hQ
  subst l4 y4 z4
  exact ⟨v, T4, _, Lc, X4, rfl, hQ, fun t k => st.trans k⟩
theorem own_callV (X : Stand p l e R s m args below meth c T locs cells slots) (hx : p.tables.exec = Jvm.exec) (hZ : Z.Warmed39 s.vm) {own C : String} {index : Nat} {y : MethodName} {bytes : ByteArray} {maxL : Nat} {ret : Option FieldType} {rm : Room} {Q : Option Value → Heap → List Loc → Prop}
    (hown : s.vm.findClass own = some m.cls) (w1 : (Cond.methodLink own index y).before a0 Z = true) (w2 : (Cond.declares y).before a0 Z = true) (w5 : (Cond.selects C y y).before a0 Z = true) (w6 : (Cond.instanceMethod y).before a0 Z = true) (w3 : (Cond.initialized y.cls).before a0 Z = true) (w4 : (Cond.code y bytes maxL ret).before a0 Z = true)
    (hy : y.cls ≠ "java/lang/invoke/MethodHandle" ∧ y.cls ≠ "java/lang/invoke/VarHandle") (W : Nat) {g : JFrame} (hg : g.method = m) (hsize : g.locals.size = c.maxLocals) (a : Addr) (E : Exa Z h a C) (argsL rest : List Value)
    (hM : MetFree l y (head1 [Cond.code y bytes maxL ret] rm) (fun a' U => a' = (.ref a :: argsL).toArray ∧ Z.Warmed39 U.vm ∧ U.heap = h) (fun _ _ _ _ _ => True) (fun _ U o U' => ∃ v L, o = .returned v ∧ Q v U'.heap L ∧ FrameEnd U o U' L rm.cells rm.slots))
    (hlen : ∀ sig, parseMethodDescriptor y.desc = some sig → argsL.length = sig.parameters.length) (hstack : g.stack = argsL.reverse ++ .ref a :: rest) (hW : 2 * g.monitorRoom + (rest.map fun v => v.category).sum ≤ W) (hd : decode c.code g.pc = .ok (.invokevirtual index, 3))
    (hf : rm.frames + 1 ≤ R.frames) (hl : W + (maxL + 11) + rm.locals ≤ R.locals) (eT : T.heap = h) (hc : cells + rm.cells ≤ R.cells) (hs : slots + rm.slots ≤ R.slots) :
    ∃ (v : Option Value) (T' : State) (h' : Heap) (L : List Loc), Stand p l e R s m args below meth c T' (locs ++ L) (cells + rm.cells) (slots + rm.slots) ∧ T'.heap = h' ∧ Q v h' L ∧
      ∀ t, Steps p.tables e below (T'.setTop { g with pc := g.pc + 3, stack := v.toList ++ rest }) t → Steps p.tables e below (T.setTop g) t := by
  obtain ⟨cB, kB, qa, qb, qc⟩ := isOf (T := T) hZ eT E
  obtain ⟨v, _, ⟨T4, L4, k4, n4⟩, -, X4, ⟨Lc, hQ, l4, y4, z4⟩, st⟩ := X.virtualBack hx (y := y) (z := y) hown (mvT hZ w1) (mvT hZ w2) (notFace_of_selects (args := #[]) (mvT hZ w5)) (mvT hZ w5) (mvT hZ w6) hy (backOf (W := W) hM hZ w4 w3 hf hl) qa qc (g := g) hg hsize (Steps.refl _) (argsL := argsL) (rest := rest) hlen hstack hW hd (fun _ _ => ⟨rfl, eT, hc, hs⟩)
  dsimp only [Pt.U, Pt.locs, Pt.cells, Pt.slots] at X4 l4 y4 z4 st hQ
  subst l4 y4 z4
  exact ⟨v, T4, _, Lc, X4, rfl, hQ, fun t k => st.trans k⟩
end OwnCalls
/-! ## private and interface calls by their contracts -/
section OwnCallsP
variable {p : Program} {l : Launch} {e : Env} {R : Room} {s : State} {m : MethodId} {args : Array Value} {below : List Frame} {meth : Method} {c : Code} {T : State} {locs : List Loc} {cells slots : Nat} {Z : State} {a0 : Array Value} {h : Heap}
theorem own_callF (X : Stand p l e R s m args below meth c T locs cells slots) (hx : p.tables.exec = Jvm.exec) (hZ : Z.Warmed39 s.vm) {own C : String} {index count : Nat} {y z : MethodName} {bytes : ByteArray} {maxL : Nat} {ret : Option FieldType} {rm : Room} {Q : Option Value → Heap → List Loc → Prop}
    (hown : s.vm.findClass own = some m.cls) (w1 : (Cond.methodLink own index y).before a0 Z = true) (w2 : (Cond.declares y).before a0 Z = true) (wf : (Cond.interfaceMethod y.cls y.cls y.name y.desc).before args s = true) (w5 : (Cond.selects C y z).before a0 Z = true) (w6 : (Cond.instanceMethod z).before a0 Z = true)
    (wp : (Cond.publicMethod z).before a0 Z = true) (wu : (Cond.unhidden C y.name y.desc).before a0 Z = true) (wc : (Cond.castable C y.cls).before a0 Z = true) (w3 : (Cond.initialized z.cls).before a0 Z = true) (w4 : (Cond.code z bytes maxL ret).before a0 Z = true)
    (hy : y.cls ≠ "java/lang/invoke/MethodHandle" ∧ y.cls ≠ "java/lang/invoke/VarHandle") (W : Nat) {g : JFrame} (hg : g.method = m) (hsize : g.locals.size = c.maxLocals) (a : Addr) (E : Exa Z h a C) (argsL rest : List Value)
    (hM : MetFree l z (head1 [Cond.code z bytes maxL ret] rm) (fun a' U => a' = (.ref a :: argsL).toArray ∧ Z.Warmed39 U.vm ∧ U.heap = h) (fun _ _ _ _ _ => True) (fun _ U o U' => ∃ v L, o = .returned v ∧ Q v U'.heap L ∧ FrameEnd U o U' L rm.cells rm.slots))
    (hlen : ∀ sig, parseMethodDescriptor y.desc = some sig → argsL.length = sig.parameters.length) (hstack : g.stack = argsL.reverse ++ .ref a :: rest) (hW : 2 * g.monitorRoom + (rest.map fun v => v.category).sum ≤ W) (hd : decode c.code g.pc = .ok (.invokeinterface index count, 5))
    (hf : rm.frames + 1 ≤ R.frames) (hl : W + (maxL + 11) + rm.locals ≤ R.locals) (eT : T.heap = h) (hc : cells + rm.cells ≤ R.cells) (hs : slots + rm.slots ≤ R.slots) :
    ∃ (v : Option Value) (T' : State) (h' : Heap) (L : List Loc), Stand p l e R s m args below meth c T' (locs ++ L) (cells + rm.cells) (slots + rm.slots) ∧ T'.heap = h' ∧ Q v h' L ∧
      ∀ t, Steps p.tables e below (T'.setTop { g with pc := g.pc + 5, stack := v.toList ++ rest }) t → Steps p.tables e below (T.setTop g) t := by
  obtain ⟨cB, kB, qa, qb, qc⟩ := isOf (T := T) hZ eT E
  obtain ⟨v, _, ⟨T4, L4, k4, n4⟩, -, X4, ⟨Lc, hQ, l4, y4, z4⟩, st⟩ := X.interfaceBack hx (xi := y) (y := z) hown (mvT hZ w1) (mvT hZ w2) wf (mvT hZ w5) (mvT hZ w6) (mvT hZ wp) (mvT hZ wu) (mvT hZ wc) hy (backOf (W := W) hM hZ w4 w3 hf hl) qa qb qc (g := g) hg hsize (Steps.refl _) (argsL := argsL) (rest := rest) hlen hstack hW hd (fun _ _ => ⟨rfl, eT, hc, hs⟩)
  dsimp only [Pt.U, Pt.locs, Pt.cells, Pt.slots] at X4 l4 y4 z4 st hQ
  subst l4 y4 z4
  exact ⟨v, T4, _, Lc, X4, rfl, hQ, fun t k => st.trans k⟩
/-- a private callee of a class that objects are made of -/
theorem own_callP (X : Stand p l e R s m args below meth c T locs cells slots) (hx : p.tables.exec = Jvm.exec) (hZ : Z.Warmed39 s.vm) {own C : String} {index nf : Nat} {y : MethodName} {bytes : ByteArray} {maxL : Nat} {ret : Option FieldType} {rm : Room} {Q : Option Value → Heap → List Loc → Prop}
    (hown : s.vm.findClass own = some m.cls) (w1 : (Cond.methodLink own index y).before a0 Z = true) (w2 : (Cond.instanceMethod y).before a0 Z = true) (wp : (Cond.privateMethod y).before a0 Z = true) (wi : (Cond.instantiable y.cls nf).before a0 Z = true) (w3 : (Cond.initialized y.cls).before a0 Z = true) (w4 : (Cond.code y bytes maxL ret).before a0 Z = true)
    (hy : y.cls ≠ "java/lang/invoke/MethodHandle" ∧ y.cls ≠ "java/lang/invoke/VarHandle") (W : Nat) {g : JFrame} (hg : g.method = m) (hsize : g.locals.size = c.maxLocals) (a : Addr) (E : Exa Z h a C) (argsL rest : List Value)
    (hM : MetFree l y (head1 [Cond.code y bytes maxL ret] rm) (fun a' U => a' = (.ref a :: argsL).toArray ∧ Z.Warmed39 U.vm ∧ U.heap = h) (fun _ _ _ _ _ => True) (fun _ U o U' => ∃ v L, o = .returned v ∧ Q v U'.heap L ∧ FrameEnd U o U' L rm.cells rm.slots))
    (hlen : ∀ sig, parseMethodDescriptor y.desc = some sig → argsL.length = sig.parameters.length) (hstack : g.stack = argsL.reverse ++ .ref a :: rest) (hW : 2 * g.monitorRoom + (rest.map fun v => v.category).sum ≤ W) (hd : decode c.code g.pc = .ok (.invokevirtual index, 3))
    (hf : rm.frames + 1 ≤ R.frames) (hl : W + (maxL + 11) + rm.locals ≤ R.locals) (eT : T.heap = h) (hc : cells + rm.cells ≤ R.cells) (hs : slots + rm.slots ≤ R.slots) :
    ∃ (v : Option Value) (T' : State) (h' : Heap) (L : List Loc), Stand p l e R s m args below meth c T' (locs ++ L) (cells + rm.cells) (slots + rm.slots) ∧ T'.heap = h' ∧ Q v h' L ∧
      ∀ t, Steps p.tables e below (T'.setTop { g with pc := g.pc + 3, stack := v.toList ++ rest }) t → Steps p.tables e below (T.setTop g) t := by
  obtain ⟨cell, hcell, hobj⟩ := E.cell
  obtain ⟨mk, me, hnamed, hme, hst, hab⟩ := Cond.instanceMethod_spec (mvT (args := args) hZ w2)
  have hsig := Cond.code_spec hnamed (mvT (args := args) hZ w4)
  obtain ⟨me', cM, hme', -, -, -, -, -, -, hsigM⟩ := hsig
  cases hme.symm.trans hme'
  obtain ⟨cc, kk, hcc, hkk, -, hnf, -⟩ := Cond.instantiable_spec (mvT (args := args) hZ wi)
  have hcls : mk.cls = cc := by
    have q := findClass_of_methodNamed hnamed
    exact Option.some.inj (q.symm.trans hcc)
  have hki : kk.isInterface = false := by
    cases hh : kk.isInterface with
    | false => rfl
    | true => rw [hh] at hnf; simp at hnf
  rw [← hcls] at hkk
  have hp : me.isPrivate = true := Cond.privateMethod_at (mvP (args := args) hZ wp) mk me hnamed hme
  obtain ⟨vm₁, X₁, hstep₁⟩ := X.invokevirtual hx hown (mvT hZ w1) hnamed hme hst hkk hki hy (a := a) (cell := cell) (by rw [eT]; exact hcell) hobj (selectMethod_private hme hp) hme hab hkk hki (g := g) hg (argsL := argsL) (rest := rest) (hlen _ hsigM) hstack hd
  obtain ⟨v, ⟨T4, L4, k4, n4⟩, X4, ⟨Lc, hQ, l4, y4, z4⟩, st⟩ := backOf (W := W) (len := 3) hM hZ w4 w3 hf hl m meth c ⟨T.setVm vm₁, locs, cells, slots⟩ { g with stack := rest } (.invokevirtual index) mk (.ref a :: argsL).toArray X₁ hg hsize hd hW (X₁.named hnamed) ⟨rfl, eT, hc, hs⟩
  dsimp only [Pt.U, Pt.locs, Pt.cells, Pt.slots] at X4 l4 y4 z4 st hQ
  subst l4 y4 z4
  exact ⟨v, T4, _, Lc, X4, rfl, hQ, fun t k => (hstep₁ _ fun acts => by rw [doInvoke_state]; exact Steps.refl _).trans (st.trans k)⟩
end OwnCallsP
/-! ## calls through a class above the declarer; a callee with an exception table -/
section OwnCallsU
variable {p : Program} {l : Launch} {e : Env} {R : Room} {s : State} {m : MethodId} {args : Array Value} {below : List Frame} {meth : Method} {c : Code} {T : State} {locs : List Loc} {cells slots : Nat} {Z : State} {a0 : Array Value} {h : Heap}
theorem own_callU (X : Stand p l e R s m args below meth c T locs cells slots) (hx : p.tables.exec = Jvm.exec) (hZ : Z.Warmed39 s.vm) {own C owner : String} {index : Nat} {y z : MethodName} {bytes : ByteArray} {maxL : Nat} {ret : Option FieldType} {rm : Room} {Q : Option Value → Heap → List Loc → Prop}
    (hown : s.vm.findClass own = some m.cls) (w1 : (Cond.methodLink own index y).before a0 Z = true) (ws : (Cond.sameMethod y.cls owner y.name y.desc).before a0 Z = true) (w2 : (Cond.declares ⟨owner, y.name, y.desc⟩).before a0 Z = true) (w5 : (Cond.selects C y z).before a0 Z = true) (w6 : (Cond.instanceMethod z).before a0 Z = true) (w3 : (Cond.initialized z.cls).before a0 Z = true) (w4 : (Cond.code z bytes maxL ret).before a0 Z = true)
    (hy : owner ≠ "java/lang/invoke/MethodHandle" ∧ owner ≠ "java/lang/invoke/VarHandle") (W : Nat) {g : JFrame} (hg : g.method = m) (hsize : g.locals.size = c.maxLocals) (a : Addr) (E : Exa Z h a C) (argsL rest : List Value)
    (hM : MetFree l z (head1 [Cond.code z bytes maxL ret] rm) (fun a' U => a' = (.ref a :: argsL).toArray ∧ Z.Warmed39 U.vm ∧ U.heap = h) (fun _ _ _ _ _ => True) (fun _ U o U' => ∃ v L, o = .returned v ∧ Q v U'.heap L ∧ FrameEnd U o U' L rm.cells rm.slots))
    (hlen : ∀ sig, parseMethodDescriptor y.desc = some sig → argsL.length = sig.parameters.length) (hstack : g.stack = argsL.reverse ++ .ref a :: rest) (hW : 2 * g.monitorRoom + (rest.map fun v => v.category).sum ≤ W) (hd : decode c.code g.pc = .ok (.invokevirtual index, 3))
    (hf : rm.frames + 1 ≤ R.frames) (hl : W + (maxL + 11) + rm.locals ≤ R.locals) (eT : T.heap = h) (hc : cells + rm.cells ≤ R.cells) (hs : slots + rm.slots ≤ R.slots) :
    ∃ (v : Option Value) (T' : State) (h' : Heap) (L : List Loc), Stand p l e R s m args below meth c T' (locs ++ L) (cells + rm.cells) (slots + rm.slots) ∧ T'.heap = h' ∧ Q v h' L ∧
      ∀ t, Steps p.tables e below (T'.setTop { g with pc := g.pc + 3, stack := v.toList ++ rest }) t → Steps p.tables e below (T.setTop g) t := by
  obtain ⟨cB, kB, qa, qb, qc⟩ := isOf (T := T) hZ eT E
  obtain ⟨v, _, ⟨T4, L4, k4, n4⟩, -, X4, ⟨Lc, hQ, l4, y4, z4⟩, st⟩ := X.virtualBackUp hx (x := y) (y := z) hown (mvT hZ w1) (mvT hZ ws) (mvT hZ w2) hy (mvT hZ w5) (mvT hZ w6) (backOf (W := W) hM hZ w4 w3 hf hl) qa qc (g := g) hg hsize (Steps.refl _) (argsL := argsL) (rest := rest) hlen hstack hW hd (fun _ _ => ⟨rfl, eT, hc, hs⟩)
  dsimp only [Pt.U, Pt.locs, Pt.cells, Pt.slots] at X4 l4 y4 z4 st hQ
  subst l4 y4 z4
  exact ⟨v, T4, _, Lc, X4, rfl, hQ, fun t k => st.trans k⟩
theorem own_callFW (X : Stand p l e R s m args below meth c T locs cells slots) (hx : p.tables.exec = Jvm.exec) (hZ : Z.Warmed39 s.vm) {own C : String} {index count : Nat} {y z : MethodName} {bytes : ByteArray} {maxL : Nat} {ret : Option FieldType} {hs0 : List (Nat × Nat × Nat × Nat)} {rm : Room} {Q : Option Value → Heap → List Loc → Prop}
    (hown : s.vm.findClass own = some m.cls) (w1 : (Cond.methodLink own index y).before a0 Z = true) (w2 : (Cond.declares y).before a0 Z = true) (wf : (Cond.interfaceMethod y.cls y.cls y.name y.desc).before args s = true) (w5 : (Cond.selects C y z).before a0 Z = true) (w6 : (Cond.instanceMethod z).before a0 Z = true)
    (wp : (Cond.publicMethod z).before a0 Z = true) (wu : (Cond.unhidden C y.name y.desc).before a0 Z = true) (wc : (Cond.castable C y.cls).before a0 Z = true) (w3 : (Cond.initialized z.cls).before a0 Z = true) (w4 : (Cond.codeWith z bytes maxL ret hs0).before a0 Z = true)
    (hy : y.cls ≠ "java/lang/invoke/MethodHandle" ∧ y.cls ≠ "java/lang/invoke/VarHandle") (W : Nat) {g : JFrame} (hg : g.method = m) (hsize : g.locals.size = c.maxLocals) (a : Addr) (E : Exa Z h a C) (argsL rest : List Value)
    (hM : MetFree l z (head1 [Cond.codeWith z bytes maxL ret hs0] rm) (fun a' U => a' = (.ref a :: argsL).toArray ∧ Z.Warmed39 U.vm ∧ U.heap = h) (fun _ _ _ _ _ => True) (fun _ U o U' => ∃ v L, o = .returned v ∧ Q v U'.heap L ∧ FrameEnd U o U' L rm.cells rm.slots))
    (hlen : ∀ sig, parseMethodDescriptor y.desc = some sig → argsL.length = sig.parameters.length) (hstack : g.stack = argsL.reverse ++ .ref a :: rest) (hW : 2 * g.monitorRoom + (rest.map fun v => v.category).sum ≤ W) (hd : decode c.code g.pc = .ok (.invokeinterface index count, 5))
    (hf : rm.frames + 1 ≤ R.frames) (hl : W + (maxL + 11) + rm.locals ≤ R.locals) (eT : T.heap = h) (hc : cells + rm.cells ≤ R.cells) (hs : slots + rm.slots ≤ R.slots) :
    ∃ (v : Option Value) (T' : State) (h' : Heap) (L : List Loc), Stand p l e R s m args below meth c T' (locs ++ L) (cells + rm.cells) (slots + rm.slots) ∧ T'.heap = h' ∧ Q v h' L ∧
      ∀ t, Steps p.tables e below (T'.setTop { g with pc := g.pc + 5, stack := v.toList ++ rest }) t → Steps p.tables e below (T.setTop g) t := by
  obtain ⟨cB, kB, qa, qb, qc⟩ := isOf (T := T) hZ eT E
  obtain ⟨v, _, ⟨T4, L4, k4, n4⟩, -, X4, ⟨Lc, hQ, l4, y4, z4⟩, st⟩ := X.interfaceBack hx (xi := y) (y := z) hown (mvT hZ w1) (mvT hZ w2) wf (mvT hZ w5) (mvT hZ w6) (mvT hZ wp) (mvT hZ wu) (mvT hZ wc) hy (backOfWith (W := W) hM hZ w4 w3 hf hl) qa qb qc (g := g) hg hsize (Steps.refl _) (argsL := argsL) (rest := rest) hlen hstack hW hd (fun _ _ => ⟨rfl, eT, hc, hs⟩)
  dsimp only [Pt.U, Pt.locs, Pt.cells, Pt.slots] at X4 l4 y4 z4 st hQ
  subst l4 y4 z4
  exact ⟨v, T4, _, Lc, X4, rfl, hQ, fun t k => st.trans k⟩
theorem own_nf {s : State} {args : Array Value} {C : String} {y z : MethodName} (h : (Cond.selects C z z).before args s = true) (e : z.cls = y.cls) : NotFace s y := fun r0 hr0 => by
  obtain ⟨c2, r2, m2, -, -, q3, -, kP, hkP, hkPi⟩ := Cond.selects_spec h
  have a := findClass_of_methodNamed hr0
  have b := findClass_of_methodNamed q3
  rw [e] at b
  have q : m2.cls = r0.cls := Option.some.inj (b.symm.trans a)
  exact ⟨kP, q ▸ hkP, hkPi⟩
theorem own_callW (X : Stand p l e R s m args below meth c T locs cells slots) (hx : p.tables.exec = Jvm.exec) (hZ : Z.Warmed39 s.vm) {own C : String} {index : Nat} {C2 : String} {y z z2 : MethodName} {bytes : ByteArray} {maxL : Nat} {ret : Option FieldType} {rm : Room} {Q : Option Value → Heap → List Loc → Prop}
    (hown : s.vm.findClass own = some m.cls) (w1 : (Cond.methodLink own index y).before a0 Z = true) (w2 : (Cond.declares y).before a0 Z = true) (w5 : (Cond.selects C y z).before a0 Z = true) (wn : (Cond.selects C2 z2 z2).before a0 Z = true) (hn2 : z2.cls = y.cls) (w6 : (Cond.instanceMethod z).before a0 Z = true) (w3 : (Cond.initialized z.cls).before a0 Z = true) (w4 : (Cond.code z bytes maxL ret).before a0 Z = true)
    (hy : y.cls ≠ "java/lang/invoke/MethodHandle" ∧ y.cls ≠ "java/lang/invoke/VarHandle") (W : Nat) {g : JFrame} (hg : g.method = m) (hsize : g.locals.size = c.maxLocals) (a : Addr) (E : Exa Z h a C) (argsL rest : List Value)
    (hM : MetFree l z (head1 [Cond.code z bytes maxL ret] rm) (fun a' U => a' = (.ref a :: argsL).toArray ∧ Z.Warmed39 U.vm ∧ U.heap = h) (fun _ _ _ _ _ => True) (fun _ U o U' => ∃ v L, o = .returned v ∧ Q v U'.heap L ∧ FrameEnd U o U' L rm.cells rm.slots))
    (hlen : ∀ sig, parseMethodDescriptor y.desc = some sig → argsL.length = sig.parameters.length) (hstack : g.stack = argsL.reverse ++ .ref a :: rest) (hW : 2 * g.monitorRoom + (rest.map fun v => v.category).sum ≤ W) (hd : decode c.code g.pc = .ok (.invokevirtual index, 3))
    (hf : rm.frames + 1 ≤ R.frames) (hl : W + (maxL + 11) + rm.locals ≤ R.locals) (eT : T.heap = h) (hc : cells + rm.cells ≤ R.cells) (hs : slots + rm.slots ≤ R.slots) :
    ∃ (v : Option Value) (T' : State) (h' : Heap) (L : List Loc), Stand p l e R s m args below meth c T' (locs ++ L) (cells + rm.cells) (slots + rm.slots) ∧ T'.heap = h' ∧ Q v h' L ∧
      ∀ t, Steps p.tables e below (T'.setTop { g with pc := g.pc + 3, stack := v.toList ++ rest }) t → Steps p.tables e below (T.setTop g) t := by
  obtain ⟨cB, kB, qa, qb, qc⟩ := isOf (T := T) hZ eT E
  obtain ⟨v, _, ⟨T4, L4, k4, n4⟩, -, X4, ⟨Lc, hQ, l4, y4, z4⟩, st⟩ := X.virtualBack hx (y := y) (z := z) hown (mvT hZ w1) (mvT hZ w2) (own_nf (mvT (args := args) hZ wn) hn2) (mvT hZ w5) (mvT hZ w6) hy (backOf (W := W) hM hZ w4 w3 hf hl) qa qc (g := g) hg hsize (Steps.refl _) (argsL := argsL) (rest := rest) hlen hstack hW hd (fun _ _ => ⟨rfl, eT, hc, hs⟩)
  dsimp only [Pt.U, Pt.locs, Pt.cells, Pt.slots] at X4 l4 y4 z4 st hQ
  subst l4 y4 z4
  exact ⟨v, T4, _, Lc, X4, rfl, hQ, fun t k => st.trans k⟩
end OwnCallsU
/-! ## Object.getClass() of an object whose class has its Class object -/
section OwnGetClass
variable {p : Program} {l : Launch} {e : Env} {R : Room} {s : State} {m : MethodId} {args : Array Value} {below : List Frame} {meth : Method} {c : Code} {T : State} {locs : List Loc} {cells slots : Nat} {Z : State} {a0 : Array Value} {h : Heap}
theorem own_getClass (X : Stand p l e R s m args below meth c T locs cells slots) (hx : p.tables.exec = Jvm.exec) (hZ : Z.Warmed39 s.vm) {own C : String} {index : Nat}
    (hown : s.vm.findClass own = some m.cls) (w1 : (Cond.methodLink own index Jvm.Free.NT.getClassN).before a0 Z = true) (w2 : (Cond.declares Jvm.Free.NT.getClassN).before a0 Z = true) (w5 : (Cond.selects C Jvm.Free.NT.getClassN Jvm.Free.NT.getClassN).before a0 Z = true) (w6 : (Cond.instanceMethod Jvm.Free.NT.getClassN).before a0 Z = true) (w7 : (Cond.native Jvm.Free.NT.getClassN).before a0 Z = true)
    (W : Nat) {g : JFrame} (hg : g.method = m) (hsize : g.locals.size = c.maxLocals) (a : Addr) (E : Exa Z h a C) {cL : ClassId} {kk : Class} {mm : Addr} (m1 : Z.vm.findClass C = some cL) (m2 : Z.vm.classes[cL]? = some kk) (m3 : kk.mirror = some mm) (rest : List Value)
    (hstack : g.stack = .ref a :: rest) (hW : 2 * g.monitorRoom + (rest.map fun v => v.category).sum ≤ W) (hd : decode c.code g.pc = .ok (.invokevirtual index, 3)) (hf : 1 ≤ R.frames) (hl : W + 14 ≤ R.locals) (eT : T.heap = h) :
    ∃ T', Stand p l e R s m args below meth c T' locs cells slots ∧ T'.heap = h ∧ ∀ t, Steps p.tables e below (T'.setTop { g with pc := g.pc + 3, stack := .ref mm :: rest }) t → Steps p.tables e below (T.setTop g) t := by
  obtain ⟨cB, kB, qa, qb, qc⟩ := isOf (T := T) hZ eT E
  have hcc : cB = cL := Option.some.inj (qa.symm.trans (by rw [hZ.alike.findClass]; exact m1))
  have hP : ∀ vm₁, s.WarmedH vm₁ → Jvm.Free.NT.GetClass.P (a, cB, kk, mm) #[.ref a] (T.setVm vm₁) := fun vm₁ hW₁ =>
    ⟨rfl, qc, Jvm.Free.NT.RecordOf.move (U := Z) (U' := T.setVm vm₁) (hZ.alike.trans hW₁.alike) (hcc ▸ Jvm.Free.NT.RecordOf.of m2), m3⟩
  obtain ⟨v, vm₁, B, hW1, X4, ⟨hB, hv⟩, st⟩ := X.virtualBack hx (y := Jvm.Free.NT.getClassN) (z := Jvm.Free.NT.getClassN) hown (mvT hZ w1) (mvT hZ w2) (notFace_of_selects (args := #[]) (mvT hZ w5)) (mvT hZ w5) (mvT hZ w6) (by decide) (Jvm.Free.NT.GetClass.pays (W := W) (len := 3) (mvT hZ w7) (mvT hZ w6) hf hl) qa qc (g := g) hg hsize (Steps.refl _) (argsL := []) (rest := rest) (fun sig hs => by
      have q : parseMethodDescriptor Jvm.Free.NT.getClassN.desc = some ⟨[], some (.object "java/lang/Class")⟩ := by decide +kernel
      rw [q] at hs; cases hs; rfl) hstack hW hd (fun vm₁ hW₁ => ⟨(a, cB, kk, mm), hP vm₁ hW₁⟩)
  subst hB
  have hv2 := hv (a, cB, kk, mm) (hP vm₁ hW1)
  subst hv2
  exact ⟨_, X4, eT, fun t k => st.trans k⟩
end OwnGetClass
/-! ## chars, bytes, arrays -/
def own_Ch (c : Int32) : Prop := ¬ c < 0 ∧ ¬ (65535 : Int32) < c
def own_lo (c : Int32) : Int32 := c.toInt8.toInt32
def own_hi (c : Int32) : Int32 := (c >>> ((8 : Int32) &&& 31)).toInt8.toInt32
def own_vb (c : Int32) : Value := .int (own_lo c)
theorem own_ch_int {c : Int32} (h : own_Ch c) : 0 ≤ c.toInt ∧ c.toInt ≤ 65535 := by
  have h1 := h.1; have h2 := h.2
  rw [Int32.lt_iff_toInt_lt] at h1 h2
  have e1 : (0 : Int32).toInt = 0 := rfl
  have e2 : (65535 : Int32).toInt = 65535 := rfl
  omega
theorem own_nar_char {c : Int32} (h : own_Ch c) : nar .char c = c := by
  have h1 := own_ch_int h
  have h2 := c_i2c c
  refine Int32.toInt_inj.mp ?_
  show (c.toUInt32.toUInt16.toUInt32.toInt32).toInt = c.toInt
  omega
theorem own_nar_lo (c : Int32) : nar .byte (own_lo c) = own_lo c := by
  have h1 := c_i2b c
  have h2 := c_i2b (own_lo c)
  refine Int32.toInt_inj.mp ?_
  show ((own_lo c).toInt8.toInt32).toInt = (own_lo c).toInt
  have e : (own_lo c).toInt = (c.toInt8.toInt32).toInt := rfl
  omega
theorem own_nar_hi (c : Int32) : nar .byte (own_hi c) = own_hi c := own_nar_lo (c >>> ((8 : Int32) &&& 31))
theorem own_fit_lo (c : Int32) : fits .byte (.int (own_lo c)) = true := fits_nar_byte c
theorem own_fit_hi (c : Int32) : fits .byte (.int (own_hi c)) = true := fits_nar_byte _
theorem own_shr0 (c : Int32) : c >>> ((0 : Int32) &&& 31) = c := by
  have h := c_ishr c 0 0 (by decide)
  refine Int32.toInt_inj.mp ?_
  rw [h]; simp
theorem own_lo_mask {c : Int32} (h0 : ¬ c < 0) (h1 : ¬ (255 : Int32) < c) : own_lo c &&& 255 = c := by
  rw [Int32.lt_iff_toInt_lt] at h0 h1
  have e1 : (0 : Int32).toInt = 0 := rfl
  have e2 : (255 : Int32).toInt = 255 := rfl
  have h2 := c_i2b c
  have h3 := c_mask (own_lo c) 255 8 (by decide) (by decide)
  have e : (own_lo c).toInt = (c.toInt8.toInt32).toInt := rfl
  refine Int32.toInt_inj.mp ?_
  omega
theorem own_pair {c : Int32} (h : own_Ch c) : (((own_lo c &&& 255) <<< ((0 : Int32) &&& 31)) ||| ((own_hi c &&& 255) <<< ((8 : Int32) &&& 31))).toUInt32.toUInt16.toUInt32.toInt32 = c := by
  have h1 := own_ch_int h
  have a1 := c_i2b c
  have a2 := c_ishr c 8 8 (by decide)
  have a3 := c_i2b (c >>> ((8 : Int32) &&& 31))
  have b1 := c_mask (own_lo c) 255 8 (by decide) (by decide)
  have b2 := c_mask (own_hi c) 255 8 (by decide) (by decide)
  have c1 := c_ishl (own_lo c &&& 255) 0 0 (by decide)
  have c2 := c_ishl (own_hi c &&& 255) 8 8 (by decide)
  have r1 := rng32 ((own_lo c &&& 255) <<< ((0 : Int32) &&& 31))
  have r2 := rng32 ((own_hi c &&& 255) <<< ((8 : Int32) &&& 31))
  have e1 : (own_lo c).toInt = (c.toInt8.toInt32).toInt := rfl
  have e2 : (own_hi c).toInt = ((c >>> ((8 : Int32) &&& 31)).toInt8.toInt32).toInt := rfl
  generalize hx : (own_lo c &&& 255) <<< ((0 : Int32) &&& 31) = x at *
  generalize hy : (own_hi c &&& 255) <<< ((8 : Int32) &&& 31) = y at *
  have o := c_or' x y 8 (by decide) 256 (by decide) (by omega) (by omega) (by omega)
  have d := c_i2c (x ||| y)
  have r3 := rng32 (x ||| y)
  refine Int32.toInt_inj.mp ?_
  omega
/-- an array's store behind the values that are said so far -/
theorem own_push {Z : State} {h h' : Heap} {a : Addr} {k : ClassId} {ty : FieldType} {z j : Int32} {vs : List Value} {v dv : Value} (F : Arv Z h a k ty z vs dv) (hv : fits ty v = true) (W : Wr h h' a j.toNatClampNeg v) (hj : j.toNatClampNeg = vs.length) : Arv Z h' a k ty z (vs ++ [v]) dv := by
  obtain ⟨c, A, q1, S, q3, H, G⟩ := F.pad (pad_rep vs dv 1)
  have q := Arv.set A q1 S q3 H G hv W vs.length hj (by simp)
  have e : (vs ++ List.replicate 1 dv).set vs.length v = vs ++ [v] := by simp
  rw [e] at q
  exact q
theorem own_n32 {n : Nat} (h : n < 2 ^ 31) : (Int32.ofNat n).toNatClampNeg = n := by
  rw [Int32.toNatClampNeg, Int32.toInt_ofNat_of_lt h]; rfl
theorem own_lt32 {i n : Nat} (h : i < n) (hn : n < 2 ^ 31) : Int32.ofNat i < Int32.ofNat n := by
  rw [Int32.lt_iff_toInt_lt, Int32.toInt_ofNat_of_lt (by omega), Int32.toInt_ofNat_of_lt hn]; omega
theorem own_nn32 {n : Nat} (h : n < 2 ^ 31) : ¬ Int32.ofNat n < 0 := by
  rw [Int32.lt_iff_toInt_lt, Int32.toInt_ofNat_of_lt h]; show ¬ ((n : Int) < 0); omega
theorem own_suc (i : Nat) : Int32.ofNat i + 1 = Int32.ofNat (i + 1) := by rw [Int32.ofNat_add]; rfl
theorem own_in32 {i n : Nat} {c : Cell} (S : c.slots.size = (Int32.ofNat n).toNatClampNeg) (h : i < n) (hn : n < 2 ^ 31) : ¬ (Int32.ofNat i < 0 ∨ c.slots.size ≤ (Int32.ofNat i).toNatClampNeg) := by
  rw [S, own_n32 hn, own_n32 (by omega)]
  exact fun q => q.elim (own_nn32 (by omega)) (fun q => by omega)
theorem own_getI (cs : List Int32) (j : Nat) (h : j < cs.length) (d : Value) : (cs.map Value.int).getD j d = .int (cs.getD j 0) := by simp [List.getD, h]
theorem own_getB (cs : List Int32) (j : Nat) (h : j < cs.length) (d : Value) : (cs.map own_vb).getD j d = .int (own_lo (cs.getD j 0)) := by simp [List.getD, h, own_vb]
theorem own_take1 (cs : List Int32) (i : Nat) (h : i < cs.length) : cs.take (i + 1) = cs.take i ++ [cs.getD i 0] := by rw [List.take_add_one]; simp [List.getD, h]
theorem own_takeB (cs : List Int32) (i : Nat) (h : i < cs.length) : (cs.take i).map own_vb ++ [.int (own_lo (cs.getD i 0))] = (cs.take (i + 1)).map own_vb := by
  rw [own_take1 cs i h, List.map_append]; rfl
/-- the two bytes of each char, the low one first -/
def own_wide : List Int32 → List Value
  | [] => []
  | c :: cs => .int (own_lo c) :: .int (own_hi c) :: own_wide cs
theorem own_wide_len : ∀ cs : List Int32, (own_wide cs).length = 2 * cs.length
  | [] => rfl
  | c :: cs => by show (own_wide cs).length + 1 + 1 = 2 * (cs.length + 1); rw [own_wide_len cs]; omega
theorem own_wide_app : ∀ (cs ds : List Int32), own_wide (cs ++ ds) = own_wide cs ++ own_wide ds
  | [], _ => rfl
  | c :: cs, ds => by show _ :: _ :: own_wide (cs ++ ds) = _; rw [own_wide_app cs ds]; rfl
theorem own_wide_lo (d : Value) : ∀ (cs : List Int32) (j : Nat), j < cs.length → (own_wide cs).getD (2 * j) d = .int (own_lo (cs.getD j 0))
  | [], _, h => absurd h (Nat.not_lt_zero _)
  | c :: cs, 0, _ => rfl
  | c :: cs, j + 1, h => by
    have q := own_wide_lo d cs j (by simpa using h)
    have e : 2 * (j + 1) = 2 * j + 1 + 1 := by omega
    rw [e]; exact q
theorem own_wide_hi (d : Value) : ∀ (cs : List Int32) (j : Nat), j < cs.length → (own_wide cs).getD (2 * j + 1) d = .int (own_hi (cs.getD j 0))
  | [], _, h => absurd h (Nat.not_lt_zero _)
  | c :: cs, 0, _ => rfl
  | c :: cs, j + 1, h => by
    have q := own_wide_hi d cs j (by simpa using h)
    have e : 2 * (j + 1) + 1 = 2 * j + 1 + 1 + 1 := by omega
    rw [e]; exact q
theorem own_takeW (cs : List Int32) (i : Nat) (h : i < cs.length) : own_wide (cs.take i) ++ [.int (own_lo (cs.getD i 0)), .int (own_hi (cs.getD i 0))] = own_wide (cs.take (i + 1)) := by
  rw [own_take1 cs i h, own_wide_app]; rfl
theorem own_shl1 {n : Nat} (h : n < 2 ^ 30) : Int32.ofNat n <<< ((1 : Int32) &&& 31) = Int32.ofNat (2 * n) := by
  have q := c_ishl (Int32.ofNat n) 1 1 (by decide)
  have r := rng32 (Int32.ofNat n <<< ((1 : Int32) &&& 31))
  refine Int32.toInt_inj.mp ?_
  rw [Int32.toInt_ofNat_of_lt (by omega)] at *
  omega
theorem own_shr1 {n : Nat} (h : n < 2 ^ 30) : Int32.ofNat (2 * n) >>> ((1 : Int32) &&& 31) = Int32.ofNat n := by
  have q := c_ishr (Int32.ofNat (2 * n)) 1 1 (by decide)
  refine Int32.toInt_inj.mp ?_
  rw [q, Int32.toInt_ofNat_of_lt (by omega), Int32.toInt_ofNat_of_lt (by omega)]
  omega
/-- what a String holds: its chars, Latin-1 or UTF-16 -/
def own_Str (Z : State) (h : Heap) (x t : Addr) (cs : List Int32) : Prop := Exa Z h x "java/lang/String" ∧ Fld Z h x "java/lang/String" "value" "[B" (.ref t) ∧
  ((Fld Z h x "java/lang/String" "coder" "B" (.int 0) ∧ (∃ kt, Arv Z h t kt .byte (Int32.ofNat cs.length) (cs.map own_vb) (.int 0)) ∧ ∀ j, j < cs.length → ¬ (255 : Int32) < cs.getD j 0) ∨
   (Fld Z h x "java/lang/String" "coder" "B" (.int 1) ∧ (∃ kt, Arv Z h t kt .byte (Int32.ofNat (2 * cs.length)) (own_wide cs) (.int 0)) ∧ ∃ j, j < cs.length ∧ (255 : Int32) < cs.getD j 0))
theorem own_Str.ext {Z : State} {h h' : Heap} {x t : Addr} {cs : List Int32} (S : own_Str Z h x t cs) (E : Ext h h') : own_Str Z h' x t cs :=
  ⟨S.1.ext E, S.2.1.ext E, S.2.2.imp (fun q => ⟨q.1.ext E, q.2.1.imp fun _ z => z.ext E, q.2.2⟩) (fun q => ⟨q.1.ext E, q.2.1.imp fun _ z => z.ext E, q.2.2⟩)⟩
theorem own_Str.keep {Z : State} {h h' : Heap} {ws : List Addr} {x t : Addr} {cs : List Int32} (S : own_Str Z h x t cs) (K : Keep h h' ws) (q1 : x ∉ ws) (q2 : t ∉ ws) : own_Str Z h' x t cs :=
  ⟨S.1.keep K, S.2.1.keep K q1, S.2.2.imp (fun q => ⟨q.1.keep K q1, q.2.1.imp fun _ z => z.keep K q2, q.2.2⟩) (fun q => ⟨q.1.keep K q1, q.2.1.imp fun _ z => z.keep K q2, q.2.2⟩)⟩
theorem own_Str.tlt {Z : State} {h : Heap} {x t : Addr} {cs : List Int32} (S : own_Str Z h x t cs) : t < h.size := by
  rcases S.2.2 with ⟨-, ⟨_, A⟩, -⟩ | ⟨-, ⟨_, A⟩, -⟩ <;> exact A.lt
theorem own_sub {h h' : Heap} {n0 : Nat} (q : n0 ≤ h.size) (E : Ext h h') : n0 ≤ h'.size := Nat.le_trans q E.1
theorem own_ngt {m : Nat} (h : m < 2 ^ 31) : (-(Int32.ofNat m)).toInt = -(m : Int) := by
  have q := c_ineg (Int32.ofNat m)
  have r := rng32 (-(Int32.ofNat m))
  rw [Int32.toInt_ofNat_of_lt h] at q
  omega
theorem own_negdiv {m : Nat} (h : m < 2 ^ 31) : (-(Int32.ofNat m)) / 100 = -(Int32.ofNat (m / 100)) := by
  have e := own_ngt h
  have e2 := own_ngt (m := m / 100) (by omega)
  have d := c_idiv (-(Int32.ofNat m)) 100 100 rfl (by decide)
  refine Int32.toInt_inj.mp ?_
  rw [e2]
  by_cases hm : m = 0
  · subst hm; rfl
  · have q := d.2 (by omega)
    omega
theorem own_negrem {m : Nat} (h : m < 2 ^ 31) : (-(Int32.ofNat (m / 100))) * 100 - (-(Int32.ofNat m)) = Int32.ofNat (m % 100) := by
  have e := own_ngt h
  have e2 := own_ngt (m := m / 100) (by omega)
  have a := c_imul (-(Int32.ofNat (m / 100))) 100
  have b := c_isub (-(Int32.ofNat (m / 100)) * 100) (-(Int32.ofNat m))
  have r := rng32 (-(Int32.ofNat (m / 100)) * 100 - -(Int32.ofNat m))
  have r1 := rng32 (-(Int32.ofNat (m / 100)) * 100)
  have e100 : (100 : Int32).toInt = 100 := rfl
  refine Int32.toInt_inj.mp ?_
  rw [Int32.toInt_ofNat_of_lt (by omega)]
  rw [e2, e100] at a
  rw [e] at b
  omega
theorem own_negneg (m : Nat) : -(-(Int32.ofNat m)) = Int32.ofNat m := Int32.neg_neg
theorem own_gt100 {m : Nat} (h : m < 2 ^ 31) : ((-100 : Int32) < -(Int32.ofNat m)) ↔ m < 100 := by
  rw [Int32.lt_iff_toInt_lt, own_ngt h]; have e : (-100 : Int32).toInt = -100 := rfl; omega
theorem own_lt9 {m : Nat} (h : m < 2 ^ 31) : (-(Int32.ofNat m) < (-9 : Int32)) ↔ 9 < m := by
  rw [Int32.lt_iff_toInt_lt, own_ngt h]; have e : (-9 : Int32).toInt = -9 := rfl; omega
theorem own_dec32 {c : Nat} (h : 1 ≤ c) (h2 : c < 2 ^ 31) : Int32.ofNat c + (-1 : Int32) = Int32.ofNat (c - 1) := by
  have q := c_iadd (Int32.ofNat c) (-1)
  have r := rng32 (Int32.ofNat c + (-1 : Int32))
  have e : (-1 : Int32).toInt = -1 := rfl
  refine Int32.toInt_inj.mp ?_
  rw [Int32.toInt_ofNat_of_lt (by omega)]
  rw [Int32.toInt_ofNat_of_lt h2] at q
  omega
theorem own_nar48 {x : Nat} (h : x < 10) : nar .byte (Int32.ofNat (48 + x)) = Int32.ofNat (48 + x) := by
  have : ∀ j : Fin 10, nar .byte (Int32.ofNat (48 + j.1)) = Int32.ofNat (48 + j.1) := by decide +kernel
  exact this ⟨x, h⟩
theorem own_fit48 {x : Nat} (h : x < 10) : fits .byte (.int (Int32.ofNat (48 + x))) = true := by rw [← own_nar48 h]; exact fits_nar_byte _
/-- the decimal digits of K, n of them, the first one first -/
def own_dg (K n : Nat) : List Nat := (List.range n).map fun j => (K / 10 ^ (n - 1 - j)) % 10
def own_dv (K n : Nat) : List Value := (own_dg K n).map fun x => .int (Int32.ofNat (48 + x))
theorem own_dv_len (K n : Nat) : (own_dv K n).length = n := by simp [own_dv, own_dg]
theorem own_dv_at {K n j : Nat} (h : j < n) (d : Value) : (own_dv K n).getD j d = .int (Int32.ofNat (48 + (K / 10 ^ (n - 1 - j)) % 10)) := by simp [own_dv, own_dg, List.getD, h]
/-- the buffer, filled from place c on -/
def own_buf (K n c : Nat) : List Value := List.replicate c (.int 0) ++ (own_dv K n).drop c
theorem own_buf_len {K n c : Nat} (h : c ≤ n) : (own_buf K n c).length = n := by simp [own_buf, own_dv_len]; omega
theorem own_buf_zero (K n : Nat) : own_buf K n 0 = own_dv K n := by simp [own_buf]
theorem own_buf_start (K n : Nat) : own_buf K n n = List.replicate n (.int 0) := by simp [own_buf, own_dv_len]
theorem own_buf_set {K n c : Nat} (h1 : 1 ≤ c) (h2 : c ≤ n) : (own_buf K n c).set (c - 1) (.int (Int32.ofNat (48 + (K / 10 ^ (n - c)) % 10))) = own_buf K n (c - 1) := by
  have hd : (own_dv K n).drop (c - 1) = .int (Int32.ofNat (48 + (K / 10 ^ (n - c)) % 10)) :: (own_dv K n).drop c := by
    have hl : c - 1 < (own_dv K n).length := by rw [own_dv_len]; omega
    rw [List.drop_eq_getElem_cons hl]
    have e := own_dv_at (K := K) (n := n) (j := c - 1) (by omega) .null
    have e0 : (own_dv K n).getD (c - 1) .null = (own_dv K n)[c - 1] := by simp [List.getD, hl]
    rw [e0] at e
    have e2 : n - 1 - (c - 1) = n - c := by omega
    rw [e, e2]
    have e3 : c - 1 + 1 = c := by omega
    rw [e3]
  unfold own_buf
  rw [hd]
  obtain ⟨b, rfl⟩ : ∃ b, c = b + 1 := ⟨c - 1, by omega⟩
  simp only [Nat.add_sub_cancel]
  rw [List.set_append]
  simp [List.replicate_succ', List.set_append]
theorem own_r1 {cp mg : Nat} (h1 : 1 ≤ cp) (h10 : cp ≤ 10) (ha : 10 ^ (cp - 1) ≤ mg) (hb : mg < 10 ^ cp) (h : ¬ mg < 100) : 3 ≤ cp ∧ 10 ^ (cp - 2 - 1) ≤ mg / 100 ∧ mg / 100 < 10 ^ (cp - 2) := by
  have hc : cp = 1 ∨ cp = 2 ∨ cp = 3 ∨ cp = 4 ∨ cp = 5 ∨ cp = 6 ∨ cp = 7 ∨ cp = 8 ∨ cp = 9 ∨ cp = 10 := by omega
  rcases hc with rfl | rfl | rfl | rfl | rfl | rfl | rfl | rfl | rfl | rfl <;> simp only [Nat.reduceSub, Nat.reducePow] at * <;> omega
theorem own_r2 {cp mg : Nat} (h1 : 1 ≤ cp) (h10 : cp ≤ 10) (ha : 10 ^ (cp - 1) ≤ mg) (hb : mg < 10 ^ cp) (h : mg < 100) (h9 : 9 < mg) : cp = 2 := by
  have hc : cp = 1 ∨ cp = 2 ∨ cp = 3 ∨ cp = 4 ∨ cp = 5 ∨ cp = 6 ∨ cp = 7 ∨ cp = 8 ∨ cp = 9 ∨ cp = 10 := by omega
  rcases hc with rfl | rfl | rfl | rfl | rfl | rfl | rfl | rfl | rfl | rfl <;> simp only [Nat.reduceSub, Nat.reducePow] at * <;> omega
theorem own_r3 {cp mg : Nat} (h1 : 1 ≤ cp) (h10 : cp ≤ 10) (ha : 10 ^ (cp - 1) ≤ mg) (h9 : ¬ 9 < mg) : cp = 1 := by
  have hc : cp = 1 ∨ cp = 2 ∨ cp = 3 ∨ cp = 4 ∨ cp = 5 ∨ cp = 6 ∨ cp = 7 ∨ cp = 8 ∨ cp = 9 ∨ cp = 10 := by omega
  rcases hc with rfl | rfl | rfl | rfl | rfl | rfl | rfl | rfl | rfl | rfl <;> simp only [Nat.reduceSub, Nat.reducePow] at * <;> omega
theorem own_k1 {K n cp : Nat} (h : 1 ≤ cp) (h2 : cp ≤ n) : K / 10 ^ (n - (cp - 1)) = K / 10 ^ (n - cp) / 10 := by
  have e : n - (cp - 1) = (n - cp) + 1 := by omega
  rw [e, Nat.pow_succ, Nat.div_div_eq_div_mul]
theorem own_k2 {K n cp : Nat} (h : 2 ≤ cp) (h2 : cp ≤ n) : K / 10 ^ (n - (cp - 2)) = K / 10 ^ (n - cp) / 100 := by
  have e : n - (cp - 2) = (n - cp) + 2 := by omega
  rw [e, Nat.pow_add, Nat.div_div_eq_div_mul]
theorem own_gtn {K Q : Nat} {q : Int32} (hq : q.toInt = -(Q : Int)) (h : K < 2 ^ 31) : (q < -(Int32.ofNat K)) ↔ K < Q := by
  rw [Int32.lt_iff_toInt_lt, own_ngt h, hq]; omega
theorem own_ltn {K Q : Nat} {q : Int32} (hq : q.toInt = (Q : Int)) (h : K < 2 ^ 31) : (Int32.ofNat K < q) ↔ K < Q := by
  rw [Int32.lt_iff_toInt_lt, Int32.toInt_ofNat_of_lt h, hq]; omega
def own_dig (k : Int32) : Int32 := if (-10 : Int32) < -k then 1 else if (-100 : Int32) < -k then 2 else if (-1000 : Int32) < -k then 3 else if (-10000 : Int32) < -k then 4 else if (-100000 : Int32) < -k then 5 else if (-1000000 : Int32) < -k then 6 else if (-10000000 : Int32) < -k then 7 else if (-100000000 : Int32) < -k then 8 else if (-1000000000 : Int32) < -k then 9 else 10
def own_dig2 (k : Int32) : Int32 := if k < (10 : Int32) then 1 else if k < (100 : Int32) then 2 else if k < (1000 : Int32) then 3 else if k < (10000 : Int32) then 4 else if k < (100000 : Int32) then 5 else if k < (1000000 : Int32) then 6 else if k < (10000000 : Int32) then 7 else if k < (100000000 : Int32) then 8 else if k < (1000000000 : Int32) then 9 else 10
theorem own_dig_n {K : Nat} (h1 : 1 ≤ K) (h2 : K < 2 ^ 31) : ∃ n, 1 ≤ n ∧ n ≤ 10 ∧ 10 ^ (n - 1) ≤ K ∧ K < 10 ^ n ∧ own_dig (Int32.ofNat K) = Int32.ofNat n ∧ own_dig2 (Int32.ofNat K) = Int32.ofNat n := by
  have a1 : ((-10 : Int32) < -(Int32.ofNat K)) ↔ K < 10 := own_gtn rfl h2
  have b1 : (Int32.ofNat K < (10 : Int32)) ↔ K < 10 := own_ltn rfl h2
  have a2 : ((-100 : Int32) < -(Int32.ofNat K)) ↔ K < 100 := own_gtn rfl h2
  have b2 : (Int32.ofNat K < (100 : Int32)) ↔ K < 100 := own_ltn rfl h2
  have a3 : ((-1000 : Int32) < -(Int32.ofNat K)) ↔ K < 1000 := own_gtn rfl h2
  have b3 : (Int32.ofNat K < (1000 : Int32)) ↔ K < 1000 := own_ltn rfl h2
  have a4 : ((-10000 : Int32) < -(Int32.ofNat K)) ↔ K < 10000 := own_gtn rfl h2
  have b4 : (Int32.ofNat K < (10000 : Int32)) ↔ K < 10000 := own_ltn rfl h2
  have a5 : ((-100000 : Int32) < -(Int32.ofNat K)) ↔ K < 100000 := own_gtn rfl h2
  have b5 : (Int32.ofNat K < (100000 : Int32)) ↔ K < 100000 := own_ltn rfl h2
  have a6 : ((-1000000 : Int32) < -(Int32.ofNat K)) ↔ K < 1000000 := own_gtn rfl h2
  have b6 : (Int32.ofNat K < (1000000 : Int32)) ↔ K < 1000000 := own_ltn rfl h2
  have a7 : ((-10000000 : Int32) < -(Int32.ofNat K)) ↔ K < 10000000 := own_gtn rfl h2
  have b7 : (Int32.ofNat K < (10000000 : Int32)) ↔ K < 10000000 := own_ltn rfl h2
  have a8 : ((-100000000 : Int32) < -(Int32.ofNat K)) ↔ K < 100000000 := own_gtn rfl h2
  have b8 : (Int32.ofNat K < (100000000 : Int32)) ↔ K < 100000000 := own_ltn rfl h2
  have a9 : ((-1000000000 : Int32) < -(Int32.ofNat K)) ↔ K < 1000000000 := own_gtn rfl h2
  have b9 : (Int32.ofNat K < (1000000000 : Int32)) ↔ K < 1000000000 := own_ltn rfl h2
  unfold own_dig own_dig2
  simp only [a1, b1, a2, b2, a3, b3, a4, b4, a5, b5, a6, b6, a7, b7, a8, b8, a9, b9]
  by_cases c1 : K < 10
  · exact ⟨1, by decide, by decide, by simp only [Nat.reduceSub, Nat.reducePow]; omega, by simp only [Nat.reducePow]; omega, by simp only [c1, if_true, if_false]; rfl, by simp only [c1, if_true, if_false]; rfl⟩
  by_cases c2 : K < 100
  · exact ⟨2, by decide, by decide, by simp only [Nat.reduceSub, Nat.reducePow]; omega, by simp only [Nat.reducePow]; omega, by simp only [c1, c2, if_true, if_false]; rfl, by simp only [c1, c2, if_true, if_false]; rfl⟩
  by_cases c3 : K < 1000
  · exact ⟨3, by decide, by decide, by simp only [Nat.reduceSub, Nat.reducePow]; omega, by simp only [Nat.reducePow]; omega, by simp only [c1, c2, c3, if_true, if_false]; rfl, by simp only [c1, c2, c3, if_true, if_false]; rfl⟩
  by_cases c4 : K < 10000
  · exact ⟨4, by decide, by decide, by simp only [Nat.reduceSub, Nat.reducePow]; omega, by simp only [Nat.reducePow]; omega, by simp only [c1, c2, c3, c4, if_true, if_false]; rfl, by simp only [c1, c2, c3, c4, if_true, if_false]; rfl⟩
  by_cases c5 : K < 100000
  · exact ⟨5, by decide, by decide, by simp only [Nat.reduceSub, Nat.reducePow]; omega, by simp only [Nat.reducePow]; omega, by simp only [c1, c2, c3, c4, c5, if_true, if_false]; rfl, by simp only [c1, c2, c3, c4, c5, if_true, if_false]; rfl⟩
  by_cases c6 : K < 1000000
  · exact ⟨6, by decide, by decide, by simp only [Nat.reduceSub, Nat.reducePow]; omega, by simp only [Nat.reducePow]; omega, by simp only [c1, c2, c3, c4, c5, c6, if_true, if_false]; rfl, by simp only [c1, c2, c3, c4, c5, c6, if_true, if_false]; rfl⟩
  by_cases c7 : K < 10000000
  · exact ⟨7, by decide, by decide, by simp only [Nat.reduceSub, Nat.reducePow]; omega, by simp only [Nat.reducePow]; omega, by simp only [c1, c2, c3, c4, c5, c6, c7, if_true, if_false]; rfl, by simp only [c1, c2, c3, c4, c5, c6, c7, if_true, if_false]; rfl⟩
  by_cases c8 : K < 100000000
  · exact ⟨8, by decide, by decide, by simp only [Nat.reduceSub, Nat.reducePow]; omega, by simp only [Nat.reducePow]; omega, by simp only [c1, c2, c3, c4, c5, c6, c7, c8, if_true, if_false]; rfl, by simp only [c1, c2, c3, c4, c5, c6, c7, c8, if_true, if_false]; rfl⟩
  by_cases c9 : K < 1000000000
  · exact ⟨9, by decide, by decide, by simp only [Nat.reduceSub, Nat.reducePow]; omega, by simp only [Nat.reducePow]; omega, by simp only [c1, c2, c3, c4, c5, c6, c7, c8, c9, if_true, if_false]; rfl, by simp only [c1, c2, c3, c4, c5, c6, c7, c8, c9, if_true, if_false]; rfl⟩
  exact ⟨10, by decide, by decide, by simp only [Nat.reduceSub, Nat.reducePow]; omega, by simp only [Nat.reducePow]; omega, by simp only [c1, c2, c3, c4, c5, c6, c7, c8, c9, if_false]; rfl, by simp only [c1, c2, c3, c4, c5, c6, c7, c8, c9, if_false]; rfl⟩
def own_cs (K n : Nat) : List Int32 := (own_dg K n).map fun x => Int32.ofNat (48 + x)
theorem own_cs_len (K n : Nat) : (own_cs K n).length = n := by simp [own_cs, own_dg]
theorem own_dg_lt {K n x : Nat} (h : x ∈ own_dg K n) : x < 10 := by
  simp only [own_dg, List.mem_map, List.mem_range] at h
  obtain ⟨j, -, rfl⟩ := h
  exact Nat.mod_lt _ (by decide)
theorem own_cs_vb (K n : Nat) : (own_cs K n).map own_vb = own_dv K n := by
  unfold own_cs own_dv
  rw [List.map_map]
  refine List.map_congr_left fun x hx => ?_
  show Value.int (own_lo (Int32.ofNat (48 + x))) = _
  exact congrArg Value.int (own_nar48 (own_dg_lt hx))
theorem own_cs_at {K n j : Nat} (h : j < n) : (own_cs K n).getD j 0 = Int32.ofNat (48 + (K / 10 ^ (n - 1 - j)) % 10) := by simp [own_cs, own_dg, List.getD, h]
theorem own_i2c {x : Nat} (h : x < 65536) {y : Int32} (e : y.toInt = x) : (y).toUInt32.toUInt16.toUInt32.toInt32 = Int32.ofNat x := by
  have q := c_i2c y
  refine Int32.toInt_inj.mp ?_
  rw [Int32.toInt_ofNat_of_lt (by omega)]
  omega
theorem own_last {K n : Nat} (hK : K < 2 ^ 31) (hn : 1 ≤ n) : ((48 : Int32) + (Int32.ofNat K - (Int32.ofNat K / 10) * 10)).toUInt32.toUInt16.toUInt32.toInt32 = Int32.ofNat (48 + (K / 10 ^ (n - 1 - (n - 1))) % 10) := by
  rw [Nat.sub_self, Nat.pow_zero, Nat.div_one]
  refine own_i2c (by omega) ?_
  have k := Int32.toInt_ofNat_of_lt hK
  have d := (c_idiv (Int32.ofNat K) 10 10 rfl (by decide)).1 (by omega)
  have m := c_imul (Int32.ofNat K / 10) 10
  have s := c_isub (Int32.ofNat K) (Int32.ofNat K / 10 * 10)
  have a := c_iadd 48 (Int32.ofNat K - Int32.ofNat K / 10 * 10)
  have r1 := rng32 (Int32.ofNat K / 10 * 10); have r2 := rng32 (Int32.ofNat K - Int32.ofNat K / 10 * 10); have r3 := rng32 (48 + (Int32.ofNat K - Int32.ofNat K / 10 * 10))
  have e1 : (48 : Int32).toInt = 48 := rfl
  have e2 : (10 : Int32).toInt = 10 := rfl
  rw [e2, d, k] at m
  omega
theorem own_p10 {n : Nat} (h1 : 1 ≤ n) (h2 : n ≤ 10) : 1 ≤ 10 ^ (n - 1) ∧ 10 ^ (n - 1) ≤ 1000000000 := by
  have hc : n = 1 ∨ n = 2 ∨ n = 3 ∨ n = 4 ∨ n = 5 ∨ n = 6 ∨ n = 7 ∨ n = 8 ∨ n = 9 ∨ n = 10 := by omega
  rcases hc with rfl | rfl | rfl | rfl | rfl | rfl | rfl | rfl | rfl | rfl <;> simp
theorem own_p10ne {n : Nat} (h1 : 1 ≤ n) (h2 : n ≤ 10) : Int32.ofNat (10 ^ (n - 1)) ≠ 0 := fun q => by
  have e := congrArg Int32.toInt q
  have p := own_p10 h1 h2
  rw [Int32.toInt_ofNat_of_lt (by omega)] at e
  have z : (0 : Int32).toInt = 0 := rfl
  omega
theorem own_first {K n : Nat} (hK : K < 2 ^ 31) (h1 : 1 ≤ n) (h2 : n ≤ 10) (ha : 10 ^ (n - 1) ≤ K) (hb : K < 10 ^ n) : ((48 : Int32) + (Int32.ofNat K / Int32.ofNat (10 ^ (n - 1)))).toUInt32.toUInt16.toUInt32.toInt32 = Int32.ofNat (48 + (K / 10 ^ (n - 1 - 0)) % 10) := by
  rw [Nat.sub_zero]
  have p := own_p10 h1 h2
  have hq : K / 10 ^ (n - 1) < 10 := by
    have e : 10 ^ n = 10 * 10 ^ (n - 1) := by
      obtain ⟨b, rfl⟩ : ∃ b, n = b + 1 := ⟨n - 1, by omega⟩
      rw [Nat.add_sub_cancel, Nat.pow_succ, Nat.mul_comm]
    exact Nat.div_lt_of_lt_mul (by rw [Nat.mul_comm, ← e]; exact hb)
  rw [Nat.mod_eq_of_lt hq]
  refine own_i2c (by omega) ?_
  have k := Int32.toInt_ofNat_of_lt hK
  have pI : (Int32.ofNat (10 ^ (n - 1))).toInt = ((10 ^ (n - 1) : Nat) : Int) := Int32.toInt_ofNat_of_lt (by omega)
  have d := (c_idiv (Int32.ofNat K) (Int32.ofNat (10 ^ (n - 1))) _ pI (fun q => by
    have e := congrArg Int32.toInt q
    rw [pI] at e
    have z : (-1 : Int32).toInt = -1 := rfl
    omega)).1 (by omega)
  have a := c_iadd 48 (Int32.ofNat K / Int32.ofNat (10 ^ (n - 1)))
  have r3 := rng32 (48 + Int32.ofNat K / Int32.ofNat (10 ^ (n - 1)))
  have e1 : (48 : Int32).toInt = 48 := rfl
  rw [k] at d
  have hd : ((K : Int) / ((10 ^ (n - 1) : Nat) : Int)) = ((K / 10 ^ (n - 1) : Nat) : Int) := by simp
  rw [hd] at d
  generalize K / 10 ^ (n - 1) = z at *
  omega
theorem own_nelt {x y : Nat} (h : x < y) : x ≠ y := Nat.ne_of_lt h
theorem own_negt {x y : Nat} (h : y < x) : x ≠ y := Nat.ne_of_gt h

theorem d1_0 : decode jdk_29_method_65_code 0 = .ok (.iload_n 0, 1) := by decide +kernel
theorem d1_1 : decode jdk_29_method_65_code 1 = .ok (.iload_n 1, 1) := by decide +kernel
theorem d1_2 : decode jdk_29_method_65_code 2 = .ok (.if_icmp .lt 7, 3) := by decide +kernel
theorem d1_5 : decode jdk_29_method_65_code 5 = .ok (.iload_n 0, 1) := by decide +kernel
theorem d1_6 : decode jdk_29_method_65_code 6 = .ok (.goto 4, 3) := by decide +kernel
theorem d1_9 : decode jdk_29_method_65_code 9 = .ok (.iload_n 1, 1) := by decide +kernel
theorem d1_10 : decode jdk_29_method_65_code 10 = .ok (.ireturn, 1) := by decide +kernel
theorem d2_0 : decode prog_57_method_2_code 0 = .ok (.new 8, 3) := by decide +kernel
theorem d2_3 : decode prog_57_method_2_code 3 = .ok (.dup, 1) := by decide +kernel
theorem d2_4 : decode prog_57_method_2_code 4 = .ok (.iload_n 0, 1) := by decide +kernel
theorem d2_5 : decode prog_57_method_2_code 5 = .ok (.invokestatic 21, 3) := by decide +kernel
theorem d2_8 : decode prog_57_method_2_code 8 = .ok (.invokestatic 25, 3) := by decide +kernel
theorem d2_11 : decode prog_57_method_2_code 11 = .ok (.invokestatic 31, 3) := by decide +kernel
theorem d2_14 : decode prog_57_method_2_code 14 = .ok (.getstatic 37, 3) := by decide +kernel
theorem d2_17 : decode prog_57_method_2_code 17 = .ok (.iconst 0, 1) := by decide +kernel
theorem d2_18 : decode prog_57_method_2_code 18 = .ok (.invokespecial 42, 3) := by decide +kernel
theorem d2_21 : decode prog_57_method_2_code 21 = .ok (.areturn, 1) := by decide +kernel
theorem d3_0 : decode prog_57_method_11_code 0 = .ok (.iload_n 0, 1) := by decide +kernel
theorem d3_1 : decode prog_57_method_11_code 1 = .ok (.iconst 1, 1) := by decide +kernel
theorem d3_2 : decode prog_57_method_11_code 2 = .ok (.if_icmp .ge 17, 3) := by decide +kernel
theorem d3_5 : decode prog_57_method_11_code 5 = .ok (.new 125, 3) := by decide +kernel
theorem d3_8 : decode prog_57_method_11_code 8 = .ok (.dup, 1) := by decide +kernel
theorem d3_9 : decode prog_57_method_11_code 9 = .ok (.iload_n 0, 1) := by decide +kernel
theorem d3_10 : decode prog_57_method_11_code 10 = .ok (.invokedynamic 127, 5) := by decide +kernel
theorem d3_15 : decode prog_57_method_11_code 15 = .ok (.invokespecial 128, 3) := by decide +kernel
theorem d3_18 : decode prog_57_method_11_code 18 = .ok (.athrow, 1) := by decide +kernel
theorem d3_19 : decode prog_57_method_11_code 19 = .ok (.iload_n 0, 1) := by decide +kernel
theorem d3_20 : decode prog_57_method_11_code 20 = .ok (.ireturn, 1) := by decide +kernel
theorem d4_0 : decode jdk_33_method_22_code 0 = .ok (.iload_n 0, 1) := by decide +kernel
theorem d4_1 : decode jdk_33_method_22_code 1 = .ok (.bipush (-128), 2) := by decide +kernel
theorem d4_3 : decode jdk_33_method_22_code 3 = .ok (.if_icmp .lt 20, 3) := by decide +kernel
theorem d4_6 : decode jdk_33_method_22_code 6 = .ok (.iload_n 0, 1) := by decide +kernel
theorem d4_7 : decode jdk_33_method_22_code 7 = .ok (.getstatic 191, 3) := by decide +kernel
theorem d4_10 : decode jdk_33_method_22_code 10 = .ok (.if_icmp .gt 13, 3) := by decide +kernel
theorem d4_13 : decode jdk_33_method_22_code 13 = .ok (.getstatic 195, 3) := by decide +kernel
theorem d4_16 : decode jdk_33_method_22_code 16 = .ok (.iload_n 0, 1) := by decide +kernel
theorem d4_17 : decode jdk_33_method_22_code 17 = .ok (.sipush 128, 3) := by decide +kernel
theorem d4_20 : decode jdk_33_method_22_code 20 = .ok (.iadd, 1) := by decide +kernel
theorem d4_21 : decode jdk_33_method_22_code 21 = .ok (.aaload, 1) := by decide +kernel
theorem d4_22 : decode jdk_33_method_22_code 22 = .ok (.areturn, 1) := by decide +kernel
theorem d4_23 : decode jdk_33_method_22_code 23 = .ok (.new 1, 3) := by decide +kernel
theorem d4_26 : decode jdk_33_method_22_code 26 = .ok (.dup, 1) := by decide +kernel
theorem d4_27 : decode jdk_33_method_22_code 27 = .ok (.iload_n 0, 1) := by decide +kernel
theorem d4_28 : decode jdk_33_method_22_code 28 = .ok (.invokespecial 199, 3) := by decide +kernel
theorem d4_31 : decode jdk_33_method_22_code 31 = .ok (.areturn, 1) := by decide +kernel
theorem d5_0 : decode jdk_40_method_37_code 0 = .ok (.new 96, 3) := by decide +kernel
theorem d5_3 : decode jdk_40_method_37_code 3 = .ok (.dup, 1) := by decide +kernel
theorem d5_4 : decode jdk_40_method_37_code 4 = .ok (.aload_n 0, 1) := by decide +kernel
theorem d5_5 : decode jdk_40_method_37_code 5 = .ok (.invokespecial 98, 3) := by decide +kernel
theorem d5_8 : decode jdk_40_method_37_code 8 = .ok (.areturn, 1) := by decide +kernel
theorem d6_0 : decode jdk_44_method_1_code 0 = .ok (.aload_n 0, 1) := by decide +kernel
theorem d6_1 : decode jdk_44_method_1_code 1 = .ok (.invokespecial 1, 3) := by decide +kernel
theorem d6_4 : decode jdk_44_method_1_code 4 = .ok (.aload_n 0, 1) := by decide +kernel
theorem d6_5 : decode jdk_44_method_1_code 5 = .ok (.aload_n 1, 1) := by decide +kernel
theorem d6_6 : decode jdk_44_method_1_code 6 = .ok (.invokestatic 7, 3) := by decide +kernel
theorem d6_9 : decode jdk_44_method_1_code 9 = .ok (.putfield 13, 3) := by decide +kernel
theorem d6_12 : decode jdk_44_method_1_code 12 = .ok (.aload_n 0, 1) := by decide +kernel
theorem d6_13 : decode jdk_44_method_1_code 13 = .ok (.getstatic 19, 3) := by decide +kernel
theorem d6_16 : decode jdk_44_method_1_code 16 = .ok (.putfield 24, 3) := by decide +kernel
theorem d6_19 : decode jdk_44_method_1_code 19 = .ok (.return_, 1) := by decide +kernel
theorem d7_0 : decode jdk_46_method_1_code 0 = .ok (.aload_n 0, 1) := by decide +kernel
theorem d7_1 : decode jdk_46_method_1_code 1 = .ok (.invokespecial 1, 3) := by decide +kernel
theorem d7_4 : decode jdk_46_method_1_code 4 = .ok (.return_, 1) := by decide +kernel
theorem d8_0 : decode jdk_47_method_1_code 0 = .ok (.aload_n 0, 1) := by decide +kernel
theorem d8_1 : decode jdk_47_method_1_code 1 = .ok (.invokespecial 1, 3) := by decide +kernel
theorem d8_4 : decode jdk_47_method_1_code 4 = .ok (.return_, 1) := by decide +kernel
theorem d9_0 : decode jdk_22_method_1_code 0 = .ok (.aload_n 0, 1) := by decide +kernel
theorem d9_1 : decode jdk_22_method_1_code 1 = .ok (.invokespecial 1, 3) := by decide +kernel
theorem d9_4 : decode jdk_22_method_1_code 4 = .ok (.return_, 1) := by decide +kernel
theorem d11_0 : decode jdk_31_method_10_code 0 = .ok (.aload_n 0, 1) := by decide +kernel
theorem d11_1 : decode jdk_31_method_10_code 1 = .ok (.ifnonnull 11, 3) := by decide +kernel
theorem d11_4 : decode jdk_31_method_10_code 4 = .ok (.new 84, 3) := by decide +kernel
theorem d11_7 : decode jdk_31_method_10_code 7 = .ok (.dup, 1) := by decide +kernel
theorem d11_8 : decode jdk_31_method_10_code 8 = .ok (.invokespecial 86, 3) := by decide +kernel
theorem d11_11 : decode jdk_31_method_10_code 11 = .ok (.athrow, 1) := by decide +kernel
theorem d11_12 : decode jdk_31_method_10_code 12 = .ok (.aload_n 0, 1) := by decide +kernel
theorem d11_13 : decode jdk_31_method_10_code 13 = .ok (.areturn, 1) := by decide +kernel
theorem d12_0 : decode prog_57_method_1_code 0 = .ok (.aload_n 0, 1) := by decide +kernel
theorem d12_1 : decode prog_57_method_1_code 1 = .ok (.invokespecial 1, 3) := by decide +kernel
theorem d12_4 : decode prog_57_method_1_code 4 = .ok (.aload_n 0, 1) := by decide +kernel
theorem d12_5 : decode prog_57_method_1_code 5 = .ok (.aload_n 1, 1) := by decide +kernel
theorem d12_6 : decode prog_57_method_1_code 6 = .ok (.putfield 7, 3) := by decide +kernel
theorem d12_9 : decode prog_57_method_1_code 9 = .ok (.aload_n 0, 1) := by decide +kernel
theorem d12_10 : decode prog_57_method_1_code 10 = .ok (.aload_n 2, 1) := by decide +kernel
theorem d12_11 : decode prog_57_method_1_code 11 = .ok (.putfield 13, 3) := by decide +kernel
theorem d12_14 : decode prog_57_method_1_code 14 = .ok (.aload_n 0, 1) := by decide +kernel
theorem d12_15 : decode prog_57_method_1_code 15 = .ok (.iload_n 3, 1) := by decide +kernel
theorem d12_16 : decode prog_57_method_1_code 16 = .ok (.putfield 17, 3) := by decide +kernel
theorem d12_19 : decode prog_57_method_1_code 19 = .ok (.return_, 1) := by decide +kernel
theorem d13_0 : decode prog_57_method_7_code 0 = .ok (.aload_n 0, 1) := by decide +kernel
theorem d13_1 : decode prog_57_method_7_code 1 = .ok (.getfield 13, 3) := by decide +kernel
theorem d13_4 : decode prog_57_method_7_code 4 = .ok (.areturn, 1) := by decide +kernel
theorem d14_0 : decode prog_57_method_8_code 0 = .ok (.aload_n 0, 1) := by decide +kernel
theorem d14_1 : decode prog_57_method_8_code 1 = .ok (.getfield 7, 3) := by decide +kernel
theorem d14_4 : decode prog_57_method_8_code 4 = .ok (.invokeinterface 68 1, 5) := by decide +kernel
theorem d14_9 : decode prog_57_method_8_code 9 = .ok (.iconst 1, 1) := by decide +kernel
theorem d14_10 : decode prog_57_method_8_code 10 = .ok (.isub, 1) := by decide +kernel
theorem d14_11 : decode prog_57_method_8_code 11 = .ok (.aload_n 0, 1) := by decide +kernel
theorem d14_12 : decode prog_57_method_8_code 12 = .ok (.getfield 13, 3) := by decide +kernel
theorem d14_15 : decode prog_57_method_8_code 15 = .ok (.invokevirtual 76, 3) := by decide +kernel
theorem d14_18 : decode prog_57_method_8_code 18 = .ok (.iadd, 1) := by decide +kernel
theorem d14_19 : decode prog_57_method_8_code 19 = .ok (.ireturn, 1) := by decide +kernel
theorem d15_0 : decode jdk_44_method_3_code 0 = .ok (.aload_n 0, 1) := by decide +kernel
theorem d15_1 : decode jdk_44_method_3_code 1 = .ok (.getfield 24, 3) := by decide +kernel
theorem d15_4 : decode jdk_44_method_3_code 4 = .ok (.getstatic 19, 3) := by decide +kernel
theorem d15_7 : decode jdk_44_method_3_code 7 = .ok (.if_acmp .eq 7, 3) := by decide +kernel
theorem d15_10 : decode jdk_44_method_3_code 10 = .ok (.iconst 2, 1) := by decide +kernel
theorem d15_11 : decode jdk_44_method_3_code 11 = .ok (.goto 4, 3) := by decide +kernel
theorem d15_14 : decode jdk_44_method_3_code 14 = .ok (.iconst 1, 1) := by decide +kernel
theorem d15_15 : decode jdk_44_method_3_code 15 = .ok (.ireturn, 1) := by decide +kernel
theorem d16_0 : decode jdk_37_method_2_code 0 = .ok (.aload_n 0, 1) := by decide +kernel
theorem d16_1 : decode jdk_37_method_2_code 1 = .ok (.getfield 7, 3) := by decide +kernel
theorem d16_4 : decode jdk_37_method_2_code 4 = .ok (.ireturn, 1) := by decide +kernel
theorem d17_0 : decode prog_57_method_6_code 0 = .ok (.aload_n 0, 1) := by decide +kernel
theorem d17_1 : decode prog_57_method_6_code 1 = .ok (.getfield 13, 3) := by decide +kernel
theorem d17_4 : decode prog_57_method_6_code 4 = .ok (.getstatic 65, 3) := by decide +kernel
theorem d17_7 : decode prog_57_method_6_code 7 = .ok (.if_acmp .ne 22, 3) := by decide +kernel
theorem d17_10 : decode prog_57_method_6_code 10 = .ok (.new 8, 3) := by decide +kernel
theorem d17_13 : decode prog_57_method_6_code 13 = .ok (.dup, 1) := by decide +kernel
theorem d17_14 : decode prog_57_method_6_code 14 = .ok (.aload_n 0, 1) := by decide +kernel
theorem d17_15 : decode prog_57_method_6_code 15 = .ok (.getfield 7, 3) := by decide +kernel
theorem d17_18 : decode prog_57_method_6_code 18 = .ok (.getstatic 62, 3) := by decide +kernel
theorem d17_21 : decode prog_57_method_6_code 21 = .ok (.iconst 0, 1) := by decide +kernel
theorem d17_22 : decode prog_57_method_6_code 22 = .ok (.invokespecial 42, 3) := by decide +kernel
theorem d17_25 : decode prog_57_method_6_code 25 = .ok (.astore_n 1, 1) := by decide +kernel
theorem d17_26 : decode prog_57_method_6_code 26 = .ok (.goto 86, 3) := by decide +kernel
theorem d17_29 : decode prog_57_method_6_code 29 = .ok (.aload_n 0, 1) := by decide +kernel
theorem d17_30 : decode prog_57_method_6_code 30 = .ok (.getfield 13, 3) := by decide +kernel
theorem d17_33 : decode prog_57_method_6_code 33 = .ok (.getstatic 62, 3) := by decide +kernel
theorem d17_36 : decode prog_57_method_6_code 36 = .ok (.if_acmp .ne 22, 3) := by decide +kernel
theorem d17_39 : decode prog_57_method_6_code 39 = .ok (.new 8, 3) := by decide +kernel
theorem d17_42 : decode prog_57_method_6_code 42 = .ok (.dup, 1) := by decide +kernel
theorem d17_43 : decode prog_57_method_6_code 43 = .ok (.aload_n 0, 1) := by decide +kernel
theorem d17_44 : decode prog_57_method_6_code 44 = .ok (.getfield 7, 3) := by decide +kernel
theorem d17_47 : decode prog_57_method_6_code 47 = .ok (.getstatic 37, 3) := by decide +kernel
theorem d17_50 : decode prog_57_method_6_code 50 = .ok (.iconst 0, 1) := by decide +kernel
theorem d17_51 : decode prog_57_method_6_code 51 = .ok (.invokespecial 42, 3) := by decide +kernel
theorem d17_54 : decode prog_57_method_6_code 54 = .ok (.astore_n 1, 1) := by decide +kernel
theorem d17_55 : decode prog_57_method_6_code 55 = .ok (.goto 57, 3) := by decide +kernel
theorem d17_58 : decode prog_57_method_6_code 58 = .ok (.aload_n 0, 1) := by decide +kernel
theorem d17_59 : decode prog_57_method_6_code 59 = .ok (.getfield 7, 3) := by decide +kernel
theorem d17_62 : decode prog_57_method_6_code 62 = .ok (.invokeinterface 68 1, 5) := by decide +kernel
theorem d17_67 : decode prog_57_method_6_code 67 = .ok (.iconst 1, 1) := by decide +kernel
theorem d17_68 : decode prog_57_method_6_code 68 = .ok (.if_icmp .le 42, 3) := by decide +kernel
theorem d17_71 : decode prog_57_method_6_code 71 = .ok (.new 8, 3) := by decide +kernel
theorem d17_74 : decode prog_57_method_6_code 74 = .ok (.dup, 1) := by decide +kernel
theorem d17_75 : decode prog_57_method_6_code 75 = .ok (.aload_n 0, 1) := by decide +kernel
theorem d17_76 : decode prog_57_method_6_code 76 = .ok (.getfield 7, 3) := by decide +kernel
theorem d17_79 : decode prog_57_method_6_code 79 = .ok (.iconst 0, 1) := by decide +kernel
theorem d17_80 : decode prog_57_method_6_code 80 = .ok (.aload_n 0, 1) := by decide +kernel
theorem d17_81 : decode prog_57_method_6_code 81 = .ok (.getfield 7, 3) := by decide +kernel
theorem d17_84 : decode prog_57_method_6_code 84 = .ok (.invokeinterface 68 1, 5) := by decide +kernel
theorem d17_89 : decode prog_57_method_6_code 89 = .ok (.iconst 1, 1) := by decide +kernel
theorem d17_90 : decode prog_57_method_6_code 90 = .ok (.isub, 1) := by decide +kernel
theorem d17_91 : decode prog_57_method_6_code 91 = .ok (.invokeinterface 72 3, 5) := by decide +kernel
theorem d17_96 : decode prog_57_method_6_code 96 = .ok (.invokestatic 58, 3) := by decide +kernel
theorem d17_99 : decode prog_57_method_6_code 99 = .ok (.getstatic 37, 3) := by decide +kernel
theorem d17_102 : decode prog_57_method_6_code 102 = .ok (.iconst 0, 1) := by decide +kernel
theorem d17_103 : decode prog_57_method_6_code 103 = .ok (.invokespecial 42, 3) := by decide +kernel
theorem d17_106 : decode prog_57_method_6_code 106 = .ok (.astore_n 1, 1) := by decide +kernel
theorem d17_107 : decode prog_57_method_6_code 107 = .ok (.goto 5, 3) := by decide +kernel
theorem d17_110 : decode prog_57_method_6_code 110 = .ok (.aconst_null, 1) := by decide +kernel
theorem d17_111 : decode prog_57_method_6_code 111 = .ok (.astore_n 1, 1) := by decide +kernel
theorem d17_112 : decode prog_57_method_6_code 112 = .ok (.aload_n 1, 1) := by decide +kernel
theorem d17_113 : decode prog_57_method_6_code 113 = .ok (.areturn, 1) := by decide +kernel
theorem d18_0 : decode prog_57_method_13_code 0 = .ok (.aload_n 1, 1) := by decide +kernel
theorem d18_1 : decode prog_57_method_13_code 1 = .ok (.instanceof 8, 3) := by decide +kernel
theorem d18_4 : decode prog_57_method_13_code 4 = .ok (.ifCond .eq 50, 3) := by decide +kernel
theorem d18_7 : decode prog_57_method_13_code 7 = .ok (.aload_n 1, 1) := by decide +kernel
theorem d18_8 : decode prog_57_method_13_code 8 = .ok (.checkcast 8, 3) := by decide +kernel
theorem d18_11 : decode prog_57_method_13_code 11 = .ok (.astore_n 2, 1) := by decide +kernel
theorem d18_12 : decode prog_57_method_13_code 12 = .ok (.aload_n 2, 1) := by decide +kernel
theorem d18_13 : decode prog_57_method_13_code 13 = .ok (.getfield 7, 3) := by decide +kernel
theorem d18_16 : decode prog_57_method_13_code 16 = .ok (.aload_n 0, 1) := by decide +kernel
theorem d18_17 : decode prog_57_method_13_code 17 = .ok (.getfield 7, 3) := by decide +kernel
theorem d18_20 : decode prog_57_method_13_code 20 = .ok (.invokeinterface 145 2, 5) := by decide +kernel
theorem d18_25 : decode prog_57_method_13_code 25 = .ok (.ifCond .eq 29, 3) := by decide +kernel
theorem d18_28 : decode prog_57_method_13_code 28 = .ok (.aload_n 2, 1) := by decide +kernel
theorem d18_29 : decode prog_57_method_13_code 29 = .ok (.getfield 13, 3) := by decide +kernel
theorem d18_32 : decode prog_57_method_13_code 32 = .ok (.aload_n 0, 1) := by decide +kernel
theorem d18_33 : decode prog_57_method_13_code 33 = .ok (.getfield 13, 3) := by decide +kernel
theorem d18_36 : decode prog_57_method_13_code 36 = .ok (.if_acmp .ne 18, 3) := by decide +kernel
theorem d18_39 : decode prog_57_method_13_code 39 = .ok (.aload_n 2, 1) := by decide +kernel
theorem d18_40 : decode prog_57_method_13_code 40 = .ok (.getfield 17, 3) := by decide +kernel
theorem d18_43 : decode prog_57_method_13_code 43 = .ok (.aload_n 0, 1) := by decide +kernel
theorem d18_44 : decode prog_57_method_13_code 44 = .ok (.getfield 17, 3) := by decide +kernel
theorem d18_47 : decode prog_57_method_13_code 47 = .ok (.if_icmp .ne 7, 3) := by decide +kernel
theorem d18_50 : decode prog_57_method_13_code 50 = .ok (.iconst 1, 1) := by decide +kernel
theorem d18_51 : decode prog_57_method_13_code 51 = .ok (.goto 4, 3) := by decide +kernel
theorem d18_54 : decode prog_57_method_13_code 54 = .ok (.iconst 0, 1) := by decide +kernel
theorem d18_55 : decode prog_57_method_13_code 55 = .ok (.ireturn, 1) := by decide +kernel
theorem d19_0 : decode jdk_46_method_13_code 0 = .ok (.aload_n 1, 1) := by decide +kernel
theorem d19_1 : decode jdk_46_method_13_code 1 = .ok (.aload_n 0, 1) := by decide +kernel
theorem d19_2 : decode jdk_46_method_13_code 2 = .ok (.if_acmp .ne 5, 3) := by decide +kernel
theorem d19_5 : decode jdk_46_method_13_code 5 = .ok (.iconst 1, 1) := by decide +kernel
theorem d19_6 : decode jdk_46_method_13_code 6 = .ok (.ireturn, 1) := by decide +kernel
theorem d19_7 : decode jdk_46_method_13_code 7 = .ok (.aload_n 1, 1) := by decide +kernel
theorem d19_8 : decode jdk_46_method_13_code 8 = .ok (.instanceof 77, 3) := by decide +kernel
theorem d19_11 : decode jdk_46_method_13_code 11 = .ok (.ifCond .ne 5, 3) := by decide +kernel
theorem d19_14 : decode jdk_46_method_13_code 14 = .ok (.iconst 0, 1) := by decide +kernel
theorem d19_15 : decode jdk_46_method_13_code 15 = .ok (.ireturn, 1) := by decide +kernel
theorem d19_16 : decode jdk_46_method_13_code 16 = .ok (.aload_n 1, 1) := by decide +kernel
theorem d19_17 : decode jdk_46_method_13_code 17 = .ok (.checkcast 77, 3) := by decide +kernel
theorem d19_20 : decode jdk_46_method_13_code 20 = .ok (.invokeinterface 79 1, 5) := by decide +kernel
theorem d19_25 : decode jdk_46_method_13_code 25 = .ok (.astore_n 2, 1) := by decide +kernel
theorem d19_26 : decode jdk_46_method_13_code 26 = .ok (.iconst 0, 1) := by decide +kernel
theorem d19_27 : decode jdk_46_method_13_code 27 = .ok (.istore_n 3, 1) := by decide +kernel
theorem d19_28 : decode jdk_46_method_13_code 28 = .ok (.aload_n 0, 1) := by decide +kernel
theorem d19_29 : decode jdk_46_method_13_code 29 = .ok (.invokevirtual 13, 3) := by decide +kernel
theorem d19_32 : decode jdk_46_method_13_code 32 = .ok (.istore 4, 2) := by decide +kernel
theorem d19_34 : decode jdk_46_method_13_code 34 = .ok (.iload_n 3, 1) := by decide +kernel
theorem d19_35 : decode jdk_46_method_13_code 35 = .ok (.iload 4, 2) := by decide +kernel
theorem d19_37 : decode jdk_46_method_13_code 37 = .ok (.if_icmp .ge 37, 3) := by decide +kernel
theorem d19_40 : decode jdk_46_method_13_code 40 = .ok (.aload_n 2, 1) := by decide +kernel
theorem d19_41 : decode jdk_46_method_13_code 41 = .ok (.invokeinterface 83 1, 5) := by decide +kernel
theorem d19_46 : decode jdk_46_method_13_code 46 = .ok (.ifCond .eq 20, 3) := by decide +kernel
theorem d19_49 : decode jdk_46_method_13_code 49 = .ok (.aload_n 0, 1) := by decide +kernel
theorem d19_50 : decode jdk_46_method_13_code 50 = .ok (.iload_n 3, 1) := by decide +kernel
theorem d19_51 : decode jdk_46_method_13_code 51 = .ok (.invokevirtual 89, 3) := by decide +kernel
theorem d19_54 : decode jdk_46_method_13_code 54 = .ok (.aload_n 2, 1) := by decide +kernel
theorem d19_55 : decode jdk_46_method_13_code 55 = .ok (.invokeinterface 93 1, 5) := by decide +kernel
theorem d19_60 : decode jdk_46_method_13_code 60 = .ok (.invokestatic 97, 3) := by decide +kernel
theorem d19_63 : decode jdk_46_method_13_code 63 = .ok (.ifCond .ne 5, 3) := by decide +kernel
theorem d19_66 : decode jdk_46_method_13_code 66 = .ok (.iconst 0, 1) := by decide +kernel
theorem d19_67 : decode jdk_46_method_13_code 67 = .ok (.ireturn, 1) := by decide +kernel
theorem d19_68 : decode jdk_46_method_13_code 68 = .ok (.iinc 3 1, 3) := by decide +kernel
theorem d19_71 : decode jdk_46_method_13_code 71 = .ok (.goto (-37), 3) := by decide +kernel
theorem d19_74 : decode jdk_46_method_13_code 74 = .ok (.aload_n 2, 1) := by decide +kernel
theorem d19_75 : decode jdk_46_method_13_code 75 = .ok (.invokeinterface 83 1, 5) := by decide +kernel
theorem d19_80 : decode jdk_46_method_13_code 80 = .ok (.ifCond .ne 7, 3) := by decide +kernel
theorem d19_83 : decode jdk_46_method_13_code 83 = .ok (.iconst 1, 1) := by decide +kernel
theorem d19_84 : decode jdk_46_method_13_code 84 = .ok (.goto 4, 3) := by decide +kernel
theorem d19_87 : decode jdk_46_method_13_code 87 = .ok (.iconst 0, 1) := by decide +kernel
theorem d19_88 : decode jdk_46_method_13_code 88 = .ok (.ireturn, 1) := by decide +kernel
theorem d20_0 : decode jdk_46_method_10_code 0 = .ok (.new 61, 3) := by decide +kernel
theorem d20_3 : decode jdk_46_method_10_code 3 = .ok (.dup, 1) := by decide +kernel
theorem d20_4 : decode jdk_46_method_10_code 4 = .ok (.aload_n 0, 1) := by decide +kernel
theorem d20_5 : decode jdk_46_method_10_code 5 = .ok (.aload_n 0, 1) := by decide +kernel
theorem d20_6 : decode jdk_46_method_10_code 6 = .ok (.invokevirtual 13, 3) := by decide +kernel
theorem d20_9 : decode jdk_46_method_10_code 9 = .ok (.invokespecial 63, 3) := by decide +kernel
theorem d20_12 : decode jdk_46_method_10_code 12 = .ok (.areturn, 1) := by decide +kernel
theorem d21_0 : decode jdk_53_method_1_code 0 = .ok (.aload_n 0, 1) := by decide +kernel
theorem d21_1 : decode jdk_53_method_1_code 1 = .ok (.invokespecial 1, 3) := by decide +kernel
theorem d21_4 : decode jdk_53_method_1_code 4 = .ok (.aload_n 0, 1) := by decide +kernel
theorem d21_5 : decode jdk_53_method_1_code 5 = .ok (.aload_n 1, 1) := by decide +kernel
theorem d21_6 : decode jdk_53_method_1_code 6 = .ok (.putfield 7, 3) := by decide +kernel
theorem d21_9 : decode jdk_53_method_1_code 9 = .ok (.aload_n 0, 1) := by decide +kernel
theorem d21_10 : decode jdk_53_method_1_code 10 = .ok (.iload_n 2, 1) := by decide +kernel
theorem d21_11 : decode jdk_53_method_1_code 11 = .ok (.putfield 13, 3) := by decide +kernel
theorem d21_14 : decode jdk_53_method_1_code 14 = .ok (.aload_n 0, 1) := by decide +kernel
theorem d21_15 : decode jdk_53_method_1_code 15 = .ok (.iconst 0, 1) := by decide +kernel
theorem d21_16 : decode jdk_53_method_1_code 16 = .ok (.putfield 17, 3) := by decide +kernel
theorem d21_19 : decode jdk_53_method_1_code 19 = .ok (.aload_n 0, 1) := by decide +kernel
theorem d21_20 : decode jdk_53_method_1_code 20 = .ok (.iconst 0, 1) := by decide +kernel
theorem d21_21 : decode jdk_53_method_1_code 21 = .ok (.putfield 20, 3) := by decide +kernel
theorem d21_24 : decode jdk_53_method_1_code 24 = .ok (.return_, 1) := by decide +kernel
theorem d22_0 : decode jdk_53_method_3_code 0 = .ok (.aload_n 0, 1) := by decide +kernel
theorem d22_1 : decode jdk_53_method_3_code 1 = .ok (.getfield 17, 3) := by decide +kernel
theorem d22_4 : decode jdk_53_method_3_code 4 = .ok (.aload_n 0, 1) := by decide +kernel
theorem d22_5 : decode jdk_53_method_3_code 5 = .ok (.getfield 13, 3) := by decide +kernel
theorem d22_8 : decode jdk_53_method_3_code 8 = .ok (.if_icmp .eq 7, 3) := by decide +kernel
theorem d22_11 : decode jdk_53_method_3_code 11 = .ok (.iconst 1, 1) := by decide +kernel
theorem d22_12 : decode jdk_53_method_3_code 12 = .ok (.goto 4, 3) := by decide +kernel
theorem d22_15 : decode jdk_53_method_3_code 15 = .ok (.iconst 0, 1) := by decide +kernel
theorem d22_16 : decode jdk_53_method_3_code 16 = .ok (.ireturn, 1) := by decide +kernel
theorem d23_0 : decode jdk_44_method_5_code 0 = .ok (.iload_n 1, 1) := by decide +kernel
theorem d23_1 : decode jdk_44_method_5_code 1 = .ok (.ifCond .ne 8, 3) := by decide +kernel
theorem d23_4 : decode jdk_44_method_5_code 4 = .ok (.aload_n 0, 1) := by decide +kernel
theorem d23_5 : decode jdk_44_method_5_code 5 = .ok (.getfield 13, 3) := by decide +kernel
theorem d23_8 : decode jdk_44_method_5_code 8 = .ok (.areturn, 1) := by decide +kernel
theorem d23_9 : decode jdk_44_method_5_code 9 = .ok (.iload_n 1, 1) := by decide +kernel
theorem d23_10 : decode jdk_44_method_5_code 10 = .ok (.iconst 1, 1) := by decide +kernel
theorem d23_11 : decode jdk_44_method_5_code 11 = .ok (.if_icmp .ne 18, 3) := by decide +kernel
theorem d23_14 : decode jdk_44_method_5_code 14 = .ok (.aload_n 0, 1) := by decide +kernel
theorem d23_15 : decode jdk_44_method_5_code 15 = .ok (.getfield 24, 3) := by decide +kernel
theorem d23_18 : decode jdk_44_method_5_code 18 = .ok (.getstatic 19, 3) := by decide +kernel
theorem d23_21 : decode jdk_44_method_5_code 21 = .ok (.if_acmp .eq 8, 3) := by decide +kernel
theorem d23_24 : decode jdk_44_method_5_code 24 = .ok (.aload_n 0, 1) := by decide +kernel
theorem d23_25 : decode jdk_44_method_5_code 25 = .ok (.getfield 24, 3) := by decide +kernel
theorem d23_28 : decode jdk_44_method_5_code 28 = .ok (.areturn, 1) := by decide +kernel
theorem d23_29 : decode jdk_44_method_5_code 29 = .ok (.aload_n 0, 1) := by decide +kernel
theorem d23_30 : decode jdk_44_method_5_code 30 = .ok (.iload_n 1, 1) := by decide +kernel
theorem d23_31 : decode jdk_44_method_5_code 31 = .ok (.invokevirtual 27, 3) := by decide +kernel
theorem d23_34 : decode jdk_44_method_5_code 34 = .ok (.athrow, 1) := by decide +kernel
theorem d24_0 : decode jdk_31_method_2_code 0 = .ok (.aload_n 0, 1) := by decide +kernel
theorem d24_1 : decode jdk_31_method_2_code 1 = .ok (.aload_n 1, 1) := by decide +kernel
theorem d24_2 : decode jdk_31_method_2_code 2 = .ok (.if_acmp .eq 15, 3) := by decide +kernel
theorem d24_5 : decode jdk_31_method_2_code 5 = .ok (.aload_n 0, 1) := by decide +kernel
theorem d24_6 : decode jdk_31_method_2_code 6 = .ok (.ifnull 15, 3) := by decide +kernel
theorem d24_9 : decode jdk_31_method_2_code 9 = .ok (.aload_n 0, 1) := by decide +kernel
theorem d24_10 : decode jdk_31_method_2_code 10 = .ok (.aload_n 1, 1) := by decide +kernel
theorem d24_11 : decode jdk_31_method_2_code 11 = .ok (.invokevirtual 14, 3) := by decide +kernel
theorem d24_14 : decode jdk_31_method_2_code 14 = .ok (.ifCond .eq 7, 3) := by decide +kernel
theorem d24_17 : decode jdk_31_method_2_code 17 = .ok (.iconst 1, 1) := by decide +kernel
theorem d24_18 : decode jdk_31_method_2_code 18 = .ok (.goto 4, 3) := by decide +kernel
theorem d24_21 : decode jdk_31_method_2_code 21 = .ok (.iconst 0, 1) := by decide +kernel
theorem d24_22 : decode jdk_31_method_2_code 22 = .ok (.ireturn, 1) := by decide +kernel
theorem d25_0 : decode jdk_33_method_34_code 0 = .ok (.aload_n 1, 1) := by decide +kernel
theorem d25_1 : decode jdk_33_method_34_code 1 = .ok (.instanceof 1, 3) := by decide +kernel
theorem d25_4 : decode jdk_33_method_34_code 4 = .ok (.ifCond .eq 23, 3) := by decide +kernel
theorem d25_7 : decode jdk_33_method_34_code 7 = .ok (.aload_n 0, 1) := by decide +kernel
theorem d25_8 : decode jdk_33_method_34_code 8 = .ok (.getfield 205, 3) := by decide +kernel
theorem d25_11 : decode jdk_33_method_34_code 11 = .ok (.aload_n 1, 1) := by decide +kernel
theorem d25_12 : decode jdk_33_method_34_code 12 = .ok (.checkcast 1, 3) := by decide +kernel
theorem d25_15 : decode jdk_33_method_34_code 15 = .ok (.invokevirtual 211, 3) := by decide +kernel
theorem d25_18 : decode jdk_33_method_34_code 18 = .ok (.if_icmp .ne 7, 3) := by decide +kernel
theorem d25_21 : decode jdk_33_method_34_code 21 = .ok (.iconst 1, 1) := by decide +kernel
theorem d25_22 : decode jdk_33_method_34_code 22 = .ok (.goto 4, 3) := by decide +kernel
theorem d25_25 : decode jdk_33_method_34_code 25 = .ok (.iconst 0, 1) := by decide +kernel
theorem d25_26 : decode jdk_33_method_34_code 26 = .ok (.ireturn, 1) := by decide +kernel
theorem d25_27 : decode jdk_33_method_34_code 27 = .ok (.iconst 0, 1) := by decide +kernel
theorem d25_28 : decode jdk_33_method_34_code 28 = .ok (.ireturn, 1) := by decide +kernel
theorem d26_0 : decode jdk_33_method_27_code 0 = .ok (.aload_n 0, 1) := by decide +kernel
theorem d26_1 : decode jdk_33_method_27_code 1 = .ok (.getfield 205, 3) := by decide +kernel
theorem d26_4 : decode jdk_33_method_27_code 4 = .ok (.ireturn, 1) := by decide +kernel
theorem d27_0 : decode prog_57_method_12_code 0 = .ok (.aload_n 0, 1) := by decide +kernel
theorem d27_1 : decode prog_57_method_12_code 1 = .ok (.getfield 7, 3) := by decide +kernel
theorem d27_4 : decode prog_57_method_12_code 4 = .ok (.invokeinterface 68 1, 5) := by decide +kernel
theorem d27_9 : decode prog_57_method_12_code 9 = .ok (.aload_n 1, 1) := by decide +kernel
theorem d27_10 : decode prog_57_method_12_code 10 = .ok (.getfield 7, 3) := by decide +kernel
theorem d27_13 : decode prog_57_method_12_code 13 = .ok (.invokeinterface 68 1, 5) := by decide +kernel
theorem d27_18 : decode prog_57_method_12_code 18 = .ok (.invokestatic 129, 3) := by decide +kernel
theorem d27_21 : decode prog_57_method_12_code 21 = .ok (.istore_n 2, 1) := by decide +kernel
theorem d27_22 : decode prog_57_method_12_code 22 = .ok (.iconst 0, 1) := by decide +kernel
theorem d27_23 : decode prog_57_method_12_code 23 = .ok (.istore_n 3, 1) := by decide +kernel
theorem d27_24 : decode prog_57_method_12_code 24 = .ok (.iload_n 3, 1) := by decide +kernel
theorem d27_25 : decode prog_57_method_12_code 25 = .ok (.iload_n 2, 1) := by decide +kernel
theorem d27_26 : decode prog_57_method_12_code 26 = .ok (.if_icmp .ge 54, 3) := by decide +kernel
theorem d27_29 : decode prog_57_method_12_code 29 = .ok (.aload_n 0, 1) := by decide +kernel
theorem d27_30 : decode prog_57_method_12_code 30 = .ok (.getfield 7, 3) := by decide +kernel
theorem d27_33 : decode prog_57_method_12_code 33 = .ok (.iload_n 3, 1) := by decide +kernel
theorem d27_34 : decode prog_57_method_12_code 34 = .ok (.invokeinterface 84 2, 5) := by decide +kernel
theorem d27_39 : decode prog_57_method_12_code 39 = .ok (.checkcast 26, 3) := by decide +kernel
theorem d27_42 : decode prog_57_method_12_code 42 = .ok (.invokevirtual 135, 3) := by decide +kernel
theorem d27_45 : decode prog_57_method_12_code 45 = .ok (.aload_n 1, 1) := by decide +kernel
theorem d27_46 : decode prog_57_method_12_code 46 = .ok (.getfield 7, 3) := by decide +kernel
theorem d27_49 : decode prog_57_method_12_code 49 = .ok (.iload_n 3, 1) := by decide +kernel
theorem d27_50 : decode prog_57_method_12_code 50 = .ok (.invokeinterface 84 2, 5) := by decide +kernel
theorem d27_55 : decode prog_57_method_12_code 55 = .ok (.checkcast 26, 3) := by decide +kernel
theorem d27_58 : decode prog_57_method_12_code 58 = .ok (.invokevirtual 135, 3) := by decide +kernel
theorem d27_61 : decode prog_57_method_12_code 61 = .ok (.invokestatic 138, 3) := by decide +kernel
theorem d27_64 : decode prog_57_method_12_code 64 = .ok (.istore 4, 2) := by decide +kernel
theorem d27_66 : decode prog_57_method_12_code 66 = .ok (.iload 4, 2) := by decide +kernel
theorem d27_68 : decode prog_57_method_12_code 68 = .ok (.ifCond .eq 6, 3) := by decide +kernel
theorem d27_71 : decode prog_57_method_12_code 71 = .ok (.iload 4, 2) := by decide +kernel
theorem d27_73 : decode prog_57_method_12_code 73 = .ok (.ireturn, 1) := by decide +kernel
theorem d27_74 : decode prog_57_method_12_code 74 = .ok (.iinc 3 1, 3) := by decide +kernel
theorem d27_77 : decode prog_57_method_12_code 77 = .ok (.goto (-53), 3) := by decide +kernel
theorem d27_80 : decode prog_57_method_12_code 80 = .ok (.aload_n 0, 1) := by decide +kernel
theorem d27_81 : decode prog_57_method_12_code 81 = .ok (.getfield 7, 3) := by decide +kernel
theorem d27_84 : decode prog_57_method_12_code 84 = .ok (.invokeinterface 68 1, 5) := by decide +kernel
theorem d27_89 : decode prog_57_method_12_code 89 = .ok (.aload_n 1, 1) := by decide +kernel
theorem d27_90 : decode prog_57_method_12_code 90 = .ok (.getfield 7, 3) := by decide +kernel
theorem d27_93 : decode prog_57_method_12_code 93 = .ok (.invokeinterface 68 1, 5) := by decide +kernel
theorem d27_98 : decode prog_57_method_12_code 98 = .ok (.invokestatic 138, 3) := by decide +kernel
theorem d27_101 : decode prog_57_method_12_code 101 = .ok (.istore_n 3, 1) := by decide +kernel
theorem d27_102 : decode prog_57_method_12_code 102 = .ok (.iload_n 3, 1) := by decide +kernel
theorem d27_103 : decode prog_57_method_12_code 103 = .ok (.ifCond .eq 5, 3) := by decide +kernel
theorem d27_106 : decode prog_57_method_12_code 106 = .ok (.iload_n 3, 1) := by decide +kernel
theorem d27_107 : decode prog_57_method_12_code 107 = .ok (.ireturn, 1) := by decide +kernel
theorem d27_108 : decode prog_57_method_12_code 108 = .ok (.aload_n 0, 1) := by decide +kernel
theorem d27_109 : decode prog_57_method_12_code 109 = .ok (.getfield 13, 3) := by decide +kernel
theorem d27_112 : decode prog_57_method_12_code 112 = .ok (.aload_n 1, 1) := by decide +kernel
theorem d27_113 : decode prog_57_method_12_code 113 = .ok (.getfield 13, 3) := by decide +kernel
theorem d27_116 : decode prog_57_method_12_code 116 = .ok (.invokevirtual 141, 3) := by decide +kernel
theorem d27_119 : decode prog_57_method_12_code 119 = .ok (.istore 4, 2) := by decide +kernel
theorem d27_121 : decode prog_57_method_12_code 121 = .ok (.iload 4, 2) := by decide +kernel
theorem d27_123 : decode prog_57_method_12_code 123 = .ok (.ifCond .eq 8, 3) := by decide +kernel
theorem d27_126 : decode prog_57_method_12_code 126 = .ok (.iload 4, 2) := by decide +kernel
theorem d27_128 : decode prog_57_method_12_code 128 = .ok (.goto 14, 3) := by decide +kernel
theorem d27_131 : decode prog_57_method_12_code 131 = .ok (.aload_n 0, 1) := by decide +kernel
theorem d27_132 : decode prog_57_method_12_code 132 = .ok (.getfield 17, 3) := by decide +kernel
theorem d27_135 : decode prog_57_method_12_code 135 = .ok (.aload_n 1, 1) := by decide +kernel
theorem d27_136 : decode prog_57_method_12_code 136 = .ok (.getfield 17, 3) := by decide +kernel
theorem d27_139 : decode prog_57_method_12_code 139 = .ok (.invokestatic 138, 3) := by decide +kernel
theorem d27_142 : decode prog_57_method_12_code 142 = .ok (.ireturn, 1) := by decide +kernel
theorem d28_0 : decode jdk_29_method_69_code 0 = .ok (.iload_n 0, 1) := by decide +kernel
theorem d28_1 : decode jdk_29_method_69_code 1 = .ok (.iload_n 1, 1) := by decide +kernel
theorem d28_2 : decode jdk_29_method_69_code 2 = .ok (.if_icmp .gt 7, 3) := by decide +kernel
theorem d28_5 : decode jdk_29_method_69_code 5 = .ok (.iload_n 0, 1) := by decide +kernel
theorem d28_6 : decode jdk_29_method_69_code 6 = .ok (.goto 4, 3) := by decide +kernel
theorem d28_9 : decode jdk_29_method_69_code 9 = .ok (.iload_n 1, 1) := by decide +kernel
theorem d28_10 : decode jdk_29_method_69_code 10 = .ok (.ireturn, 1) := by decide +kernel
theorem d29_0 : decode jdk_33_method_40_code 0 = .ok (.iload_n 0, 1) := by decide +kernel
theorem d29_1 : decode jdk_33_method_40_code 1 = .ok (.iload_n 1, 1) := by decide +kernel
theorem d29_2 : decode jdk_33_method_40_code 2 = .ok (.if_icmp .ge 7, 3) := by decide +kernel
theorem d29_5 : decode jdk_33_method_40_code 5 = .ok (.iconst (-1), 1) := by decide +kernel
theorem d29_6 : decode jdk_33_method_40_code 6 = .ok (.goto 13, 3) := by decide +kernel
theorem d29_9 : decode jdk_33_method_40_code 9 = .ok (.iload_n 0, 1) := by decide +kernel
theorem d29_10 : decode jdk_33_method_40_code 10 = .ok (.iload_n 1, 1) := by decide +kernel
theorem d29_11 : decode jdk_33_method_40_code 11 = .ok (.if_icmp .ne 7, 3) := by decide +kernel
theorem d29_14 : decode jdk_33_method_40_code 14 = .ok (.iconst 0, 1) := by decide +kernel
theorem d29_15 : decode jdk_33_method_40_code 15 = .ok (.goto 4, 3) := by decide +kernel
theorem d29_18 : decode jdk_33_method_40_code 18 = .ok (.iconst 1, 1) := by decide +kernel
theorem d29_19 : decode jdk_33_method_40_code 19 = .ok (.ireturn, 1) := by decide +kernel
theorem d30_0 : decode prog_57_method_9_code 0 = .ok (.aload_n 0, 1) := by decide +kernel
theorem d30_1 : decode prog_57_method_9_code 1 = .ok (.getfield 13, 3) := by decide +kernel
theorem d30_4 : decode prog_57_method_9_code 4 = .ok (.invokevirtual 76, 3) := by decide +kernel
theorem d30_7 : decode prog_57_method_9_code 7 = .ok (.tableswitch 25 0 2 #[35, 61, 66], 25) := by decide +kernel
theorem d30_32 : decode prog_57_method_9_code 32 = .ok (.new 79, 3) := by decide +kernel
theorem d30_35 : decode prog_57_method_9_code 35 = .ok (.dup, 1) := by decide +kernel
theorem d30_36 : decode prog_57_method_9_code 36 = .ok (.aconst_null, 1) := by decide +kernel
theorem d30_37 : decode prog_57_method_9_code 37 = .ok (.aconst_null, 1) := by decide +kernel
theorem d30_38 : decode prog_57_method_9_code 38 = .ok (.invokespecial 81, 3) := by decide +kernel
theorem d30_41 : decode prog_57_method_9_code 41 = .ok (.athrow, 1) := by decide +kernel
theorem d30_42 : decode prog_57_method_9_code 42 = .ok (.aload_n 0, 1) := by decide +kernel
theorem d30_43 : decode prog_57_method_9_code 43 = .ok (.getfield 7, 3) := by decide +kernel
theorem d30_46 : decode prog_57_method_9_code 46 = .ok (.aload_n 0, 1) := by decide +kernel
theorem d30_47 : decode prog_57_method_9_code 47 = .ok (.getfield 7, 3) := by decide +kernel
theorem d30_50 : decode prog_57_method_9_code 50 = .ok (.invokeinterface 68 1, 5) := by decide +kernel
theorem d30_55 : decode prog_57_method_9_code 55 = .ok (.iconst 1, 1) := by decide +kernel
theorem d30_56 : decode prog_57_method_9_code 56 = .ok (.isub, 1) := by decide +kernel
theorem d30_57 : decode prog_57_method_9_code 57 = .ok (.invokeinterface 84 2, 5) := by decide +kernel
theorem d30_62 : decode prog_57_method_9_code 62 = .ok (.invokestatic 88, 3) := by decide +kernel
theorem d30_65 : decode prog_57_method_9_code 65 = .ok (.goto 17, 3) := by decide +kernel
theorem d30_68 : decode prog_57_method_9_code 68 = .ok (.ldc 93, 2) := by decide +kernel
theorem d30_70 : decode prog_57_method_9_code 70 = .ok (.goto 12, 3) := by decide +kernel
theorem d30_73 : decode prog_57_method_9_code 73 = .ok (.aload_n 0, 1) := by decide +kernel
theorem d30_74 : decode prog_57_method_9_code 74 = .ok (.getfield 17, 3) := by decide +kernel
theorem d30_77 : decode prog_57_method_9_code 77 = .ok (.invokedynamic 95, 5) := by decide +kernel
theorem d30_82 : decode prog_57_method_9_code 82 = .ok (.areturn, 1) := by decide +kernel
theorem d31_0 : decode jdk_42_method_133_code 0 = .ok (.aload_n 0, 1) := by decide +kernel
theorem d31_1 : decode jdk_42_method_133_code 1 = .ok (.ifnonnull 9, 3) := by decide +kernel
theorem d31_4 : decode jdk_42_method_133_code 4 = .ok (.ldc_w 1005, 3) := by decide +kernel
theorem d31_7 : decode jdk_42_method_133_code 7 = .ok (.goto 7, 3) := by decide +kernel
theorem d31_10 : decode jdk_42_method_133_code 10 = .ok (.aload_n 0, 1) := by decide +kernel
theorem d31_11 : decode jdk_42_method_133_code 11 = .ok (.invokevirtual 1007, 3) := by decide +kernel
theorem d31_14 : decode jdk_42_method_133_code 14 = .ok (.areturn, 1) := by decide +kernel
theorem d32_0 : decode jdk_33_method_31_code 0 = .ok (.aload_n 0, 1) := by decide +kernel
theorem d32_1 : decode jdk_33_method_31_code 1 = .ok (.getfield 205, 3) := by decide +kernel
theorem d32_4 : decode jdk_33_method_31_code 4 = .ok (.invokestatic 9, 3) := by decide +kernel
theorem d32_7 : decode jdk_33_method_31_code 7 = .ok (.areturn, 1) := by decide +kernel
theorem d33_0 : decode jdk_33_method_10_code 0 = .ok (.iload_n 0, 1) := by decide +kernel
theorem d33_1 : decode jdk_33_method_10_code 1 = .ok (.invokestatic 72, 3) := by decide +kernel
theorem d33_4 : decode jdk_33_method_10_code 4 = .ok (.istore_n 1, 1) := by decide +kernel
theorem d33_5 : decode jdk_33_method_10_code 5 = .ok (.getstatic 13, 3) := by decide +kernel
theorem d33_8 : decode jdk_33_method_10_code 8 = .ok (.ifCond .eq 24, 3) := by decide +kernel
theorem d33_11 : decode jdk_33_method_10_code 11 = .ok (.iload_n 1, 1) := by decide +kernel
theorem d33_12 : decode jdk_33_method_10_code 12 = .ok (.newarray .byte, 2) := by decide +kernel
theorem d33_14 : decode jdk_33_method_10_code 14 = .ok (.astore_n 2, 1) := by decide +kernel
theorem d33_15 : decode jdk_33_method_10_code 15 = .ok (.iload_n 0, 1) := by decide +kernel
theorem d33_16 : decode jdk_33_method_10_code 16 = .ok (.iload_n 1, 1) := by decide +kernel
theorem d33_17 : decode jdk_33_method_10_code 17 = .ok (.aload_n 2, 1) := by decide +kernel
theorem d33_18 : decode jdk_33_method_10_code 18 = .ok (.invokestatic 75, 3) := by decide +kernel
theorem d33_21 : decode jdk_33_method_10_code 21 = .ok (.pop, 1) := by decide +kernel
theorem d33_22 : decode jdk_33_method_10_code 22 = .ok (.new 5, 3) := by decide +kernel
theorem d33_25 : decode jdk_33_method_10_code 25 = .ok (.dup, 1) := by decide +kernel
theorem d33_26 : decode jdk_33_method_10_code 26 = .ok (.aload_n 2, 1) := by decide +kernel
theorem d33_27 : decode jdk_33_method_10_code 27 = .ok (.iconst 0, 1) := by decide +kernel
theorem d33_28 : decode jdk_33_method_10_code 28 = .ok (.invokespecial 65, 3) := by decide +kernel
theorem d33_31 : decode jdk_33_method_10_code 31 = .ok (.areturn, 1) := by decide +kernel
theorem d33_32 : decode jdk_33_method_10_code 32 = .ok (.iload_n 1, 1) := by decide +kernel
theorem d33_33 : decode jdk_33_method_10_code 33 = .ok (.iconst 2, 1) := by decide +kernel
theorem d33_34 : decode jdk_33_method_10_code 34 = .ok (.imul, 1) := by decide +kernel
theorem d33_35 : decode jdk_33_method_10_code 35 = .ok (.newarray .byte, 2) := by decide +kernel
theorem d33_37 : decode jdk_33_method_10_code 37 = .ok (.astore_n 2, 1) := by decide +kernel
theorem d33_38 : decode jdk_33_method_10_code 38 = .ok (.iload_n 0, 1) := by decide +kernel
theorem d33_39 : decode jdk_33_method_10_code 39 = .ok (.iload_n 1, 1) := by decide +kernel
theorem d33_40 : decode jdk_33_method_10_code 40 = .ok (.aload_n 2, 1) := by decide +kernel
theorem d33_41 : decode jdk_33_method_10_code 41 = .ok (.invokestatic 79, 3) := by decide +kernel
theorem d33_44 : decode jdk_33_method_10_code 44 = .ok (.pop, 1) := by decide +kernel
theorem d33_45 : decode jdk_33_method_10_code 45 = .ok (.new 5, 3) := by decide +kernel
theorem d33_48 : decode jdk_33_method_10_code 48 = .ok (.dup, 1) := by decide +kernel
theorem d33_49 : decode jdk_33_method_10_code 49 = .ok (.aload_n 2, 1) := by decide +kernel
theorem d33_50 : decode jdk_33_method_10_code 50 = .ok (.iconst 1, 1) := by decide +kernel
theorem d33_51 : decode jdk_33_method_10_code 51 = .ok (.invokespecial 65, 3) := by decide +kernel
theorem d33_54 : decode jdk_33_method_10_code 54 = .ok (.areturn, 1) := by decide +kernel
theorem d34_0 : decode jdk_33_method_13_code 0 = .ok (.iconst 1, 1) := by decide +kernel
theorem d34_1 : decode jdk_33_method_13_code 1 = .ok (.istore_n 1, 1) := by decide +kernel
theorem d34_2 : decode jdk_33_method_13_code 2 = .ok (.iload_n 0, 1) := by decide +kernel
theorem d34_3 : decode jdk_33_method_13_code 3 = .ok (.ifCond .lt 8, 3) := by decide +kernel
theorem d34_6 : decode jdk_33_method_13_code 6 = .ok (.iconst 0, 1) := by decide +kernel
theorem d34_7 : decode jdk_33_method_13_code 7 = .ok (.istore_n 1, 1) := by decide +kernel
theorem d34_8 : decode jdk_33_method_13_code 8 = .ok (.iload_n 0, 1) := by decide +kernel
theorem d34_9 : decode jdk_33_method_13_code 9 = .ok (.ineg, 1) := by decide +kernel
theorem d34_10 : decode jdk_33_method_13_code 10 = .ok (.istore_n 0, 1) := by decide +kernel
theorem d34_11 : decode jdk_33_method_13_code 11 = .ok (.bipush (-10), 2) := by decide +kernel
theorem d34_13 : decode jdk_33_method_13_code 13 = .ok (.istore_n 2, 1) := by decide +kernel
theorem d34_14 : decode jdk_33_method_13_code 14 = .ok (.iconst 1, 1) := by decide +kernel
theorem d34_15 : decode jdk_33_method_13_code 15 = .ok (.istore_n 3, 1) := by decide +kernel
theorem d34_16 : decode jdk_33_method_13_code 16 = .ok (.iload_n 3, 1) := by decide +kernel
theorem d34_17 : decode jdk_33_method_13_code 17 = .ok (.bipush 10, 2) := by decide +kernel
theorem d34_19 : decode jdk_33_method_13_code 19 = .ok (.if_icmp .ge 23, 3) := by decide +kernel
theorem d34_22 : decode jdk_33_method_13_code 22 = .ok (.iload_n 0, 1) := by decide +kernel
theorem d34_23 : decode jdk_33_method_13_code 23 = .ok (.iload_n 2, 1) := by decide +kernel
theorem d34_24 : decode jdk_33_method_13_code 24 = .ok (.if_icmp .le 7, 3) := by decide +kernel
theorem d34_27 : decode jdk_33_method_13_code 27 = .ok (.iload_n 3, 1) := by decide +kernel
theorem d34_28 : decode jdk_33_method_13_code 28 = .ok (.iload_n 1, 1) := by decide +kernel
theorem d34_29 : decode jdk_33_method_13_code 29 = .ok (.iadd, 1) := by decide +kernel
theorem d34_30 : decode jdk_33_method_13_code 30 = .ok (.ireturn, 1) := by decide +kernel
theorem d34_31 : decode jdk_33_method_13_code 31 = .ok (.bipush 10, 2) := by decide +kernel
theorem d34_33 : decode jdk_33_method_13_code 33 = .ok (.iload_n 2, 1) := by decide +kernel
theorem d34_34 : decode jdk_33_method_13_code 34 = .ok (.imul, 1) := by decide +kernel
theorem d34_35 : decode jdk_33_method_13_code 35 = .ok (.istore_n 2, 1) := by decide +kernel
theorem d34_36 : decode jdk_33_method_13_code 36 = .ok (.iinc 3 1, 3) := by decide +kernel
theorem d34_39 : decode jdk_33_method_13_code 39 = .ok (.goto (-23), 3) := by decide +kernel
theorem d34_42 : decode jdk_33_method_13_code 42 = .ok (.bipush 10, 2) := by decide +kernel
theorem d34_44 : decode jdk_33_method_13_code 44 = .ok (.iload_n 1, 1) := by decide +kernel
theorem d34_45 : decode jdk_33_method_13_code 45 = .ok (.iadd, 1) := by decide +kernel
theorem d34_46 : decode jdk_33_method_13_code 46 = .ok (.ireturn, 1) := by decide +kernel
theorem d35_0 : decode jdk_33_method_12_code 0 = .ok (.iload_n 1, 1) := by decide +kernel
theorem d35_1 : decode jdk_33_method_12_code 1 = .ok (.istore 5, 2) := by decide +kernel
theorem d35_3 : decode jdk_33_method_12_code 3 = .ok (.iload_n 0, 1) := by decide +kernel
theorem d35_4 : decode jdk_33_method_12_code 4 = .ok (.ifCond .ge 7, 3) := by decide +kernel
theorem d35_7 : decode jdk_33_method_12_code 7 = .ok (.iconst 1, 1) := by decide +kernel
theorem d35_8 : decode jdk_33_method_12_code 8 = .ok (.goto 4, 3) := by decide +kernel
theorem d35_11 : decode jdk_33_method_12_code 11 = .ok (.iconst 0, 1) := by decide +kernel
theorem d35_12 : decode jdk_33_method_12_code 12 = .ok (.istore 6, 2) := by decide +kernel
theorem d35_14 : decode jdk_33_method_12_code 14 = .ok (.iload 6, 2) := by decide +kernel
theorem d35_16 : decode jdk_33_method_12_code 16 = .ok (.ifCond .ne 6, 3) := by decide +kernel
theorem d35_19 : decode jdk_33_method_12_code 19 = .ok (.iload_n 0, 1) := by decide +kernel
theorem d35_20 : decode jdk_33_method_12_code 20 = .ok (.ineg, 1) := by decide +kernel
theorem d35_21 : decode jdk_33_method_12_code 21 = .ok (.istore_n 0, 1) := by decide +kernel
theorem d35_22 : decode jdk_33_method_12_code 22 = .ok (.iload_n 0, 1) := by decide +kernel
theorem d35_23 : decode jdk_33_method_12_code 23 = .ok (.bipush (-100), 2) := by decide +kernel
theorem d35_25 : decode jdk_33_method_12_code 25 = .ok (.if_icmp .gt 47, 3) := by decide +kernel
theorem d35_28 : decode jdk_33_method_12_code 28 = .ok (.iload_n 0, 1) := by decide +kernel
theorem d35_29 : decode jdk_33_method_12_code 29 = .ok (.bipush 100, 2) := by decide +kernel
theorem d35_31 : decode jdk_33_method_12_code 31 = .ok (.idiv, 1) := by decide +kernel
theorem d35_32 : decode jdk_33_method_12_code 32 = .ok (.istore_n 3, 1) := by decide +kernel
theorem d35_33 : decode jdk_33_method_12_code 33 = .ok (.iload_n 3, 1) := by decide +kernel
theorem d35_34 : decode jdk_33_method_12_code 34 = .ok (.bipush 100, 2) := by decide +kernel
theorem d35_36 : decode jdk_33_method_12_code 36 = .ok (.imul, 1) := by decide +kernel
theorem d35_37 : decode jdk_33_method_12_code 37 = .ok (.iload_n 0, 1) := by decide +kernel
theorem d35_38 : decode jdk_33_method_12_code 38 = .ok (.isub, 1) := by decide +kernel
theorem d35_39 : decode jdk_33_method_12_code 39 = .ok (.istore 4, 2) := by decide +kernel
theorem d35_41 : decode jdk_33_method_12_code 41 = .ok (.iload_n 3, 1) := by decide +kernel
theorem d35_42 : decode jdk_33_method_12_code 42 = .ok (.istore_n 0, 1) := by decide +kernel
theorem d35_43 : decode jdk_33_method_12_code 43 = .ok (.aload_n 2, 1) := by decide +kernel
theorem d35_44 : decode jdk_33_method_12_code 44 = .ok (.iinc 5 (-1), 3) := by decide +kernel
theorem d35_47 : decode jdk_33_method_12_code 47 = .ok (.iload 5, 2) := by decide +kernel
theorem d35_49 : decode jdk_33_method_12_code 49 = .ok (.getstatic 83, 3) := by decide +kernel
theorem d35_52 : decode jdk_33_method_12_code 52 = .ok (.iload 4, 2) := by decide +kernel
theorem d35_54 : decode jdk_33_method_12_code 54 = .ok (.baload, 1) := by decide +kernel
theorem d35_55 : decode jdk_33_method_12_code 55 = .ok (.bastore, 1) := by decide +kernel
theorem d35_56 : decode jdk_33_method_12_code 56 = .ok (.aload_n 2, 1) := by decide +kernel
theorem d35_57 : decode jdk_33_method_12_code 57 = .ok (.iinc 5 (-1), 3) := by decide +kernel
theorem d35_60 : decode jdk_33_method_12_code 60 = .ok (.iload 5, 2) := by decide +kernel
theorem d35_62 : decode jdk_33_method_12_code 62 = .ok (.getstatic 87, 3) := by decide +kernel
theorem d35_65 : decode jdk_33_method_12_code 65 = .ok (.iload 4, 2) := by decide +kernel
theorem d35_67 : decode jdk_33_method_12_code 67 = .ok (.baload, 1) := by decide +kernel
theorem d35_68 : decode jdk_33_method_12_code 68 = .ok (.bastore, 1) := by decide +kernel
theorem d35_69 : decode jdk_33_method_12_code 69 = .ok (.goto (-47), 3) := by decide +kernel
theorem d35_72 : decode jdk_33_method_12_code 72 = .ok (.aload_n 2, 1) := by decide +kernel
theorem d35_73 : decode jdk_33_method_12_code 73 = .ok (.iinc 5 (-1), 3) := by decide +kernel
theorem d35_76 : decode jdk_33_method_12_code 76 = .ok (.iload 5, 2) := by decide +kernel
theorem d35_78 : decode jdk_33_method_12_code 78 = .ok (.getstatic 83, 3) := by decide +kernel
theorem d35_81 : decode jdk_33_method_12_code 81 = .ok (.iload_n 0, 1) := by decide +kernel
theorem d35_82 : decode jdk_33_method_12_code 82 = .ok (.ineg, 1) := by decide +kernel
theorem d35_83 : decode jdk_33_method_12_code 83 = .ok (.baload, 1) := by decide +kernel
theorem d35_84 : decode jdk_33_method_12_code 84 = .ok (.bastore, 1) := by decide +kernel
theorem d35_85 : decode jdk_33_method_12_code 85 = .ok (.iload_n 0, 1) := by decide +kernel
theorem d35_86 : decode jdk_33_method_12_code 86 = .ok (.bipush (-9), 2) := by decide +kernel
theorem d35_88 : decode jdk_33_method_12_code 88 = .ok (.if_icmp .ge 16, 3) := by decide +kernel
theorem d35_91 : decode jdk_33_method_12_code 91 = .ok (.aload_n 2, 1) := by decide +kernel
theorem d35_92 : decode jdk_33_method_12_code 92 = .ok (.iinc 5 (-1), 3) := by decide +kernel
theorem d35_95 : decode jdk_33_method_12_code 95 = .ok (.iload 5, 2) := by decide +kernel
theorem d35_97 : decode jdk_33_method_12_code 97 = .ok (.getstatic 87, 3) := by decide +kernel
theorem d35_100 : decode jdk_33_method_12_code 100 = .ok (.iload_n 0, 1) := by decide +kernel
theorem d35_101 : decode jdk_33_method_12_code 101 = .ok (.ineg, 1) := by decide +kernel
theorem d35_102 : decode jdk_33_method_12_code 102 = .ok (.baload, 1) := by decide +kernel
theorem d35_103 : decode jdk_33_method_12_code 103 = .ok (.bastore, 1) := by decide +kernel
theorem d35_104 : decode jdk_33_method_12_code 104 = .ok (.iload 6, 2) := by decide +kernel
theorem d35_106 : decode jdk_33_method_12_code 106 = .ok (.ifCond .eq 12, 3) := by decide +kernel
theorem d35_109 : decode jdk_33_method_12_code 109 = .ok (.aload_n 2, 1) := by decide +kernel
theorem d35_110 : decode jdk_33_method_12_code 110 = .ok (.iinc 5 (-1), 3) := by decide +kernel
theorem d35_113 : decode jdk_33_method_12_code 113 = .ok (.iload 5, 2) := by decide +kernel
theorem d35_115 : decode jdk_33_method_12_code 115 = .ok (.bipush 45, 2) := by decide +kernel
theorem d35_117 : decode jdk_33_method_12_code 117 = .ok (.bastore, 1) := by decide +kernel
theorem d35_118 : decode jdk_33_method_12_code 118 = .ok (.iload 5, 2) := by decide +kernel
theorem d35_120 : decode jdk_33_method_12_code 120 = .ok (.ireturn, 1) := by decide +kernel
theorem d36_0 : decode jdk_42_method_151_code 0 = .ok (.aload_n 0, 1) := by decide +kernel
theorem d36_1 : decode jdk_42_method_151_code 1 = .ok (.invokespecial 1, 3) := by decide +kernel
theorem d36_4 : decode jdk_42_method_151_code 4 = .ok (.aload_n 0, 1) := by decide +kernel
theorem d36_5 : decode jdk_42_method_151_code 5 = .ok (.aload_n 1, 1) := by decide +kernel
theorem d36_6 : decode jdk_42_method_151_code 6 = .ok (.putfield 9, 3) := by decide +kernel
theorem d36_9 : decode jdk_42_method_151_code 9 = .ok (.aload_n 0, 1) := by decide +kernel
theorem d36_10 : decode jdk_42_method_151_code 10 = .ok (.iload_n 2, 1) := by decide +kernel
theorem d36_11 : decode jdk_42_method_151_code 11 = .ok (.putfield 15, 3) := by decide +kernel
theorem d36_14 : decode jdk_42_method_151_code 14 = .ok (.return_, 1) := by decide +kernel
theorem d37_0 : decode method_2_code 0 = .ok (.iload_n 0, 1) := by decide +kernel
theorem d37_1 : decode method_2_code 1 = .ok (.bipush 10, 2) := by decide +kernel
theorem d37_3 : decode method_2_code 3 = .ok (.if_icmp .ge 5, 3) := by decide +kernel
theorem d37_6 : decode method_2_code 6 = .ok (.iconst 1, 1) := by decide +kernel
theorem d37_7 : decode method_2_code 7 = .ok (.ireturn, 1) := by decide +kernel
theorem d37_8 : decode method_2_code 8 = .ok (.iload_n 0, 1) := by decide +kernel
theorem d37_9 : decode method_2_code 9 = .ok (.bipush 100, 2) := by decide +kernel
theorem d37_11 : decode method_2_code 11 = .ok (.if_icmp .ge 5, 3) := by decide +kernel
theorem d37_14 : decode method_2_code 14 = .ok (.iconst 2, 1) := by decide +kernel
theorem d37_15 : decode method_2_code 15 = .ok (.ireturn, 1) := by decide +kernel
theorem d37_16 : decode method_2_code 16 = .ok (.iload_n 0, 1) := by decide +kernel
theorem d37_17 : decode method_2_code 17 = .ok (.sipush 1000, 3) := by decide +kernel
theorem d37_20 : decode method_2_code 20 = .ok (.if_icmp .ge 5, 3) := by decide +kernel
theorem d37_23 : decode method_2_code 23 = .ok (.iconst 3, 1) := by decide +kernel
theorem d37_24 : decode method_2_code 24 = .ok (.ireturn, 1) := by decide +kernel
theorem d37_25 : decode method_2_code 25 = .ok (.iload_n 0, 1) := by decide +kernel
theorem d37_26 : decode method_2_code 26 = .ok (.sipush 10000, 3) := by decide +kernel
theorem d37_29 : decode method_2_code 29 = .ok (.if_icmp .ge 5, 3) := by decide +kernel
theorem d37_32 : decode method_2_code 32 = .ok (.iconst 4, 1) := by decide +kernel
theorem d37_33 : decode method_2_code 33 = .ok (.ireturn, 1) := by decide +kernel
theorem d37_34 : decode method_2_code 34 = .ok (.iload_n 0, 1) := by decide +kernel
theorem d37_35 : decode method_2_code 35 = .ok (.ldc 7, 2) := by decide +kernel
theorem d37_37 : decode method_2_code 37 = .ok (.if_icmp .ge 5, 3) := by decide +kernel
theorem d37_40 : decode method_2_code 40 = .ok (.iconst 5, 1) := by decide +kernel
theorem d37_41 : decode method_2_code 41 = .ok (.ireturn, 1) := by decide +kernel
theorem d37_42 : decode method_2_code 42 = .ok (.iload_n 0, 1) := by decide +kernel
theorem d37_43 : decode method_2_code 43 = .ok (.ldc 8, 2) := by decide +kernel
theorem d37_45 : decode method_2_code 45 = .ok (.if_icmp .ge 6, 3) := by decide +kernel
theorem d37_48 : decode method_2_code 48 = .ok (.bipush 6, 2) := by decide +kernel
theorem d37_50 : decode method_2_code 50 = .ok (.ireturn, 1) := by decide +kernel
theorem d37_51 : decode method_2_code 51 = .ok (.iload_n 0, 1) := by decide +kernel
theorem d37_52 : decode method_2_code 52 = .ok (.ldc 9, 2) := by decide +kernel
theorem d37_54 : decode method_2_code 54 = .ok (.if_icmp .ge 6, 3) := by decide +kernel
theorem d37_57 : decode method_2_code 57 = .ok (.bipush 7, 2) := by decide +kernel
theorem d37_59 : decode method_2_code 59 = .ok (.ireturn, 1) := by decide +kernel
theorem d37_60 : decode method_2_code 60 = .ok (.iload_n 0, 1) := by decide +kernel
theorem d37_61 : decode method_2_code 61 = .ok (.ldc 10, 2) := by decide +kernel
theorem d37_63 : decode method_2_code 63 = .ok (.if_icmp .ge 6, 3) := by decide +kernel
theorem d37_66 : decode method_2_code 66 = .ok (.bipush 8, 2) := by decide +kernel
theorem d37_68 : decode method_2_code 68 = .ok (.ireturn, 1) := by decide +kernel
theorem d37_69 : decode method_2_code 69 = .ok (.iload_n 0, 1) := by decide +kernel
theorem d37_70 : decode method_2_code 70 = .ok (.ldc 11, 2) := by decide +kernel
theorem d37_72 : decode method_2_code 72 = .ok (.if_icmp .ge 6, 3) := by decide +kernel
theorem d37_75 : decode method_2_code 75 = .ok (.bipush 9, 2) := by decide +kernel
theorem d37_77 : decode method_2_code 77 = .ok (.ireturn, 1) := by decide +kernel
theorem d37_78 : decode method_2_code 78 = .ok (.bipush 10, 2) := by decide +kernel
theorem d37_80 : decode method_2_code 80 = .ok (.ireturn, 1) := by decide +kernel
theorem d38_0 : decode jdk_42_method_54_code 0 = .ok (.aload_n 0, 1) := by decide +kernel
theorem d38_1 : decode jdk_42_method_54_code 1 = .ok (.getfield 9, 3) := by decide +kernel
theorem d38_4 : decode jdk_42_method_54_code 4 = .ok (.arraylength, 1) := by decide +kernel
theorem d38_5 : decode jdk_42_method_54_code 5 = .ok (.aload_n 0, 1) := by decide +kernel
theorem d38_6 : decode jdk_42_method_54_code 6 = .ok (.invokevirtual 335, 3) := by decide +kernel
theorem d38_9 : decode jdk_42_method_54_code 9 = .ok (.ishr, 1) := by decide +kernel
theorem d38_10 : decode jdk_42_method_54_code 10 = .ok (.ireturn, 1) := by decide +kernel
theorem d39_0 : decode jdk_42_method_152_code 0 = .ok (.getstatic 38, 3) := by decide +kernel
theorem d39_3 : decode jdk_42_method_152_code 3 = .ok (.ifCond .eq 10, 3) := by decide +kernel
theorem d39_6 : decode jdk_42_method_152_code 6 = .ok (.aload_n 0, 1) := by decide +kernel
theorem d39_7 : decode jdk_42_method_152_code 7 = .ok (.getfield 15, 3) := by decide +kernel
theorem d39_10 : decode jdk_42_method_152_code 10 = .ok (.goto 4, 3) := by decide +kernel
theorem d39_13 : decode jdk_42_method_152_code 13 = .ok (.iconst 1, 1) := by decide +kernel
theorem d39_14 : decode jdk_42_method_152_code 14 = .ok (.ireturn, 1) := by decide +kernel
theorem d40_0 : decode jdk_42_method_56_code 0 = .ok (.aload_n 0, 1) := by decide +kernel
theorem d40_1 : decode jdk_42_method_56_code 1 = .ok (.invokevirtual 492, 3) := by decide +kernel
theorem d40_4 : decode jdk_42_method_56_code 4 = .ok (.ifCond .eq 12, 3) := by decide +kernel
theorem d40_7 : decode jdk_42_method_56_code 7 = .ok (.aload_n 0, 1) := by decide +kernel
theorem d40_8 : decode jdk_42_method_56_code 8 = .ok (.getfield 9, 3) := by decide +kernel
theorem d40_11 : decode jdk_42_method_56_code 11 = .ok (.iload_n 1, 1) := by decide +kernel
theorem d40_12 : decode jdk_42_method_56_code 12 = .ok (.invokestatic 495, 3) := by decide +kernel
theorem d40_15 : decode jdk_42_method_56_code 15 = .ok (.ireturn, 1) := by decide +kernel
theorem d40_16 : decode jdk_42_method_56_code 16 = .ok (.aload_n 0, 1) := by decide +kernel
theorem d40_17 : decode jdk_42_method_56_code 17 = .ok (.getfield 9, 3) := by decide +kernel
theorem d40_20 : decode jdk_42_method_56_code 20 = .ok (.iload_n 1, 1) := by decide +kernel
theorem d40_21 : decode jdk_42_method_56_code 21 = .ok (.invokestatic 498, 3) := by decide +kernel
theorem d40_24 : decode jdk_42_method_56_code 24 = .ok (.ireturn, 1) := by decide +kernel
theorem d41_0 : decode jdk_42_method_154_code 0 = .ok (.getstatic 38, 3) := by decide +kernel
theorem d41_3 : decode jdk_42_method_154_code 3 = .ok (.ifCond .eq 14, 3) := by decide +kernel
theorem d41_6 : decode jdk_42_method_154_code 6 = .ok (.aload_n 0, 1) := by decide +kernel
theorem d41_7 : decode jdk_42_method_154_code 7 = .ok (.getfield 15, 3) := by decide +kernel
theorem d41_10 : decode jdk_42_method_154_code 10 = .ok (.ifCond .ne 7, 3) := by decide +kernel
theorem d41_13 : decode jdk_42_method_154_code 13 = .ok (.iconst 1, 1) := by decide +kernel
theorem d41_14 : decode jdk_42_method_154_code 14 = .ok (.goto 4, 3) := by decide +kernel
theorem d41_17 : decode jdk_42_method_154_code 17 = .ok (.iconst 0, 1) := by decide +kernel
theorem d41_18 : decode jdk_42_method_154_code 18 = .ok (.ireturn, 1) := by decide +kernel
theorem d42_0 : decode jdk_43_method_2_code 0 = .ok (.iload_n 1, 1) := by decide +kernel
theorem d42_1 : decode jdk_43_method_2_code 1 = .ok (.aload_n 0, 1) := by decide +kernel
theorem d42_2 : decode jdk_43_method_2_code 2 = .ok (.arraylength, 1) := by decide +kernel
theorem d42_3 : decode jdk_43_method_2_code 3 = .ok (.invokestatic 9, 3) := by decide +kernel
theorem d42_6 : decode jdk_43_method_2_code 6 = .ok (.aload_n 0, 1) := by decide +kernel
theorem d42_7 : decode jdk_43_method_2_code 7 = .ok (.iload_n 1, 1) := by decide +kernel
theorem d42_8 : decode jdk_43_method_2_code 8 = .ok (.baload, 1) := by decide +kernel
theorem d42_9 : decode jdk_43_method_2_code 9 = .ok (.sipush 255, 3) := by decide +kernel
theorem d42_12 : decode jdk_43_method_2_code 12 = .ok (.iand, 1) := by decide +kernel
theorem d42_13 : decode jdk_43_method_2_code 13 = .ok (.i2c, 1) := by decide +kernel
theorem d42_14 : decode jdk_43_method_2_code 14 = .ok (.ireturn, 1) := by decide +kernel
theorem d43_0 : decode jdk_42_method_155_code 0 = .ok (.iload_n 0, 1) := by decide +kernel
theorem d43_1 : decode jdk_42_method_155_code 1 = .ok (.iload_n 1, 1) := by decide +kernel
theorem d43_2 : decode jdk_42_method_155_code 2 = .ok (.getstatic 1053, 3) := by decide +kernel
theorem d43_5 : decode jdk_42_method_155_code 5 = .ok (.invokestatic 1059, 3) := by decide +kernel
theorem d43_8 : decode jdk_42_method_155_code 8 = .ok (.pop, 1) := by decide +kernel
theorem d43_9 : decode jdk_42_method_155_code 9 = .ok (.return_, 1) := by decide +kernel
theorem d44_0 : decode jdk_41_method_11_code 0 = .ok (.iload_n 0, 1) := by decide +kernel
theorem d44_1 : decode jdk_41_method_11_code 1 = .ok (.ifCond .lt 8, 3) := by decide +kernel
theorem d44_4 : decode jdk_41_method_11_code 4 = .ok (.iload_n 0, 1) := by decide +kernel
theorem d44_5 : decode jdk_41_method_11_code 5 = .ok (.iload_n 1, 1) := by decide +kernel
theorem d44_6 : decode jdk_41_method_11_code 6 = .ok (.if_icmp .lt 10, 3) := by decide +kernel
theorem d44_9 : decode jdk_41_method_11_code 9 = .ok (.aload_n 2, 1) := by decide +kernel
theorem d44_10 : decode jdk_41_method_11_code 10 = .ok (.iload_n 0, 1) := by decide +kernel
theorem d44_11 : decode jdk_41_method_11_code 11 = .ok (.iload_n 1, 1) := by decide +kernel
theorem d44_12 : decode jdk_41_method_11_code 12 = .ok (.invokestatic 95, 3) := by decide +kernel
theorem d44_15 : decode jdk_41_method_11_code 15 = .ok (.athrow, 1) := by decide +kernel
theorem d44_16 : decode jdk_41_method_11_code 16 = .ok (.iload_n 0, 1) := by decide +kernel
theorem d44_17 : decode jdk_41_method_11_code 17 = .ok (.ireturn, 1) := by decide +kernel
theorem d45_0 : decode method_3_code 0 = .ok (.iload_n 0, 1) := by decide +kernel
theorem d45_1 : decode method_3_code 1 = .ok (.iconst 1, 1) := by decide +kernel
theorem d45_2 : decode method_3_code 2 = .ok (.if_icmp .gt 5, 3) := by decide +kernel
theorem d45_5 : decode method_3_code 5 = .ok (.iconst 1, 1) := by decide +kernel
theorem d45_6 : decode method_3_code 6 = .ok (.ireturn, 1) := by decide +kernel
theorem d45_7 : decode method_3_code 7 = .ok (.iload_n 0, 1) := by decide +kernel
theorem d45_8 : decode method_3_code 8 = .ok (.iconst 2, 1) := by decide +kernel
theorem d45_9 : decode method_3_code 9 = .ok (.if_icmp .ne 6, 3) := by decide +kernel
theorem d45_12 : decode method_3_code 12 = .ok (.bipush 10, 2) := by decide +kernel
theorem d45_14 : decode method_3_code 14 = .ok (.ireturn, 1) := by decide +kernel
theorem d45_15 : decode method_3_code 15 = .ok (.iload_n 0, 1) := by decide +kernel
theorem d45_16 : decode method_3_code 16 = .ok (.iconst 3, 1) := by decide +kernel
theorem d45_17 : decode method_3_code 17 = .ok (.if_icmp .ne 6, 3) := by decide +kernel
theorem d45_20 : decode method_3_code 20 = .ok (.bipush 100, 2) := by decide +kernel
theorem d45_22 : decode method_3_code 22 = .ok (.ireturn, 1) := by decide +kernel
theorem d45_23 : decode method_3_code 23 = .ok (.iload_n 0, 1) := by decide +kernel
theorem d45_24 : decode method_3_code 24 = .ok (.iconst 4, 1) := by decide +kernel
theorem d45_25 : decode method_3_code 25 = .ok (.if_icmp .ne 7, 3) := by decide +kernel
theorem d45_28 : decode method_3_code 28 = .ok (.sipush 1000, 3) := by decide +kernel
theorem d45_31 : decode method_3_code 31 = .ok (.ireturn, 1) := by decide +kernel
theorem d45_32 : decode method_3_code 32 = .ok (.iload_n 0, 1) := by decide +kernel
theorem d45_33 : decode method_3_code 33 = .ok (.iconst 5, 1) := by decide +kernel
theorem d45_34 : decode method_3_code 34 = .ok (.if_icmp .ne 7, 3) := by decide +kernel
theorem d45_37 : decode method_3_code 37 = .ok (.sipush 10000, 3) := by decide +kernel
theorem d45_40 : decode method_3_code 40 = .ok (.ireturn, 1) := by decide +kernel
theorem d45_41 : decode method_3_code 41 = .ok (.iload_n 0, 1) := by decide +kernel
theorem d45_42 : decode method_3_code 42 = .ok (.bipush 6, 2) := by decide +kernel
theorem d45_44 : decode method_3_code 44 = .ok (.if_icmp .ne 6, 3) := by decide +kernel
theorem d45_47 : decode method_3_code 47 = .ok (.ldc 7, 2) := by decide +kernel
theorem d45_49 : decode method_3_code 49 = .ok (.ireturn, 1) := by decide +kernel
theorem d45_50 : decode method_3_code 50 = .ok (.iload_n 0, 1) := by decide +kernel
theorem d45_51 : decode method_3_code 51 = .ok (.bipush 7, 2) := by decide +kernel
theorem d45_53 : decode method_3_code 53 = .ok (.if_icmp .ne 6, 3) := by decide +kernel
theorem d45_56 : decode method_3_code 56 = .ok (.ldc 8, 2) := by decide +kernel
theorem d45_58 : decode method_3_code 58 = .ok (.ireturn, 1) := by decide +kernel
theorem d45_59 : decode method_3_code 59 = .ok (.iload_n 0, 1) := by decide +kernel
theorem d45_60 : decode method_3_code 60 = .ok (.bipush 8, 2) := by decide +kernel
theorem d45_62 : decode method_3_code 62 = .ok (.if_icmp .ne 6, 3) := by decide +kernel
theorem d45_65 : decode method_3_code 65 = .ok (.ldc 9, 2) := by decide +kernel
theorem d45_67 : decode method_3_code 67 = .ok (.ireturn, 1) := by decide +kernel
theorem d45_68 : decode method_3_code 68 = .ok (.iload_n 0, 1) := by decide +kernel
theorem d45_69 : decode method_3_code 69 = .ok (.bipush 9, 2) := by decide +kernel
theorem d45_71 : decode method_3_code 71 = .ok (.if_icmp .ne 6, 3) := by decide +kernel
theorem d45_74 : decode method_3_code 74 = .ok (.ldc 10, 2) := by decide +kernel
theorem d45_76 : decode method_3_code 76 = .ok (.ireturn, 1) := by decide +kernel
theorem d45_77 : decode method_3_code 77 = .ok (.ldc 11, 2) := by decide +kernel
theorem d45_79 : decode method_3_code 79 = .ok (.ireturn, 1) := by decide +kernel
theorem d46_0 : decode jdk_33_method_23_code 0 = .ok (.aload_n 0, 1) := by decide +kernel
theorem d46_1 : decode jdk_33_method_23_code 1 = .ok (.invokespecial 202, 3) := by decide +kernel
theorem d46_4 : decode jdk_33_method_23_code 4 = .ok (.aload_n 0, 1) := by decide +kernel
theorem d46_5 : decode jdk_33_method_23_code 5 = .ok (.iload_n 1, 1) := by decide +kernel
theorem d46_6 : decode jdk_33_method_23_code 6 = .ok (.putfield 205, 3) := by decide +kernel
theorem d46_9 : decode jdk_33_method_23_code 9 = .ok (.return_, 1) := by decide +kernel
theorem d47_0 : decode jdk_18_method_1_code 0 = .ok (.aload_n 0, 1) := by decide +kernel
theorem d47_1 : decode jdk_18_method_1_code 1 = .ok (.invokespecial 1, 3) := by decide +kernel
theorem d47_4 : decode jdk_18_method_1_code 4 = .ok (.return_, 1) := by decide +kernel
theorem d48_0 : decode jdk_37_method_8_code 0 = .ok (.aload_n 1, 1) := by decide +kernel
theorem d48_1 : decode jdk_37_method_8_code 1 = .ok (.astore_n 2, 1) := by decide +kernel
theorem d48_2 : decode jdk_37_method_8_code 2 = .ok (.aload_n 0, 1) := by decide +kernel
theorem d48_3 : decode jdk_37_method_8_code 3 = .ok (.astore_n 3, 1) := by decide +kernel
theorem d48_4 : decode jdk_37_method_8_code 4 = .ok (.aload_n 3, 1) := by decide +kernel
theorem d48_5 : decode jdk_37_method_8_code 5 = .ok (.invokevirtual 29, 3) := by decide +kernel
theorem d48_8 : decode jdk_37_method_8_code 8 = .ok (.aload_n 2, 1) := by decide +kernel
theorem d48_9 : decode jdk_37_method_8_code 9 = .ok (.invokevirtual 29, 3) := by decide +kernel
theorem d48_12 : decode jdk_37_method_8_code 12 = .ok (.if_acmp .eq 22, 3) := by decide +kernel
theorem d48_15 : decode jdk_37_method_8_code 15 = .ok (.aload_n 3, 1) := by decide +kernel
theorem d48_16 : decode jdk_37_method_8_code 16 = .ok (.invokevirtual 33, 3) := by decide +kernel
theorem d48_19 : decode jdk_37_method_8_code 19 = .ok (.aload_n 2, 1) := by decide +kernel
theorem d48_20 : decode jdk_37_method_8_code 20 = .ok (.invokevirtual 33, 3) := by decide +kernel
theorem d48_23 : decode jdk_37_method_8_code 23 = .ok (.if_acmp .eq 11, 3) := by decide +kernel
theorem d48_26 : decode jdk_37_method_8_code 26 = .ok (.new 36, 3) := by decide +kernel
theorem d48_29 : decode jdk_37_method_8_code 29 = .ok (.dup, 1) := by decide +kernel
theorem d48_30 : decode jdk_37_method_8_code 30 = .ok (.invokespecial 38, 3) := by decide +kernel
theorem d48_33 : decode jdk_37_method_8_code 33 = .ok (.athrow, 1) := by decide +kernel
theorem d48_34 : decode jdk_37_method_8_code 34 = .ok (.aload_n 3, 1) := by decide +kernel
theorem d48_35 : decode jdk_37_method_8_code 35 = .ok (.getfield 7, 3) := by decide +kernel
theorem d48_38 : decode jdk_37_method_8_code 38 = .ok (.aload_n 2, 1) := by decide +kernel
theorem d48_39 : decode jdk_37_method_8_code 39 = .ok (.getfield 7, 3) := by decide +kernel
theorem d48_42 : decode jdk_37_method_8_code 42 = .ok (.isub, 1) := by decide +kernel
theorem d48_43 : decode jdk_37_method_8_code 43 = .ok (.ireturn, 1) := by decide +kernel
theorem d49_0 : decode jdk_53_method_4_code 0 = .ok (.aload_n 0, 1) := by decide +kernel
theorem d49_1 : decode jdk_53_method_4_code 1 = .ok (.getfield 17, 3) := by decide +kernel
theorem d49_4 : decode jdk_53_method_4_code 4 = .ok (.istore_n 1, 1) := by decide +kernel
theorem d49_5 : decode jdk_53_method_4_code 5 = .ok (.aload_n 0, 1) := by decide +kernel
theorem d49_6 : decode jdk_53_method_4_code 6 = .ok (.getfield 7, 3) := by decide +kernel
theorem d49_9 : decode jdk_53_method_4_code 9 = .ok (.iload_n 1, 1) := by decide +kernel
theorem d49_10 : decode jdk_53_method_4_code 10 = .ok (.invokeinterface 24 2, 5) := by decide +kernel
theorem d49_15 : decode jdk_53_method_4_code 15 = .ok (.astore_n 2, 1) := by decide +kernel
theorem d49_16 : decode jdk_53_method_4_code 16 = .ok (.aload_n 0, 1) := by decide +kernel
theorem d49_17 : decode jdk_53_method_4_code 17 = .ok (.iload_n 1, 1) := by decide +kernel
theorem d49_18 : decode jdk_53_method_4_code 18 = .ok (.iconst 1, 1) := by decide +kernel
theorem d49_19 : decode jdk_53_method_4_code 19 = .ok (.iadd, 1) := by decide +kernel
theorem d49_20 : decode jdk_53_method_4_code 20 = .ok (.putfield 17, 3) := by decide +kernel
theorem d49_23 : decode jdk_53_method_4_code 23 = .ok (.aload_n 2, 1) := by decide +kernel
theorem d49_24 : decode jdk_53_method_4_code 24 = .ok (.areturn, 1) := by decide +kernel
theorem pd1 : parseMethodDescriptor "(II)Z" = some ⟨[.int, .int], some .boolean⟩ := by decide +kernel
theorem pd2 : parseMethodDescriptor "(II)I" = some ⟨[.int, .int], some .int⟩ := by decide +kernel
theorem pd3 : parseMethodDescriptor "(I)Lcom/example/provenans/provenans/model/Notation;" = some ⟨[.int], (some (.object "com/example/provenans/provenans/model/Notation"))⟩ := by decide +kernel
theorem pd4 : parseMethodDescriptor "(I)I" = some ⟨[.int], some .int⟩ := by decide +kernel
theorem pd5 : parseMethodDescriptor "(I)Ljava/lang/Integer;" = some ⟨[.int], (some (.object "java/lang/Integer"))⟩ := by decide +kernel
theorem pd6 : parseMethodDescriptor "(Ljava/lang/Object;)Ljava/util/List;" = some ⟨[(.object "java/lang/Object")], (some (.object "java/util/List"))⟩ := by decide +kernel
theorem pd7 : parseMethodDescriptor "(Ljava/lang/Object;)V" = some ⟨[(.object "java/lang/Object")], none⟩ := by decide +kernel
theorem pd8 : parseMethodDescriptor "()V" = some ⟨[], none⟩ := by decide +kernel
theorem pd9 : parseMethodDescriptor "(Ljava/lang/Object;)Ljava/lang/Object;" = some ⟨[(.object "java/lang/Object")], (some (.object "java/lang/Object"))⟩ := by decide +kernel
theorem pd10 : parseMethodDescriptor "(Ljava/util/List;Lcom/example/provenans/provenans/model/Notation$Level;I)V" = some ⟨[(.object "java/util/List"), (.object "com/example/provenans/provenans/model/Notation$Level"), .int], none⟩ := by decide +kernel
theorem pd11 : parseMethodDescriptor "()Lcom/example/provenans/provenans/model/Notation$Level;" = some ⟨[], (some (.object "com/example/provenans/provenans/model/Notation$Level"))⟩ := by decide +kernel
theorem pd12 : parseMethodDescriptor "()I" = some ⟨[], some .int⟩ := by decide +kernel
theorem pd13 : parseMethodDescriptor "()Lcom/example/provenans/provenans/model/Notation;" = some ⟨[], (some (.object "com/example/provenans/provenans/model/Notation"))⟩ := by decide +kernel
theorem pd14 : parseMethodDescriptor "(Ljava/lang/Object;)Z" = some ⟨[(.object "java/lang/Object")], some .boolean⟩ := by decide +kernel
theorem pd15 : parseMethodDescriptor "()Ljava/util/Iterator;" = some ⟨[], (some (.object "java/util/Iterator"))⟩ := by decide +kernel
theorem pd16 : parseMethodDescriptor "(Ljava/util/List;I)V" = some ⟨[(.object "java/util/List"), .int], none⟩ := by decide +kernel
theorem pd17 : parseMethodDescriptor "()Z" = some ⟨[], some .boolean⟩ := by decide +kernel
theorem pd18 : parseMethodDescriptor "(I)Ljava/lang/Object;" = some ⟨[.int], (some (.object "java/lang/Object"))⟩ := by decide +kernel
theorem pd19 : parseMethodDescriptor "(Ljava/lang/Object;Ljava/lang/Object;)Z" = some ⟨[(.object "java/lang/Object"), (.object "java/lang/Object")], some .boolean⟩ := by decide +kernel
theorem pd20 : parseMethodDescriptor "(Lcom/example/provenans/provenans/model/Notation;)I" = some ⟨[(.object "com/example/provenans/provenans/model/Notation")], some .int⟩ := by decide +kernel
theorem pd21 : parseMethodDescriptor "()Ljava/lang/String;" = some ⟨[], (some (.object "java/lang/String"))⟩ := by decide +kernel
theorem pd22 : parseMethodDescriptor "(Ljava/lang/Object;)Ljava/lang/String;" = some ⟨[(.object "java/lang/Object")], (some (.object "java/lang/String"))⟩ := by decide +kernel
theorem pd23 : parseMethodDescriptor "(I)Ljava/lang/String;" = some ⟨[.int], (some (.object "java/lang/String"))⟩ := by decide +kernel
theorem pd24 : parseMethodDescriptor "(II[B)I" = some ⟨[.int, .int, (.array .byte)], some .int⟩ := by decide +kernel
theorem pd25 : parseMethodDescriptor "([BB)V" = some ⟨[(.array .byte), .byte], none⟩ := by decide +kernel
theorem pd26 : parseMethodDescriptor "()B" = some ⟨[], some .byte⟩ := by decide +kernel
theorem pd27 : parseMethodDescriptor "(I)C" = some ⟨[.int], some .char⟩ := by decide +kernel
theorem pd28 : parseMethodDescriptor "([BI)C" = some ⟨[(.array .byte), .int], some .char⟩ := by decide +kernel
theorem pd29 : parseMethodDescriptor "(II)V" = some ⟨[.int, .int], none⟩ := by decide +kernel
theorem pd30 : parseMethodDescriptor "(IILjava/util/function/BiFunction;)I" = some ⟨[.int, .int, (.object "java/util/function/BiFunction")], some .int⟩ := by decide +kernel
theorem pd31 : parseMethodDescriptor "(I)V" = some ⟨[.int], none⟩ := by decide +kernel
theorem pd32 : parseMethodDescriptor "(Ljava/lang/Enum;)I" = some ⟨[(.object "java/lang/Enum")], some .int⟩ := by decide +kernel
theorem pd33 : parseMethodDescriptor "()Ljava/lang/Object;" = some ⟨[], (some (.object "java/lang/Object"))⟩ := by decide +kernel
theorem own_lt_asymm {a b : Int32} (h : a < b) : ¬ b < a := by rw [Int32.lt_iff_toInt_lt] at *; omega
def Q1 (Z : State) (y : Int32) (h0 : Heap) (n0 : Nat) (v : Option Value) (h : Heap) (L : List Loc) : Prop := (∃ r, ¬ r < 1 ∧ v = some (.int r)) ∧ Fr n0 L ∧ h0 = h
set_option maxRecDepth 65536 in
set_option maxHeartbeats 40000000 in
theorem rm1 (l : Launch) (Z : State) (a0 : Array Value) (hw : ∀ d ∈ tables_1, d.before a0 Z = true) (ws : List Jvm.Cond) (y : Int32) (h0 : Heap) (n0 : Nat) (Z0 : n0 ≤ h0.size)  :
    MetFree l (⟨"java/lang/Math", "max", "(II)I"⟩ : MethodName) (head1 (Jvm.Cond.code (⟨"java/lang/Math", "max", "(II)I"⟩ : MethodName) jdk_29_method_65_code 2 (some .int) :: ws) ({ frames := 0, cells := 0, slots := 0, locals := 0 } : Room)) (fun aa_ U => aa_ = #[(.int (1 : Int32)), (.int y)] ∧ Z.Warmed39 U.vm ∧ U.heap = h0) (fun _ _ _ _ _ => True) (fun _ U o U' => ∃ v L, o = .returned v ∧ Q1 Z y h0 n0 v U'.heap L ∧ FrameEnd U o U' L ({ frames := 0, cells := 0, slots := 0, locals := 0 } : Room).cells ({ frames := 0, cells := 0, slots := 0, locals := 0 } : Room).slots) := by
  refine MetFree.of_bodySF (Jvm.Free.JP.mathPlain rfl (by decide +kernel)) hisR ?_
  intro p e s m args below meth c s₁ Bd hml0 hP hK
  obtain ⟨rfl, hZ, hh⟩ := hP
  have hx := Bd.exec
  have hby := Bd.bytes
  have hml : c.maxLocals = 2 := hml0
  have hown : s.vm.findClass "java/lang/Math" = some m.cls := findClass_of_methodNamed Bd.named
  have hnm := (name_of_methodNamed Bd.named Bd.method).1
  have X0 : Stand p l e ({ frames := 0, cells := 0, slots := 0, locals := 0 } : Room) s m #[(.int (1 : Int32)), (.int y)] below meth c s₁ [] 0 0 := Stand.of_body Bd
  have e0 : s₁.heap = h0 := by rw [← hh, Bd.state]; rfl
  have N0 := Fr.nil n0
  obtain ⟨G, hG⟩ : ∃ G, G = entryFrame m #[(.int (1 : Int32)), (.int y)] 2 := ⟨_, rfl⟩
  have S0 : own_Go p e below s₁ G s₁ (mkF m 0 #[.val (.int (1 : Int32)), .val (.int y)] []) := fun tg_ kk_ => castTop (by rw [hG]; first | rfl | simp [entryFrame, mkF, argsToLocals, Value.category, maxLocals]) kk_
  have S1 : own_Go p e below s₁ G s₁ (mkF m 2 #[.val (.int (1 : Int32)), .val (.int y)] [(.int y), (.int (1 : Int32))]) := fun tg_ kk_ => S0 tg_ (by
    refine XS.iloadN X0.here hx rfl (hb hby d1_0) rfl ?_
    show Steps p.tables e below (s₁.setTop (mkF m 1 #[.val (.int (1 : Int32)), .val (.int y)] [(.int (1 : Int32))])) _
    refine XS.iloadN X0.here hx rfl (hb hby d1_1) rfl ?_
    exact kk_)
  by_cases hc2 : (1 : Int32) < y
  · have _ := N0
    have S3 : own_Go p e below s₁ G s₁ (mkF m 10 #[.val (.int (1 : Int32)), .val (.int y)] [(.int y)]) := fun tg_ kk_ => S1 tg_ (by
      refine XS.icmpYes X0.here hx rfl (pc0 := 2) (pc' := 9) rfl (hb hby d1_2) rfl (XT.ii_lt_t hc2) (by decide) (by decide) ?_
      show Steps p.tables e below (s₁.setTop (mkF m 9 #[.val (.int (1 : Int32)), .val (.int y)] [])) _
      refine XS.iloadN X0.here hx rfl (hb hby d1_9) rfl ?_
      exact kk_)
    obtain ⟨fs, hr, hrun, hended, hW, hsame⟩ := X0.leave (v := some (.int y)) (fun h => by rw [Bd.returns] at h; cases h)
    refine ⟨_, _, ?_, hrun, hended, _, _, rfl, ?_, ⟨_, rfl⟩, hW, hsame.mono (by decide) (by decide)⟩
    · rw [← hG]; exact S3 _ (retI X0 hx Bd.returns (hb hby d1_10) hr)
    · show Q1 Z y h0 n0 _ s₁.heap _
      rw [e0]
      exact ⟨⟨_, fun q => absurd q (own_lt_asymm hc2), rfl⟩, N0, rfl⟩
  · have _ := N0
    have S4 : own_Go p e below s₁ G s₁ (mkF m 10 #[.val (.int (1 : Int32)), .val (.int y)] [(.int (1 : Int32))]) := fun tg_ kk_ => S1 tg_ (by
      refine XS.icmpNo X0.here hx rfl (hb hby d1_2) rfl (XT.ii_lt_f hc2) ?_
      show Steps p.tables e below (s₁.setTop (mkF m 5 #[.val (.int (1 : Int32)), .val (.int y)] [])) _
      refine XS.iloadN X0.here hx rfl (hb hby d1_5) rfl ?_
      show Steps p.tables e below (s₁.setTop (mkF m 6 #[.val (.int (1 : Int32)), .val (.int y)] [(.int (1 : Int32))])) _
      refine XS.goto X0.here hx rfl (pc0 := 6) (pc' := 10) rfl (hb hby d1_6) (by decide) (by decide) ?_
      exact kk_)
    obtain ⟨fs, hr, hrun, hended, hW, hsame⟩ := X0.leave (v := some (.int (1 : Int32))) (fun h => by rw [Bd.returns] at h; cases h)
    refine ⟨_, _, ?_, hrun, hended, _, _, rfl, ?_, ⟨_, rfl⟩, hW, hsame.mono (by decide) (by decide)⟩
    · rw [← hG]; exact S4 _ (retI X0 hx Bd.returns (hb hby d1_10) hr)
    · show Q1 Z y h0 n0 _ s₁.heap _
      rw [e0]
      exact ⟨⟨_, by decide, rfl⟩, N0, rfl⟩
def Q28 (Z : State)  (h0 : Heap) (n0 : Nat) (v : Option Value) (h : Heap) (L : List Loc) : Prop := v = some (.int 1) ∧ Fr n0 L ∧ h0 = h
set_option maxRecDepth 65536 in
set_option maxHeartbeats 40000000 in
theorem rm28 (l : Launch) (Z : State) (a0 : Array Value) (hw : ∀ d ∈ tables_1, d.before a0 Z = true) (ws : List Jvm.Cond)  (h0 : Heap) (n0 : Nat) (Z0 : n0 ≤ h0.size)  :
    MetFree l (⟨"java/lang/Math", "min", "(II)I"⟩ : MethodName) (head1 (Jvm.Cond.code (⟨"java/lang/Math", "min", "(II)I"⟩ : MethodName) jdk_29_method_69_code 2 (some .int) :: ws) ({ frames := 0, cells := 0, slots := 0, locals := 0 } : Room)) (fun aa_ U => aa_ = #[(.int (1 : Int32)), (.int (1 : Int32))] ∧ Z.Warmed39 U.vm ∧ U.heap = h0) (fun _ _ _ _ _ => True) (fun _ U o U' => ∃ v L, o = .returned v ∧ Q28 Z h0 n0 v U'.heap L ∧ FrameEnd U o U' L ({ frames := 0, cells := 0, slots := 0, locals := 0 } : Room).cells ({ frames := 0, cells := 0, slots := 0, locals := 0 } : Room).slots) := by
  refine MetFree.of_bodySF (Jvm.Free.JP.mathPlain rfl (by decide +kernel)) hisR ?_
  intro p e s m args below meth c s₁ Bd hml0 hP hK
  obtain ⟨rfl, hZ, hh⟩ := hP
  have hx := Bd.exec
  have hby := Bd.bytes
  have hml : c.maxLocals = 2 := hml0
  have hown : s.vm.findClass "java/lang/Math" = some m.cls := findClass_of_methodNamed Bd.named
  have hnm := (name_of_methodNamed Bd.named Bd.method).1
  have X0 : Stand p l e ({ frames := 0, cells := 0, slots := 0, locals := 0 } : Room) s m #[(.int (1 : Int32)), (.int (1 : Int32))] below meth c s₁ [] 0 0 := Stand.of_body Bd
  have e0 : s₁.heap = h0 := by rw [← hh, Bd.state]; rfl
  have N0 := Fr.nil n0
  obtain ⟨G, hG⟩ : ∃ G, G = entryFrame m #[(.int (1 : Int32)), (.int (1 : Int32))] 2 := ⟨_, rfl⟩
  have S0 : own_Go p e below s₁ G s₁ (mkF m 0 #[.val (.int (1 : Int32)), .val (.int (1 : Int32))] []) := fun tg_ kk_ => castTop (by rw [hG]; first | rfl | simp [entryFrame, mkF, argsToLocals, Value.category, maxLocals]) kk_
  have S5 : own_Go p e below s₁ G s₁ (mkF m 10 #[.val (.int (1 : Int32)), .val (.int (1 : Int32))] [(.int (1 : Int32))]) := fun tg_ kk_ => S0 tg_ (by
    refine XS.iloadN X0.here hx rfl (hb hby d28_0) rfl ?_
    show Steps p.tables e below (s₁.setTop (mkF m 1 #[.val (.int (1 : Int32)), .val (.int (1 : Int32))] [(.int (1 : Int32))])) _
    refine XS.iloadN X0.here hx rfl (hb hby d28_1) rfl ?_
    show Steps p.tables e below (s₁.setTop (mkF m 2 #[.val (.int (1 : Int32)), .val (.int (1 : Int32))] [(.int (1 : Int32)), (.int (1 : Int32))])) _
    refine XS.icmpNo X0.here hx rfl (hb hby d28_2) rfl (XT.ii_gt_f (by decide)) ?_
    show Steps p.tables e below (s₁.setTop (mkF m 5 #[.val (.int (1 : Int32)), .val (.int (1 : Int32))] [])) _
    refine XS.iloadN X0.here hx rfl (hb hby d28_5) rfl ?_
    show Steps p.tables e below (s₁.setTop (mkF m 6 #[.val (.int (1 : Int32)), .val (.int (1 : Int32))] [(.int (1 : Int32))])) _
    refine XS.goto X0.here hx rfl (pc0 := 6) (pc' := 10) rfl (hb hby d28_6) (by decide) (by decide) ?_
    exact kk_)
  obtain ⟨fs, hr, hrun, hended, hW, hsame⟩ := X0.leave (v := some (.int (1 : Int32))) (fun h => by rw [Bd.returns] at h; cases h)
  refine ⟨_, _, ?_, hrun, hended, _, _, rfl, ?_, ⟨_, rfl⟩, hW, hsame.mono (by decide) (by decide)⟩
  · rw [← hG]; exact S5 _ (retI X0 hx Bd.returns (hb hby d28_10) hr)
  · show Q28 Z h0 n0 _ s₁.heap _
    rw [e0]
    exact ⟨rfl, N0, rfl⟩
theorem pn1 : plainName "com/example/provenans/provenans/model/Notation" = true := by first | (simp [plainName, overriddenIn]; done) | decide +kernel
def Q3 (Z : State) (y : Int32) (h0 : Heap) (n0 : Nat) (v : Option Value) (h : Heap) (L : List Loc) : Prop := v = some (.int y) ∧ Fr n0 L ∧ h0 = h
set_option maxRecDepth 65536 in
set_option maxHeartbeats 40000000 in
theorem rm3 (l : Launch) (Z : State) (a0 : Array Value) (hw : ∀ d ∈ tables_1, d.before a0 Z = true) (ws : List Jvm.Cond) (y : Int32) (h0 : Heap) (n0 : Nat) (Z0 : n0 ≤ h0.size) (hy : ¬ y < 1) :
    MetFree l (⟨"com/example/provenans/provenans/model/Notation", "positive", "(I)I"⟩ : MethodName) (head1 (Jvm.Cond.code (⟨"com/example/provenans/provenans/model/Notation", "positive", "(I)I"⟩ : MethodName) prog_57_method_11_code 1 (some .int) :: ws) ({ frames := 0, cells := 0, slots := 0, locals := 0 } : Room)) (fun aa_ U => aa_ = #[(.int y)] ∧ Z.Warmed39 U.vm ∧ U.heap = h0) (fun _ _ _ _ _ => True) (fun _ U o U' => ∃ v L, o = .returned v ∧ Q3 Z y h0 n0 v U'.heap L ∧ FrameEnd U o U' L ({ frames := 0, cells := 0, slots := 0, locals := 0 } : Room).cells ({ frames := 0, cells := 0, slots := 0, locals := 0 } : Room).slots) := by
  refine MetFree.of_bodySF (plainFor_of_name pn1) hisR ?_
  intro p e s m args below meth c s₁ Bd hml0 hP hK
  obtain ⟨rfl, hZ, hh⟩ := hP
  have hx := Bd.exec
  have hby := Bd.bytes
  have hml : c.maxLocals = 1 := hml0
  have hown : s.vm.findClass "com/example/provenans/provenans/model/Notation" = some m.cls := findClass_of_methodNamed Bd.named
  have hnm := (name_of_methodNamed Bd.named Bd.method).1
  have X0 : Stand p l e ({ frames := 0, cells := 0, slots := 0, locals := 0 } : Room) s m #[(.int y)] below meth c s₁ [] 0 0 := Stand.of_body Bd
  have e0 : s₁.heap = h0 := by rw [← hh, Bd.state]; rfl
  have N0 := Fr.nil n0
  obtain ⟨G, hG⟩ : ∃ G, G = entryFrame m #[(.int y)] 1 := ⟨_, rfl⟩
  have S0 : own_Go p e below s₁ G s₁ (mkF m 0 #[.val (.int y)] []) := fun tg_ kk_ => castTop (by rw [hG]; first | rfl | simp [entryFrame, mkF, argsToLocals, Value.category, maxLocals]) kk_
  have S6 : own_Go p e below s₁ G s₁ (mkF m 20 #[.val (.int y)] [(.int y)]) := fun tg_ kk_ => S0 tg_ (by
    refine XS.iloadN X0.here hx rfl (hb hby d3_0) rfl ?_
    show Steps p.tables e below (s₁.setTop (mkF m 1 #[.val (.int y)] [(.int y)])) _
    refine XS.iconst X0.here hx rfl (hb hby d3_1) ?_
    show Steps p.tables e below (s₁.setTop (mkF m 2 #[.val (.int y)] [(.int (1 : Int32)), (.int y)])) _
    refine XS.icmpYes X0.here hx rfl (pc0 := 2) (pc' := 19) rfl (hb hby d3_2) rfl (XT.ii_ge_t hy) (by decide) (by decide) ?_
    show Steps p.tables e below (s₁.setTop (mkF m 19 #[.val (.int y)] [])) _
    refine XS.iloadN X0.here hx rfl (hb hby d3_19) rfl ?_
    exact kk_)
  obtain ⟨fs, hr, hrun, hended, hW, hsame⟩ := X0.leave (v := some (.int y)) (fun h => by rw [Bd.returns] at h; cases h)
  refine ⟨_, _, ?_, hrun, hended, _, _, rfl, ?_, ⟨_, rfl⟩, hW, hsame.mono (by decide) (by decide)⟩
  · rw [← hG]; exact S6 _ (retI X0 hx Bd.returns (hb hby d3_20) hr)
  · show Q3 Z y h0 n0 _ s₁.heap _
    rw [e0]
    exact ⟨rfl, N0, rfl⟩
def own_cmp (a b : Int32) : Int32 := if a < b then -1 else if a = b then 0 else 1
theorem pn2 : plainName "java/lang/Integer" = true := by first | (simp [plainName, overriddenIn]; done) | decide +kernel
def Q29 (Z : State) (a : Int32) (b : Int32) (h0 : Heap) (n0 : Nat) (v : Option Value) (h : Heap) (L : List Loc) : Prop := v = some (.int (own_cmp a b)) ∧ Fr n0 L ∧ h0 = h
set_option maxRecDepth 65536 in
set_option maxHeartbeats 40000000 in
theorem rm29 (l : Launch) (Z : State) (a0 : Array Value) (hw : ∀ d ∈ tables_1, d.before a0 Z = true) (ws : List Jvm.Cond) (a : Int32) (b : Int32) (h0 : Heap) (n0 : Nat) (Z0 : n0 ≤ h0.size)  :
    MetFree l (⟨"java/lang/Integer", "compare", "(II)I"⟩ : MethodName) (head1 (Jvm.Cond.code (⟨"java/lang/Integer", "compare", "(II)I"⟩ : MethodName) jdk_33_method_40_code 2 (some .int) :: ws) ({ frames := 0, cells := 0, slots := 0, locals := 0 } : Room)) (fun aa_ U => aa_ = #[(.int a), (.int b)] ∧ Z.Warmed39 U.vm ∧ U.heap = h0) (fun _ _ _ _ _ => True) (fun _ U o U' => ∃ v L, o = .returned v ∧ Q29 Z a b h0 n0 v U'.heap L ∧ FrameEnd U o U' L ({ frames := 0, cells := 0, slots := 0, locals := 0 } : Room).cells ({ frames := 0, cells := 0, slots := 0, locals := 0 } : Room).slots) := by
  refine MetFree.of_bodySF (plainFor_of_name pn2) hisR ?_
  intro p e s m args below meth c s₁ Bd hml0 hP hK
  obtain ⟨rfl, hZ, hh⟩ := hP
  have hx := Bd.exec
  have hby := Bd.bytes
  have hml : c.maxLocals = 2 := hml0
  have hown : s.vm.findClass "java/lang/Integer" = some m.cls := findClass_of_methodNamed Bd.named
  have hnm := (name_of_methodNamed Bd.named Bd.method).1
  have X0 : Stand p l e ({ frames := 0, cells := 0, slots := 0, locals := 0 } : Room) s m #[(.int a), (.int b)] below meth c s₁ [] 0 0 := Stand.of_body Bd
  have e0 : s₁.heap = h0 := by rw [← hh, Bd.state]; rfl
  have N0 := Fr.nil n0
  obtain ⟨G, hG⟩ : ∃ G, G = entryFrame m #[(.int a), (.int b)] 2 := ⟨_, rfl⟩
  have S0 : own_Go p e below s₁ G s₁ (mkF m 0 #[.val (.int a), .val (.int b)] []) := fun tg_ kk_ => castTop (by rw [hG]; first | rfl | simp [entryFrame, mkF, argsToLocals, Value.category, maxLocals]) kk_
  have S7 : own_Go p e below s₁ G s₁ (mkF m 2 #[.val (.int a), .val (.int b)] [(.int b), (.int a)]) := fun tg_ kk_ => S0 tg_ (by
    refine XS.iloadN X0.here hx rfl (hb hby d29_0) rfl ?_
    show Steps p.tables e below (s₁.setTop (mkF m 1 #[.val (.int a), .val (.int b)] [(.int a)])) _
    refine XS.iloadN X0.here hx rfl (hb hby d29_1) rfl ?_
    exact kk_)
  by_cases hc8 : a < b
  · have _ := N0
    have S9 : own_Go p e below s₁ G s₁ (mkF m 19 #[.val (.int a), .val (.int b)] [(.int (-1 : Int32))]) := fun tg_ kk_ => S7 tg_ (by
      refine XS.icmpNo X0.here hx rfl (hb hby d29_2) rfl (XT.ii_ge_f hc8) ?_
      show Steps p.tables e below (s₁.setTop (mkF m 5 #[.val (.int a), .val (.int b)] [])) _
      refine XS.iconst X0.here hx rfl (hb hby d29_5) ?_
      show Steps p.tables e below (s₁.setTop (mkF m 6 #[.val (.int a), .val (.int b)] [(.int (-1 : Int32))])) _
      refine XS.goto X0.here hx rfl (pc0 := 6) (pc' := 19) rfl (hb hby d29_6) (by decide) (by decide) ?_
      exact kk_)
    obtain ⟨fs, hr, hrun, hended, hW, hsame⟩ := X0.leave (v := some (.int (-1 : Int32))) (fun h => by rw [Bd.returns] at h; cases h)
    refine ⟨_, _, ?_, hrun, hended, _, _, rfl, ?_, ⟨_, rfl⟩, hW, hsame.mono (by decide) (by decide)⟩
    · rw [← hG]; exact S9 _ (retI X0 hx Bd.returns (hb hby d29_19) hr)
    · show Q29 Z a b h0 n0 _ s₁.heap _
      rw [e0]
      exact ⟨by simp [own_cmp, hc8], N0, rfl⟩
  · have _ := N0
    have S10 : own_Go p e below s₁ G s₁ (mkF m 11 #[.val (.int a), .val (.int b)] [(.int b), (.int a)]) := fun tg_ kk_ => S7 tg_ (by
      refine XS.icmpYes X0.here hx rfl (pc0 := 2) (pc' := 9) rfl (hb hby d29_2) rfl (XT.ii_ge_t hc8) (by decide) (by decide) ?_
      show Steps p.tables e below (s₁.setTop (mkF m 9 #[.val (.int a), .val (.int b)] [])) _
      refine XS.iloadN X0.here hx rfl (hb hby d29_9) rfl ?_
      show Steps p.tables e below (s₁.setTop (mkF m 10 #[.val (.int a), .val (.int b)] [(.int a)])) _
      refine XS.iloadN X0.here hx rfl (hb hby d29_10) rfl ?_
      exact kk_)
    by_cases hc11 : a = b
    · have _ := N0
      have S12 : own_Go p e below s₁ G s₁ (mkF m 19 #[.val (.int a), .val (.int b)] [(.int (0 : Int32))]) := fun tg_ kk_ => S10 tg_ (by
        refine XS.icmpNo X0.here hx rfl (hb hby d29_11) rfl (XT.ii_ne_f hc11) ?_
        show Steps p.tables e below (s₁.setTop (mkF m 14 #[.val (.int a), .val (.int b)] [])) _
        refine XS.iconst X0.here hx rfl (hb hby d29_14) ?_
        show Steps p.tables e below (s₁.setTop (mkF m 15 #[.val (.int a), .val (.int b)] [(.int (0 : Int32))])) _
        refine XS.goto X0.here hx rfl (pc0 := 15) (pc' := 19) rfl (hb hby d29_15) (by decide) (by decide) ?_
        exact kk_)
      obtain ⟨fs, hr, hrun, hended, hW, hsame⟩ := X0.leave (v := some (.int (0 : Int32))) (fun h => by rw [Bd.returns] at h; cases h)
      refine ⟨_, _, ?_, hrun, hended, _, _, rfl, ?_, ⟨_, rfl⟩, hW, hsame.mono (by decide) (by decide)⟩
      · rw [← hG]; exact S12 _ (retI X0 hx Bd.returns (hb hby d29_19) hr)
      · show Q29 Z a b h0 n0 _ s₁.heap _
        rw [e0]
        exact ⟨by simp [own_cmp, hc8, hc11], N0, rfl⟩
    · have _ := N0
      have S13 : own_Go p e below s₁ G s₁ (mkF m 19 #[.val (.int a), .val (.int b)] [(.int (1 : Int32))]) := fun tg_ kk_ => S10 tg_ (by
        refine XS.icmpYes X0.here hx rfl (pc0 := 11) (pc' := 18) rfl (hb hby d29_11) rfl (XT.ii_ne_t hc11) (by decide) (by decide) ?_
        show Steps p.tables e below (s₁.setTop (mkF m 18 #[.val (.int a), .val (.int b)] [])) _
        refine XS.iconst X0.here hx rfl (hb hby d29_18) ?_
        exact kk_)
      obtain ⟨fs, hr, hrun, hended, hW, hsame⟩ := X0.leave (v := some (.int (1 : Int32))) (fun h => by rw [Bd.returns] at h; cases h)
      refine ⟨_, _, ?_, hrun, hended, _, _, rfl, ?_, ⟨_, rfl⟩, hW, hsame.mono (by decide) (by decide)⟩
      · rw [← hG]; exact S13 _ (retI X0 hx Bd.returns (hb hby d29_19) hr)
      · show Q29 Z a b h0 n0 _ s₁.heap _
        rw [e0]
        exact ⟨by simp [own_cmp, hc8, hc11], N0, rfl⟩
theorem pn3 : plainName "java/lang/Number" = true := by first | (simp [plainName, overriddenIn]; done) | decide +kernel
def Q47 (Z : State) (x : Addr) (h0 : Heap) (n0 : Nat) (v : Option Value) (h : Heap) (L : List Loc) : Prop := v = none ∧ Fr n0 L ∧ h0 = h
set_option maxRecDepth 65536 in
set_option maxHeartbeats 40000000 in
theorem rm47 (l : Launch) (Z : State) (a0 : Array Value) (hw : ∀ d ∈ tables_1, d.before a0 Z = true) (ws : List Jvm.Cond) (x : Addr) (h0 : Heap) (n0 : Nat) (Z0 : n0 ≤ h0.size)  :
    MetFree l (⟨"java/lang/Number", "<init>", "()V"⟩ : MethodName) (head1 (Jvm.Cond.code (⟨"java/lang/Number", "<init>", "()V"⟩ : MethodName) jdk_18_method_1_code 1 none :: ws) ({ frames := 1, cells := 0, slots := 0, locals := 14 } : Room)) (fun aa_ U => aa_ = #[(.ref x)] ∧ Z.Warmed39 U.vm ∧ U.heap = h0) (fun _ _ _ _ _ => True) (fun _ U o U' => ∃ v L, o = .returned v ∧ Q47 Z x h0 n0 v U'.heap L ∧ FrameEnd U o U' L ({ frames := 1, cells := 0, slots := 0, locals := 14 } : Room).cells ({ frames := 1, cells := 0, slots := 0, locals := 14 } : Room).slots) := by
  refine MetFree.of_bodySF (plainFor_of_name pn3) hisR ?_
  intro p e s m args below meth c s₁ Bd hml0 hP hK
  obtain ⟨rfl, hZ, hh⟩ := hP
  have hx := Bd.exec
  have hby := Bd.bytes
  have hml : c.maxLocals = 1 := hml0
  have hown : s.vm.findClass "java/lang/Number" = some m.cls := findClass_of_methodNamed Bd.named
  have hnm := (name_of_methodNamed Bd.named Bd.method).1
  have X0 : Stand p l e ({ frames := 1, cells := 0, slots := 0, locals := 14 } : Room) s m #[(.ref x)] below meth c s₁ [] 0 0 := Stand.of_body Bd
  have e0 : s₁.heap = h0 := by rw [← hh, Bd.state]; rfl
  have N0 := Fr.nil n0
  obtain ⟨G, hG⟩ : ∃ G, G = entryFrame m #[(.ref x)] 1 := ⟨_, rfl⟩
  have S0 : own_Go p e below s₁ G s₁ (mkF m 0 #[.val (.ref x)] []) := fun tg_ kk_ => castTop (by rw [hG]; first | rfl | simp [entryFrame, mkF, argsToLocals, Value.category, maxLocals]) kk_
  have S14 : own_Go p e below s₁ G s₁ (mkF m 1 #[.val (.ref x)] [(.ref x)]) := fun tg_ kk_ => S0 tg_ (by
    refine XS.aloadN X0.here hx rfl (hb hby d47_0) rfl rfl ?_
    exact kk_)
  obtain ⟨T15, X15, e15, st15⟩ := initO X0 hx hZ hown (hw _ (List.mem_of_getElem? (i := 306) rfl)) (hw _ (List.mem_of_getElem? (i := 51) rfl)) (hw _ (List.mem_of_getElem? (i := 52) rfl)) e0 (g := (mkF m 1 #[.val (.ref x)] [(.ref x)])) rfl (by rw [hml]; rfl) rfl (hb hby d47_1) (by decide) (W := 0) (by show 2 * 0 + _ ≤ _; exact Nat.le_of_eq rfl) (by decide)
  have S16 : own_Go p e below s₁ G T15 (mkF m 4 #[.val (.ref x)] []) := fun tg_ kk_ => S14 tg_ (st15 tg_ kk_)
  obtain ⟨fs, hr, hrun, hended, hW, hsame⟩ := X15.leave (v := none) (fun _ => rfl)
  refine ⟨_, _, ?_, hrun, hended, _, _, rfl, ?_, ⟨_, rfl⟩, hW, hsame.mono (by decide) (by decide)⟩
  · rw [← hG]; exact S16 _ (X15.returnOut hx Bd.returns (hb hby d47_4) hr)
  · show Q47 Z x h0 n0 _ T15.heap _
    rw [e15]
    exact ⟨rfl, N0, rfl⟩
def Q46 (Z : State) (x : Addr) (y : Int32) (h0 : Heap) (n0 : Nat) (v : Option Value) (h : Heap) (L : List Loc) : Prop := v = none ∧ Fr n0 L ∧ Keep h0 h [x] ∧ Fld Z h x "java/lang/Integer" "value" "I" (.int y)
set_option maxRecDepth 65536 in
set_option maxHeartbeats 40000000 in
theorem rm46 (l : Launch) (Z : State) (a0 : Array Value) (hw : ∀ d ∈ tables_1, d.before a0 Z = true) (ws : List Jvm.Cond) (x : Addr) (y : Int32) (h0 : Heap) (n0 : Nat) (Z0 : n0 ≤ h0.size) (Ex : Exa Z h0 x "java/lang/Integer") (hx0 : @LE.le Nat instLENat (n0) x) (Fv : Fld Z h0 x "java/lang/Integer" "value" "I" (.int 0)) :
    MetFree l (⟨"java/lang/Integer", "<init>", "(I)V"⟩ : MethodName) (head1 (Jvm.Cond.code (⟨"java/lang/Integer", "<init>", "(I)V"⟩ : MethodName) jdk_33_method_23_code 2 none :: ws) ({ frames := 2, cells := 0, slots := 0, locals := 27 } : Room)) (fun aa_ U => aa_ = #[(.ref x), (.int y)] ∧ Z.Warmed39 U.vm ∧ U.heap = h0) (fun _ _ _ _ _ => True) (fun _ U o U' => ∃ v L, o = .returned v ∧ Q46 Z x y h0 n0 v U'.heap L ∧ FrameEnd U o U' L ({ frames := 2, cells := 0, slots := 0, locals := 27 } : Room).cells ({ frames := 2, cells := 0, slots := 0, locals := 27 } : Room).slots) := by
  refine MetFree.of_bodySF (plainFor_of_name pn2) hisR ?_
  intro p e s m args below meth c s₁ Bd hml0 hP hK
  obtain ⟨rfl, hZ, hh⟩ := hP
  have hx := Bd.exec
  have hby := Bd.bytes
  have hml : c.maxLocals = 2 := hml0
  have hown : s.vm.findClass "java/lang/Integer" = some m.cls := findClass_of_methodNamed Bd.named
  have hnm := (name_of_methodNamed Bd.named Bd.method).1
  have X0 : Stand p l e ({ frames := 2, cells := 0, slots := 0, locals := 27 } : Room) s m #[(.ref x), (.int y)] below meth c s₁ [] 0 0 := Stand.of_body Bd
  have e0 : s₁.heap = h0 := by rw [← hh, Bd.state]; rfl
  have N0 := Fr.nil n0
  obtain ⟨G, hG⟩ : ∃ G, G = entryFrame m #[(.ref x), (.int y)] 2 := ⟨_, rfl⟩
  have S0 : own_Go p e below s₁ G s₁ (mkF m 0 #[.val (.ref x), .val (.int y)] []) := fun tg_ kk_ => castTop (by rw [hG]; first | rfl | simp [entryFrame, mkF, argsToLocals, Value.category, maxLocals]) kk_
  have S17 : own_Go p e below s₁ G s₁ (mkF m 1 #[.val (.ref x), .val (.int y)] [(.ref x)]) := fun tg_ kk_ => S0 tg_ (by
    refine XS.aloadN X0.here hx rfl (hb hby d46_0) rfl rfl ?_
    exact kk_)
  obtain ⟨_, T18, h18, L18, X18, e18, hQ18, st18⟩ := own_callI X0 hx hZ (y := (⟨"java/lang/Number", "<init>", "()V"⟩ : MethodName)) rfl hown (hw _ (List.mem_of_getElem? (i := 300) rfl)) (hw _ (List.mem_of_getElem? (i := 301) rfl)) (hw _ (List.mem_of_getElem? (i := 304) rfl)) (hw _ (List.mem_of_getElem? (i := 305) rfl)) (by decide) 0 (g := (mkF m 1 #[.val (.ref x), .val (.int y)] [(.ref x)])) rfl (by rw [hml]; rfl) x [] [] (rm47 l Z a0 hw [] x h0 n0 Z0) (lenOf pd8 rfl) rfl (by show 2 * 0 + _ ≤ _; exact Nat.le_of_eq rfl) (hb hby d46_1) (by decide) (by decide) e0 (by decide) (by decide)
  obtain ⟨rfl, N18, rfl⟩ := hQ18
  have S19 : own_Go p e below s₁ G T18 (mkF m 4 #[.val (.ref x), .val (.int y)] []) := fun tg_ kk_ => S17 tg_ (st18 tg_ kk_)
  have M18 := Fr.app N0 N18
  have S20 : own_Go p e below s₁ G T18 (mkF m 6 #[.val (.ref x), .val (.int y)] [(.int y), (.ref x)]) := fun tg_ kk_ => S19 tg_ (by
    refine XS.aloadN X18.here hx rfl (hb hby d46_4) rfl rfl ?_
    show Steps p.tables e below (T18.setTop (mkF m 5 #[.val (.ref x), .val (.int y)] [(.ref x)])) _
    refine XS.iloadN X18.here hx rfl (hb hby d46_5) rfl ?_
    exact kk_)
  obtain ⟨T21, h21, X21, e21, W21, st21⟩ := putF X18 hx hZ hown (host := "") (Or.inl (hw _ (List.mem_of_getElem? (i := 196) rfl))) Via.refl e18 Fv Ex (Or.inr ⟨(hw _ (List.mem_of_getElem? (i := 197) rfl)), rfl, hnm⟩) (hw _ (List.mem_of_getElem? (i := 296) rfl)) (ty := .int) (by decide) rfl rfl (g := (mkF m 6 #[.val (.ref x), .val (.int y)] [(.int y), (.ref x)])) rfl rfl (hb hby d46_6)
  have S22 : own_Go p e below s₁ G T21 (mkF m 9 #[.val (.ref x), .val (.int y)] []) := fun tg_ kk_ => S20 tg_ (st21 tg_ kk_)
  have f23 := Fr.snoc X21 M18 (by omega)
  have f24 := Ex.wr W21
  have f25 := Fv.same W21
  have f26 := Keep.wr (Keep.refl h0 [x]) W21 (Or.inl (by simp))
  obtain ⟨fs, hr, hrun, hended, hW, hsame⟩ := X21.leave (v := none) (fun _ => rfl)
  refine ⟨_, _, ?_, hrun, hended, _, _, rfl, ?_, ⟨_, rfl⟩, hW, hsame.mono (by decide) (by decide)⟩
  · rw [← hG]; exact S22 _ (X21.returnOut hx Bd.returns (hb hby d46_9) hr)
  · show Q46 Z x y h0 n0 _ T21.heap _
    rw [e21]
    exact ⟨rfl, f23, f26, f25⟩
theorem own_in256 {c : Cell} {x : Int32} (S : c.slots.size = 256) (h1 : ¬ x < 1) (h2 : ¬ (127 : Int32) < x) : ¬ (x + 128 < 0 ∨ c.slots.size ≤ (x + 128).toNatClampNeg) := by
  have q := c_iadd x 128
  have r := rng32 (x + 128)
  rw [Int32.lt_iff_toInt_lt] at h1 h2
  have e1 : (1 : Int32).toInt = 1 := rfl
  have e2 : (127 : Int32).toInt = 127 := rfl
  have e3 : (128 : Int32).toInt = 128 := rfl
  have e4 : (0 : Int32).toInt = 0 := rfl
  rw [S, Int32.lt_iff_toInt_lt, Int32.toNatClampNeg]
  omega
theorem own_ge128 {x : Int32} (h1 : ¬ x < 1) : ¬ x < -128 := by
  rw [Int32.lt_iff_toInt_lt] at *
  have e1 : (1 : Int32).toInt = 1 := rfl
  have e2 : (-128 : Int32).toInt = -128 := rfl
  omega
def Q4 (Z : State) (y : Int32) (h0 : Heap) (n0 : Nat) (v : Option Value) (h : Heap) (L : List Loc) : Prop := ∃ x, v = some (.ref x) ∧ Fr n0 L ∧ Keep h0 h [] ∧ Exa Z h x "java/lang/Integer" ∧ Fld Z h x "java/lang/Integer" "value" "I" (.int y)
set_option maxRecDepth 65536 in
set_option maxHeartbeats 40000000 in
theorem rm4 (l : Launch) (Z : State) (a0 : Array Value) (hw : ∀ d ∈ tables_1, d.before a0 Z = true) (ws : List Jvm.Cond) (y : Int32) (h0 : Heap) (n0 : Nat) (Z0 : n0 ≤ h0.size) (hy : ¬ y < 1) (O : Old Z n0 h0) (ca : Addr) (cc : Cell) (SH : Sta Z Z.heap "java/lang/Integer$IntegerCache" "high" "I" (.int 127)) (SC : Sta Z Z.heap "java/lang/Integer$IntegerCache" "cache" "[Ljava/lang/Integer;" (.ref ca)) (AC : Arr Z Z.heap ca cc (.object "java/lang/Integer")) (CS : cc.slots.size = 256) (HC : ∀ x : Int32, ¬ x < 1 → ¬ (127 : Int32) < x → ∃ y, cc.slots[(x + 128).toNatClampNeg]? = some (.ref y) ∧ Exa Z Z.heap y "java/lang/Integer" ∧ Fld Z Z.heap y "java/lang/Integer" "value" "I" (.int x)) :
    MetFree l (⟨"java/lang/Integer", "valueOf", "(I)Ljava/lang/Integer;"⟩ : MethodName) (head1 (Jvm.Cond.code (⟨"java/lang/Integer", "valueOf", "(I)Ljava/lang/Integer;"⟩ : MethodName) jdk_33_method_22_code 1 (some (.object "java/lang/Integer")) :: ws) ({ frames := 3, cells := 1, slots := 1, locals := 42 } : Room)) (fun aa_ U => aa_ = #[(.int y)] ∧ Z.Warmed39 U.vm ∧ U.heap = h0) (fun _ _ _ _ _ => True) (fun _ U o U' => ∃ v L, o = .returned v ∧ Q4 Z y h0 n0 v U'.heap L ∧ FrameEnd U o U' L ({ frames := 3, cells := 1, slots := 1, locals := 42 } : Room).cells ({ frames := 3, cells := 1, slots := 1, locals := 42 } : Room).slots) := by
  refine MetFree.of_bodySF (plainFor_of_name pn2) hisR ?_
  intro p e s m args below meth c s₁ Bd hml0 hP hK
  obtain ⟨rfl, hZ, hh⟩ := hP
  have hx := Bd.exec
  have hby := Bd.bytes
  have hml : c.maxLocals = 1 := hml0
  have hown : s.vm.findClass "java/lang/Integer" = some m.cls := findClass_of_methodNamed Bd.named
  have hnm := (name_of_methodNamed Bd.named Bd.method).1
  have X0 : Stand p l e ({ frames := 3, cells := 1, slots := 1, locals := 42 } : Room) s m #[(.int y)] below meth c s₁ [] 0 0 := Stand.of_body Bd
  have e0 : s₁.heap = h0 := by rw [← hh, Bd.state]; rfl
  have N0 := Fr.nil n0
  obtain ⟨G, hG⟩ : ∃ G, G = entryFrame m #[(.int y)] 1 := ⟨_, rfl⟩
  have S0 : own_Go p e below s₁ G s₁ (mkF m 0 #[.val (.int y)] []) := fun tg_ kk_ => castTop (by rw [hG]; first | rfl | simp [entryFrame, mkF, argsToLocals, Value.category, maxLocals]) kk_
  have S27 : own_Go p e below s₁ G s₁ (mkF m 7 #[.val (.int y)] [(.int y)]) := fun tg_ kk_ => S0 tg_ (by
    refine XS.iloadN X0.here hx rfl (hb hby d4_0) rfl ?_
    show Steps p.tables e below (s₁.setTop (mkF m 1 #[.val (.int y)] [(.int y)])) _
    refine XS.bipush X0.here hx rfl (hb hby d4_1) ?_
    show Steps p.tables e below (s₁.setTop (mkF m 3 #[.val (.int y)] [(.int (-128 : Int32)), (.int y)])) _
    refine XS.icmpNo X0.here hx rfl (hb hby d4_3) rfl (XT.ii_lt_f (own_ge128 hy)) ?_
    show Steps p.tables e below (s₁.setTop (mkF m 6 #[.val (.int y)] [])) _
    refine XS.iloadN X0.here hx rfl (hb hby d4_6) rfl ?_
    exact kk_)
  obtain ⟨T28, X28, e28, st28⟩ := getS2 X0 hx hZ (host := "") hown (Or.inl (hw _ (List.mem_of_getElem? (i := 18) rfl))) Via.refl e0 (SH.ext O.2) (g := (mkF m 7 #[.val (.int y)] [(.int y)])) rfl (hb hby d4_7)
  have S29 : own_Go p e below s₁ G T28 (mkF m 10 #[.val (.int y)] [(.int (127 : Int32)), (.int y)]) := fun tg_ kk_ => S27 tg_ (st28 tg_ kk_)
  by_cases hh : (127 : Int32) < y
  · have _ := N0
    have S30 : own_Go p e below s₁ G T28 (mkF m 23 #[.val (.int y)] []) := fun tg_ kk_ => S29 tg_ (by
      refine XS.icmpYes X28.here hx rfl (pc0 := 10) (pc' := 23) rfl (hb hby d4_10) rfl (XT.ii_gt_t hh) (by decide) (by decide) ?_
      exact kk_)
    obtain ⟨T31, h31, X31, e31, E31, A31, D31, -, st31⟩ := newO X28 hx hZ hown (hw _ (List.mem_of_getElem? (i := 194) rfl)) (hw _ (List.mem_of_getElem? (i := 296) rfl)) (hw _ (List.mem_of_getElem? (i := 16) rfl)) e28 (g := (mkF m 23 #[.val (.int y)] [])) rfl (hb hby d4_23) (by decide) (by decide)
    obtain ⟨a31, g31⟩ : ∃ z, z = h0.size := ⟨_, rfl⟩
    rw [← g31] at A31 D31 st31
    have S32 : own_Go p e below s₁ G T31 (mkF m 26 #[.val (.int y)] [(.ref a31)]) := fun tg_ kk_ => S30 tg_ (st31 tg_ kk_)
    have o33 : @LE.le Nat instLENat (n0) a31 := Nat.le_trans Z0 (Nat.le_of_eq g31.symm)
    have o34 : @LE.le Nat instLENat (h0.size) a31 := Nat.le_trans (Keep.refl h0 []).1 (Nat.le_of_eq g31.symm)
    have f35 := O.ext E31
    have f36 := own_sub Z0 E31
    have f37 := Keep.ext (Keep.refl h0 []) E31
    have f38 : Fld Z h31 a31 "java/lang/Integer" "value" "I" (.int 0) := D31 (Or.inr (hw _ (List.mem_of_getElem? (i := 197) rfl))) (ty := .int) (by decide)
    have S39 : own_Go p e below s₁ G T31 (mkF m 28 #[.val (.int y)] [(.int y), (.ref a31), (.ref a31)]) := fun tg_ kk_ => S32 tg_ (by
      refine XS.dup X31.here hx rfl (hb hby d4_26) rfl rfl ?_
      show Steps p.tables e below (T31.setTop (mkF m 27 #[.val (.int y)] [(.ref a31), (.ref a31)])) _
      refine XS.iloadN X31.here hx rfl (hb hby d4_27) rfl ?_
      exact kk_)
    obtain ⟨_, T40, h40, L40, X40, e40, hQ40, st40⟩ := own_callI X31 hx hZ (y := (⟨"java/lang/Integer", "<init>", "(I)V"⟩ : MethodName)) rfl hown (hw _ (List.mem_of_getElem? (i := 297) rfl)) (hw _ (List.mem_of_getElem? (i := 298) rfl)) (hw _ (List.mem_of_getElem? (i := 16) rfl)) (hw _ (List.mem_of_getElem? (i := 299) rfl)) (by decide) 1 (g := (mkF m 28 #[.val (.int y)] [(.int y), (.ref a31), (.ref a31)])) rfl (by rw [hml]; rfl) a31 [(.int y)] [(.ref a31)] (rm46 l Z a0 hw [] a31 y h31 n0 f36 A31 (by omega) f38) (lenOf pd31 rfl) rfl (by show 2 * 0 + _ ≤ _; exact Nat.le_of_eq rfl) (hb hby d4_28) (by decide) (by decide) e31 (by decide) (by decide)
    obtain ⟨rfl, N40, K40, Fv40⟩ := hQ40
    have S41 : own_Go p e below s₁ G T40 (mkF m 31 #[.val (.int y)] [(.ref a31)]) := fun tg_ kk_ => S39 tg_ (st40 tg_ kk_)
    have f42 := Fr.app N0 N40
    have f43 := f35.keep K40 (allS (by omega) all0)
    have f44 := Nat.le_trans f36 K40.1
    have f45 := A31.keep K40
    have f46 := Keep.trans f37 K40 (allS (Or.inr (by omega)) all0)
    obtain ⟨fs, hr, hrun, hended, hW, hsame⟩ := X40.leave (v := some (.ref a31)) (fun h => by rw [Bd.returns] at h; cases h)
    refine ⟨_, _, ?_, hrun, hended, _, _, rfl, ?_, ⟨_, rfl⟩, hW, hsame.mono (by decide) (by decide)⟩
    · rw [← hG]; exact S41 _ (retOut X40 hx Bd.returns (by first | rfl | cases (.ref a31) <;> rfl) (Or.inr (Or.inr (Or.inr (Or.inr ⟨rfl, rfl, rfl⟩)))) (hb hby d4_31) hr)
    · show Q4 Z y h0 n0 _ T40.heap _
      rw [e40]
      exact ⟨a31, rfl, f42, f46, f45, Fv40⟩
  · obtain ⟨x, hat, Exx, Fxx⟩ := HC y hy hh
    have S47 : own_Go p e below s₁ G T28 (mkF m 13 #[.val (.int y)] []) := fun tg_ kk_ => S29 tg_ (by
      refine XS.icmpNo X28.here hx rfl (hb hby d4_10) rfl (XT.ii_gt_f hh) ?_
      exact kk_)
    obtain ⟨T48, X48, e48, st48⟩ := getS2 X28 hx hZ (host := "") hown (Or.inl (hw _ (List.mem_of_getElem? (i := 20) rfl))) Via.refl e28 (SC.ext O.2) (g := (mkF m 13 #[.val (.int y)] [])) rfl (hb hby d4_13)
    have S49 : own_Go p e below s₁ G T48 (mkF m 16 #[.val (.int y)] [(.ref ca)]) := fun tg_ kk_ => S47 tg_ (st48 tg_ kk_)
    have S50 : own_Go p e below s₁ G T48 (mkF m 21 #[.val (.int y)] [(.int (y + (128 : Int32))), (.ref ca)]) := fun tg_ kk_ => S49 tg_ (by
      refine XS.iloadN X48.here hx rfl (hb hby d4_16) rfl ?_
      show Steps p.tables e below (T48.setTop (mkF m 17 #[.val (.int y)] [(.int y), (.ref ca)])) _
      refine XS.sipush X48.here hx rfl (hb hby d4_17) ?_
      show Steps p.tables e below (T48.setTop (mkF m 20 #[.val (.int y)] [(.int (128 : Int32)), (.int y), (.ref ca)])) _
      refine XS.iadd X48.here hx rfl (hb hby d4_20) rfl ?_
      exact kk_)
    have AC1 := AC.ext O.2
    have S51 : own_Go p e below s₁ G T48 (mkF m 22 #[.val (.int y)] [(.ref x)]) := fun tg_ kk_ => S50 tg_ (by
      refine X48.aaload hx (j := (y + (128 : Int32))) (v := .ref x) (cell := cc) (by rw [e48]; exact AC1.1) (State.isArrayOf_alike hZ.alike AC1.2.1) rfl AC1.2.2 (own_in256 CS hy hh) hat (g := (mkF m 21 #[.val (.int y)] [(.int (y + (128 : Int32))), (.ref ca)])) rfl rfl (hb hby d4_21) _ ?_
      exact kk_)
    obtain ⟨fs, hr, hrun, hended, hW, hsame⟩ := X48.leave (v := some (.ref x)) (fun h => by rw [Bd.returns] at h; cases h)
    refine ⟨_, _, ?_, hrun, hended, _, _, rfl, ?_, ⟨_, rfl⟩, hW, hsame.mono (by decide) (by decide)⟩
    · rw [← hG]; exact S51 _ (retOut X48 hx Bd.returns (by first | rfl | cases (.ref x) <;> rfl) (Or.inr (Or.inr (Or.inr (Or.inr ⟨rfl, rfl, rfl⟩)))) (hb hby d4_22) hr)
    · show Q4 Z y h0 n0 _ T48.heap _
      rw [e48]
      exact ⟨x, rfl, N0, Keep.refl _ _, Exx.ext O.2, Fxx.ext O.2⟩
def Q26 (Z : State) (x : Addr) (y : Int32) (h0 : Heap) (n0 : Nat) (v : Option Value) (h : Heap) (L : List Loc) : Prop := v = some (.int y) ∧ Fr n0 L ∧ h0 = h
set_option maxRecDepth 65536 in
set_option maxHeartbeats 40000000 in
theorem rm26 (l : Launch) (Z : State) (a0 : Array Value) (hw : ∀ d ∈ tables_1, d.before a0 Z = true) (ws : List Jvm.Cond) (x : Addr) (y : Int32) (h0 : Heap) (n0 : Nat) (Z0 : n0 ≤ h0.size) (Fv : Fld Z h0 x "java/lang/Integer" "value" "I" (.int y)) :
    MetFree l (⟨"java/lang/Integer", "intValue", "()I"⟩ : MethodName) (head1 (Jvm.Cond.code (⟨"java/lang/Integer", "intValue", "()I"⟩ : MethodName) jdk_33_method_27_code 1 (some .int) :: ws) ({ frames := 0, cells := 0, slots := 0, locals := 0 } : Room)) (fun aa_ U => aa_ = #[(.ref x)] ∧ Z.Warmed39 U.vm ∧ U.heap = h0) (fun _ _ _ _ _ => True) (fun _ U o U' => ∃ v L, o = .returned v ∧ Q26 Z x y h0 n0 v U'.heap L ∧ FrameEnd U o U' L ({ frames := 0, cells := 0, slots := 0, locals := 0 } : Room).cells ({ frames := 0, cells := 0, slots := 0, locals := 0 } : Room).slots) := by
  refine MetFree.of_bodySF (plainFor_of_name pn2) hisR ?_
  intro p e s m args below meth c s₁ Bd hml0 hP hK
  obtain ⟨rfl, hZ, hh⟩ := hP
  have hx := Bd.exec
  have hby := Bd.bytes
  have hml : c.maxLocals = 1 := hml0
  have hown : s.vm.findClass "java/lang/Integer" = some m.cls := findClass_of_methodNamed Bd.named
  have hnm := (name_of_methodNamed Bd.named Bd.method).1
  have X0 : Stand p l e ({ frames := 0, cells := 0, slots := 0, locals := 0 } : Room) s m #[(.ref x)] below meth c s₁ [] 0 0 := Stand.of_body Bd
  have e0 : s₁.heap = h0 := by rw [← hh, Bd.state]; rfl
  have N0 := Fr.nil n0
  obtain ⟨G, hG⟩ : ∃ G, G = entryFrame m #[(.ref x)] 1 := ⟨_, rfl⟩
  have S0 : own_Go p e below s₁ G s₁ (mkF m 0 #[.val (.ref x)] []) := fun tg_ kk_ => castTop (by rw [hG]; first | rfl | simp [entryFrame, mkF, argsToLocals, Value.category, maxLocals]) kk_
  have S52 : own_Go p e below s₁ G s₁ (mkF m 1 #[.val (.ref x)] [(.ref x)]) := fun tg_ kk_ => S0 tg_ (by
    refine XS.aloadN X0.here hx rfl (hb hby d26_0) rfl rfl ?_
    exact kk_)
  obtain ⟨T53, X53, e53, st53⟩ := getF X0 hx hZ hown (host := "") (Or.inl (hw _ (List.mem_of_getElem? (i := 196) rfl))) Via.refl e0 Fv (g := (mkF m 1 #[.val (.ref x)] [(.ref x)])) rfl rfl (hb hby d26_1)
  have S54 : own_Go p e below s₁ G T53 (mkF m 4 #[.val (.ref x)] [(.int y)]) := fun tg_ kk_ => S52 tg_ (st53 tg_ kk_)
  obtain ⟨fs, hr, hrun, hended, hW, hsame⟩ := X53.leave (v := some (.int y)) (fun h => by rw [Bd.returns] at h; cases h)
  refine ⟨_, _, ?_, hrun, hended, _, _, rfl, ?_, ⟨_, rfl⟩, hW, hsame.mono (by decide) (by decide)⟩
  · rw [← hG]; exact S54 _ (retI X53 hx Bd.returns (hb hby d26_4) hr)
  · show Q26 Z x y h0 n0 _ T53.heap _
    rw [e53]
    exact ⟨rfl, N0, rfl⟩
theorem pn4 : plainName "java/util/AbstractCollection" = true := by first | (simp [plainName, overriddenIn]; done) | decide +kernel
def Q9 (Z : State) (x : Addr) (h0 : Heap) (n0 : Nat) (v : Option Value) (h : Heap) (L : List Loc) : Prop := v = none ∧ Fr n0 L ∧ h0 = h
set_option maxRecDepth 65536 in
set_option maxHeartbeats 40000000 in
theorem rm9 (l : Launch) (Z : State) (a0 : Array Value) (hw : ∀ d ∈ tables_1, d.before a0 Z = true) (ws : List Jvm.Cond) (x : Addr) (h0 : Heap) (n0 : Nat) (Z0 : n0 ≤ h0.size)  :
    MetFree l (⟨"java/util/AbstractCollection", "<init>", "()V"⟩ : MethodName) (head1 (Jvm.Cond.code (⟨"java/util/AbstractCollection", "<init>", "()V"⟩ : MethodName) jdk_22_method_1_code 1 none :: ws) ({ frames := 1, cells := 0, slots := 0, locals := 14 } : Room)) (fun aa_ U => aa_ = #[(.ref x)] ∧ Z.Warmed39 U.vm ∧ U.heap = h0) (fun _ _ _ _ _ => True) (fun _ U o U' => ∃ v L, o = .returned v ∧ Q9 Z x h0 n0 v U'.heap L ∧ FrameEnd U o U' L ({ frames := 1, cells := 0, slots := 0, locals := 14 } : Room).cells ({ frames := 1, cells := 0, slots := 0, locals := 14 } : Room).slots) := by
  refine MetFree.of_bodySF (plainFor_of_name pn4) hisR ?_
  intro p e s m args below meth c s₁ Bd hml0 hP hK
  obtain ⟨rfl, hZ, hh⟩ := hP
  have hx := Bd.exec
  have hby := Bd.bytes
  have hml : c.maxLocals = 1 := hml0
  have hown : s.vm.findClass "java/util/AbstractCollection" = some m.cls := findClass_of_methodNamed Bd.named
  have hnm := (name_of_methodNamed Bd.named Bd.method).1
  have X0 : Stand p l e ({ frames := 1, cells := 0, slots := 0, locals := 14 } : Room) s m #[(.ref x)] below meth c s₁ [] 0 0 := Stand.of_body Bd
  have e0 : s₁.heap = h0 := by rw [← hh, Bd.state]; rfl
  have N0 := Fr.nil n0
  obtain ⟨G, hG⟩ : ∃ G, G = entryFrame m #[(.ref x)] 1 := ⟨_, rfl⟩
  have S0 : own_Go p e below s₁ G s₁ (mkF m 0 #[.val (.ref x)] []) := fun tg_ kk_ => castTop (by rw [hG]; first | rfl | simp [entryFrame, mkF, argsToLocals, Value.category, maxLocals]) kk_
  have S55 : own_Go p e below s₁ G s₁ (mkF m 1 #[.val (.ref x)] [(.ref x)]) := fun tg_ kk_ => S0 tg_ (by
    refine XS.aloadN X0.here hx rfl (hb hby d9_0) rfl rfl ?_
    exact kk_)
  obtain ⟨T56, X56, e56, st56⟩ := initO X0 hx hZ hown (hw _ (List.mem_of_getElem? (i := 50) rfl)) (hw _ (List.mem_of_getElem? (i := 51) rfl)) (hw _ (List.mem_of_getElem? (i := 52) rfl)) e0 (g := (mkF m 1 #[.val (.ref x)] [(.ref x)])) rfl (by rw [hml]; rfl) rfl (hb hby d9_1) (by decide) (W := 0) (by show 2 * 0 + _ ≤ _; exact Nat.le_of_eq rfl) (by decide)
  have S57 : own_Go p e below s₁ G T56 (mkF m 4 #[.val (.ref x)] []) := fun tg_ kk_ => S55 tg_ (st56 tg_ kk_)
  obtain ⟨fs, hr, hrun, hended, hW, hsame⟩ := X56.leave (v := none) (fun _ => rfl)
  refine ⟨_, _, ?_, hrun, hended, _, _, rfl, ?_, ⟨_, rfl⟩, hW, hsame.mono (by decide) (by decide)⟩
  · rw [← hG]; exact S57 _ (X56.returnOut hx Bd.returns (hb hby d9_4) hr)
  · show Q9 Z x h0 n0 _ T56.heap _
    rw [e56]
    exact ⟨rfl, N0, rfl⟩
theorem pn5 : plainName "java/util/ImmutableCollections$AbstractImmutableCollection" = true := by first | (simp [plainName, overriddenIn]; done) | decide +kernel
def Q8 (Z : State) (x : Addr) (h0 : Heap) (n0 : Nat) (v : Option Value) (h : Heap) (L : List Loc) : Prop := v = none ∧ Fr n0 L ∧ h0 = h
set_option maxRecDepth 65536 in
set_option maxHeartbeats 40000000 in
theorem rm8 (l : Launch) (Z : State) (a0 : Array Value) (hw : ∀ d ∈ tables_1, d.before a0 Z = true) (ws : List Jvm.Cond) (x : Addr) (h0 : Heap) (n0 : Nat) (Z0 : n0 ≤ h0.size)  :
    MetFree l (⟨"java/util/ImmutableCollections$AbstractImmutableCollection", "<init>", "()V"⟩ : MethodName) (head1 (Jvm.Cond.code (⟨"java/util/ImmutableCollections$AbstractImmutableCollection", "<init>", "()V"⟩ : MethodName) jdk_47_method_1_code 1 none :: ws) ({ frames := 2, cells := 0, slots := 0, locals := 27 } : Room)) (fun aa_ U => aa_ = #[(.ref x)] ∧ Z.Warmed39 U.vm ∧ U.heap = h0) (fun _ _ _ _ _ => True) (fun _ U o U' => ∃ v L, o = .returned v ∧ Q8 Z x h0 n0 v U'.heap L ∧ FrameEnd U o U' L ({ frames := 2, cells := 0, slots := 0, locals := 27 } : Room).cells ({ frames := 2, cells := 0, slots := 0, locals := 27 } : Room).slots) := by
  refine MetFree.of_bodySF (plainFor_of_name pn5) hisR ?_
  intro p e s m args below meth c s₁ Bd hml0 hP hK
  obtain ⟨rfl, hZ, hh⟩ := hP
  have hx := Bd.exec
  have hby := Bd.bytes
  have hml : c.maxLocals = 1 := hml0
  have hown : s.vm.findClass "java/util/ImmutableCollections$AbstractImmutableCollection" = some m.cls := findClass_of_methodNamed Bd.named
  have hnm := (name_of_methodNamed Bd.named Bd.method).1
  have X0 : Stand p l e ({ frames := 2, cells := 0, slots := 0, locals := 27 } : Room) s m #[(.ref x)] below meth c s₁ [] 0 0 := Stand.of_body Bd
  have e0 : s₁.heap = h0 := by rw [← hh, Bd.state]; rfl
  have N0 := Fr.nil n0
  obtain ⟨G, hG⟩ : ∃ G, G = entryFrame m #[(.ref x)] 1 := ⟨_, rfl⟩
  have S0 : own_Go p e below s₁ G s₁ (mkF m 0 #[.val (.ref x)] []) := fun tg_ kk_ => castTop (by rw [hG]; first | rfl | simp [entryFrame, mkF, argsToLocals, Value.category, maxLocals]) kk_
  have S58 : own_Go p e below s₁ G s₁ (mkF m 1 #[.val (.ref x)] [(.ref x)]) := fun tg_ kk_ => S0 tg_ (by
    refine XS.aloadN X0.here hx rfl (hb hby d8_0) rfl rfl ?_
    exact kk_)
  obtain ⟨_, T59, h59, L59, X59, e59, hQ59, st59⟩ := own_callI X0 hx hZ (y := (⟨"java/util/AbstractCollection", "<init>", "()V"⟩ : MethodName)) rfl hown (hw _ (List.mem_of_getElem? (i := 44) rfl)) (hw _ (List.mem_of_getElem? (i := 45) rfl)) (hw _ (List.mem_of_getElem? (i := 48) rfl)) (hw _ (List.mem_of_getElem? (i := 49) rfl)) (by decide) 0 (g := (mkF m 1 #[.val (.ref x)] [(.ref x)])) rfl (by rw [hml]; rfl) x [] [] (rm9 l Z a0 hw [] x h0 n0 Z0) (lenOf pd8 rfl) rfl (by show 2 * 0 + _ ≤ _; exact Nat.le_of_eq rfl) (hb hby d8_1) (by decide) (by decide) e0 (by decide) (by decide)
  obtain ⟨rfl, N59, rfl⟩ := hQ59
  have S60 : own_Go p e below s₁ G T59 (mkF m 4 #[.val (.ref x)] []) := fun tg_ kk_ => S58 tg_ (st59 tg_ kk_)
  have M59 := Fr.app N0 N59
  obtain ⟨fs, hr, hrun, hended, hW, hsame⟩ := X59.leave (v := none) (fun _ => rfl)
  refine ⟨_, _, ?_, hrun, hended, _, _, rfl, ?_, ⟨_, rfl⟩, hW, hsame.mono (by decide) (by decide)⟩
  · rw [← hG]; exact S60 _ (X59.returnOut hx Bd.returns (hb hby d8_4) hr)
  · show Q8 Z x h0 n0 _ T59.heap _
    rw [e59]
    exact ⟨rfl, M59, rfl⟩
theorem pn6 : plainName "java/util/ImmutableCollections$AbstractImmutableList" = true := by first | (simp [plainName, overriddenIn]; done) | decide +kernel
def Q7 (Z : State) (x : Addr) (h0 : Heap) (n0 : Nat) (v : Option Value) (h : Heap) (L : List Loc) : Prop := v = none ∧ Fr n0 L ∧ h0 = h
set_option maxRecDepth 65536 in
set_option maxHeartbeats 40000000 in
theorem rm7 (l : Launch) (Z : State) (a0 : Array Value) (hw : ∀ d ∈ tables_1, d.before a0 Z = true) (ws : List Jvm.Cond) (x : Addr) (h0 : Heap) (n0 : Nat) (Z0 : n0 ≤ h0.size)  :
    MetFree l (⟨"java/util/ImmutableCollections$AbstractImmutableList", "<init>", "()V"⟩ : MethodName) (head1 (Jvm.Cond.code (⟨"java/util/ImmutableCollections$AbstractImmutableList", "<init>", "()V"⟩ : MethodName) jdk_46_method_1_code 1 none :: ws) ({ frames := 3, cells := 0, slots := 0, locals := 40 } : Room)) (fun aa_ U => aa_ = #[(.ref x)] ∧ Z.Warmed39 U.vm ∧ U.heap = h0) (fun _ _ _ _ _ => True) (fun _ U o U' => ∃ v L, o = .returned v ∧ Q7 Z x h0 n0 v U'.heap L ∧ FrameEnd U o U' L ({ frames := 3, cells := 0, slots := 0, locals := 40 } : Room).cells ({ frames := 3, cells := 0, slots := 0, locals := 40 } : Room).slots) := by
  refine MetFree.of_bodySF (plainFor_of_name pn6) hisR ?_
  intro p e s m args below meth c s₁ Bd hml0 hP hK
  obtain ⟨rfl, hZ, hh⟩ := hP
  have hx := Bd.exec
  have hby := Bd.bytes
  have hml : c.maxLocals = 1 := hml0
  have hown : s.vm.findClass "java/util/ImmutableCollections$AbstractImmutableList" = some m.cls := findClass_of_methodNamed Bd.named
  have hnm := (name_of_methodNamed Bd.named Bd.method).1
  have X0 : Stand p l e ({ frames := 3, cells := 0, slots := 0, locals := 40 } : Room) s m #[(.ref x)] below meth c s₁ [] 0 0 := Stand.of_body Bd
  have e0 : s₁.heap = h0 := by rw [← hh, Bd.state]; rfl
  have N0 := Fr.nil n0
  obtain ⟨G, hG⟩ : ∃ G, G = entryFrame m #[(.ref x)] 1 := ⟨_, rfl⟩
  have S0 : own_Go p e below s₁ G s₁ (mkF m 0 #[.val (.ref x)] []) := fun tg_ kk_ => castTop (by rw [hG]; first | rfl | simp [entryFrame, mkF, argsToLocals, Value.category, maxLocals]) kk_
  have S61 : own_Go p e below s₁ G s₁ (mkF m 1 #[.val (.ref x)] [(.ref x)]) := fun tg_ kk_ => S0 tg_ (by
    refine XS.aloadN X0.here hx rfl (hb hby d7_0) rfl rfl ?_
    exact kk_)
  obtain ⟨_, T62, h62, L62, X62, e62, hQ62, st62⟩ := own_callI X0 hx hZ (y := (⟨"java/util/ImmutableCollections$AbstractImmutableCollection", "<init>", "()V"⟩ : MethodName)) rfl hown (hw _ (List.mem_of_getElem? (i := 38) rfl)) (hw _ (List.mem_of_getElem? (i := 39) rfl)) (hw _ (List.mem_of_getElem? (i := 42) rfl)) (hw _ (List.mem_of_getElem? (i := 43) rfl)) (by decide) 0 (g := (mkF m 1 #[.val (.ref x)] [(.ref x)])) rfl (by rw [hml]; rfl) x [] [] (rm8 l Z a0 hw [] x h0 n0 Z0) (lenOf pd8 rfl) rfl (by show 2 * 0 + _ ≤ _; exact Nat.le_of_eq rfl) (hb hby d7_1) (by decide) (by decide) e0 (by decide) (by decide)
  obtain ⟨rfl, N62, rfl⟩ := hQ62
  have S63 : own_Go p e below s₁ G T62 (mkF m 4 #[.val (.ref x)] []) := fun tg_ kk_ => S61 tg_ (st62 tg_ kk_)
  have M62 := Fr.app N0 N62
  obtain ⟨fs, hr, hrun, hended, hW, hsame⟩ := X62.leave (v := none) (fun _ => rfl)
  refine ⟨_, _, ?_, hrun, hended, _, _, rfl, ?_, ⟨_, rfl⟩, hW, hsame.mono (by decide) (by decide)⟩
  · rw [← hG]; exact S63 _ (X62.returnOut hx Bd.returns (hb hby d7_4) hr)
  · show Q7 Z x h0 n0 _ T62.heap _
    rw [e62]
    exact ⟨rfl, M62, rfl⟩
theorem pn7 : plainName "java/util/Objects" = true := by first | (simp [plainName, overriddenIn]; done) | decide +kernel
def Q11 (Z : State) (y : Addr) (h0 : Heap) (n0 : Nat) (v : Option Value) (h : Heap) (L : List Loc) : Prop := v = some (.ref y) ∧ Fr n0 L ∧ h0 = h
set_option maxRecDepth 65536 in
set_option maxHeartbeats 40000000 in
theorem rm11 (l : Launch) (Z : State) (a0 : Array Value) (hw : ∀ d ∈ tables_1, d.before a0 Z = true) (ws : List Jvm.Cond) (y : Addr) (h0 : Heap) (n0 : Nat) (Z0 : n0 ≤ h0.size)  :
    MetFree l (⟨"java/util/Objects", "requireNonNull", "(Ljava/lang/Object;)Ljava/lang/Object;"⟩ : MethodName) (head1 (Jvm.Cond.code (⟨"java/util/Objects", "requireNonNull", "(Ljava/lang/Object;)Ljava/lang/Object;"⟩ : MethodName) jdk_31_method_10_code 1 (some (.object "java/lang/Object")) :: ws) ({ frames := 0, cells := 0, slots := 0, locals := 0 } : Room)) (fun aa_ U => aa_ = #[(.ref y)] ∧ Z.Warmed39 U.vm ∧ U.heap = h0) (fun _ _ _ _ _ => True) (fun _ U o U' => ∃ v L, o = .returned v ∧ Q11 Z y h0 n0 v U'.heap L ∧ FrameEnd U o U' L ({ frames := 0, cells := 0, slots := 0, locals := 0 } : Room).cells ({ frames := 0, cells := 0, slots := 0, locals := 0 } : Room).slots) := by
  refine MetFree.of_bodySF (plainFor_of_name pn7) hisR ?_
  intro p e s m args below meth c s₁ Bd hml0 hP hK
  obtain ⟨rfl, hZ, hh⟩ := hP
  have hx := Bd.exec
  have hby := Bd.bytes
  have hml : c.maxLocals = 1 := hml0
  have hown : s.vm.findClass "java/util/Objects" = some m.cls := findClass_of_methodNamed Bd.named
  have hnm := (name_of_methodNamed Bd.named Bd.method).1
  have X0 : Stand p l e ({ frames := 0, cells := 0, slots := 0, locals := 0 } : Room) s m #[(.ref y)] below meth c s₁ [] 0 0 := Stand.of_body Bd
  have e0 : s₁.heap = h0 := by rw [← hh, Bd.state]; rfl
  have N0 := Fr.nil n0
  obtain ⟨G, hG⟩ : ∃ G, G = entryFrame m #[(.ref y)] 1 := ⟨_, rfl⟩
  have S0 : own_Go p e below s₁ G s₁ (mkF m 0 #[.val (.ref y)] []) := fun tg_ kk_ => castTop (by rw [hG]; first | rfl | simp [entryFrame, mkF, argsToLocals, Value.category, maxLocals]) kk_
  have S64 : own_Go p e below s₁ G s₁ (mkF m 13 #[.val (.ref y)] [(.ref y)]) := fun tg_ kk_ => S0 tg_ (by
    refine XS.aloadN X0.here hx rfl (hb hby d11_0) rfl rfl ?_
    show Steps p.tables e below (s₁.setTop (mkF m 1 #[.val (.ref y)] [(.ref y)])) _
    refine XT.ifnonnullYes X0.here hx rfl (pc0 := 1) (pc' := 12) rfl (hb hby d11_1) rfl (by decide) (by decide) ?_
    show Steps p.tables e below (s₁.setTop (mkF m 12 #[.val (.ref y)] [])) _
    refine XS.aloadN X0.here hx rfl (hb hby d11_12) rfl rfl ?_
    exact kk_)
  obtain ⟨fs, hr, hrun, hended, hW, hsame⟩ := X0.leave (v := some (.ref y)) (fun h => by rw [Bd.returns] at h; cases h)
  refine ⟨_, _, ?_, hrun, hended, _, _, rfl, ?_, ⟨_, rfl⟩, hW, hsame.mono (by decide) (by decide)⟩
  · rw [← hG]; exact S64 _ (retOut X0 hx Bd.returns (by first | rfl | cases (.ref y) <;> rfl) (Or.inr (Or.inr (Or.inr (Or.inr ⟨rfl, rfl, rfl⟩)))) (hb hby d11_13) hr)
  · show Q11 Z y h0 n0 _ s₁.heap _
    rw [e0]
    exact ⟨rfl, N0, rfl⟩
theorem pn8 : plainName "java/util/ImmutableCollections$List12" = true := by first | (simp [plainName, overriddenIn]; done) | decide +kernel
def Q6 (Z : State) (x : Addr) (y : Addr) (em : Addr) (h0 : Heap) (n0 : Nat) (v : Option Value) (h : Heap) (L : List Loc) : Prop := v = none ∧ Fr n0 L ∧ Keep h0 h [x] ∧ Fld Z h x "java/util/ImmutableCollections$List12" "e0" "Ljava/lang/Object;" (.ref y) ∧ Fld Z h x "java/util/ImmutableCollections$List12" "e1" "Ljava/lang/Object;" (.ref em)
set_option maxRecDepth 65536 in
set_option maxHeartbeats 40000000 in
theorem rm6 (l : Launch) (Z : State) (a0 : Array Value) (hw : ∀ d ∈ tables_1, d.before a0 Z = true) (ws : List Jvm.Cond) (x : Addr) (y : Addr) (em : Addr) (h0 : Heap) (n0 : Nat) (Z0 : n0 ≤ h0.size) (Ex : Exa Z h0 x "java/util/ImmutableCollections$List12") (hx0 : @LE.le Nat instLENat (n0) x) (F0 : Fld Z h0 x "java/util/ImmutableCollections$List12" "e0" "Ljava/lang/Object;" .null) (F1 : Fld Z h0 x "java/util/ImmutableCollections$List12" "e1" "Ljava/lang/Object;" .null) (O : Old Z n0 h0) (SE : Sta Z Z.heap "java/util/ImmutableCollections" "EMPTY" "Ljava/lang/Object;" (.ref em)) :
    MetFree l (⟨"java/util/ImmutableCollections$List12", "<init>", "(Ljava/lang/Object;)V"⟩ : MethodName) (head1 (Jvm.Cond.code (⟨"java/util/ImmutableCollections$List12", "<init>", "(Ljava/lang/Object;)V"⟩ : MethodName) jdk_44_method_1_code 2 none :: ws) ({ frames := 4, cells := 0, slots := 0, locals := 54 } : Room)) (fun aa_ U => aa_ = #[(.ref x), (.ref y)] ∧ Z.Warmed39 U.vm ∧ U.heap = h0) (fun _ _ _ _ _ => True) (fun _ U o U' => ∃ v L, o = .returned v ∧ Q6 Z x y em h0 n0 v U'.heap L ∧ FrameEnd U o U' L ({ frames := 4, cells := 0, slots := 0, locals := 54 } : Room).cells ({ frames := 4, cells := 0, slots := 0, locals := 54 } : Room).slots) := by
  refine MetFree.of_bodySF (plainFor_of_name pn8) hisR ?_
  intro p e s m args below meth c s₁ Bd hml0 hP hK
  obtain ⟨rfl, hZ, hh⟩ := hP
  have hx := Bd.exec
  have hby := Bd.bytes
  have hml : c.maxLocals = 2 := hml0
  have hown : s.vm.findClass "java/util/ImmutableCollections$List12" = some m.cls := findClass_of_methodNamed Bd.named
  have hnm := (name_of_methodNamed Bd.named Bd.method).1
  have X0 : Stand p l e ({ frames := 4, cells := 0, slots := 0, locals := 54 } : Room) s m #[(.ref x), (.ref y)] below meth c s₁ [] 0 0 := Stand.of_body Bd
  have e0 : s₁.heap = h0 := by rw [← hh, Bd.state]; rfl
  have N0 := Fr.nil n0
  obtain ⟨G, hG⟩ : ∃ G, G = entryFrame m #[(.ref x), (.ref y)] 2 := ⟨_, rfl⟩
  have S0 : own_Go p e below s₁ G s₁ (mkF m 0 #[.val (.ref x), .val (.ref y)] []) := fun tg_ kk_ => castTop (by rw [hG]; first | rfl | simp [entryFrame, mkF, argsToLocals, Value.category, maxLocals]) kk_
  have S65 : own_Go p e below s₁ G s₁ (mkF m 1 #[.val (.ref x), .val (.ref y)] [(.ref x)]) := fun tg_ kk_ => S0 tg_ (by
    refine XS.aloadN X0.here hx rfl (hb hby d6_0) rfl rfl ?_
    exact kk_)
  obtain ⟨_, T66, h66, L66, X66, e66, hQ66, st66⟩ := own_callI X0 hx hZ (y := (⟨"java/util/ImmutableCollections$AbstractImmutableList", "<init>", "()V"⟩ : MethodName)) rfl hown (hw _ (List.mem_of_getElem? (i := 32) rfl)) (hw _ (List.mem_of_getElem? (i := 33) rfl)) (hw _ (List.mem_of_getElem? (i := 36) rfl)) (hw _ (List.mem_of_getElem? (i := 37) rfl)) (by decide) 0 (g := (mkF m 1 #[.val (.ref x), .val (.ref y)] [(.ref x)])) rfl (by rw [hml]; rfl) x [] [] (rm7 l Z a0 hw [] x h0 n0 Z0) (lenOf pd8 rfl) rfl (by show 2 * 0 + _ ≤ _; exact Nat.le_of_eq rfl) (hb hby d6_1) (by decide) (by decide) e0 (by decide) (by decide)
  obtain ⟨rfl, N66, rfl⟩ := hQ66
  have S67 : own_Go p e below s₁ G T66 (mkF m 4 #[.val (.ref x), .val (.ref y)] []) := fun tg_ kk_ => S65 tg_ (st66 tg_ kk_)
  have M66 := Fr.app N0 N66
  have S68 : own_Go p e below s₁ G T66 (mkF m 6 #[.val (.ref x), .val (.ref y)] [(.ref y), (.ref x)]) := fun tg_ kk_ => S67 tg_ (by
    refine XS.aloadN X66.here hx rfl (hb hby d6_4) rfl rfl ?_
    show Steps p.tables e below (T66.setTop (mkF m 5 #[.val (.ref x), .val (.ref y)] [(.ref x)])) _
    refine XS.aloadN X66.here hx rfl (hb hby d6_5) rfl rfl ?_
    exact kk_)
  obtain ⟨_, T69, h69, L69, X69, e69, hQ69, st69⟩ := own_callS X66 hx hZ (y := (⟨"java/util/Objects", "requireNonNull", "(Ljava/lang/Object;)Ljava/lang/Object;"⟩ : MethodName)) hown (hw _ (List.mem_of_getElem? (i := 53) rfl)) (hw _ (List.mem_of_getElem? (i := 54) rfl)) (hw _ (List.mem_of_getElem? (i := 55) rfl)) (hw _ (List.mem_of_getElem? (i := 56) rfl)) (by decide) 1 (g := (mkF m 6 #[.val (.ref x), .val (.ref y)] [(.ref y), (.ref x)])) rfl (by rw [hml]; rfl) [(.ref y)] [(.ref x)] (rm11 l Z a0 hw [] y h0 n0 Z0) (lenOf pd9 rfl) rfl (by show 2 * 0 + _ ≤ _; exact Nat.le_of_eq rfl) (hb hby d6_6) (by decide) (by decide) e66 (by decide) (by decide)
  obtain ⟨rfl, N69, rfl⟩ := hQ69
  have S70 : own_Go p e below s₁ G T69 (mkF m 9 #[.val (.ref x), .val (.ref y)] [(.ref y), (.ref x)]) := fun tg_ kk_ => S68 tg_ (st69 tg_ kk_)
  have M69 := Fr.app M66 N69
  obtain ⟨T71, h71, X71, e71, W71, st71⟩ := putF X69 hx hZ hown (host := "") (Or.inl (hw _ (List.mem_of_getElem? (i := 57) rfl))) Via.refl e69 F0 Ex (Or.inr ⟨(hw _ (List.mem_of_getElem? (i := 58) rfl)), rfl, hnm⟩) (hw _ (List.mem_of_getElem? (i := 26) rfl)) (ty := (.object "java/lang/Object")) (by decide) rfl rfl (g := (mkF m 9 #[.val (.ref x), .val (.ref y)] [(.ref y), (.ref x)])) rfl rfl (hb hby d6_9)
  have S72 : own_Go p e below s₁ G T71 (mkF m 12 #[.val (.ref x), .val (.ref y)] []) := fun tg_ kk_ => S70 tg_ (st71 tg_ kk_)
  have f73 := Fr.snoc X71 M69 (by omega)
  have f74 := Ex.wr W71
  have f75 := F0.same W71
  have f76 := F1.other W71 (Or.inr (slot_ne (C := "java/util/ImmutableCollections$List12") (a0 := a0) (Or.inr (hw _ (List.mem_of_getElem? (i := 62) rfl))) (Or.inr (hw _ (List.mem_of_getElem? (i := 58) rfl))) (by decide) (t := (.object "java/lang/Object")) (by decide) (t' := (.object "java/lang/Object")) (by decide)))
  have f77 := O.wr W71 (by omega)
  have f78 := Keep.wr (Keep.refl h0 [x]) W71 (Or.inl (by simp))
  have S79 : own_Go p e below s₁ G T71 (mkF m 13 #[.val (.ref x), .val (.ref y)] [(.ref x)]) := fun tg_ kk_ => S72 tg_ (by
    refine XS.aloadN X71.here hx rfl (hb hby d6_12) rfl rfl ?_
    exact kk_)
  obtain ⟨T80, X80, e80, st80⟩ := getS2 X71 hx hZ hown (Or.inr (hw _ (List.mem_of_getElem? (i := 59) rfl))) Via.refl e71 (SE.ext f77.2) (g := (mkF m 13 #[.val (.ref x), .val (.ref y)] [(.ref x)])) rfl (hb hby d6_13)
  have S81 : own_Go p e below s₁ G T80 (mkF m 16 #[.val (.ref x), .val (.ref y)] [(.ref em), (.ref x)]) := fun tg_ kk_ => S79 tg_ (st80 tg_ kk_)
  obtain ⟨T82, h82, X82, e82, W82, st82⟩ := putF X80 hx hZ hown (host := "") (Or.inl (hw _ (List.mem_of_getElem? (i := 61) rfl))) Via.refl e80 f76 f74 (Or.inr ⟨(hw _ (List.mem_of_getElem? (i := 62) rfl)), rfl, hnm⟩) (hw _ (List.mem_of_getElem? (i := 26) rfl)) (ty := (.object "java/lang/Object")) (by decide) rfl rfl (g := (mkF m 16 #[.val (.ref x), .val (.ref y)] [(.ref em), (.ref x)])) rfl rfl (hb hby d6_16)
  have S83 : own_Go p e below s₁ G T82 (mkF m 19 #[.val (.ref x), .val (.ref y)] []) := fun tg_ kk_ => S81 tg_ (st82 tg_ kk_)
  have f84 := Fr.snoc X82 f73 (by omega)
  have f85 := f74.wr W82
  have f86 := f75.other W82 (Or.inr (slot_ne (C := "java/util/ImmutableCollections$List12") (a0 := a0) (Or.inr (hw _ (List.mem_of_getElem? (i := 58) rfl))) (Or.inr (hw _ (List.mem_of_getElem? (i := 62) rfl))) (by decide) (t := (.object "java/lang/Object")) (by decide) (t' := (.object "java/lang/Object")) (by decide)))
  have f87 := f76.same W82
  have f88 := f77.wr W82 (by omega)
  have f89 := Keep.wr f78 W82 (Or.inl (by simp))
  obtain ⟨fs, hr, hrun, hended, hW, hsame⟩ := X82.leave (v := none) (fun _ => rfl)
  refine ⟨_, _, ?_, hrun, hended, _, _, rfl, ?_, ⟨_, rfl⟩, hW, hsame.mono (by decide) (by decide)⟩
  · rw [← hG]; exact S83 _ (X82.returnOut hx Bd.returns (hb hby d6_19) hr)
  · show Q6 Z x y em h0 n0 _ T82.heap _
    rw [e82]
    exact ⟨rfl, f84, f89, f86, f87⟩
theorem pn9 : plainName "java/util/List" = true := by first | (simp [plainName, overriddenIn]; done) | decide +kernel
def Q5 (Z : State) (y : Addr) (em : Addr) (h0 : Heap) (n0 : Nat) (v : Option Value) (h : Heap) (L : List Loc) : Prop := ∃ x, v = some (.ref x) ∧ Fr n0 L ∧ Keep h0 h [] ∧ @LE.le Nat instLENat (h0.size) x ∧ Exa Z h x "java/util/ImmutableCollections$List12" ∧ Fld Z h x "java/util/ImmutableCollections$List12" "e0" "Ljava/lang/Object;" (.ref y) ∧ Fld Z h x "java/util/ImmutableCollections$List12" "e1" "Ljava/lang/Object;" (.ref em)
set_option maxRecDepth 65536 in
set_option maxHeartbeats 40000000 in
theorem rm5 (l : Launch) (Z : State) (a0 : Array Value) (hw : ∀ d ∈ tables_1, d.before a0 Z = true) (ws : List Jvm.Cond) (y : Addr) (em : Addr) (h0 : Heap) (n0 : Nat) (Z0 : n0 ≤ h0.size) (O : Old Z n0 h0) (SE : Sta Z Z.heap "java/util/ImmutableCollections" "EMPTY" "Ljava/lang/Object;" (.ref em)) :
    MetFree l (⟨"java/util/List", "of", "(Ljava/lang/Object;)Ljava/util/List;"⟩ : MethodName) (head1 (Jvm.Cond.code (⟨"java/util/List", "of", "(Ljava/lang/Object;)Ljava/util/List;"⟩ : MethodName) jdk_40_method_37_code 1 (some (.object "java/util/List")) :: ws) ({ frames := 5, cells := 1, slots := 2, locals := 70 } : Room)) (fun aa_ U => aa_ = #[(.ref y)] ∧ Z.Warmed39 U.vm ∧ U.heap = h0) (fun _ _ _ _ _ => True) (fun _ U o U' => ∃ v L, o = .returned v ∧ Q5 Z y em h0 n0 v U'.heap L ∧ FrameEnd U o U' L ({ frames := 5, cells := 1, slots := 2, locals := 70 } : Room).cells ({ frames := 5, cells := 1, slots := 2, locals := 70 } : Room).slots) := by
  refine MetFree.of_bodySF (plainFor_of_name pn9) hisR ?_
  intro p e s m args below meth c s₁ Bd hml0 hP hK
  obtain ⟨rfl, hZ, hh⟩ := hP
  have hx := Bd.exec
  have hby := Bd.bytes
  have hml : c.maxLocals = 1 := hml0
  have hown : s.vm.findClass "java/util/List" = some m.cls := findClass_of_methodNamed Bd.named
  have hnm := (name_of_methodNamed Bd.named Bd.method).1
  have X0 : Stand p l e ({ frames := 5, cells := 1, slots := 2, locals := 70 } : Room) s m #[(.ref y)] below meth c s₁ [] 0 0 := Stand.of_body Bd
  have e0 : s₁.heap = h0 := by rw [← hh, Bd.state]; rfl
  have N0 := Fr.nil n0
  obtain ⟨G, hG⟩ : ∃ G, G = entryFrame m #[(.ref y)] 1 := ⟨_, rfl⟩
  have S0 : own_Go p e below s₁ G s₁ (mkF m 0 #[.val (.ref y)] []) := fun tg_ kk_ => castTop (by rw [hG]; first | rfl | simp [entryFrame, mkF, argsToLocals, Value.category, maxLocals]) kk_
  obtain ⟨T90, h90, X90, e90, E90, A90, D90, -, st90⟩ := newO X0 hx hZ hown (hw _ (List.mem_of_getElem? (i := 25) rfl)) (hw _ (List.mem_of_getElem? (i := 26) rfl)) (hw _ (List.mem_of_getElem? (i := 27) rfl)) e0 (g := (mkF m 0 #[.val (.ref y)] [])) rfl (hb hby d5_0) (by decide) (by decide)
  obtain ⟨a90, g90⟩ : ∃ z, z = h0.size := ⟨_, rfl⟩
  rw [← g90] at A90 D90 st90
  have S91 : own_Go p e below s₁ G T90 (mkF m 3 #[.val (.ref y)] [(.ref a90)]) := fun tg_ kk_ => S0 tg_ (st90 tg_ kk_)
  have o92 : @LE.le Nat instLENat (n0) a90 := Nat.le_trans Z0 (Nat.le_of_eq g90.symm)
  have o93 : @LE.le Nat instLENat (h0.size) a90 := Nat.le_trans (Keep.refl h0 []).1 (Nat.le_of_eq g90.symm)
  have f94 := O.ext E90
  have f95 := own_sub Z0 E90
  have f96 := Keep.ext (Keep.refl h0 []) E90
  have f97 : Fld Z h90 a90 "java/util/ImmutableCollections$List12" "e0" "Ljava/lang/Object;" .null := D90 (Or.inr (hw _ (List.mem_of_getElem? (i := 58) rfl))) (ty := (.object "java/lang/Object")) (by decide)
  have f98 : Fld Z h90 a90 "java/util/ImmutableCollections$List12" "e1" "Ljava/lang/Object;" .null := D90 (Or.inr (hw _ (List.mem_of_getElem? (i := 62) rfl))) (ty := (.object "java/lang/Object")) (by decide)
  have S99 : own_Go p e below s₁ G T90 (mkF m 5 #[.val (.ref y)] [(.ref y), (.ref a90), (.ref a90)]) := fun tg_ kk_ => S91 tg_ (by
    refine XS.dup X90.here hx rfl (hb hby d5_3) rfl rfl ?_
    show Steps p.tables e below (T90.setTop (mkF m 4 #[.val (.ref y)] [(.ref a90), (.ref a90)])) _
    refine XS.aloadN X90.here hx rfl (hb hby d5_4) rfl rfl ?_
    exact kk_)
  obtain ⟨_, T100, h100, L100, X100, e100, hQ100, st100⟩ := own_callI X90 hx hZ (y := (⟨"java/util/ImmutableCollections$List12", "<init>", "(Ljava/lang/Object;)V"⟩ : MethodName)) rfl hown (hw _ (List.mem_of_getElem? (i := 28) rfl)) (hw _ (List.mem_of_getElem? (i := 29) rfl)) (hw _ (List.mem_of_getElem? (i := 27) rfl)) (hw _ (List.mem_of_getElem? (i := 31) rfl)) (by decide) 1 (g := (mkF m 5 #[.val (.ref y)] [(.ref y), (.ref a90), (.ref a90)])) rfl (by rw [hml]; rfl) a90 [(.ref y)] [(.ref a90)] (rm6 l Z a0 hw [] a90 y em h90 n0 f95 A90 (by omega) f97 f98 f94 SE) (lenOf pd7 rfl) rfl (by show 2 * 0 + _ ≤ _; exact Nat.le_of_eq rfl) (hb hby d5_5) (by decide) (by decide) e90 (by decide) (by decide)
  obtain ⟨rfl, N100, K100, Fa100, Fb100⟩ := hQ100
  have S101 : own_Go p e below s₁ G T100 (mkF m 8 #[.val (.ref y)] [(.ref a90)]) := fun tg_ kk_ => S99 tg_ (st100 tg_ kk_)
  have f102 := Fr.app N0 N100
  have f103 := f94.keep K100 (allS (by omega) all0)
  have f104 := Nat.le_trans f95 K100.1
  have f105 := A90.keep K100
  have f106 := Keep.trans f96 K100 (allS (Or.inr (by omega)) all0)
  obtain ⟨fs, hr, hrun, hended, hW, hsame⟩ := X100.leave (v := some (.ref a90)) (fun h => by rw [Bd.returns] at h; cases h)
  refine ⟨_, _, ?_, hrun, hended, _, _, rfl, ?_, ⟨_, rfl⟩, hW, hsame.mono (by decide) (by decide)⟩
  · rw [← hG]; exact S101 _ (retOut X100 hx Bd.returns (by first | rfl | cases (.ref a90) <;> rfl) (Or.inr (Or.inr (Or.inr (Or.inr ⟨rfl, rfl, rfl⟩)))) (hb hby d5_8) hr)
  · show Q5 Z y em h0 n0 _ T100.heap _
    rw [e100]
    exact ⟨a90, rfl, f102, f106, by omega, f105, Fa100, Fb100⟩
def Q12 (Z : State) (x : Addr) (y : Addr) (u : Addr) (h0 : Heap) (n0 : Nat) (v : Option Value) (h : Heap) (L : List Loc) : Prop := v = none ∧ Fr n0 L ∧ Keep h0 h [x] ∧ Fld Z h x "com/example/provenans/provenans/model/Notation" "steps" "Ljava/util/List;" (.ref y) ∧ Fld Z h x "com/example/provenans/provenans/model/Notation" "level" "Lcom/example/provenans/provenans/model/Notation$Level;" (.ref u) ∧ Fld Z h x "com/example/provenans/provenans/model/Notation" "recordType" "I" (.int 0)
set_option maxRecDepth 65536 in
set_option maxHeartbeats 40000000 in
theorem rm12 (l : Launch) (Z : State) (a0 : Array Value) (hw : ∀ d ∈ tables_1, d.before a0 Z = true) (ws : List Jvm.Cond) (x : Addr) (y : Addr) (u : Addr) (h0 : Heap) (n0 : Nat) (Z0 : n0 ≤ h0.size) (Ex : Exa Z h0 x "com/example/provenans/provenans/model/Notation") (hx0 : @LE.le Nat instLENat (n0) x) (F0 : Fld Z h0 x "com/example/provenans/provenans/model/Notation" "steps" "Ljava/util/List;" .null) (F1 : Fld Z h0 x "com/example/provenans/provenans/model/Notation" "level" "Lcom/example/provenans/provenans/model/Notation$Level;" .null) (F2 : Fld Z h0 x "com/example/provenans/provenans/model/Notation" "recordType" "I" (.int 0)) :
    MetFree l (⟨"com/example/provenans/provenans/model/Notation", "<init>", "(Ljava/util/List;Lcom/example/provenans/provenans/model/Notation$Level;I)V"⟩ : MethodName) (head1 (Jvm.Cond.code (⟨"com/example/provenans/provenans/model/Notation", "<init>", "(Ljava/util/List;Lcom/example/provenans/provenans/model/Notation$Level;I)V"⟩ : MethodName) prog_57_method_1_code 4 none :: ws) ({ frames := 1, cells := 0, slots := 0, locals := 16 } : Room)) (fun aa_ U => aa_ = #[(.ref x), (.ref y), (.ref u), (.int (0 : Int32))] ∧ Z.Warmed39 U.vm ∧ U.heap = h0) (fun _ _ _ _ _ => True) (fun _ U o U' => ∃ v L, o = .returned v ∧ Q12 Z x y u h0 n0 v U'.heap L ∧ FrameEnd U o U' L ({ frames := 1, cells := 0, slots := 0, locals := 16 } : Room).cells ({ frames := 1, cells := 0, slots := 0, locals := 16 } : Room).slots) := by
  refine MetFree.of_bodySF (plainFor_of_name pn1) hisR ?_
  intro p e s m args below meth c s₁ Bd hml0 hP hK
  obtain ⟨rfl, hZ, hh⟩ := hP
  have hx := Bd.exec
  have hby := Bd.bytes
  have hml : c.maxLocals = 4 := hml0
  have hown : s.vm.findClass "com/example/provenans/provenans/model/Notation" = some m.cls := findClass_of_methodNamed Bd.named
  have hnm := (name_of_methodNamed Bd.named Bd.method).1
  have X0 : Stand p l e ({ frames := 1, cells := 0, slots := 0, locals := 16 } : Room) s m #[(.ref x), (.ref y), (.ref u), (.int (0 : Int32))] below meth c s₁ [] 0 0 := Stand.of_body Bd
  have e0 : s₁.heap = h0 := by rw [← hh, Bd.state]; rfl
  have N0 := Fr.nil n0
  obtain ⟨G, hG⟩ : ∃ G, G = entryFrame m #[(.ref x), (.ref y), (.ref u), (.int (0 : Int32))] 4 := ⟨_, rfl⟩
  have S0 : own_Go p e below s₁ G s₁ (mkF m 0 #[.val (.ref x), .val (.ref y), .val (.ref u), .val (.int (0 : Int32))] []) := fun tg_ kk_ => castTop (by rw [hG]; first | (simp [entryFrame, mkF, argsToLocals, Value.category, maxLocals]; done) | rfl) kk_
  have S107 : own_Go p e below s₁ G s₁ (mkF m 1 #[.val (.ref x), .val (.ref y), .val (.ref u), .val (.int (0 : Int32))] [(.ref x)]) := fun tg_ kk_ => S0 tg_ (by
    refine XS.aloadN X0.here hx rfl (hb hby d12_0) rfl rfl ?_
    exact kk_)
  obtain ⟨T108, X108, e108, st108⟩ := initO X0 hx hZ hown (hw _ (List.mem_of_getElem? (i := 69) rfl)) (hw _ (List.mem_of_getElem? (i := 51) rfl)) (hw _ (List.mem_of_getElem? (i := 52) rfl)) e0 (g := (mkF m 1 #[.val (.ref x), .val (.ref y), .val (.ref u), .val (.int (0 : Int32))] [(.ref x)])) rfl (by rw [hml]; rfl) rfl (hb hby d12_1) (by decide) (W := 0) (by show 2 * 0 + _ ≤ _; exact Nat.le_of_eq rfl) (by decide)
  have S109 : own_Go p e below s₁ G T108 (mkF m 4 #[.val (.ref x), .val (.ref y), .val (.ref u), .val (.int (0 : Int32))] []) := fun tg_ kk_ => S107 tg_ (st108 tg_ kk_)
  have S110 : own_Go p e below s₁ G T108 (mkF m 6 #[.val (.ref x), .val (.ref y), .val (.ref u), .val (.int (0 : Int32))] [(.ref y), (.ref x)]) := fun tg_ kk_ => S109 tg_ (by
    refine XS.aloadN X108.here hx rfl (hb hby d12_4) rfl rfl ?_
    show Steps p.tables e below (T108.setTop (mkF m 5 #[.val (.ref x), .val (.ref y), .val (.ref u), .val (.int (0 : Int32))] [(.ref x)])) _
    refine XS.aloadN X108.here hx rfl (hb hby d12_5) rfl rfl ?_
    exact kk_)
  obtain ⟨T111, h111, X111, e111, W111, st111⟩ := putF X108 hx hZ hown (host := "") (Or.inl (hw _ (List.mem_of_getElem? (i := 70) rfl))) Via.refl e108 F0 Ex (Or.inr ⟨(hw _ (List.mem_of_getElem? (i := 71) rfl)), rfl, hnm⟩) (hw _ (List.mem_of_getElem? (i := 10) rfl)) (ty := (.object "java/util/List")) (by decide) rfl rfl (g := (mkF m 6 #[.val (.ref x), .val (.ref y), .val (.ref u), .val (.int (0 : Int32))] [(.ref y), (.ref x)])) rfl rfl (hb hby d12_6)
  have S112 : own_Go p e below s₁ G T111 (mkF m 9 #[.val (.ref x), .val (.ref y), .val (.ref u), .val (.int (0 : Int32))] []) := fun tg_ kk_ => S110 tg_ (st111 tg_ kk_)
  have f113 := Fr.snoc X111 N0 (by omega)
  have f114 := Ex.wr W111
  have f115 := F0.same W111
  have f116 := F1.other W111 (Or.inr (slot_ne (C := "com/example/provenans/provenans/model/Notation") (a0 := a0) (Or.inr (hw _ (List.mem_of_getElem? (i := 73) rfl))) (Or.inr (hw _ (List.mem_of_getElem? (i := 71) rfl))) (by decide) (t := (.object "com/example/provenans/provenans/model/Notation$Level")) (by decide) (t' := (.object "java/util/List")) (by decide)))
  have f117 := F2.other W111 (Or.inr (slot_ne (C := "com/example/provenans/provenans/model/Notation") (a0 := a0) (Or.inr (hw _ (List.mem_of_getElem? (i := 75) rfl))) (Or.inr (hw _ (List.mem_of_getElem? (i := 71) rfl))) (by decide) (t := .int) (by decide) (t' := (.object "java/util/List")) (by decide)))
  have f118 := Keep.wr (Keep.refl h0 [x]) W111 (Or.inl (by simp))
  have S119 : own_Go p e below s₁ G T111 (mkF m 11 #[.val (.ref x), .val (.ref y), .val (.ref u), .val (.int (0 : Int32))] [(.ref u), (.ref x)]) := fun tg_ kk_ => S112 tg_ (by
    refine XS.aloadN X111.here hx rfl (hb hby d12_9) rfl rfl ?_
    show Steps p.tables e below (T111.setTop (mkF m 10 #[.val (.ref x), .val (.ref y), .val (.ref u), .val (.int (0 : Int32))] [(.ref x)])) _
    refine XS.aloadN X111.here hx rfl (hb hby d12_10) rfl rfl ?_
    exact kk_)
  obtain ⟨T120, h120, X120, e120, W120, st120⟩ := putF X111 hx hZ hown (host := "") (Or.inl (hw _ (List.mem_of_getElem? (i := 72) rfl))) Via.refl e111 f116 f114 (Or.inr ⟨(hw _ (List.mem_of_getElem? (i := 73) rfl)), rfl, hnm⟩) (hw _ (List.mem_of_getElem? (i := 10) rfl)) (ty := (.object "com/example/provenans/provenans/model/Notation$Level")) (by decide) rfl rfl (g := (mkF m 11 #[.val (.ref x), .val (.ref y), .val (.ref u), .val (.int (0 : Int32))] [(.ref u), (.ref x)])) rfl rfl (hb hby d12_11)
  have S121 : own_Go p e below s₁ G T120 (mkF m 14 #[.val (.ref x), .val (.ref y), .val (.ref u), .val (.int (0 : Int32))] []) := fun tg_ kk_ => S119 tg_ (st120 tg_ kk_)
  have f122 := Fr.snoc X120 f113 (by omega)
  have f123 := f114.wr W120
  have f124 := f115.other W120 (Or.inr (slot_ne (C := "com/example/provenans/provenans/model/Notation") (a0 := a0) (Or.inr (hw _ (List.mem_of_getElem? (i := 71) rfl))) (Or.inr (hw _ (List.mem_of_getElem? (i := 73) rfl))) (by decide) (t := (.object "java/util/List")) (by decide) (t' := (.object "com/example/provenans/provenans/model/Notation$Level")) (by decide)))
  have f125 := f116.same W120
  have f126 := f117.other W120 (Or.inr (slot_ne (C := "com/example/provenans/provenans/model/Notation") (a0 := a0) (Or.inr (hw _ (List.mem_of_getElem? (i := 75) rfl))) (Or.inr (hw _ (List.mem_of_getElem? (i := 73) rfl))) (by decide) (t := .int) (by decide) (t' := (.object "com/example/provenans/provenans/model/Notation$Level")) (by decide)))
  have f127 := Keep.wr f118 W120 (Or.inl (by simp))
  have S128 : own_Go p e below s₁ G T120 (mkF m 16 #[.val (.ref x), .val (.ref y), .val (.ref u), .val (.int (0 : Int32))] [(.int (0 : Int32)), (.ref x)]) := fun tg_ kk_ => S121 tg_ (by
    refine XS.aloadN X120.here hx rfl (hb hby d12_14) rfl rfl ?_
    show Steps p.tables e below (T120.setTop (mkF m 15 #[.val (.ref x), .val (.ref y), .val (.ref u), .val (.int (0 : Int32))] [(.ref x)])) _
    refine XS.iloadN X120.here hx rfl (hb hby d12_15) rfl ?_
    exact kk_)
  obtain ⟨T129, h129, X129, e129, W129, st129⟩ := putF X120 hx hZ hown (host := "") (Or.inl (hw _ (List.mem_of_getElem? (i := 74) rfl))) Via.refl e120 f126 f123 (Or.inr ⟨(hw _ (List.mem_of_getElem? (i := 75) rfl)), rfl, hnm⟩) (hw _ (List.mem_of_getElem? (i := 10) rfl)) (ty := .int) (by decide) rfl rfl (g := (mkF m 16 #[.val (.ref x), .val (.ref y), .val (.ref u), .val (.int (0 : Int32))] [(.int (0 : Int32)), (.ref x)])) rfl rfl (hb hby d12_16)
  have S130 : own_Go p e below s₁ G T129 (mkF m 19 #[.val (.ref x), .val (.ref y), .val (.ref u), .val (.int (0 : Int32))] []) := fun tg_ kk_ => S128 tg_ (st129 tg_ kk_)
  have f131 := Fr.snoc X129 f122 (by omega)
  have f132 := f123.wr W129
  have f133 := f124.other W129 (Or.inr (slot_ne (C := "com/example/provenans/provenans/model/Notation") (a0 := a0) (Or.inr (hw _ (List.mem_of_getElem? (i := 71) rfl))) (Or.inr (hw _ (List.mem_of_getElem? (i := 75) rfl))) (by decide) (t := (.object "java/util/List")) (by decide) (t' := .int) (by decide)))
  have f134 := f125.other W129 (Or.inr (slot_ne (C := "com/example/provenans/provenans/model/Notation") (a0 := a0) (Or.inr (hw _ (List.mem_of_getElem? (i := 73) rfl))) (Or.inr (hw _ (List.mem_of_getElem? (i := 75) rfl))) (by decide) (t := (.object "com/example/provenans/provenans/model/Notation$Level")) (by decide) (t' := .int) (by decide)))
  have f135 := f126.same W129
  have f136 := Keep.wr f127 W129 (Or.inl (by simp))
  obtain ⟨fs, hr, hrun, hended, hW, hsame⟩ := X129.leave (v := none) (fun _ => rfl)
  refine ⟨_, _, ?_, hrun, hended, _, _, rfl, ?_, ⟨_, rfl⟩, hW, hsame.mono (by decide) (by decide)⟩
  · rw [← hG]; exact S130 _ (X129.returnOut hx Bd.returns (hb hby d12_19) hr)
  · show Q12 Z x y u h0 n0 _ T129.heap _
    rw [e129]
    exact ⟨rfl, f131, f136, f133, f134, f135⟩
/-- a Notation of one step y, y an Integer worth k -/
def own_Not (Z : State) (h : Heap) (u em x d y : Addr) (k : Int32) : Prop := Exa Z h x "com/example/provenans/provenans/model/Notation" ∧ Fld Z h x "com/example/provenans/provenans/model/Notation" "steps" "Ljava/util/List;" (.ref d) ∧ Fld Z h x "com/example/provenans/provenans/model/Notation" "level" "Lcom/example/provenans/provenans/model/Notation$Level;" (.ref u) ∧ Fld Z h x "com/example/provenans/provenans/model/Notation" "recordType" "I" (.int 0) ∧ Exa Z h d "java/util/ImmutableCollections$List12" ∧ Fld Z h d "java/util/ImmutableCollections$List12" "e0" "Ljava/lang/Object;" (.ref y) ∧ Fld Z h d "java/util/ImmutableCollections$List12" "e1" "Ljava/lang/Object;" (.ref em) ∧ Exa Z h y "java/lang/Integer" ∧ Fld Z h y "java/lang/Integer" "value" "I" (.int k)
theorem own_Not.keep {Z : State} {h h' : Heap} {u em x d y : Addr} {k : Int32} (N : own_Not Z h u em x d y k) (K : Keep h h' []) : own_Not Z h' u em x d y k := ⟨N.1.keep K, N.2.1.keep K nin0, N.2.2.1.keep K nin0, N.2.2.2.1.keep K nin0, N.2.2.2.2.1.keep K, N.2.2.2.2.2.1.keep K nin0, N.2.2.2.2.2.2.1.keep K nin0, N.2.2.2.2.2.2.2.1.keep K, N.2.2.2.2.2.2.2.2.keep K nin0⟩
def Q2 (Z : State) (k : Int32) (u : Addr) (em : Addr) (h0 : Heap) (n0 : Nat) (v : Option Value) (h : Heap) (L : List Loc) : Prop := ∃ x d y, v = some (.ref x) ∧ Fr n0 L ∧ Keep h0 h [] ∧ @LE.le Nat instLENat (h0.size) d ∧ own_Not Z h u em x d y k
set_option maxRecDepth 65536 in
set_option maxHeartbeats 40000000 in
theorem rm2 (l : Launch) (Z : State) (a0 : Array Value) (hw : ∀ d ∈ tables_1, d.before a0 Z = true) (ws : List Jvm.Cond) (k : Int32) (u : Addr) (em : Addr) (h0 : Heap) (n0 : Nat) (Z0 : n0 ≤ h0.size) (hk : ¬ k < 1) (O : Old Z n0 h0) (SE : Sta Z Z.heap "java/util/ImmutableCollections" "EMPTY" "Ljava/lang/Object;" (.ref em)) (SU : Sta Z Z.heap "com/example/provenans/provenans/model/Notation$Level" "UNIT" "Lcom/example/provenans/provenans/model/Notation$Level;" (.ref u)) (ca : Addr) (cc : Cell) (SH : Sta Z Z.heap "java/lang/Integer$IntegerCache" "high" "I" (.int 127)) (SC : Sta Z Z.heap "java/lang/Integer$IntegerCache" "cache" "[Ljava/lang/Integer;" (.ref ca)) (AC : Arr Z Z.heap ca cc (.object "java/lang/Integer")) (CS : cc.slots.size = 256) (HC : ∀ x : Int32, ¬ x < 1 → ¬ (127 : Int32) < x → ∃ y, cc.slots[(x + 128).toNatClampNeg]? = some (.ref y) ∧ Exa Z Z.heap y "java/lang/Integer" ∧ Fld Z Z.heap y "java/lang/Integer" "value" "I" (.int x)) :
    MetFree l (⟨"com/example/provenans/provenans/model/Notation", "of", "(I)Lcom/example/provenans/provenans/model/Notation;"⟩ : MethodName) (head1 (Jvm.Cond.code (⟨"com/example/provenans/provenans/model/Notation", "of", "(I)Lcom/example/provenans/provenans/model/Notation;"⟩ : MethodName) prog_57_method_2_code 1 (some (.object "com/example/provenans/provenans/model/Notation")) :: ws) ({ frames := 6, cells := 3, slots := 6, locals := 90 } : Room)) (fun aa_ U => aa_ = #[(.int k)] ∧ Z.Warmed39 U.vm ∧ U.heap = h0) (fun _ _ _ _ _ => True) (fun _ U o U' => ∃ v L, o = .returned v ∧ Q2 Z k u em h0 n0 v U'.heap L ∧ FrameEnd U o U' L ({ frames := 6, cells := 3, slots := 6, locals := 90 } : Room).cells ({ frames := 6, cells := 3, slots := 6, locals := 90 } : Room).slots) := by
  refine MetFree.of_bodySF (plainFor_of_name pn1) hisR ?_
  intro p e s m args below meth c s₁ Bd hml0 hP hK
  obtain ⟨rfl, hZ, hh⟩ := hP
  have hx := Bd.exec
  have hby := Bd.bytes
  have hml : c.maxLocals = 1 := hml0
  have hown : s.vm.findClass "com/example/provenans/provenans/model/Notation" = some m.cls := findClass_of_methodNamed Bd.named
  have hnm := (name_of_methodNamed Bd.named Bd.method).1
  have X0 : Stand p l e ({ frames := 6, cells := 3, slots := 6, locals := 90 } : Room) s m #[(.int k)] below meth c s₁ [] 0 0 := Stand.of_body Bd
  have e0 : s₁.heap = h0 := by rw [← hh, Bd.state]; rfl
  have N0 := Fr.nil n0
  obtain ⟨G, hG⟩ : ∃ G, G = entryFrame m #[(.int k)] 1 := ⟨_, rfl⟩
  have S0 : own_Go p e below s₁ G s₁ (mkF m 0 #[.val (.int k)] []) := fun tg_ kk_ => castTop (by rw [hG]; first | rfl | simp [entryFrame, mkF, argsToLocals, Value.category, maxLocals]) kk_
  obtain ⟨T137, h137, X137, e137, E137, A137, D137, -, st137⟩ := newO X0 hx hZ hown (hw _ (List.mem_of_getElem? (i := 9) rfl)) (hw _ (List.mem_of_getElem? (i := 10) rfl)) (hw _ (List.mem_of_getElem? (i := 7) rfl)) e0 (g := (mkF m 0 #[.val (.int k)] [])) rfl (hb hby d2_0) (by decide) (by decide)
  obtain ⟨a137, g137⟩ : ∃ z, z = h0.size := ⟨_, rfl⟩
  rw [← g137] at A137 D137 st137
  have S138 : own_Go p e below s₁ G T137 (mkF m 3 #[.val (.int k)] [(.ref a137)]) := fun tg_ kk_ => S0 tg_ (st137 tg_ kk_)
  have o139 : @LE.le Nat instLENat (n0) a137 := Nat.le_trans Z0 (Nat.le_of_eq g137.symm)
  have o140 : @LE.le Nat instLENat (h0.size) a137 := Nat.le_trans (Keep.refl h0 []).1 (Nat.le_of_eq g137.symm)
  have f141 := O.ext E137
  have f142 := own_sub Z0 E137
  have f143 := Keep.ext (Keep.refl h0 []) E137
  have f144 : Fld Z h137 a137 "com/example/provenans/provenans/model/Notation" "steps" "Ljava/util/List;" .null := D137 (Or.inr (hw _ (List.mem_of_getElem? (i := 71) rfl))) (ty := (.object "java/util/List")) (by decide)
  have f145 : Fld Z h137 a137 "com/example/provenans/provenans/model/Notation" "level" "Lcom/example/provenans/provenans/model/Notation$Level;" .null := D137 (Or.inr (hw _ (List.mem_of_getElem? (i := 73) rfl))) (ty := (.object "com/example/provenans/provenans/model/Notation$Level")) (by decide)
  have f146 : Fld Z h137 a137 "com/example/provenans/provenans/model/Notation" "recordType" "I" (.int 0) := D137 (Or.inr (hw _ (List.mem_of_getElem? (i := 75) rfl))) (ty := .int) (by decide)
  have S147 : own_Go p e below s₁ G T137 (mkF m 5 #[.val (.int k)] [(.int k), (.ref a137), (.ref a137)]) := fun tg_ kk_ => S138 tg_ (by
    refine XS.dup X137.here hx rfl (hb hby d2_3) rfl rfl ?_
    show Steps p.tables e below (T137.setTop (mkF m 4 #[.val (.int k)] [(.ref a137), (.ref a137)])) _
    refine XS.iloadN X137.here hx rfl (hb hby d2_4) rfl ?_
    exact kk_)
  obtain ⟨_, T148, h148, L148, X148, e148, hQ148, st148⟩ := own_callS X137 hx hZ (y := (⟨"com/example/provenans/provenans/model/Notation", "positive", "(I)I"⟩ : MethodName)) hown (hw _ (List.mem_of_getElem? (i := 11) rfl)) (hw _ (List.mem_of_getElem? (i := 12) rfl)) (hw _ (List.mem_of_getElem? (i := 7) rfl)) (hw _ (List.mem_of_getElem? (i := 13) rfl)) (by decide) 2 (g := (mkF m 5 #[.val (.int k)] [(.int k), (.ref a137), (.ref a137)])) rfl (by rw [hml]; rfl) [(.int k)] [(.ref a137), (.ref a137)] (rm3 l Z a0 hw [] k h137 n0 f142 hk) (lenOf pd4 rfl) rfl (by show 2 * 0 + _ ≤ _; exact Nat.le_of_eq rfl) (hb hby d2_5) (by decide) (by decide) e137 (by decide) (by decide)
  obtain ⟨rfl, N148, rfl⟩ := hQ148
  have S149 : own_Go p e below s₁ G T148 (mkF m 8 #[.val (.int k)] [(.int k), (.ref a137), (.ref a137)]) := fun tg_ kk_ => S147 tg_ (st148 tg_ kk_)
  have M148 := Fr.app N0 N148
  obtain ⟨_, T150, h150, L150, X150, e150, hQ150, st150⟩ := own_callS X148 hx hZ (y := (⟨"java/lang/Integer", "valueOf", "(I)Ljava/lang/Integer;"⟩ : MethodName)) hown (hw _ (List.mem_of_getElem? (i := 14) rfl)) (hw _ (List.mem_of_getElem? (i := 15) rfl)) (hw _ (List.mem_of_getElem? (i := 16) rfl)) (hw _ (List.mem_of_getElem? (i := 17) rfl)) (by decide) 2 (g := (mkF m 8 #[.val (.int k)] [(.int k), (.ref a137), (.ref a137)])) rfl (by rw [hml]; rfl) [(.int k)] [(.ref a137), (.ref a137)] (rm4 l Z a0 hw [] k h137 n0 f142 hk f141 ca cc SH SC AC CS HC) (lenOf pd5 rfl) rfl (by show 2 * 0 + _ ≤ _; exact Nat.le_of_eq rfl) (hb hby d2_8) (by decide) (by decide) e148 (by decide) (by decide)
  obtain ⟨y, rfl, N150, K150, Ey, Fy⟩ := hQ150
  have S151 : own_Go p e below s₁ G T150 (mkF m 11 #[.val (.int k)] [(.ref y), (.ref a137), (.ref a137)]) := fun tg_ kk_ => S149 tg_ (st150 tg_ kk_)
  have f152 := Fr.app M148 N150
  have f153 := f141.keep K150 all0
  have f154 := Nat.le_trans f142 K150.1
  have f155 := A137.keep K150
  have f156 := f144.keep K150 nin0
  have f157 := f145.keep K150 nin0
  have f158 := f146.keep K150 nin0
  have f159 := Keep.trans f143 K150 all0
  obtain ⟨_, T160, h160, L160, X160, e160, hQ160, st160⟩ := own_callS X150 hx hZ (y := (⟨"java/util/List", "of", "(Ljava/lang/Object;)Ljava/util/List;"⟩ : MethodName)) hown (hw _ (List.mem_of_getElem? (i := 21) rfl)) (hw _ (List.mem_of_getElem? (i := 22) rfl)) (hw _ (List.mem_of_getElem? (i := 23) rfl)) (hw _ (List.mem_of_getElem? (i := 24) rfl)) (by decide) 2 (g := (mkF m 11 #[.val (.int k)] [(.ref y), (.ref a137), (.ref a137)])) rfl (by rw [hml]; rfl) [(.ref y)] [(.ref a137), (.ref a137)] (rm5 l Z a0 hw [] y em h150 n0 f154 f153 SE) (lenOf pd6 rfl) rfl (by show 2 * 0 + _ ≤ _; exact Nat.le_of_eq rfl) (hb hby d2_11) (by decide) (by decide) e150 (by decide) (by decide)
  obtain ⟨d, rfl, N160, K160, hd, Ed, Fd0, Fd1⟩ := hQ160
  have S161 : own_Go p e below s₁ G T160 (mkF m 14 #[.val (.int k)] [(.ref d), (.ref a137), (.ref a137)]) := fun tg_ kk_ => S151 tg_ (st160 tg_ kk_)
  have f162 := Fr.app f152 N160
  have hdk := Nat.le_trans f159.1 hd
  have hxd : @LT.lt Nat instLTNat a137 d := Nat.lt_of_lt_of_le f155.lt hd
  have Fy2 := Fy.keep K160 nin0
  have hyd : @LT.lt Nat instLTNat y d := Nat.lt_of_lt_of_le Ey.lt hd
  have f163 := f153.keep K160 all0
  have f164 := Nat.le_trans f154 K160.1
  have f165 := f155.keep K160
  have f166 := f156.keep K160 nin0
  have f167 := f157.keep K160 nin0
  have f168 := f158.keep K160 nin0
  have f169 := Ey.keep K160
  have f170 := Keep.trans f159 K160 all0
  obtain ⟨T171, X171, e171, st171⟩ := getS2 X160 hx hZ (host := "") hown (Or.inl (hw _ (List.mem_of_getElem? (i := 63) rfl))) Via.refl e160 (SU.ext f163.2) (g := (mkF m 14 #[.val (.int k)] [(.ref d), (.ref a137), (.ref a137)])) rfl (hb hby d2_14)
  have S172 : own_Go p e below s₁ G T171 (mkF m 17 #[.val (.int k)] [(.ref u), (.ref d), (.ref a137), (.ref a137)]) := fun tg_ kk_ => S161 tg_ (st171 tg_ kk_)
  have S173 : own_Go p e below s₁ G T171 (mkF m 18 #[.val (.int k)] [(.int (0 : Int32)), (.ref u), (.ref d), (.ref a137), (.ref a137)]) := fun tg_ kk_ => S172 tg_ (by
    refine XS.iconst X171.here hx rfl (hb hby d2_17) ?_
    exact kk_)
  obtain ⟨_, T174, h174, L174, X174, e174, hQ174, st174⟩ := own_callI X171 hx hZ (y := (⟨"com/example/provenans/provenans/model/Notation", "<init>", "(Ljava/util/List;Lcom/example/provenans/provenans/model/Notation$Level;I)V"⟩ : MethodName)) rfl hown (hw _ (List.mem_of_getElem? (i := 66) rfl)) (hw _ (List.mem_of_getElem? (i := 67) rfl)) (hw _ (List.mem_of_getElem? (i := 7) rfl)) (hw _ (List.mem_of_getElem? (i := 68) rfl)) (by decide) 1 (g := (mkF m 18 #[.val (.int k)] [(.int (0 : Int32)), (.ref u), (.ref d), (.ref a137), (.ref a137)])) rfl (by rw [hml]; rfl) a137 [(.ref d), (.ref u), (.int (0 : Int32))] [(.ref a137)] (rm12 l Z a0 hw [] a137 d u h160 n0 f164 f165 (by omega) f166 f167 f168) (lenOf pd10 rfl) rfl (by show 2 * 0 + _ ≤ _; exact Nat.le_of_eq rfl) (hb hby d2_18) (by decide) (by decide) e171 (by decide) (by decide)
  obtain ⟨rfl, N174, K174, G0, G1, G2⟩ := hQ174
  have S175 : own_Go p e below s₁ G T174 (mkF m 21 #[.val (.int k)] [(.ref a137)]) := fun tg_ kk_ => S173 tg_ (st174 tg_ kk_)
  have f176 := Fr.app f162 N174
  have hyx : y ≠ a137 := ne_exa f169 f165 (by decide)
  have Fy3 := Fy2.keep K174 (ninS hyx nin0)
  have f177 := f163.keep K174 (allS (by omega) all0)
  have f178 := Nat.le_trans f164 K174.1
  have f179 := f165.keep K174
  have f180 := f169.keep K174
  have f181 := Ed.keep K174
  have f182 := Fd0.keep K174 (ninS (own_negt (by omega)) nin0)
  have f183 := Fd1.keep K174 (ninS (own_negt (by omega)) nin0)
  have f184 := Keep.trans f170 K174 (allS (Or.inr (by omega)) all0)
  obtain ⟨fs, hr, hrun, hended, hW, hsame⟩ := X174.leave (v := some (.ref a137)) (fun h => by rw [Bd.returns] at h; cases h)
  refine ⟨_, _, ?_, hrun, hended, _, _, rfl, ?_, ⟨_, rfl⟩, hW, hsame.mono (by decide) (by decide)⟩
  · rw [← hG]; exact S175 _ (retOut X174 hx Bd.returns (by first | rfl | cases (.ref a137) <;> rfl) (Or.inr (Or.inr (Or.inr (Or.inr ⟨rfl, rfl, rfl⟩)))) (hb hby d2_21) hr)
  · show Q2 Z k u em h0 n0 _ T174.heap _
    rw [e174]
    exact ⟨a137, d, y, rfl, f176, f184, hdk, f179, G0, G1, G2, f181, f182, f183, f180, Fy3⟩
def Q13 (Z : State) (u : Addr) (em : Addr) (x : Addr) (d : Addr) (y : Addr) (k : Int32) (h0 : Heap) (n0 : Nat) (v : Option Value) (h : Heap) (L : List Loc) : Prop := v = some (.ref u) ∧ Fr n0 L ∧ h0 = h
set_option maxRecDepth 65536 in
set_option maxHeartbeats 40000000 in
theorem rm13 (l : Launch) (Z : State) (a0 : Array Value) (hw : ∀ d ∈ tables_1, d.before a0 Z = true) (ws : List Jvm.Cond) (u : Addr) (em : Addr) (x : Addr) (d : Addr) (y : Addr) (k : Int32) (h0 : Heap) (n0 : Nat) (Z0 : n0 ≤ h0.size) (N : own_Not Z h0 u em x d y k) :
    MetFree l (⟨"com/example/provenans/provenans/model/Notation", "level", "()Lcom/example/provenans/provenans/model/Notation$Level;"⟩ : MethodName) (head1 (Jvm.Cond.code (⟨"com/example/provenans/provenans/model/Notation", "level", "()Lcom/example/provenans/provenans/model/Notation$Level;"⟩ : MethodName) prog_57_method_7_code 1 (some (.object "com/example/provenans/provenans/model/Notation$Level")) :: ws) ({ frames := 0, cells := 0, slots := 0, locals := 0 } : Room)) (fun aa_ U => aa_ = #[(.ref x)] ∧ Z.Warmed39 U.vm ∧ U.heap = h0) (fun _ _ _ _ _ => True) (fun _ U o U' => ∃ v L, o = .returned v ∧ Q13 Z u em x d y k h0 n0 v U'.heap L ∧ FrameEnd U o U' L ({ frames := 0, cells := 0, slots := 0, locals := 0 } : Room).cells ({ frames := 0, cells := 0, slots := 0, locals := 0 } : Room).slots) := by
  refine MetFree.of_bodySF (plainFor_of_name pn1) hisR ?_
  intro p e s m args below meth c s₁ Bd hml0 hP hK
  obtain ⟨rfl, hZ, hh⟩ := hP
  have hx := Bd.exec
  have hby := Bd.bytes
  have hml : c.maxLocals = 1 := hml0
  have hown : s.vm.findClass "com/example/provenans/provenans/model/Notation" = some m.cls := findClass_of_methodNamed Bd.named
  have hnm := (name_of_methodNamed Bd.named Bd.method).1
  have X0 : Stand p l e ({ frames := 0, cells := 0, slots := 0, locals := 0 } : Room) s m #[(.ref x)] below meth c s₁ [] 0 0 := Stand.of_body Bd
  have e0 : s₁.heap = h0 := by rw [← hh, Bd.state]; rfl
  have N0 := Fr.nil n0
  obtain ⟨G, hG⟩ : ∃ G, G = entryFrame m #[(.ref x)] 1 := ⟨_, rfl⟩
  have S0 : own_Go p e below s₁ G s₁ (mkF m 0 #[.val (.ref x)] []) := fun tg_ kk_ => castTop (by rw [hG]; first | rfl | simp [entryFrame, mkF, argsToLocals, Value.category, maxLocals]) kk_
  obtain ⟨Ex, Fs, Fl, Fq, Ed, F0, F1, Ey, Fy⟩ := id N
  have S185 : own_Go p e below s₁ G s₁ (mkF m 1 #[.val (.ref x)] [(.ref x)]) := fun tg_ kk_ => S0 tg_ (by
    refine XS.aloadN X0.here hx rfl (hb hby d13_0) rfl rfl ?_
    exact kk_)
  obtain ⟨T186, X186, e186, st186⟩ := getF X0 hx hZ hown (host := "") (Or.inl (hw _ (List.mem_of_getElem? (i := 72) rfl))) Via.refl e0 Fl (g := (mkF m 1 #[.val (.ref x)] [(.ref x)])) rfl rfl (hb hby d13_1)
  have S187 : own_Go p e below s₁ G T186 (mkF m 4 #[.val (.ref x)] [(.ref u)]) := fun tg_ kk_ => S185 tg_ (st186 tg_ kk_)
  obtain ⟨fs, hr, hrun, hended, hW, hsame⟩ := X186.leave (v := some (.ref u)) (fun h => by rw [Bd.returns] at h; cases h)
  refine ⟨_, _, ?_, hrun, hended, _, _, rfl, ?_, ⟨_, rfl⟩, hW, hsame.mono (by decide) (by decide)⟩
  · rw [← hG]; exact S187 _ (retOut X186 hx Bd.returns (by first | rfl | cases (.ref u) <;> rfl) (Or.inr (Or.inr (Or.inr (Or.inr ⟨rfl, rfl, rfl⟩)))) (hb hby d13_4) hr)
  · show Q13 Z u em x d y k h0 n0 _ T186.heap _
    rw [e186]
    exact ⟨rfl, N0, rfl⟩
def Q15 (Z : State) (d : Addr) (em : Addr) (h0 : Heap) (n0 : Nat) (v : Option Value) (h : Heap) (L : List Loc) : Prop := v = some (.int 1) ∧ Fr n0 L ∧ h0 = h
set_option maxRecDepth 65536 in
set_option maxHeartbeats 40000000 in
theorem rm15 (l : Launch) (Z : State) (a0 : Array Value) (hw : ∀ d ∈ tables_1, d.before a0 Z = true) (ws : List Jvm.Cond) (d : Addr) (em : Addr) (h0 : Heap) (n0 : Nat) (Z0 : n0 ≤ h0.size) (F1 : Fld Z h0 d "java/util/ImmutableCollections$List12" "e1" "Ljava/lang/Object;" (.ref em)) (O : Old Z n0 h0) (SE : Sta Z Z.heap "java/util/ImmutableCollections" "EMPTY" "Ljava/lang/Object;" (.ref em)) :
    MetFree l (⟨"java/util/ImmutableCollections$List12", "size", "()I"⟩ : MethodName) (head1 (Jvm.Cond.code (⟨"java/util/ImmutableCollections$List12", "size", "()I"⟩ : MethodName) jdk_44_method_3_code 1 (some .int) :: ws) ({ frames := 0, cells := 0, slots := 0, locals := 0 } : Room)) (fun aa_ U => aa_ = #[(.ref d)] ∧ Z.Warmed39 U.vm ∧ U.heap = h0) (fun _ _ _ _ _ => True) (fun _ U o U' => ∃ v L, o = .returned v ∧ Q15 Z d em h0 n0 v U'.heap L ∧ FrameEnd U o U' L ({ frames := 0, cells := 0, slots := 0, locals := 0 } : Room).cells ({ frames := 0, cells := 0, slots := 0, locals := 0 } : Room).slots) := by
  refine MetFree.of_bodySF (plainFor_of_name pn8) hisR ?_
  intro p e s m args below meth c s₁ Bd hml0 hP hK
  obtain ⟨rfl, hZ, hh⟩ := hP
  have hx := Bd.exec
  have hby := Bd.bytes
  have hml : c.maxLocals = 1 := hml0
  have hown : s.vm.findClass "java/util/ImmutableCollections$List12" = some m.cls := findClass_of_methodNamed Bd.named
  have hnm := (name_of_methodNamed Bd.named Bd.method).1
  have X0 : Stand p l e ({ frames := 0, cells := 0, slots := 0, locals := 0 } : Room) s m #[(.ref d)] below meth c s₁ [] 0 0 := Stand.of_body Bd
  have e0 : s₁.heap = h0 := by rw [← hh, Bd.state]; rfl
  have N0 := Fr.nil n0
  obtain ⟨G, hG⟩ : ∃ G, G = entryFrame m #[(.ref d)] 1 := ⟨_, rfl⟩
  have S0 : own_Go p e below s₁ G s₁ (mkF m 0 #[.val (.ref d)] []) := fun tg_ kk_ => castTop (by rw [hG]; first | rfl | simp [entryFrame, mkF, argsToLocals, Value.category, maxLocals]) kk_
  have S188 : own_Go p e below s₁ G s₁ (mkF m 1 #[.val (.ref d)] [(.ref d)]) := fun tg_ kk_ => S0 tg_ (by
    refine XS.aloadN X0.here hx rfl (hb hby d15_0) rfl rfl ?_
    exact kk_)
  obtain ⟨T189, X189, e189, st189⟩ := getF X0 hx hZ hown (host := "") (Or.inl (hw _ (List.mem_of_getElem? (i := 61) rfl))) Via.refl e0 F1 (g := (mkF m 1 #[.val (.ref d)] [(.ref d)])) rfl rfl (hb hby d15_1)
  have S190 : own_Go p e below s₁ G T189 (mkF m 4 #[.val (.ref d)] [(.ref em)]) := fun tg_ kk_ => S188 tg_ (st189 tg_ kk_)
  obtain ⟨T191, X191, e191, st191⟩ := getS2 X189 hx hZ hown (Or.inr (hw _ (List.mem_of_getElem? (i := 59) rfl))) Via.refl e189 (SE.ext O.2) (g := (mkF m 4 #[.val (.ref d)] [(.ref em)])) rfl (hb hby d15_4)
  have S192 : own_Go p e below s₁ G T191 (mkF m 7 #[.val (.ref d)] [(.ref em), (.ref em)]) := fun tg_ kk_ => S190 tg_ (st191 tg_ kk_)
  have S193 : own_Go p e below s₁ G T191 (mkF m 15 #[.val (.ref d)] [(.int (1 : Int32))]) := fun tg_ kk_ => S192 tg_ (by
    refine XT.acmpYes X191.here hx rfl (pc0 := 7) (pc' := 14) rfl (hb hby d15_7) rfl (rfl) (rfl) (XT.aa_eq_t rfl) (by decide) (by decide) ?_
    show Steps p.tables e below (T191.setTop (mkF m 14 #[.val (.ref d)] [])) _
    refine XS.iconst X191.here hx rfl (hb hby d15_14) ?_
    exact kk_)
  obtain ⟨fs, hr, hrun, hended, hW, hsame⟩ := X191.leave (v := some (.int (1 : Int32))) (fun h => by rw [Bd.returns] at h; cases h)
  refine ⟨_, _, ?_, hrun, hended, _, _, rfl, ?_, ⟨_, rfl⟩, hW, hsame.mono (by decide) (by decide)⟩
  · rw [← hG]; exact S193 _ (retI X191 hx Bd.returns (hb hby d15_15) hr)
  · show Q15 Z d em h0 n0 _ T191.heap _
    rw [e191]
    exact ⟨rfl, N0, rfl⟩
theorem pn10 : plainName "java/lang/Enum" = true := by first | (simp [plainName, overriddenIn]; done) | decide +kernel
def Q16 (Z : State) (u : Addr) (h0 : Heap) (n0 : Nat) (v : Option Value) (h : Heap) (L : List Loc) : Prop := v = some (.int 0) ∧ Fr n0 L ∧ h0 = h
set_option maxRecDepth 65536 in
set_option maxHeartbeats 40000000 in
theorem rm16 (l : Launch) (Z : State) (a0 : Array Value) (hw : ∀ d ∈ tables_1, d.before a0 Z = true) (ws : List Jvm.Cond) (u : Addr) (h0 : Heap) (n0 : Nat) (Z0 : n0 ≤ h0.size) (FU : Fld Z h0 u "java/lang/Enum" "ordinal" "I" (.int 0)) :
    MetFree l (⟨"java/lang/Enum", "ordinal", "()I"⟩ : MethodName) (head1 (Jvm.Cond.code (⟨"java/lang/Enum", "ordinal", "()I"⟩ : MethodName) jdk_37_method_2_code 1 (some .int) :: ws) ({ frames := 0, cells := 0, slots := 0, locals := 0 } : Room)) (fun aa_ U => aa_ = #[(.ref u)] ∧ Z.Warmed39 U.vm ∧ U.heap = h0) (fun _ _ _ _ _ => True) (fun _ U o U' => ∃ v L, o = .returned v ∧ Q16 Z u h0 n0 v U'.heap L ∧ FrameEnd U o U' L ({ frames := 0, cells := 0, slots := 0, locals := 0 } : Room).cells ({ frames := 0, cells := 0, slots := 0, locals := 0 } : Room).slots) := by
  refine MetFree.of_bodySF (plainFor_of_name pn10) hisR ?_
  intro p e s m args below meth c s₁ Bd hml0 hP hK
  obtain ⟨rfl, hZ, hh⟩ := hP
  have hx := Bd.exec
  have hby := Bd.bytes
  have hml : c.maxLocals = 1 := hml0
  have hown : s.vm.findClass "java/lang/Enum" = some m.cls := findClass_of_methodNamed Bd.named
  have hnm := (name_of_methodNamed Bd.named Bd.method).1
  have X0 : Stand p l e ({ frames := 0, cells := 0, slots := 0, locals := 0 } : Room) s m #[(.ref u)] below meth c s₁ [] 0 0 := Stand.of_body Bd
  have e0 : s₁.heap = h0 := by rw [← hh, Bd.state]; rfl
  have N0 := Fr.nil n0
  obtain ⟨G, hG⟩ : ∃ G, G = entryFrame m #[(.ref u)] 1 := ⟨_, rfl⟩
  have S0 : own_Go p e below s₁ G s₁ (mkF m 0 #[.val (.ref u)] []) := fun tg_ kk_ => castTop (by rw [hG]; first | rfl | simp [entryFrame, mkF, argsToLocals, Value.category, maxLocals]) kk_
  have S194 : own_Go p e below s₁ G s₁ (mkF m 1 #[.val (.ref u)] [(.ref u)]) := fun tg_ kk_ => S0 tg_ (by
    refine XS.aloadN X0.here hx rfl (hb hby d16_0) rfl rfl ?_
    exact kk_)
  obtain ⟨T195, X195, e195, st195⟩ := getF X0 hx hZ hown (host := "") (Or.inl (hw _ (List.mem_of_getElem? (i := 103) rfl))) Via.refl e0 FU (g := (mkF m 1 #[.val (.ref u)] [(.ref u)])) rfl rfl (hb hby d16_1)
  have S196 : own_Go p e below s₁ G T195 (mkF m 4 #[.val (.ref u)] [(.int (0 : Int32))]) := fun tg_ kk_ => S194 tg_ (st195 tg_ kk_)
  obtain ⟨fs, hr, hrun, hended, hW, hsame⟩ := X195.leave (v := some (.int (0 : Int32))) (fun h => by rw [Bd.returns] at h; cases h)
  refine ⟨_, _, ?_, hrun, hended, _, _, rfl, ?_, ⟨_, rfl⟩, hW, hsame.mono (by decide) (by decide)⟩
  · rw [← hG]; exact S196 _ (retI X195 hx Bd.returns (hb hby d16_4) hr)
  · show Q16 Z u h0 n0 _ T195.heap _
    rw [e195]
    exact ⟨rfl, N0, rfl⟩
def Q14 (Z : State) (u : Addr) (em : Addr) (x : Addr) (d : Addr) (y : Addr) (k : Int32) (h0 : Heap) (n0 : Nat) (v : Option Value) (h : Heap) (L : List Loc) : Prop := v = some (.int 0) ∧ Fr n0 L ∧ h0 = h
set_option maxRecDepth 65536 in
set_option maxHeartbeats 40000000 in
theorem rm14 (l : Launch) (Z : State) (a0 : Array Value) (hw : ∀ d ∈ tables_1, d.before a0 Z = true) (ws : List Jvm.Cond) (u : Addr) (em : Addr) (x : Addr) (d : Addr) (y : Addr) (k : Int32) (h0 : Heap) (n0 : Nat) (Z0 : n0 ≤ h0.size) (N : own_Not Z h0 u em x d y k) (O : Old Z n0 h0) (SE : Sta Z Z.heap "java/util/ImmutableCollections" "EMPTY" "Ljava/lang/Object;" (.ref em)) (SU : Sta Z Z.heap "com/example/provenans/provenans/model/Notation$Level" "UNIT" "Lcom/example/provenans/provenans/model/Notation$Level;" (.ref u)) (EU : Exa Z Z.heap u "com/example/provenans/provenans/model/Notation$Level") (FU : Fld Z Z.heap u "java/lang/Enum" "ordinal" "I" (.int 0)) :
    MetFree l (⟨"com/example/provenans/provenans/model/Notation", "depth", "()I"⟩ : MethodName) (head1 (Jvm.Cond.code (⟨"com/example/provenans/provenans/model/Notation", "depth", "()I"⟩ : MethodName) prog_57_method_8_code 1 (some .int) :: ws) ({ frames := 1, cells := 0, slots := 0, locals := 16 } : Room)) (fun aa_ U => aa_ = #[(.ref x)] ∧ Z.Warmed39 U.vm ∧ U.heap = h0) (fun _ _ _ _ _ => True) (fun _ U o U' => ∃ v L, o = .returned v ∧ Q14 Z u em x d y k h0 n0 v U'.heap L ∧ FrameEnd U o U' L ({ frames := 1, cells := 0, slots := 0, locals := 16 } : Room).cells ({ frames := 1, cells := 0, slots := 0, locals := 16 } : Room).slots) := by
  refine MetFree.of_bodySF (plainFor_of_name pn1) hisR ?_
  intro p e s m args below meth c s₁ Bd hml0 hP hK
  obtain ⟨rfl, hZ, hh⟩ := hP
  have hx := Bd.exec
  have hby := Bd.bytes
  have hml : c.maxLocals = 1 := hml0
  have hown : s.vm.findClass "com/example/provenans/provenans/model/Notation" = some m.cls := findClass_of_methodNamed Bd.named
  have hnm := (name_of_methodNamed Bd.named Bd.method).1
  have X0 : Stand p l e ({ frames := 1, cells := 0, slots := 0, locals := 16 } : Room) s m #[(.ref x)] below meth c s₁ [] 0 0 := Stand.of_body Bd
  have e0 : s₁.heap = h0 := by rw [← hh, Bd.state]; rfl
  have N0 := Fr.nil n0
  obtain ⟨G, hG⟩ : ∃ G, G = entryFrame m #[(.ref x)] 1 := ⟨_, rfl⟩
  have S0 : own_Go p e below s₁ G s₁ (mkF m 0 #[.val (.ref x)] []) := fun tg_ kk_ => castTop (by rw [hG]; first | rfl | simp [entryFrame, mkF, argsToLocals, Value.category, maxLocals]) kk_
  obtain ⟨Ex, Fs, Fl, Fq, Ed, F0, F1, Ey, Fy⟩ := id N
  have S197 : own_Go p e below s₁ G s₁ (mkF m 1 #[.val (.ref x)] [(.ref x)]) := fun tg_ kk_ => S0 tg_ (by
    refine XS.aloadN X0.here hx rfl (hb hby d14_0) rfl rfl ?_
    exact kk_)
  obtain ⟨T198, X198, e198, st198⟩ := getF X0 hx hZ hown (host := "") (Or.inl (hw _ (List.mem_of_getElem? (i := 70) rfl))) Via.refl e0 Fs (g := (mkF m 1 #[.val (.ref x)] [(.ref x)])) rfl rfl (hb hby d14_1)
  have S199 : own_Go p e below s₁ G T198 (mkF m 4 #[.val (.ref x)] [(.ref d)]) := fun tg_ kk_ => S197 tg_ (st198 tg_ kk_)
  obtain ⟨_, T200, h200, L200, X200, e200, hQ200, st200⟩ := own_callF X198 hx hZ (y := (⟨"java/util/List", "size", "()I"⟩ : MethodName)) (z := (⟨"java/util/ImmutableCollections$List12", "size", "()I"⟩ : MethodName)) hown (hw _ (List.mem_of_getElem? (i := 87) rfl)) (hw _ (List.mem_of_getElem? (i := 88) rfl)) (mvT hZ (hw _ (List.mem_of_getElem? (i := 89) rfl))) (hw _ (List.mem_of_getElem? (i := 90) rfl)) (hw _ (List.mem_of_getElem? (i := 91) rfl)) (hw _ (List.mem_of_getElem? (i := 92) rfl)) (hw _ (List.mem_of_getElem? (i := 93) rfl)) (hw _ (List.mem_of_getElem? (i := 94) rfl)) (hw _ (List.mem_of_getElem? (i := 27) rfl)) (hw _ (List.mem_of_getElem? (i := 95) rfl)) (by decide) 0 (g := (mkF m 4 #[.val (.ref x)] [(.ref d)])) rfl (by rw [hml]; rfl) d Ed [] [] (rm15 l Z a0 hw [] d em h0 n0 Z0 F1 O SE) (lenOf pd12 rfl) rfl (by show 2 * 0 + _ ≤ _; exact Nat.le_of_eq rfl) (hb hby d14_4) (by decide) (by decide) e198 (by decide) (by decide)
  obtain ⟨rfl, N200, rfl⟩ := hQ200
  have S201 : own_Go p e below s₁ G T200 (mkF m 9 #[.val (.ref x)] [(.int (1 : Int32))]) := fun tg_ kk_ => S199 tg_ (st200 tg_ kk_)
  have M200 := Fr.app N0 N200
  have S202 : own_Go p e below s₁ G T200 (mkF m 11 #[.val (.ref x)] [(.int ((1 : Int32) - (1 : Int32)))]) := fun tg_ kk_ => S201 tg_ (by
    refine XS.iconst X200.here hx rfl (hb hby d14_9) ?_
    show Steps p.tables e below (T200.setTop (mkF m 10 #[.val (.ref x)] [(.int (1 : Int32)), (.int (1 : Int32))])) _
    refine XS.isub X200.here hx rfl (hb hby d14_10) rfl ?_
    exact kk_)
  rw [show ((1 : Int32) - (1 : Int32)) = (0 : Int32) from by decide +kernel] at S202
  have S203 : own_Go p e below s₁ G T200 (mkF m 12 #[.val (.ref x)] [(.ref x), (.int (0 : Int32))]) := fun tg_ kk_ => S202 tg_ (by
    refine XS.aloadN X200.here hx rfl (hb hby d14_11) rfl rfl ?_
    exact kk_)
  obtain ⟨T204, X204, e204, st204⟩ := getF X200 hx hZ hown (host := "") (Or.inl (hw _ (List.mem_of_getElem? (i := 72) rfl))) Via.refl e200 Fl (g := (mkF m 12 #[.val (.ref x)] [(.ref x), (.int (0 : Int32))])) rfl rfl (hb hby d14_12)
  have S205 : own_Go p e below s₁ G T204 (mkF m 15 #[.val (.ref x)] [(.ref u), (.int (0 : Int32))]) := fun tg_ kk_ => S203 tg_ (st204 tg_ kk_)
  obtain ⟨_, T206, h206, L206, X206, e206, hQ206, st206⟩ := own_callU X204 hx hZ (y := (⟨"com/example/provenans/provenans/model/Notation$Level", "ordinal", "()I"⟩ : MethodName)) (z := (⟨"java/lang/Enum", "ordinal", "()I"⟩ : MethodName)) hown (hw _ (List.mem_of_getElem? (i := 96) rfl)) (hw _ (List.mem_of_getElem? (i := 97) rfl)) (hw _ (List.mem_of_getElem? (i := 98) rfl)) (hw _ (List.mem_of_getElem? (i := 100) rfl)) (hw _ (List.mem_of_getElem? (i := 99) rfl)) (hw _ (List.mem_of_getElem? (i := 101) rfl)) (hw _ (List.mem_of_getElem? (i := 102) rfl)) (by decide) 1 (g := (mkF m 15 #[.val (.ref x)] [(.ref u), (.int (0 : Int32))])) rfl (by rw [hml]; rfl) u (EU.ext O.2) [] [(.int (0 : Int32))] (rm16 l Z a0 hw [] u h0 n0 Z0 (FU.ext O.2)) (lenOf pd12 rfl) rfl (by show 2 * 0 + _ ≤ _; exact Nat.le_of_eq rfl) (hb hby d14_15) (by decide) (by decide) e204 (by decide) (by decide)
  obtain ⟨rfl, N206, rfl⟩ := hQ206
  have S207 : own_Go p e below s₁ G T206 (mkF m 18 #[.val (.ref x)] [(.int (0 : Int32)), (.int (0 : Int32))]) := fun tg_ kk_ => S205 tg_ (st206 tg_ kk_)
  have M206 := Fr.app M200 N206
  have S208 : own_Go p e below s₁ G T206 (mkF m 19 #[.val (.ref x)] [(.int ((0 : Int32) + (0 : Int32)))]) := fun tg_ kk_ => S207 tg_ (by
    refine XS.iadd X206.here hx rfl (hb hby d14_18) rfl ?_
    exact kk_)
  rw [show ((0 : Int32) + (0 : Int32)) = (0 : Int32) from by decide +kernel] at S208
  obtain ⟨fs, hr, hrun, hended, hW, hsame⟩ := X206.leave (v := some (.int (0 : Int32))) (fun h => by rw [Bd.returns] at h; cases h)
  refine ⟨_, _, ?_, hrun, hended, _, _, rfl, ?_, ⟨_, rfl⟩, hW, hsame.mono (by decide) (by decide)⟩
  · rw [← hG]; exact S208 _ (retI X206 hx Bd.returns (hb hby d14_19) hr)
  · show Q14 Z u em x d y k h0 n0 _ T206.heap _
    rw [e206]
    exact ⟨rfl, M206, rfl⟩
def Q17 (Z : State) (u : Addr) (em : Addr) (x : Addr) (d : Addr) (y : Addr) (k : Int32) (h0 : Heap) (n0 : Nat) (v : Option Value) (h : Heap) (L : List Loc) : Prop := v = some .null ∧ Fr n0 L ∧ h0 = h
set_option maxRecDepth 65536 in
set_option maxHeartbeats 40000000 in
theorem rm17 (l : Launch) (Z : State) (a0 : Array Value) (hw : ∀ d ∈ tables_1, d.before a0 Z = true) (ws : List Jvm.Cond) (u : Addr) (em : Addr) (x : Addr) (d : Addr) (y : Addr) (k : Int32) (h0 : Heap) (n0 : Nat) (Z0 : n0 ≤ h0.size) (N : own_Not Z h0 u em x d y k) (O : Old Z n0 h0) (SE : Sta Z Z.heap "java/util/ImmutableCollections" "EMPTY" "Ljava/lang/Object;" (.ref em)) (SU : Sta Z Z.heap "com/example/provenans/provenans/model/Notation$Level" "UNIT" "Lcom/example/provenans/provenans/model/Notation$Level;" (.ref u)) (EU : Exa Z Z.heap u "com/example/provenans/provenans/model/Notation$Level") (FU : Fld Z Z.heap u "java/lang/Enum" "ordinal" "I" (.int 0)) (rt rg : Addr) (SRT : Sta Z Z.heap "com/example/provenans/provenans/model/Notation$Level" "RECORD_TYPE" "Lcom/example/provenans/provenans/model/Notation$Level;" (.ref rt)) (SRG : Sta Z Z.heap "com/example/provenans/provenans/model/Notation$Level" "RECORD_GROUP" "Lcom/example/provenans/provenans/model/Notation$Level;" (.ref rg)) (hrt : u ≠ rt) (hrg : u ≠ rg) :
    MetFree l (⟨"com/example/provenans/provenans/model/Notation", "above", "()Lcom/example/provenans/provenans/model/Notation;"⟩ : MethodName) (head1 (Jvm.Cond.code (⟨"com/example/provenans/provenans/model/Notation", "above", "()Lcom/example/provenans/provenans/model/Notation;"⟩ : MethodName) prog_57_method_6_code 2 (some (.object "com/example/provenans/provenans/model/Notation")) :: ws) ({ frames := 1, cells := 0, slots := 0, locals := 16 } : Room)) (fun aa_ U => aa_ = #[(.ref x)] ∧ Z.Warmed39 U.vm ∧ U.heap = h0) (fun _ _ _ _ _ => True) (fun _ U o U' => ∃ v L, o = .returned v ∧ Q17 Z u em x d y k h0 n0 v U'.heap L ∧ FrameEnd U o U' L ({ frames := 1, cells := 0, slots := 0, locals := 16 } : Room).cells ({ frames := 1, cells := 0, slots := 0, locals := 16 } : Room).slots) := by
  refine MetFree.of_bodySF (plainFor_of_name pn1) hisR ?_
  intro p e s m args below meth c s₁ Bd hml0 hP hK
  obtain ⟨rfl, hZ, hh⟩ := hP
  have hx := Bd.exec
  have hby := Bd.bytes
  have hml : c.maxLocals = 2 := hml0
  have hown : s.vm.findClass "com/example/provenans/provenans/model/Notation" = some m.cls := findClass_of_methodNamed Bd.named
  have hnm := (name_of_methodNamed Bd.named Bd.method).1
  have X0 : Stand p l e ({ frames := 1, cells := 0, slots := 0, locals := 16 } : Room) s m #[(.ref x)] below meth c s₁ [] 0 0 := Stand.of_body Bd
  have e0 : s₁.heap = h0 := by rw [← hh, Bd.state]; rfl
  have N0 := Fr.nil n0
  obtain ⟨G, hG⟩ : ∃ G, G = entryFrame m #[(.ref x)] 2 := ⟨_, rfl⟩
  have S0 : own_Go p e below s₁ G s₁ (mkF m 0 #[.val (.ref x), .unset] []) := fun tg_ kk_ => castTop (by rw [hG]; first | rfl | simp [entryFrame, mkF, argsToLocals, Value.category, maxLocals]) kk_
  obtain ⟨Ex, Fs, Fl, Fq, Ed, F0, F1, Ey, Fy⟩ := id N
  have S209 : own_Go p e below s₁ G s₁ (mkF m 1 #[.val (.ref x), .unset] [(.ref x)]) := fun tg_ kk_ => S0 tg_ (by
    refine XS.aloadN X0.here hx rfl (hb hby d17_0) rfl rfl ?_
    exact kk_)
  obtain ⟨T210, X210, e210, st210⟩ := getF X0 hx hZ hown (host := "") (Or.inl (hw _ (List.mem_of_getElem? (i := 72) rfl))) Via.refl e0 Fl (g := (mkF m 1 #[.val (.ref x), .unset] [(.ref x)])) rfl rfl (hb hby d17_1)
  have S211 : own_Go p e below s₁ G T210 (mkF m 4 #[.val (.ref x), .unset] [(.ref u)]) := fun tg_ kk_ => S209 tg_ (st210 tg_ kk_)
  obtain ⟨T212, X212, e212, st212⟩ := getS2 X210 hx hZ (host := "") hown (Or.inl (hw _ (List.mem_of_getElem? (i := 110) rfl))) Via.refl e210 (SRT.ext O.2) (g := (mkF m 4 #[.val (.ref x), .unset] [(.ref u)])) rfl (hb hby d17_4)
  have S213 : own_Go p e below s₁ G T212 (mkF m 7 #[.val (.ref x), .unset] [(.ref rt), (.ref u)]) := fun tg_ kk_ => S211 tg_ (st212 tg_ kk_)
  have S214 : own_Go p e below s₁ G T212 (mkF m 30 #[.val (.ref x), .unset] [(.ref x)]) := fun tg_ kk_ => S213 tg_ (by
    refine XT.acmpYes X212.here hx rfl (pc0 := 7) (pc' := 29) rfl (hb hby d17_7) rfl (rfl) (rfl) (XT.aa_ne_t (fun q => hrt (Value.ref.inj q))) (by decide) (by decide) ?_
    show Steps p.tables e below (T212.setTop (mkF m 29 #[.val (.ref x), .unset] [])) _
    refine XS.aloadN X212.here hx rfl (hb hby d17_29) rfl rfl ?_
    exact kk_)
  obtain ⟨T215, X215, e215, st215⟩ := getF X212 hx hZ hown (host := "") (Or.inl (hw _ (List.mem_of_getElem? (i := 72) rfl))) Via.refl e212 Fl (g := (mkF m 30 #[.val (.ref x), .unset] [(.ref x)])) rfl rfl (hb hby d17_30)
  have S216 : own_Go p e below s₁ G T215 (mkF m 33 #[.val (.ref x), .unset] [(.ref u)]) := fun tg_ kk_ => S214 tg_ (st215 tg_ kk_)
  obtain ⟨T217, X217, e217, st217⟩ := getS2 X215 hx hZ (host := "") hown (Or.inl (hw _ (List.mem_of_getElem? (i := 112) rfl))) Via.refl e215 (SRG.ext O.2) (g := (mkF m 33 #[.val (.ref x), .unset] [(.ref u)])) rfl (hb hby d17_33)
  have S218 : own_Go p e below s₁ G T217 (mkF m 36 #[.val (.ref x), .unset] [(.ref rg), (.ref u)]) := fun tg_ kk_ => S216 tg_ (st217 tg_ kk_)
  have S219 : own_Go p e below s₁ G T217 (mkF m 59 #[.val (.ref x), .unset] [(.ref x)]) := fun tg_ kk_ => S218 tg_ (by
    refine XT.acmpYes X217.here hx rfl (pc0 := 36) (pc' := 58) rfl (hb hby d17_36) rfl (rfl) (rfl) (XT.aa_ne_t (fun q => hrg (Value.ref.inj q))) (by decide) (by decide) ?_
    show Steps p.tables e below (T217.setTop (mkF m 58 #[.val (.ref x), .unset] [])) _
    refine XS.aloadN X217.here hx rfl (hb hby d17_58) rfl rfl ?_
    exact kk_)
  obtain ⟨T220, X220, e220, st220⟩ := getF X217 hx hZ hown (host := "") (Or.inl (hw _ (List.mem_of_getElem? (i := 70) rfl))) Via.refl e217 Fs (g := (mkF m 59 #[.val (.ref x), .unset] [(.ref x)])) rfl rfl (hb hby d17_59)
  have S221 : own_Go p e below s₁ G T220 (mkF m 62 #[.val (.ref x), .unset] [(.ref d)]) := fun tg_ kk_ => S219 tg_ (st220 tg_ kk_)
  obtain ⟨_, T222, h222, L222, X222, e222, hQ222, st222⟩ := own_callF X220 hx hZ (y := (⟨"java/util/List", "size", "()I"⟩ : MethodName)) (z := (⟨"java/util/ImmutableCollections$List12", "size", "()I"⟩ : MethodName)) hown (hw _ (List.mem_of_getElem? (i := 87) rfl)) (hw _ (List.mem_of_getElem? (i := 88) rfl)) (mvT hZ (hw _ (List.mem_of_getElem? (i := 89) rfl))) (hw _ (List.mem_of_getElem? (i := 90) rfl)) (hw _ (List.mem_of_getElem? (i := 91) rfl)) (hw _ (List.mem_of_getElem? (i := 92) rfl)) (hw _ (List.mem_of_getElem? (i := 93) rfl)) (hw _ (List.mem_of_getElem? (i := 94) rfl)) (hw _ (List.mem_of_getElem? (i := 27) rfl)) (hw _ (List.mem_of_getElem? (i := 95) rfl)) (by decide) 0 (g := (mkF m 62 #[.val (.ref x), .unset] [(.ref d)])) rfl (by rw [hml]; rfl) d Ed [] [] (rm15 l Z a0 hw [] d em h0 n0 Z0 F1 O SE) (lenOf pd12 rfl) rfl (by show 2 * 0 + _ ≤ _; exact Nat.le_of_eq rfl) (hb hby d17_62) (by decide) (by decide) e220 (by decide) (by decide)
  obtain ⟨rfl, N222, rfl⟩ := hQ222
  have S223 : own_Go p e below s₁ G T222 (mkF m 67 #[.val (.ref x), .unset] [(.int (1 : Int32))]) := fun tg_ kk_ => S221 tg_ (st222 tg_ kk_)
  have M222 := Fr.app N0 N222
  have S224 : own_Go p e below s₁ G T222 (mkF m 113 #[.val (.ref x), .val .null] [.null]) := fun tg_ kk_ => S223 tg_ (by
    refine XS.iconst X222.here hx rfl (hb hby d17_67) ?_
    show Steps p.tables e below (T222.setTop (mkF m 68 #[.val (.ref x), .unset] [(.int (1 : Int32)), (.int (1 : Int32))])) _
    refine XS.icmpYes X222.here hx rfl (pc0 := 68) (pc' := 110) rfl (hb hby d17_68) rfl (XT.ii_le_t (by decide)) (by decide) (by decide) ?_
    show Steps p.tables e below (T222.setTop (mkF m 110 #[.val (.ref x), .unset] [])) _
    refine XS.aconstNull X222.here hx rfl (hb hby d17_110) ?_
    show Steps p.tables e below (T222.setTop (mkF m 111 #[.val (.ref x), .unset] [.null])) _
    refine XS.astoreN X222.here hx rfl (hb hby d17_111) rfl rfl (l' := #[.val (.ref x), .val .null]) rfl ?_
    show Steps p.tables e below (T222.setTop (mkF m 112 #[.val (.ref x), .val .null] [])) _
    refine XS.aloadN X222.here hx rfl (hb hby d17_112) rfl rfl ?_
    exact kk_)
  obtain ⟨fs, hr, hrun, hended, hW, hsame⟩ := X222.leave (v := some .null) (fun h => by rw [Bd.returns] at h; cases h)
  refine ⟨_, _, ?_, hrun, hended, _, _, rfl, ?_, ⟨_, rfl⟩, hW, hsame.mono (by decide) (by decide)⟩
  · rw [← hG]; exact S224 _ (retOut X222 hx Bd.returns (by first | rfl | cases .null <;> rfl) (Or.inr (Or.inr (Or.inr (Or.inr ⟨rfl, rfl, rfl⟩)))) (hb hby d17_113) hr)
  · show Q17 Z u em x d y k h0 n0 _ T222.heap _
    rw [e222]
    exact ⟨rfl, M222, rfl⟩
def own_Itr (Z : State) (h : Heap) (x d : Addr) (c0 : Int32) : Prop := Exa Z h x "java/util/ImmutableCollections$ListItr" ∧ Fld Z h x "java/util/ImmutableCollections$ListItr" "list" "Ljava/util/List;" (.ref d) ∧ Fld Z h x "java/util/ImmutableCollections$ListItr" "size" "I" (.int 1) ∧ Fld Z h x "java/util/ImmutableCollections$ListItr" "cursor" "I" (.int c0)
theorem pn11 : plainName "java/util/ImmutableCollections$ListItr" = true := by first | (simp [plainName, overriddenIn]; done) | decide +kernel
def Q21 (Z : State) (x : Addr) (d : Addr) (h0 : Heap) (n0 : Nat) (v : Option Value) (h : Heap) (L : List Loc) : Prop := v = none ∧ Fr n0 L ∧ Keep h0 h [x] ∧ own_Itr Z h x d 0
set_option maxRecDepth 65536 in
set_option maxHeartbeats 40000000 in
theorem rm21 (l : Launch) (Z : State) (a0 : Array Value) (hw : ∀ d ∈ tables_1, d.before a0 Z = true) (ws : List Jvm.Cond) (x : Addr) (d : Addr) (h0 : Heap) (n0 : Nat) (Z0 : n0 ≤ h0.size) (Ex : Exa Z h0 x "java/util/ImmutableCollections$ListItr") (hx0 : @LE.le Nat instLENat (n0) x) (F0 : Fld Z h0 x "java/util/ImmutableCollections$ListItr" "list" "Ljava/util/List;" .null) (F1 : Fld Z h0 x "java/util/ImmutableCollections$ListItr" "size" "I" (.int 0)) (F2 : Fld Z h0 x "java/util/ImmutableCollections$ListItr" "cursor" "I" (.int 0)) (F3 : Fld Z h0 x "java/util/ImmutableCollections$ListItr" "isListIterator" "Z" (.int 0)) :
    MetFree l (⟨"java/util/ImmutableCollections$ListItr", "<init>", "(Ljava/util/List;I)V"⟩ : MethodName) (head1 (Jvm.Cond.code (⟨"java/util/ImmutableCollections$ListItr", "<init>", "(Ljava/util/List;I)V"⟩ : MethodName) jdk_53_method_1_code 3 none :: ws) ({ frames := 1, cells := 0, slots := 0, locals := 16 } : Room)) (fun aa_ U => aa_ = #[(.ref x), (.ref d), (.int (1 : Int32))] ∧ Z.Warmed39 U.vm ∧ U.heap = h0) (fun _ _ _ _ _ => True) (fun _ U o U' => ∃ v L, o = .returned v ∧ Q21 Z x d h0 n0 v U'.heap L ∧ FrameEnd U o U' L ({ frames := 1, cells := 0, slots := 0, locals := 16 } : Room).cells ({ frames := 1, cells := 0, slots := 0, locals := 16 } : Room).slots) := by
  refine MetFree.of_bodySF (plainFor_of_name pn11) hisR ?_
  intro p e s m args below meth c s₁ Bd hml0 hP hK
  obtain ⟨rfl, hZ, hh⟩ := hP
  have hx := Bd.exec
  have hby := Bd.bytes
  have hml : c.maxLocals = 3 := hml0
  have hown : s.vm.findClass "java/util/ImmutableCollections$ListItr" = some m.cls := findClass_of_methodNamed Bd.named
  have hnm := (name_of_methodNamed Bd.named Bd.method).1
  have X0 : Stand p l e ({ frames := 1, cells := 0, slots := 0, locals := 16 } : Room) s m #[(.ref x), (.ref d), (.int (1 : Int32))] below meth c s₁ [] 0 0 := Stand.of_body Bd
  have e0 : s₁.heap = h0 := by rw [← hh, Bd.state]; rfl
  have N0 := Fr.nil n0
  obtain ⟨G, hG⟩ : ∃ G, G = entryFrame m #[(.ref x), (.ref d), (.int (1 : Int32))] 3 := ⟨_, rfl⟩
  have S0 : own_Go p e below s₁ G s₁ (mkF m 0 #[.val (.ref x), .val (.ref d), .val (.int (1 : Int32))] []) := fun tg_ kk_ => castTop (by rw [hG]; first | rfl | simp [entryFrame, mkF, argsToLocals, Value.category, maxLocals]) kk_
  have S225 : own_Go p e below s₁ G s₁ (mkF m 1 #[.val (.ref x), .val (.ref d), .val (.int (1 : Int32))] [(.ref x)]) := fun tg_ kk_ => S0 tg_ (by
    refine XS.aloadN X0.here hx rfl (hb hby d21_0) rfl rfl ?_
    exact kk_)
  obtain ⟨T226, X226, e226, st226⟩ := initO X0 hx hZ hown (hw _ (List.mem_of_getElem? (i := 148) rfl)) (hw _ (List.mem_of_getElem? (i := 51) rfl)) (hw _ (List.mem_of_getElem? (i := 52) rfl)) e0 (g := (mkF m 1 #[.val (.ref x), .val (.ref d), .val (.int (1 : Int32))] [(.ref x)])) rfl (by rw [hml]; rfl) rfl (hb hby d21_1) (by decide) (W := 0) (by show 2 * 0 + _ ≤ _; exact Nat.le_of_eq rfl) (by decide)
  have S227 : own_Go p e below s₁ G T226 (mkF m 4 #[.val (.ref x), .val (.ref d), .val (.int (1 : Int32))] []) := fun tg_ kk_ => S225 tg_ (st226 tg_ kk_)
  have S228 : own_Go p e below s₁ G T226 (mkF m 6 #[.val (.ref x), .val (.ref d), .val (.int (1 : Int32))] [(.ref d), (.ref x)]) := fun tg_ kk_ => S227 tg_ (by
    refine XS.aloadN X226.here hx rfl (hb hby d21_4) rfl rfl ?_
    show Steps p.tables e below (T226.setTop (mkF m 5 #[.val (.ref x), .val (.ref d), .val (.int (1 : Int32))] [(.ref x)])) _
    refine XS.aloadN X226.here hx rfl (hb hby d21_5) rfl rfl ?_
    exact kk_)
  obtain ⟨T229, h229, X229, e229, W229, st229⟩ := putF X226 hx hZ hown (host := "") (Or.inl (hw _ (List.mem_of_getElem? (i := 149) rfl))) Via.refl e226 F0 Ex (Or.inr ⟨(hw _ (List.mem_of_getElem? (i := 150) rfl)), rfl, hnm⟩) (hw _ (List.mem_of_getElem? (i := 138) rfl)) (ty := (.object "java/util/List")) (by decide) rfl rfl (g := (mkF m 6 #[.val (.ref x), .val (.ref d), .val (.int (1 : Int32))] [(.ref d), (.ref x)])) rfl rfl (hb hby d21_6)
  have S230 : own_Go p e below s₁ G T229 (mkF m 9 #[.val (.ref x), .val (.ref d), .val (.int (1 : Int32))] []) := fun tg_ kk_ => S228 tg_ (st229 tg_ kk_)
  have f231 := Fr.snoc X229 N0 (by omega)
  have f232 := Ex.wr W229
  have f233 := F0.same W229
  have f234 := F1.other W229 (Or.inr (slot_ne (C := "java/util/ImmutableCollections$ListItr") (a0 := a0) (Or.inr (hw _ (List.mem_of_getElem? (i := 152) rfl))) (Or.inr (hw _ (List.mem_of_getElem? (i := 150) rfl))) (by decide) (t := .int) (by decide) (t' := (.object "java/util/List")) (by decide)))
  have f235 := F2.other W229 (Or.inr (slot_ne (C := "java/util/ImmutableCollections$ListItr") (a0 := a0) (Or.inl (hw _ (List.mem_of_getElem? (i := 154) rfl))) (Or.inr (hw _ (List.mem_of_getElem? (i := 150) rfl))) (by decide) (t := .int) (by decide) (t' := (.object "java/util/List")) (by decide)))
  have f236 := F3.other W229 (Or.inr (slot_ne (C := "java/util/ImmutableCollections$ListItr") (a0 := a0) (Or.inr (hw _ (List.mem_of_getElem? (i := 156) rfl))) (Or.inr (hw _ (List.mem_of_getElem? (i := 150) rfl))) (by decide) (t := .boolean) (by decide) (t' := (.object "java/util/List")) (by decide)))
  have f237 := Keep.wr (Keep.refl h0 [x]) W229 (Or.inl (by simp))
  have S238 : own_Go p e below s₁ G T229 (mkF m 11 #[.val (.ref x), .val (.ref d), .val (.int (1 : Int32))] [(.int (1 : Int32)), (.ref x)]) := fun tg_ kk_ => S230 tg_ (by
    refine XS.aloadN X229.here hx rfl (hb hby d21_9) rfl rfl ?_
    show Steps p.tables e below (T229.setTop (mkF m 10 #[.val (.ref x), .val (.ref d), .val (.int (1 : Int32))] [(.ref x)])) _
    refine XS.iloadN X229.here hx rfl (hb hby d21_10) rfl ?_
    exact kk_)
  obtain ⟨T239, h239, X239, e239, W239, st239⟩ := putF X229 hx hZ hown (host := "") (Or.inl (hw _ (List.mem_of_getElem? (i := 151) rfl))) Via.refl e229 f234 f232 (Or.inr ⟨(hw _ (List.mem_of_getElem? (i := 152) rfl)), rfl, hnm⟩) (hw _ (List.mem_of_getElem? (i := 138) rfl)) (ty := .int) (by decide) rfl rfl (g := (mkF m 11 #[.val (.ref x), .val (.ref d), .val (.int (1 : Int32))] [(.int (1 : Int32)), (.ref x)])) rfl rfl (hb hby d21_11)
  have S240 : own_Go p e below s₁ G T239 (mkF m 14 #[.val (.ref x), .val (.ref d), .val (.int (1 : Int32))] []) := fun tg_ kk_ => S238 tg_ (st239 tg_ kk_)
  have f241 := Fr.snoc X239 f231 (by omega)
  have f242 := f232.wr W239
  have f243 := f233.other W239 (Or.inr (slot_ne (C := "java/util/ImmutableCollections$ListItr") (a0 := a0) (Or.inr (hw _ (List.mem_of_getElem? (i := 150) rfl))) (Or.inr (hw _ (List.mem_of_getElem? (i := 152) rfl))) (by decide) (t := (.object "java/util/List")) (by decide) (t' := .int) (by decide)))
  have f244 := f234.same W239
  have f245 := f235.other W239 (Or.inr (slot_ne (C := "java/util/ImmutableCollections$ListItr") (a0 := a0) (Or.inl (hw _ (List.mem_of_getElem? (i := 154) rfl))) (Or.inr (hw _ (List.mem_of_getElem? (i := 152) rfl))) (by decide) (t := .int) (by decide) (t' := .int) (by decide)))
  have f246 := f236.other W239 (Or.inr (slot_ne (C := "java/util/ImmutableCollections$ListItr") (a0 := a0) (Or.inr (hw _ (List.mem_of_getElem? (i := 156) rfl))) (Or.inr (hw _ (List.mem_of_getElem? (i := 152) rfl))) (by decide) (t := .boolean) (by decide) (t' := .int) (by decide)))
  have f247 := Keep.wr f237 W239 (Or.inl (by simp))
  have S248 : own_Go p e below s₁ G T239 (mkF m 16 #[.val (.ref x), .val (.ref d), .val (.int (1 : Int32))] [(.int (0 : Int32)), (.ref x)]) := fun tg_ kk_ => S240 tg_ (by
    refine XS.aloadN X239.here hx rfl (hb hby d21_14) rfl rfl ?_
    show Steps p.tables e below (T239.setTop (mkF m 15 #[.val (.ref x), .val (.ref d), .val (.int (1 : Int32))] [(.ref x)])) _
    refine XS.iconst X239.here hx rfl (hb hby d21_15) ?_
    exact kk_)
  obtain ⟨T249, h249, X249, e249, W249, st249⟩ := putF X239 hx hZ hown (host := "") (Or.inl (hw _ (List.mem_of_getElem? (i := 153) rfl))) Via.refl e239 f245 f242 (Or.inl (hw _ (List.mem_of_getElem? (i := 154) rfl))) (hw _ (List.mem_of_getElem? (i := 138) rfl)) (ty := .int) (by decide) rfl rfl (g := (mkF m 16 #[.val (.ref x), .val (.ref d), .val (.int (1 : Int32))] [(.int (0 : Int32)), (.ref x)])) rfl rfl (hb hby d21_16)
  have S250 : own_Go p e below s₁ G T249 (mkF m 19 #[.val (.ref x), .val (.ref d), .val (.int (1 : Int32))] []) := fun tg_ kk_ => S248 tg_ (st249 tg_ kk_)
  have f251 := Fr.snoc X249 f241 (by omega)
  have f252 := f242.wr W249
  have f253 := f243.other W249 (Or.inr (slot_ne (C := "java/util/ImmutableCollections$ListItr") (a0 := a0) (Or.inr (hw _ (List.mem_of_getElem? (i := 150) rfl))) (Or.inl (hw _ (List.mem_of_getElem? (i := 154) rfl))) (by decide) (t := (.object "java/util/List")) (by decide) (t' := .int) (by decide)))
  have f254 := f244.other W249 (Or.inr (slot_ne (C := "java/util/ImmutableCollections$ListItr") (a0 := a0) (Or.inr (hw _ (List.mem_of_getElem? (i := 152) rfl))) (Or.inl (hw _ (List.mem_of_getElem? (i := 154) rfl))) (by decide) (t := .int) (by decide) (t' := .int) (by decide)))
  have f255 := f245.same W249
  have f256 := f246.other W249 (Or.inr (slot_ne (C := "java/util/ImmutableCollections$ListItr") (a0 := a0) (Or.inr (hw _ (List.mem_of_getElem? (i := 156) rfl))) (Or.inl (hw _ (List.mem_of_getElem? (i := 154) rfl))) (by decide) (t := .boolean) (by decide) (t' := .int) (by decide)))
  have f257 := Keep.wr f247 W249 (Or.inl (by simp))
  have S258 : own_Go p e below s₁ G T249 (mkF m 21 #[.val (.ref x), .val (.ref d), .val (.int (1 : Int32))] [(.int (0 : Int32)), (.ref x)]) := fun tg_ kk_ => S250 tg_ (by
    refine XS.aloadN X249.here hx rfl (hb hby d21_19) rfl rfl ?_
    show Steps p.tables e below (T249.setTop (mkF m 20 #[.val (.ref x), .val (.ref d), .val (.int (1 : Int32))] [(.ref x)])) _
    refine XS.iconst X249.here hx rfl (hb hby d21_20) ?_
    exact kk_)
  obtain ⟨T259, h259, X259, e259, W259, st259⟩ := putF X249 hx hZ hown (host := "") (Or.inl (hw _ (List.mem_of_getElem? (i := 155) rfl))) Via.refl e249 f256 f252 (Or.inr ⟨(hw _ (List.mem_of_getElem? (i := 156) rfl)), rfl, hnm⟩) (hw _ (List.mem_of_getElem? (i := 138) rfl)) (ty := .boolean) (by decide) rfl rfl (g := (mkF m 21 #[.val (.ref x), .val (.ref d), .val (.int (1 : Int32))] [(.int (0 : Int32)), (.ref x)])) rfl rfl (hb hby d21_21)
  have S260 : own_Go p e below s₁ G T259 (mkF m 24 #[.val (.ref x), .val (.ref d), .val (.int (1 : Int32))] []) := fun tg_ kk_ => S258 tg_ (st259 tg_ kk_)
  have f261 := Fr.snoc X259 f251 (by omega)
  have f262 := f252.wr W259
  have f263 := f253.other W259 (Or.inr (slot_ne (C := "java/util/ImmutableCollections$ListItr") (a0 := a0) (Or.inr (hw _ (List.mem_of_getElem? (i := 150) rfl))) (Or.inr (hw _ (List.mem_of_getElem? (i := 156) rfl))) (by decide) (t := (.object "java/util/List")) (by decide) (t' := .boolean) (by decide)))
  have f264 := f254.other W259 (Or.inr (slot_ne (C := "java/util/ImmutableCollections$ListItr") (a0 := a0) (Or.inr (hw _ (List.mem_of_getElem? (i := 152) rfl))) (Or.inr (hw _ (List.mem_of_getElem? (i := 156) rfl))) (by decide) (t := .int) (by decide) (t' := .boolean) (by decide)))
  have f265 := f255.other W259 (Or.inr (slot_ne (C := "java/util/ImmutableCollections$ListItr") (a0 := a0) (Or.inl (hw _ (List.mem_of_getElem? (i := 154) rfl))) (Or.inr (hw _ (List.mem_of_getElem? (i := 156) rfl))) (by decide) (t := .int) (by decide) (t' := .boolean) (by decide)))
  have f266 := f256.same W259
  have f267 := Keep.wr f257 W259 (Or.inl (by simp))
  obtain ⟨fs, hr, hrun, hended, hW, hsame⟩ := X259.leave (v := none) (fun _ => rfl)
  refine ⟨_, _, ?_, hrun, hended, _, _, rfl, ?_, ⟨_, rfl⟩, hW, hsame.mono (by decide) (by decide)⟩
  · rw [← hG]; exact S260 _ (X259.returnOut hx Bd.returns (hb hby d21_24) hr)
  · show Q21 Z x d h0 n0 _ T259.heap _
    rw [e259]
    exact ⟨rfl, f261, f267, f262, f263, f264, f265⟩
def Q20 (Z : State) (d : Addr) (y : Addr) (em : Addr) (h0 : Heap) (n0 : Nat) (v : Option Value) (h : Heap) (L : List Loc) : Prop := ∃ x, v = some (.ref x) ∧ Fr n0 L ∧ Keep h0 h [] ∧ @LE.le Nat instLENat (h0.size) x ∧ own_Itr Z h x d 0
set_option maxRecDepth 65536 in
set_option maxHeartbeats 40000000 in
theorem rm20 (l : Launch) (Z : State) (a0 : Array Value) (hw : ∀ d ∈ tables_1, d.before a0 Z = true) (ws : List Jvm.Cond) (d : Addr) (y : Addr) (em : Addr) (h0 : Heap) (n0 : Nat) (Z0 : n0 ≤ h0.size) (Ed : Exa Z h0 d "java/util/ImmutableCollections$List12") (F0 : Fld Z h0 d "java/util/ImmutableCollections$List12" "e0" "Ljava/lang/Object;" (.ref y)) (F1 : Fld Z h0 d "java/util/ImmutableCollections$List12" "e1" "Ljava/lang/Object;" (.ref em)) (O : Old Z n0 h0) (SE : Sta Z Z.heap "java/util/ImmutableCollections" "EMPTY" "Ljava/lang/Object;" (.ref em)) :
    MetFree l (⟨"java/util/ImmutableCollections$AbstractImmutableList", "iterator", "()Ljava/util/Iterator;"⟩ : MethodName) (head1 (Jvm.Cond.code (⟨"java/util/ImmutableCollections$AbstractImmutableList", "iterator", "()Ljava/util/Iterator;"⟩ : MethodName) jdk_46_method_10_code 1 (some (.object "java/util/Iterator")) :: ws) ({ frames := 2, cells := 1, slots := 4, locals := 34 } : Room)) (fun aa_ U => aa_ = #[(.ref d)] ∧ Z.Warmed39 U.vm ∧ U.heap = h0) (fun _ _ _ _ _ => True) (fun _ U o U' => ∃ v L, o = .returned v ∧ Q20 Z d y em h0 n0 v U'.heap L ∧ FrameEnd U o U' L ({ frames := 2, cells := 1, slots := 4, locals := 34 } : Room).cells ({ frames := 2, cells := 1, slots := 4, locals := 34 } : Room).slots) := by
  refine MetFree.of_bodySF (plainFor_of_name pn6) hisR ?_
  intro p e s m args below meth c s₁ Bd hml0 hP hK
  obtain ⟨rfl, hZ, hh⟩ := hP
  have hx := Bd.exec
  have hby := Bd.bytes
  have hml : c.maxLocals = 1 := hml0
  have hown : s.vm.findClass "java/util/ImmutableCollections$AbstractImmutableList" = some m.cls := findClass_of_methodNamed Bd.named
  have hnm := (name_of_methodNamed Bd.named Bd.method).1
  have X0 : Stand p l e ({ frames := 2, cells := 1, slots := 4, locals := 34 } : Room) s m #[(.ref d)] below meth c s₁ [] 0 0 := Stand.of_body Bd
  have e0 : s₁.heap = h0 := by rw [← hh, Bd.state]; rfl
  have N0 := Fr.nil n0
  obtain ⟨G, hG⟩ : ∃ G, G = entryFrame m #[(.ref d)] 1 := ⟨_, rfl⟩
  have S0 : own_Go p e below s₁ G s₁ (mkF m 0 #[.val (.ref d)] []) := fun tg_ kk_ => castTop (by rw [hG]; first | rfl | simp [entryFrame, mkF, argsToLocals, Value.category, maxLocals]) kk_
  obtain ⟨T268, h268, X268, e268, E268, A268, D268, -, st268⟩ := newO X0 hx hZ hown (hw _ (List.mem_of_getElem? (i := 137) rfl)) (hw _ (List.mem_of_getElem? (i := 138) rfl)) (hw _ (List.mem_of_getElem? (i := 139) rfl)) e0 (g := (mkF m 0 #[.val (.ref d)] [])) rfl (hb hby d20_0) (by decide) (by decide)
  obtain ⟨a268, g268⟩ : ∃ z, z = h0.size := ⟨_, rfl⟩
  rw [← g268] at A268 D268 st268
  have S269 : own_Go p e below s₁ G T268 (mkF m 3 #[.val (.ref d)] [(.ref a268)]) := fun tg_ kk_ => S0 tg_ (st268 tg_ kk_)
  have o270 : @LT.lt Nat instLTNat d a268 := Nat.lt_of_lt_of_le Ed.lt (Nat.le_of_eq g268.symm)
  have o271 : @LE.le Nat instLENat (n0) a268 := Nat.le_trans Z0 (Nat.le_of_eq g268.symm)
  have o272 : @LE.le Nat instLENat (h0.size) a268 := Nat.le_trans (Keep.refl h0 []).1 (Nat.le_of_eq g268.symm)
  have f273 := O.ext E268
  have f274 := own_sub Z0 E268
  have f275 := Ed.ext E268
  have f276 := F1.ext E268
  have f277 := Keep.ext (Keep.refl h0 []) E268
  have f278 : Fld Z h268 a268 "java/util/ImmutableCollections$ListItr" "list" "Ljava/util/List;" .null := D268 (Or.inr (hw _ (List.mem_of_getElem? (i := 150) rfl))) (ty := (.object "java/util/List")) (by decide)
  have f279 : Fld Z h268 a268 "java/util/ImmutableCollections$ListItr" "size" "I" (.int 0) := D268 (Or.inr (hw _ (List.mem_of_getElem? (i := 152) rfl))) (ty := .int) (by decide)
  have f280 : Fld Z h268 a268 "java/util/ImmutableCollections$ListItr" "cursor" "I" (.int 0) := D268 (Or.inl (hw _ (List.mem_of_getElem? (i := 154) rfl))) (ty := .int) (by decide)
  have f281 : Fld Z h268 a268 "java/util/ImmutableCollections$ListItr" "isListIterator" "Z" (.int 0) := D268 (Or.inr (hw _ (List.mem_of_getElem? (i := 156) rfl))) (ty := .boolean) (by decide)
  have S282 : own_Go p e below s₁ G T268 (mkF m 6 #[.val (.ref d)] [(.ref d), (.ref d), (.ref a268), (.ref a268)]) := fun tg_ kk_ => S269 tg_ (by
    refine XS.dup X268.here hx rfl (hb hby d20_3) rfl rfl ?_
    show Steps p.tables e below (T268.setTop (mkF m 4 #[.val (.ref d)] [(.ref a268), (.ref a268)])) _
    refine XS.aloadN X268.here hx rfl (hb hby d20_4) rfl rfl ?_
    show Steps p.tables e below (T268.setTop (mkF m 5 #[.val (.ref d)] [(.ref d), (.ref a268), (.ref a268)])) _
    refine XS.aloadN X268.here hx rfl (hb hby d20_5) rfl rfl ?_
    exact kk_)
  obtain ⟨_, T283, h283, L283, X283, e283, hQ283, st283⟩ := own_callU X268 hx hZ (y := (⟨"java/util/ImmutableCollections$AbstractImmutableList", "size", "()I"⟩ : MethodName)) (z := (⟨"java/util/ImmutableCollections$List12", "size", "()I"⟩ : MethodName)) hown (hw _ (List.mem_of_getElem? (i := 140) rfl)) (hw _ (List.mem_of_getElem? (i := 141) rfl)) (hw _ (List.mem_of_getElem? (i := 142) rfl)) (hw _ (List.mem_of_getElem? (i := 143) rfl)) (hw _ (List.mem_of_getElem? (i := 91) rfl)) (hw _ (List.mem_of_getElem? (i := 27) rfl)) (hw _ (List.mem_of_getElem? (i := 95) rfl)) (by decide) 3 (g := (mkF m 6 #[.val (.ref d)] [(.ref d), (.ref d), (.ref a268), (.ref a268)])) rfl (by rw [hml]; rfl) d f275 [] [(.ref d), (.ref a268), (.ref a268)] (rm15 l Z a0 hw [] d em h268 n0 f274 f276 f273 SE) (lenOf pd12 rfl) rfl (by show 2 * 0 + _ ≤ _; exact Nat.le_of_eq rfl) (hb hby d20_6) (by decide) (by decide) e268 (by decide) (by decide)
  obtain ⟨rfl, N283, rfl⟩ := hQ283
  have S284 : own_Go p e below s₁ G T283 (mkF m 9 #[.val (.ref d)] [(.int (1 : Int32)), (.ref d), (.ref a268), (.ref a268)]) := fun tg_ kk_ => S282 tg_ (st283 tg_ kk_)
  have M283 := Fr.app N0 N283
  obtain ⟨_, T285, h285, L285, X285, e285, hQ285, st285⟩ := own_callI X283 hx hZ (y := (⟨"java/util/ImmutableCollections$ListItr", "<init>", "(Ljava/util/List;I)V"⟩ : MethodName)) rfl hown (hw _ (List.mem_of_getElem? (i := 144) rfl)) (hw _ (List.mem_of_getElem? (i := 145) rfl)) (hw _ (List.mem_of_getElem? (i := 139) rfl)) (hw _ (List.mem_of_getElem? (i := 147) rfl)) (by decide) 1 (g := (mkF m 9 #[.val (.ref d)] [(.int (1 : Int32)), (.ref d), (.ref a268), (.ref a268)])) rfl (by rw [hml]; rfl) a268 [(.ref d), (.int (1 : Int32))] [(.ref a268)] (rm21 l Z a0 hw [] a268 d h268 n0 f274 A268 (by omega) f278 f279 f280 f281) (lenOf pd16 rfl) rfl (by show 2 * 0 + _ ≤ _; exact Nat.le_of_eq rfl) (hb hby d20_9) (by decide) (by decide) e283 (by decide) (by decide)
  obtain ⟨rfl, N285, K285, It⟩ := hQ285
  have S286 : own_Go p e below s₁ G T285 (mkF m 12 #[.val (.ref d)] [(.ref a268)]) := fun tg_ kk_ => S284 tg_ (st285 tg_ kk_)
  have f287 := Fr.app M283 N285
  have f288 := f273.keep K285 (allS (by omega) all0)
  have f289 := Nat.le_trans f274 K285.1
  have f290 := f275.keep K285
  have f291 := f276.keep K285 (ninS (own_nelt (by omega)) nin0)
  have f292 := A268.keep K285
  have f293 := Keep.trans f277 K285 (allS (Or.inr (by omega)) all0)
  obtain ⟨fs, hr, hrun, hended, hW, hsame⟩ := X285.leave (v := some (.ref a268)) (fun h => by rw [Bd.returns] at h; cases h)
  refine ⟨_, _, ?_, hrun, hended, _, _, rfl, ?_, ⟨_, rfl⟩, hW, hsame.mono (by decide) (by decide)⟩
  · rw [← hG]; exact S286 _ (retOut X285 hx Bd.returns (by first | rfl | cases (.ref a268) <;> rfl) (Or.inr (Or.inr (Or.inr (Or.inr ⟨rfl, rfl, rfl⟩)))) (hb hby d20_12) hr)
  · show Q20 Z d y em h0 n0 _ T285.heap _
    rw [e285]
    exact ⟨a268, rfl, f287, f293, by omega, It⟩
def Q220 (Z : State) (x : Addr) (d : Addr) (h0 : Heap) (n0 : Nat) (v : Option Value) (h : Heap) (L : List Loc) : Prop := v = some (.int 1) ∧ Fr n0 L ∧ h0 = h
set_option maxRecDepth 65536 in
set_option maxHeartbeats 40000000 in
theorem rm220 (l : Launch) (Z : State) (a0 : Array Value) (hw : ∀ d ∈ tables_1, d.before a0 Z = true) (ws : List Jvm.Cond) (x : Addr) (d : Addr) (h0 : Heap) (n0 : Nat) (Z0 : n0 ≤ h0.size) (It : own_Itr Z h0 x d 0) :
    MetFree l (⟨"java/util/ImmutableCollections$ListItr", "hasNext", "()Z"⟩ : MethodName) (head1 (Jvm.Cond.code (⟨"java/util/ImmutableCollections$ListItr", "hasNext", "()Z"⟩ : MethodName) jdk_53_method_3_code 1 (some .boolean) :: ws) ({ frames := 0, cells := 0, slots := 0, locals := 0 } : Room)) (fun aa_ U => aa_ = #[(.ref x)] ∧ Z.Warmed39 U.vm ∧ U.heap = h0) (fun _ _ _ _ _ => True) (fun _ U o U' => ∃ v L, o = .returned v ∧ Q220 Z x d h0 n0 v U'.heap L ∧ FrameEnd U o U' L ({ frames := 0, cells := 0, slots := 0, locals := 0 } : Room).cells ({ frames := 0, cells := 0, slots := 0, locals := 0 } : Room).slots) := by
  refine MetFree.of_bodySF (plainFor_of_name pn11) hisR ?_
  intro p e s m args below meth c s₁ Bd hml0 hP hK
  obtain ⟨rfl, hZ, hh⟩ := hP
  have hx := Bd.exec
  have hby := Bd.bytes
  have hml : c.maxLocals = 1 := hml0
  have hown : s.vm.findClass "java/util/ImmutableCollections$ListItr" = some m.cls := findClass_of_methodNamed Bd.named
  have hnm := (name_of_methodNamed Bd.named Bd.method).1
  have X0 : Stand p l e ({ frames := 0, cells := 0, slots := 0, locals := 0 } : Room) s m #[(.ref x)] below meth c s₁ [] 0 0 := Stand.of_body Bd
  have e0 : s₁.heap = h0 := by rw [← hh, Bd.state]; rfl
  have N0 := Fr.nil n0
  obtain ⟨G, hG⟩ : ∃ G, G = entryFrame m #[(.ref x)] 1 := ⟨_, rfl⟩
  have S0 : own_Go p e below s₁ G s₁ (mkF m 0 #[.val (.ref x)] []) := fun tg_ kk_ => castTop (by rw [hG]; first | rfl | simp [entryFrame, mkF, argsToLocals, Value.category, maxLocals]) kk_
  have S294 : own_Go p e below s₁ G s₁ (mkF m 1 #[.val (.ref x)] [(.ref x)]) := fun tg_ kk_ => S0 tg_ (by
    refine XS.aloadN X0.here hx rfl (hb hby d22_0) rfl rfl ?_
    exact kk_)
  obtain ⟨T295, X295, e295, st295⟩ := getF X0 hx hZ hown (host := "") (Or.inl (hw _ (List.mem_of_getElem? (i := 153) rfl))) Via.refl e0 It.2.2.2 (g := (mkF m 1 #[.val (.ref x)] [(.ref x)])) rfl rfl (hb hby d22_1)
  have S296 : own_Go p e below s₁ G T295 (mkF m 4 #[.val (.ref x)] [(.int (0 : Int32))]) := fun tg_ kk_ => S294 tg_ (st295 tg_ kk_)
  have S297 : own_Go p e below s₁ G T295 (mkF m 5 #[.val (.ref x)] [(.ref x), (.int (0 : Int32))]) := fun tg_ kk_ => S296 tg_ (by
    refine XS.aloadN X295.here hx rfl (hb hby d22_4) rfl rfl ?_
    exact kk_)
  obtain ⟨T298, X298, e298, st298⟩ := getF X295 hx hZ hown (host := "") (Or.inl (hw _ (List.mem_of_getElem? (i := 151) rfl))) Via.refl e295 It.2.2.1 (g := (mkF m 5 #[.val (.ref x)] [(.ref x), (.int (0 : Int32))])) rfl rfl (hb hby d22_5)
  have S299 : own_Go p e below s₁ G T298 (mkF m 8 #[.val (.ref x)] [(.int (1 : Int32)), (.int (0 : Int32))]) := fun tg_ kk_ => S297 tg_ (st298 tg_ kk_)
  have S300 : own_Go p e below s₁ G T298 (mkF m 16 #[.val (.ref x)] [(.int (1 : Int32))]) := fun tg_ kk_ => S299 tg_ (by
    refine XS.icmpNo X298.here hx rfl (hb hby d22_8) rfl (XT.ii_eq_f (by decide)) ?_
    show Steps p.tables e below (T298.setTop (mkF m 11 #[.val (.ref x)] [])) _
    refine XS.iconst X298.here hx rfl (hb hby d22_11) ?_
    show Steps p.tables e below (T298.setTop (mkF m 12 #[.val (.ref x)] [(.int (1 : Int32))])) _
    refine XS.goto X298.here hx rfl (pc0 := 12) (pc' := 16) rfl (hb hby d22_12) (by decide) (by decide) ?_
    exact kk_)
  obtain ⟨fs, hr, hrun, hended, hW, hsame⟩ := X298.leave (v := some (.int (1 : Int32))) (fun h => by rw [Bd.returns] at h; cases h)
  refine ⟨_, _, ?_, hrun, hended, _, _, rfl, ?_, ⟨_, rfl⟩, hW, hsame.mono (by decide) (by decide)⟩
  · rw [← hG]; exact S300 _ (retN X298 hx (t := .boolean) Bd.returns (by simp) (hb hby d22_16) hr)
  · show Q220 Z x d h0 n0 _ T298.heap _
    rw [e298]
    exact ⟨rfl, N0, rfl⟩
def Q221 (Z : State) (x : Addr) (d : Addr) (h0 : Heap) (n0 : Nat) (v : Option Value) (h : Heap) (L : List Loc) : Prop := v = some (.int 0) ∧ Fr n0 L ∧ h0 = h
set_option maxRecDepth 65536 in
set_option maxHeartbeats 40000000 in
theorem rm221 (l : Launch) (Z : State) (a0 : Array Value) (hw : ∀ d ∈ tables_1, d.before a0 Z = true) (ws : List Jvm.Cond) (x : Addr) (d : Addr) (h0 : Heap) (n0 : Nat) (Z0 : n0 ≤ h0.size) (It : own_Itr Z h0 x d 1) :
    MetFree l (⟨"java/util/ImmutableCollections$ListItr", "hasNext", "()Z"⟩ : MethodName) (head1 (Jvm.Cond.code (⟨"java/util/ImmutableCollections$ListItr", "hasNext", "()Z"⟩ : MethodName) jdk_53_method_3_code 1 (some .boolean) :: ws) ({ frames := 0, cells := 0, slots := 0, locals := 0 } : Room)) (fun aa_ U => aa_ = #[(.ref x)] ∧ Z.Warmed39 U.vm ∧ U.heap = h0) (fun _ _ _ _ _ => True) (fun _ U o U' => ∃ v L, o = .returned v ∧ Q221 Z x d h0 n0 v U'.heap L ∧ FrameEnd U o U' L ({ frames := 0, cells := 0, slots := 0, locals := 0 } : Room).cells ({ frames := 0, cells := 0, slots := 0, locals := 0 } : Room).slots) := by
  refine MetFree.of_bodySF (plainFor_of_name pn11) hisR ?_
  intro p e s m args below meth c s₁ Bd hml0 hP hK
  obtain ⟨rfl, hZ, hh⟩ := hP
  have hx := Bd.exec
  have hby := Bd.bytes
  have hml : c.maxLocals = 1 := hml0
  have hown : s.vm.findClass "java/util/ImmutableCollections$ListItr" = some m.cls := findClass_of_methodNamed Bd.named
  have hnm := (name_of_methodNamed Bd.named Bd.method).1
  have X0 : Stand p l e ({ frames := 0, cells := 0, slots := 0, locals := 0 } : Room) s m #[(.ref x)] below meth c s₁ [] 0 0 := Stand.of_body Bd
  have e0 : s₁.heap = h0 := by rw [← hh, Bd.state]; rfl
  have N0 := Fr.nil n0
  obtain ⟨G, hG⟩ : ∃ G, G = entryFrame m #[(.ref x)] 1 := ⟨_, rfl⟩
  have S0 : own_Go p e below s₁ G s₁ (mkF m 0 #[.val (.ref x)] []) := fun tg_ kk_ => castTop (by rw [hG]; first | rfl | simp [entryFrame, mkF, argsToLocals, Value.category, maxLocals]) kk_
  have S301 : own_Go p e below s₁ G s₁ (mkF m 1 #[.val (.ref x)] [(.ref x)]) := fun tg_ kk_ => S0 tg_ (by
    refine XS.aloadN X0.here hx rfl (hb hby d22_0) rfl rfl ?_
    exact kk_)
  obtain ⟨T302, X302, e302, st302⟩ := getF X0 hx hZ hown (host := "") (Or.inl (hw _ (List.mem_of_getElem? (i := 153) rfl))) Via.refl e0 It.2.2.2 (g := (mkF m 1 #[.val (.ref x)] [(.ref x)])) rfl rfl (hb hby d22_1)
  have S303 : own_Go p e below s₁ G T302 (mkF m 4 #[.val (.ref x)] [(.int (1 : Int32))]) := fun tg_ kk_ => S301 tg_ (st302 tg_ kk_)
  have S304 : own_Go p e below s₁ G T302 (mkF m 5 #[.val (.ref x)] [(.ref x), (.int (1 : Int32))]) := fun tg_ kk_ => S303 tg_ (by
    refine XS.aloadN X302.here hx rfl (hb hby d22_4) rfl rfl ?_
    exact kk_)
  obtain ⟨T305, X305, e305, st305⟩ := getF X302 hx hZ hown (host := "") (Or.inl (hw _ (List.mem_of_getElem? (i := 151) rfl))) Via.refl e302 It.2.2.1 (g := (mkF m 5 #[.val (.ref x)] [(.ref x), (.int (1 : Int32))])) rfl rfl (hb hby d22_5)
  have S306 : own_Go p e below s₁ G T305 (mkF m 8 #[.val (.ref x)] [(.int (1 : Int32)), (.int (1 : Int32))]) := fun tg_ kk_ => S304 tg_ (st305 tg_ kk_)
  have S307 : own_Go p e below s₁ G T305 (mkF m 16 #[.val (.ref x)] [(.int (0 : Int32))]) := fun tg_ kk_ => S306 tg_ (by
    refine XS.icmpYes X305.here hx rfl (pc0 := 8) (pc' := 15) rfl (hb hby d22_8) rfl (XT.ii_eq_t (by decide)) (by decide) (by decide) ?_
    show Steps p.tables e below (T305.setTop (mkF m 15 #[.val (.ref x)] [])) _
    refine XS.iconst X305.here hx rfl (hb hby d22_15) ?_
    exact kk_)
  obtain ⟨fs, hr, hrun, hended, hW, hsame⟩ := X305.leave (v := some (.int (0 : Int32))) (fun h => by rw [Bd.returns] at h; cases h)
  refine ⟨_, _, ?_, hrun, hended, _, _, rfl, ?_, ⟨_, rfl⟩, hW, hsame.mono (by decide) (by decide)⟩
  · rw [← hG]; exact S307 _ (retN X305 hx (t := .boolean) Bd.returns (by simp) (hb hby d22_16) hr)
  · show Q221 Z x d h0 n0 _ T305.heap _
    rw [e305]
    exact ⟨rfl, N0, rfl⟩
def Q23 (Z : State) (d : Addr) (y : Addr) (h0 : Heap) (n0 : Nat) (v : Option Value) (h : Heap) (L : List Loc) : Prop := v = some (.ref y) ∧ Fr n0 L ∧ h0 = h
set_option maxRecDepth 65536 in
set_option maxHeartbeats 40000000 in
theorem rm23 (l : Launch) (Z : State) (a0 : Array Value) (hw : ∀ d ∈ tables_1, d.before a0 Z = true) (ws : List Jvm.Cond) (d : Addr) (y : Addr) (h0 : Heap) (n0 : Nat) (Z0 : n0 ≤ h0.size) (F0 : Fld Z h0 d "java/util/ImmutableCollections$List12" "e0" "Ljava/lang/Object;" (.ref y)) :
    MetFree l (⟨"java/util/ImmutableCollections$List12", "get", "(I)Ljava/lang/Object;"⟩ : MethodName) (head1 (Jvm.Cond.code (⟨"java/util/ImmutableCollections$List12", "get", "(I)Ljava/lang/Object;"⟩ : MethodName) jdk_44_method_5_code 2 (some (.object "java/lang/Object")) :: ws) ({ frames := 0, cells := 0, slots := 0, locals := 0 } : Room)) (fun aa_ U => aa_ = #[(.ref d), (.int (0 : Int32))] ∧ Z.Warmed39 U.vm ∧ U.heap = h0) (fun _ _ _ _ _ => True) (fun _ U o U' => ∃ v L, o = .returned v ∧ Q23 Z d y h0 n0 v U'.heap L ∧ FrameEnd U o U' L ({ frames := 0, cells := 0, slots := 0, locals := 0 } : Room).cells ({ frames := 0, cells := 0, slots := 0, locals := 0 } : Room).slots) := by
  refine MetFree.of_bodySF (plainFor_of_name pn8) hisR ?_
  intro p e s m args below meth c s₁ Bd hml0 hP hK
  obtain ⟨rfl, hZ, hh⟩ := hP
  have hx := Bd.exec
  have hby := Bd.bytes
  have hml : c.maxLocals = 2 := hml0
  have hown : s.vm.findClass "java/util/ImmutableCollections$List12" = some m.cls := findClass_of_methodNamed Bd.named
  have hnm := (name_of_methodNamed Bd.named Bd.method).1
  have X0 : Stand p l e ({ frames := 0, cells := 0, slots := 0, locals := 0 } : Room) s m #[(.ref d), (.int (0 : Int32))] below meth c s₁ [] 0 0 := Stand.of_body Bd
  have e0 : s₁.heap = h0 := by rw [← hh, Bd.state]; rfl
  have N0 := Fr.nil n0
  obtain ⟨G, hG⟩ : ∃ G, G = entryFrame m #[(.ref d), (.int (0 : Int32))] 2 := ⟨_, rfl⟩
  have S0 : own_Go p e below s₁ G s₁ (mkF m 0 #[.val (.ref d), .val (.int (0 : Int32))] []) := fun tg_ kk_ => castTop (by rw [hG]; first | rfl | simp [entryFrame, mkF, argsToLocals, Value.category, maxLocals]) kk_
  have S308 : own_Go p e below s₁ G s₁ (mkF m 5 #[.val (.ref d), .val (.int (0 : Int32))] [(.ref d)]) := fun tg_ kk_ => S0 tg_ (by
    refine XS.iloadN X0.here hx rfl (hb hby d23_0) rfl ?_
    show Steps p.tables e below (s₁.setTop (mkF m 1 #[.val (.ref d), .val (.int (0 : Int32))] [(.int (0 : Int32))])) _
    refine XS.ifNo X0.here hx rfl (hb hby d23_1) rfl (XT.i0_ne_f (by decide)) ?_
    show Steps p.tables e below (s₁.setTop (mkF m 4 #[.val (.ref d), .val (.int (0 : Int32))] [])) _
    refine XS.aloadN X0.here hx rfl (hb hby d23_4) rfl rfl ?_
    exact kk_)
  obtain ⟨T309, X309, e309, st309⟩ := getF X0 hx hZ hown (host := "") (Or.inl (hw _ (List.mem_of_getElem? (i := 57) rfl))) Via.refl e0 F0 (g := (mkF m 5 #[.val (.ref d), .val (.int (0 : Int32))] [(.ref d)])) rfl rfl (hb hby d23_5)
  have S310 : own_Go p e below s₁ G T309 (mkF m 8 #[.val (.ref d), .val (.int (0 : Int32))] [(.ref y)]) := fun tg_ kk_ => S308 tg_ (st309 tg_ kk_)
  obtain ⟨fs, hr, hrun, hended, hW, hsame⟩ := X309.leave (v := some (.ref y)) (fun h => by rw [Bd.returns] at h; cases h)
  refine ⟨_, _, ?_, hrun, hended, _, _, rfl, ?_, ⟨_, rfl⟩, hW, hsame.mono (by decide) (by decide)⟩
  · rw [← hG]; exact S310 _ (retOut X309 hx Bd.returns (by first | rfl | cases (.ref y) <;> rfl) (Or.inr (Or.inr (Or.inr (Or.inr ⟨rfl, rfl, rfl⟩)))) (hb hby d23_8) hr)
  · show Q23 Z d y h0 n0 _ T309.heap _
    rw [e309]
    exact ⟨rfl, N0, rfl⟩
def Q49 (Z : State) (x : Addr) (d : Addr) (y : Addr) (h0 : Heap) (n0 : Nat) (v : Option Value) (h : Heap) (L : List Loc) : Prop := v = some (.ref y) ∧ Fr n0 L ∧ Keep h0 h [x] ∧ own_Itr Z h x d 1
set_option maxRecDepth 65536 in
set_option maxHeartbeats 40000000 in
theorem rm49 (l : Launch) (Z : State) (a0 : Array Value) (hw : ∀ d ∈ tables_1, d.before a0 Z = true) (ws : List Jvm.Cond) (x : Addr) (d : Addr) (y : Addr) (h0 : Heap) (n0 : Nat) (Z0 : n0 ≤ h0.size) (It : own_Itr Z h0 x d 0) (hx0 : @LE.le Nat instLENat (n0) x) (Ed : Exa Z h0 d "java/util/ImmutableCollections$List12") (F0 : Fld Z h0 d "java/util/ImmutableCollections$List12" "e0" "Ljava/lang/Object;" (.ref y)) :
    MetFree l (⟨"java/util/ImmutableCollections$ListItr", "next", "()Ljava/lang/Object;"⟩ : MethodName) (head1 (Jvm.Cond.codeWith (⟨"java/util/ImmutableCollections$ListItr", "next", "()Ljava/lang/Object;"⟩ : MethodName) jdk_53_method_4_code 3 (some (.object "java/lang/Object")) [(0, 24, 25, 30)] :: ws) ({ frames := 1, cells := 0, slots := 0, locals := 16 } : Room)) (fun aa_ U => aa_ = #[(.ref x)] ∧ Z.Warmed39 U.vm ∧ U.heap = h0) (fun _ _ _ _ _ => True) (fun _ U o U' => ∃ v L, o = .returned v ∧ Q49 Z x d y h0 n0 v U'.heap L ∧ FrameEnd U o U' L ({ frames := 1, cells := 0, slots := 0, locals := 16 } : Room).cells ({ frames := 1, cells := 0, slots := 0, locals := 16 } : Room).slots) := by
  refine MetFree.of_bodySF (plainFor_of_name pn11) hisWith ?_
  intro p e s m args below meth c s₁ Bd hml0 hP hK
  obtain ⟨rfl, hZ, hh⟩ := hP
  have hx := Bd.exec
  have hby := Bd.bytes
  have hml : c.maxLocals = 3 := hml0
  have hown : s.vm.findClass "java/util/ImmutableCollections$ListItr" = some m.cls := findClass_of_methodNamed Bd.named
  have hnm := (name_of_methodNamed Bd.named Bd.method).1
  have X0 : Stand p l e ({ frames := 1, cells := 0, slots := 0, locals := 16 } : Room) s m #[(.ref x)] below meth c s₁ [] 0 0 := Stand.of_body Bd
  have e0 : s₁.heap = h0 := by rw [← hh, Bd.state]; rfl
  have N0 := Fr.nil n0
  obtain ⟨G, hG⟩ : ∃ G, G = entryFrame m #[(.ref x)] 3 := ⟨_, rfl⟩
  have S0 : own_Go p e below s₁ G s₁ (mkF m 0 #[.val (.ref x), .unset, .unset] []) := fun tg_ kk_ => castTop (by rw [hG]; first | rfl | simp [entryFrame, mkF, argsToLocals, Value.category, maxLocals]) kk_
  obtain ⟨Ex, Fl, Fs, Fc⟩ := It
  have S311 : own_Go p e below s₁ G s₁ (mkF m 1 #[.val (.ref x), .unset, .unset] [(.ref x)]) := fun tg_ kk_ => S0 tg_ (by
    refine XS.aloadN X0.here hx rfl (hb hby d49_0) rfl rfl ?_
    exact kk_)
  obtain ⟨T312, X312, e312, st312⟩ := getF X0 hx hZ hown (host := "") (Or.inl (hw _ (List.mem_of_getElem? (i := 153) rfl))) Via.refl e0 Fc (g := (mkF m 1 #[.val (.ref x), .unset, .unset] [(.ref x)])) rfl rfl (hb hby d49_1)
  have S313 : own_Go p e below s₁ G T312 (mkF m 4 #[.val (.ref x), .unset, .unset] [(.int (0 : Int32))]) := fun tg_ kk_ => S311 tg_ (st312 tg_ kk_)
  have S314 : own_Go p e below s₁ G T312 (mkF m 6 #[.val (.ref x), .val (.int (0 : Int32)), .unset] [(.ref x)]) := fun tg_ kk_ => S313 tg_ (by
    refine XS.istoreN X312.here hx rfl (hb hby d49_4) rfl (l' := #[.val (.ref x), .val (.int (0 : Int32)), .unset]) rfl ?_
    show Steps p.tables e below (T312.setTop (mkF m 5 #[.val (.ref x), .val (.int (0 : Int32)), .unset] [])) _
    refine XS.aloadN X312.here hx rfl (hb hby d49_5) rfl rfl ?_
    exact kk_)
  obtain ⟨T315, X315, e315, st315⟩ := getF X312 hx hZ hown (host := "") (Or.inl (hw _ (List.mem_of_getElem? (i := 149) rfl))) Via.refl e312 Fl (g := (mkF m 6 #[.val (.ref x), .val (.int (0 : Int32)), .unset] [(.ref x)])) rfl rfl (hb hby d49_6)
  have S316 : own_Go p e below s₁ G T315 (mkF m 9 #[.val (.ref x), .val (.int (0 : Int32)), .unset] [(.ref d)]) := fun tg_ kk_ => S314 tg_ (st315 tg_ kk_)
  have S317 : own_Go p e below s₁ G T315 (mkF m 10 #[.val (.ref x), .val (.int (0 : Int32)), .unset] [(.int (0 : Int32)), (.ref d)]) := fun tg_ kk_ => S316 tg_ (by
    refine XS.iloadN X315.here hx rfl (hb hby d49_9) rfl ?_
    exact kk_)
  obtain ⟨_, T318, h318, L318, X318, e318, hQ318, st318⟩ := own_callF X315 hx hZ (y := (⟨"java/util/List", "get", "(I)Ljava/lang/Object;"⟩ : MethodName)) (z := (⟨"java/util/ImmutableCollections$List12", "get", "(I)Ljava/lang/Object;"⟩ : MethodName)) hown (hw _ (List.mem_of_getElem? (i := 180) rfl)) (hw _ (List.mem_of_getElem? (i := 168) rfl)) (mvT hZ (hw _ (List.mem_of_getElem? (i := 181) rfl))) (hw _ (List.mem_of_getElem? (i := 182) rfl)) (hw _ (List.mem_of_getElem? (i := 170) rfl)) (hw _ (List.mem_of_getElem? (i := 183) rfl)) (hw _ (List.mem_of_getElem? (i := 184) rfl)) (hw _ (List.mem_of_getElem? (i := 94) rfl)) (hw _ (List.mem_of_getElem? (i := 27) rfl)) (hw _ (List.mem_of_getElem? (i := 171) rfl)) (by decide) 0 (g := (mkF m 10 #[.val (.ref x), .val (.int (0 : Int32)), .unset] [(.int (0 : Int32)), (.ref d)])) rfl (by rw [hml]; rfl) d Ed [(.int (0 : Int32))] [] (rm23 l Z a0 hw [] d y h0 n0 Z0 F0) (lenOf pd18 rfl) rfl (by show 2 * 0 + _ ≤ _; exact Nat.le_of_eq rfl) (hb hby d49_10) (by decide) (by decide) e315 (by decide) (by decide)
  obtain ⟨rfl, N318, rfl⟩ := hQ318
  have S319 : own_Go p e below s₁ G T318 (mkF m 15 #[.val (.ref x), .val (.int (0 : Int32)), .unset] [(.ref y)]) := fun tg_ kk_ => S317 tg_ (st318 tg_ kk_)
  have M318 := Fr.app N0 N318
  have S320 : own_Go p e below s₁ G T318 (mkF m 20 #[.val (.ref x), .val (.int (0 : Int32)), .val (.ref y)] [(.int ((0 : Int32) + (1 : Int32))), (.ref x)]) := fun tg_ kk_ => S319 tg_ (by
    refine XS.astoreN X318.here hx rfl (hb hby d49_15) rfl rfl (l' := #[.val (.ref x), .val (.int (0 : Int32)), .val (.ref y)]) rfl ?_
    show Steps p.tables e below (T318.setTop (mkF m 16 #[.val (.ref x), .val (.int (0 : Int32)), .val (.ref y)] [])) _
    refine XS.aloadN X318.here hx rfl (hb hby d49_16) rfl rfl ?_
    show Steps p.tables e below (T318.setTop (mkF m 17 #[.val (.ref x), .val (.int (0 : Int32)), .val (.ref y)] [(.ref x)])) _
    refine XS.iloadN X318.here hx rfl (hb hby d49_17) rfl ?_
    show Steps p.tables e below (T318.setTop (mkF m 18 #[.val (.ref x), .val (.int (0 : Int32)), .val (.ref y)] [(.int (0 : Int32)), (.ref x)])) _
    refine XS.iconst X318.here hx rfl (hb hby d49_18) ?_
    show Steps p.tables e below (T318.setTop (mkF m 19 #[.val (.ref x), .val (.int (0 : Int32)), .val (.ref y)] [(.int (1 : Int32)), (.int (0 : Int32)), (.ref x)])) _
    refine XS.iadd X318.here hx rfl (hb hby d49_19) rfl ?_
    exact kk_)
  rw [show ((0 : Int32) + (1 : Int32)) = (1 : Int32) from by decide +kernel] at S320
  obtain ⟨T321, h321, X321, e321, W321, st321⟩ := putF X318 hx hZ hown (host := "") (Or.inl (hw _ (List.mem_of_getElem? (i := 153) rfl))) Via.refl e318 Fc Ex (Or.inl (hw _ (List.mem_of_getElem? (i := 154) rfl))) (hw _ (List.mem_of_getElem? (i := 138) rfl)) (ty := .int) (by decide) rfl rfl (g := (mkF m 20 #[.val (.ref x), .val (.int (0 : Int32)), .val (.ref y)] [(.int (1 : Int32)), (.ref x)])) rfl rfl (hb hby d49_20)
  have S322 : own_Go p e below s₁ G T321 (mkF m 23 #[.val (.ref x), .val (.int (0 : Int32)), .val (.ref y)] []) := fun tg_ kk_ => S320 tg_ (st321 tg_ kk_)
  have f323 := Fr.snoc X321 M318 (by omega)
  have f324 := Ex.wr W321
  have f325 := Fl.other W321 (Or.inr (slot_ne (C := "java/util/ImmutableCollections$ListItr") (a0 := a0) (Or.inr (hw _ (List.mem_of_getElem? (i := 150) rfl))) (Or.inl (hw _ (List.mem_of_getElem? (i := 154) rfl))) (by decide) (t := (.object "java/util/List")) (by decide) (t' := .int) (by decide)))
  have f326 := Fs.other W321 (Or.inr (slot_ne (C := "java/util/ImmutableCollections$ListItr") (a0 := a0) (Or.inr (hw _ (List.mem_of_getElem? (i := 152) rfl))) (Or.inl (hw _ (List.mem_of_getElem? (i := 154) rfl))) (by decide) (t := .int) (by decide) (t' := .int) (by decide)))
  have f327 := Fc.same W321
  have f328 := Keep.wr (Keep.refl h0 [x]) W321 (Or.inl (by simp))
  have S329 : own_Go p e below s₁ G T321 (mkF m 24 #[.val (.ref x), .val (.int (0 : Int32)), .val (.ref y)] [(.ref y)]) := fun tg_ kk_ => S322 tg_ (by
    refine XS.aloadN X321.here hx rfl (hb hby d49_23) rfl rfl ?_
    exact kk_)
  obtain ⟨fs, hr, hrun, hended, hW, hsame⟩ := X321.leave (v := some (.ref y)) (fun h => by rw [Bd.returns] at h; cases h)
  refine ⟨_, _, ?_, hrun, hended, _, _, rfl, ?_, ⟨_, rfl⟩, hW, hsame.mono (by decide) (by decide)⟩
  · rw [← hG]; exact S329 _ (retOut X321 hx Bd.returns (by first | rfl | cases (.ref y) <;> rfl) (Or.inr (Or.inr (Or.inr (Or.inr ⟨rfl, rfl, rfl⟩)))) (hb hby d49_24) hr)
  · show Q49 Z x d y h0 n0 _ T321.heap _
    rw [e321]
    exact ⟨rfl, f323, f328, f324, f325, f326, f327⟩
def Q25 (Z : State) (y1 : Addr) (y2 : Addr) (k1 : Int32) (k2 : Int32) (h0 : Heap) (n0 : Nat) (v : Option Value) (h : Heap) (L : List Loc) : Prop := ((k1 = k2 ∧ v = some (.int 1)) ∨ (¬ k1 = k2 ∧ v = some (.int 0))) ∧ Fr n0 L ∧ h0 = h
set_option maxRecDepth 65536 in
set_option maxHeartbeats 40000000 in
theorem rm25 (l : Launch) (Z : State) (a0 : Array Value) (hw : ∀ d ∈ tables_1, d.before a0 Z = true) (ws : List Jvm.Cond) (y1 : Addr) (y2 : Addr) (k1 : Int32) (k2 : Int32) (h0 : Heap) (n0 : Nat) (Z0 : n0 ≤ h0.size) (Ey1 : Exa Z h0 y1 "java/lang/Integer") (G1 : Fld Z h0 y1 "java/lang/Integer" "value" "I" (.int k1)) (Ey2 : Exa Z h0 y2 "java/lang/Integer") (G2 : Fld Z h0 y2 "java/lang/Integer" "value" "I" (.int k2)) :
    MetFree l (⟨"java/lang/Integer", "equals", "(Ljava/lang/Object;)Z"⟩ : MethodName) (head1 (Jvm.Cond.code (⟨"java/lang/Integer", "equals", "(Ljava/lang/Object;)Z"⟩ : MethodName) jdk_33_method_34_code 2 (some .boolean) :: ws) ({ frames := 1, cells := 0, slots := 0, locals := 14 } : Room)) (fun aa_ U => aa_ = #[(.ref y1), (.ref y2)] ∧ Z.Warmed39 U.vm ∧ U.heap = h0) (fun _ _ _ _ _ => True) (fun _ U o U' => ∃ v L, o = .returned v ∧ Q25 Z y1 y2 k1 k2 h0 n0 v U'.heap L ∧ FrameEnd U o U' L ({ frames := 1, cells := 0, slots := 0, locals := 14 } : Room).cells ({ frames := 1, cells := 0, slots := 0, locals := 14 } : Room).slots) := by
  refine MetFree.of_bodySF (plainFor_of_name pn2) hisR ?_
  intro p e s m args below meth c s₁ Bd hml0 hP hK
  obtain ⟨rfl, hZ, hh⟩ := hP
  have hx := Bd.exec
  have hby := Bd.bytes
  have hml : c.maxLocals = 2 := hml0
  have hown : s.vm.findClass "java/lang/Integer" = some m.cls := findClass_of_methodNamed Bd.named
  have hnm := (name_of_methodNamed Bd.named Bd.method).1
  have X0 : Stand p l e ({ frames := 1, cells := 0, slots := 0, locals := 14 } : Room) s m #[(.ref y1), (.ref y2)] below meth c s₁ [] 0 0 := Stand.of_body Bd
  have e0 : s₁.heap = h0 := by rw [← hh, Bd.state]; rfl
  have N0 := Fr.nil n0
  obtain ⟨G, hG⟩ : ∃ G, G = entryFrame m #[(.ref y1), (.ref y2)] 2 := ⟨_, rfl⟩
  have S0 : own_Go p e below s₁ G s₁ (mkF m 0 #[.val (.ref y1), .val (.ref y2)] []) := fun tg_ kk_ => castTop (by rw [hG]; first | rfl | simp [entryFrame, mkF, argsToLocals, Value.category, maxLocals]) kk_
  have S330 : own_Go p e below s₁ G s₁ (mkF m 1 #[.val (.ref y1), .val (.ref y2)] [(.ref y2)]) := fun tg_ kk_ => S0 tg_ (by
    refine XS.aloadN X0.here hx rfl (hb hby d25_0) rfl rfl ?_
    exact kk_)
  obtain ⟨T331, X331, e331, st331⟩ := instY X0 hx hZ hown (hw _ (List.mem_of_getElem? (i := 194) rfl)) e0 (Ins.of_exa Ey2 (hw _ (List.mem_of_getElem? (i := 195) rfl))) (g := (mkF m 1 #[.val (.ref y1), .val (.ref y2)] [(.ref y2)])) rfl rfl (hb hby d25_1)
  have S332 : own_Go p e below s₁ G T331 (mkF m 4 #[.val (.ref y1), .val (.ref y2)] [(.int (1 : Int32))]) := fun tg_ kk_ => S330 tg_ (st331 tg_ kk_)
  have S333 : own_Go p e below s₁ G T331 (mkF m 8 #[.val (.ref y1), .val (.ref y2)] [(.ref y1)]) := fun tg_ kk_ => S332 tg_ (by
    refine XS.ifNo X331.here hx rfl (hb hby d25_4) rfl (XT.i0_eq_f (by decide)) ?_
    show Steps p.tables e below (T331.setTop (mkF m 7 #[.val (.ref y1), .val (.ref y2)] [])) _
    refine XS.aloadN X331.here hx rfl (hb hby d25_7) rfl rfl ?_
    exact kk_)
  obtain ⟨T334, X334, e334, st334⟩ := getF X331 hx hZ hown (host := "") (Or.inl (hw _ (List.mem_of_getElem? (i := 196) rfl))) Via.refl e331 G1 (g := (mkF m 8 #[.val (.ref y1), .val (.ref y2)] [(.ref y1)])) rfl rfl (hb hby d25_8)
  have S335 : own_Go p e below s₁ G T334 (mkF m 11 #[.val (.ref y1), .val (.ref y2)] [(.int k1)]) := fun tg_ kk_ => S333 tg_ (st334 tg_ kk_)
  have S336 : own_Go p e below s₁ G T334 (mkF m 12 #[.val (.ref y1), .val (.ref y2)] [(.ref y2), (.int k1)]) := fun tg_ kk_ => S335 tg_ (by
    refine XS.aloadN X334.here hx rfl (hb hby d25_11) rfl rfl ?_
    exact kk_)
  obtain ⟨T337, X337, e337, st337⟩ := castY X334 hx hZ hown (hw _ (List.mem_of_getElem? (i := 194) rfl)) e334 (Ins.of_exa Ey2 (hw _ (List.mem_of_getElem? (i := 195) rfl))) (g := (mkF m 12 #[.val (.ref y1), .val (.ref y2)] [(.ref y2), (.int k1)])) rfl rfl (hb hby d25_12)
  have S338 : own_Go p e below s₁ G T337 (mkF m 15 #[.val (.ref y1), .val (.ref y2)] [(.ref y2), (.int k1)]) := fun tg_ kk_ => S336 tg_ (st337 tg_ kk_)
  obtain ⟨_, T339, h339, L339, X339, e339, hQ339, st339⟩ := own_callV X337 hx hZ (y := (⟨"java/lang/Integer", "intValue", "()I"⟩ : MethodName)) hown (hw _ (List.mem_of_getElem? (i := 198) rfl)) (hw _ (List.mem_of_getElem? (i := 199) rfl)) (hw _ (List.mem_of_getElem? (i := 201) rfl)) (hw _ (List.mem_of_getElem? (i := 200) rfl)) (hw _ (List.mem_of_getElem? (i := 16) rfl)) (hw _ (List.mem_of_getElem? (i := 202) rfl)) (by decide) 1 (g := (mkF m 15 #[.val (.ref y1), .val (.ref y2)] [(.ref y2), (.int k1)])) rfl (by rw [hml]; rfl) y2 Ey2 [] [(.int k1)] (rm26 l Z a0 hw [] y2 k2 h0 n0 Z0 G2) (lenOf pd12 rfl) rfl (by show 2 * 0 + _ ≤ _; exact Nat.le_of_eq rfl) (hb hby d25_15) (by decide) (by decide) e337 (by decide) (by decide)
  obtain ⟨rfl, N339, rfl⟩ := hQ339
  have S340 : own_Go p e below s₁ G T339 (mkF m 18 #[.val (.ref y1), .val (.ref y2)] [(.int k2), (.int k1)]) := fun tg_ kk_ => S338 tg_ (st339 tg_ kk_)
  have M339 := Fr.app N0 N339
  by_cases hk : k1 = k2
  · have _ := N0
    have S341 : own_Go p e below s₁ G T339 (mkF m 26 #[.val (.ref y1), .val (.ref y2)] [(.int (1 : Int32))]) := fun tg_ kk_ => S340 tg_ (by
      refine XS.icmpNo X339.here hx rfl (hb hby d25_18) rfl (XT.ii_ne_f hk) ?_
      show Steps p.tables e below (T339.setTop (mkF m 21 #[.val (.ref y1), .val (.ref y2)] [])) _
      refine XS.iconst X339.here hx rfl (hb hby d25_21) ?_
      show Steps p.tables e below (T339.setTop (mkF m 22 #[.val (.ref y1), .val (.ref y2)] [(.int (1 : Int32))])) _
      refine XS.goto X339.here hx rfl (pc0 := 22) (pc' := 26) rfl (hb hby d25_22) (by decide) (by decide) ?_
      exact kk_)
    obtain ⟨fs, hr, hrun, hended, hW, hsame⟩ := X339.leave (v := some (.int (1 : Int32))) (fun h => by rw [Bd.returns] at h; cases h)
    refine ⟨_, _, ?_, hrun, hended, _, _, rfl, ?_, ⟨_, rfl⟩, hW, hsame.mono (by decide) (by decide)⟩
    · rw [← hG]; exact S341 _ (retN X339 hx (t := .boolean) Bd.returns (by simp) (hb hby d25_26) hr)
    · show Q25 Z y1 y2 k1 k2 h0 n0 _ T339.heap _
      rw [e339]
      exact ⟨Or.inl ⟨hk, rfl⟩, M339, rfl⟩
  · have _ := N0
    have S342 : own_Go p e below s₁ G T339 (mkF m 26 #[.val (.ref y1), .val (.ref y2)] [(.int (0 : Int32))]) := fun tg_ kk_ => S340 tg_ (by
      refine XS.icmpYes X339.here hx rfl (pc0 := 18) (pc' := 25) rfl (hb hby d25_18) rfl (XT.ii_ne_t hk) (by decide) (by decide) ?_
      show Steps p.tables e below (T339.setTop (mkF m 25 #[.val (.ref y1), .val (.ref y2)] [])) _
      refine XS.iconst X339.here hx rfl (hb hby d25_25) ?_
      exact kk_)
    obtain ⟨fs, hr, hrun, hended, hW, hsame⟩ := X339.leave (v := some (.int (0 : Int32))) (fun h => by rw [Bd.returns] at h; cases h)
    refine ⟨_, _, ?_, hrun, hended, _, _, rfl, ?_, ⟨_, rfl⟩, hW, hsame.mono (by decide) (by decide)⟩
    · rw [← hG]; exact S342 _ (retN X339 hx (t := .boolean) Bd.returns (by simp) (hb hby d25_26) hr)
    · show Q25 Z y1 y2 k1 k2 h0 n0 _ T339.heap _
      rw [e339]
      exact ⟨Or.inr ⟨hk, rfl⟩, M339, rfl⟩
def Q24 (Z : State) (y1 : Addr) (y2 : Addr) (k1 : Int32) (k2 : Int32) (h0 : Heap) (n0 : Nat) (v : Option Value) (h : Heap) (L : List Loc) : Prop := ((k1 = k2 ∧ v = some (.int 1)) ∨ (¬ k1 = k2 ∧ v = some (.int 0))) ∧ Fr n0 L ∧ h0 = h
set_option maxRecDepth 65536 in
set_option maxHeartbeats 40000000 in
theorem rm24 (l : Launch) (Z : State) (a0 : Array Value) (hw : ∀ d ∈ tables_1, d.before a0 Z = true) (ws : List Jvm.Cond) (y1 : Addr) (y2 : Addr) (k1 : Int32) (k2 : Int32) (h0 : Heap) (n0 : Nat) (Z0 : n0 ≤ h0.size) (Ey1 : Exa Z h0 y1 "java/lang/Integer") (G1 : Fld Z h0 y1 "java/lang/Integer" "value" "I" (.int k1)) (Ey2 : Exa Z h0 y2 "java/lang/Integer") (G2 : Fld Z h0 y2 "java/lang/Integer" "value" "I" (.int k2)) :
    MetFree l (⟨"java/util/Objects", "equals", "(Ljava/lang/Object;Ljava/lang/Object;)Z"⟩ : MethodName) (head1 (Jvm.Cond.code (⟨"java/util/Objects", "equals", "(Ljava/lang/Object;Ljava/lang/Object;)Z"⟩ : MethodName) jdk_31_method_2_code 2 (some .boolean) :: ws) ({ frames := 2, cells := 0, slots := 0, locals := 28 } : Room)) (fun aa_ U => aa_ = #[(.ref y1), (.ref y2)] ∧ Z.Warmed39 U.vm ∧ U.heap = h0) (fun _ _ _ _ _ => True) (fun _ U o U' => ∃ v L, o = .returned v ∧ Q24 Z y1 y2 k1 k2 h0 n0 v U'.heap L ∧ FrameEnd U o U' L ({ frames := 2, cells := 0, slots := 0, locals := 28 } : Room).cells ({ frames := 2, cells := 0, slots := 0, locals := 28 } : Room).slots) := by
  refine MetFree.of_bodySF (plainFor_of_name pn7) hisR ?_
  intro p e s m args below meth c s₁ Bd hml0 hP hK
  obtain ⟨rfl, hZ, hh⟩ := hP
  have hx := Bd.exec
  have hby := Bd.bytes
  have hml : c.maxLocals = 2 := hml0
  have hown : s.vm.findClass "java/util/Objects" = some m.cls := findClass_of_methodNamed Bd.named
  have hnm := (name_of_methodNamed Bd.named Bd.method).1
  have X0 : Stand p l e ({ frames := 2, cells := 0, slots := 0, locals := 28 } : Room) s m #[(.ref y1), (.ref y2)] below meth c s₁ [] 0 0 := Stand.of_body Bd
  have e0 : s₁.heap = h0 := by rw [← hh, Bd.state]; rfl
  have N0 := Fr.nil n0
  obtain ⟨G, hG⟩ : ∃ G, G = entryFrame m #[(.ref y1), (.ref y2)] 2 := ⟨_, rfl⟩
  have S0 : own_Go p e below s₁ G s₁ (mkF m 0 #[.val (.ref y1), .val (.ref y2)] []) := fun tg_ kk_ => castTop (by rw [hG]; first | rfl | simp [entryFrame, mkF, argsToLocals, Value.category, maxLocals]) kk_
  have S343 : own_Go p e below s₁ G s₁ (mkF m 2 #[.val (.ref y1), .val (.ref y2)] [(.ref y2), (.ref y1)]) := fun tg_ kk_ => S0 tg_ (by
    refine XS.aloadN X0.here hx rfl (hb hby d24_0) rfl rfl ?_
    show Steps p.tables e below (s₁.setTop (mkF m 1 #[.val (.ref y1), .val (.ref y2)] [(.ref y1)])) _
    refine XS.aloadN X0.here hx rfl (hb hby d24_1) rfl rfl ?_
    exact kk_)
  by_cases hy : y1 = y2
  · have hk : k1 = k2 := by
      subst hy
      exact Classical.byContradiction (fun q => absurd rfl (Fld.ne G1 G2 (fun z => q (Value.int.inj z))))
    have S344 : own_Go p e below s₁ G s₁ (mkF m 22 #[.val (.ref y1), .val (.ref y2)] [(.int (1 : Int32))]) := fun tg_ kk_ => S343 tg_ (by
      refine XT.acmpYes X0.here hx rfl (pc0 := 2) (pc' := 17) rfl (hb hby d24_2) rfl (rfl) (rfl) (XT.aa_eq_t (by rw [hy])) (by decide) (by decide) ?_
      show Steps p.tables e below (s₁.setTop (mkF m 17 #[.val (.ref y1), .val (.ref y2)] [])) _
      refine XS.iconst X0.here hx rfl (hb hby d24_17) ?_
      show Steps p.tables e below (s₁.setTop (mkF m 18 #[.val (.ref y1), .val (.ref y2)] [(.int (1 : Int32))])) _
      refine XS.goto X0.here hx rfl (pc0 := 18) (pc' := 22) rfl (hb hby d24_18) (by decide) (by decide) ?_
      exact kk_)
    obtain ⟨fs, hr, hrun, hended, hW, hsame⟩ := X0.leave (v := some (.int (1 : Int32))) (fun h => by rw [Bd.returns] at h; cases h)
    refine ⟨_, _, ?_, hrun, hended, _, _, rfl, ?_, ⟨_, rfl⟩, hW, hsame.mono (by decide) (by decide)⟩
    · rw [← hG]; exact S344 _ (retN X0 hx (t := .boolean) Bd.returns (by simp) (hb hby d24_22) hr)
    · show Q24 Z y1 y2 k1 k2 h0 n0 _ s₁.heap _
      rw [e0]
      exact ⟨Or.inl ⟨hk, rfl⟩, N0, rfl⟩
  · have _ := N0
    have S345 : own_Go p e below s₁ G s₁ (mkF m 11 #[.val (.ref y1), .val (.ref y2)] [(.ref y2), (.ref y1)]) := fun tg_ kk_ => S343 tg_ (by
      refine XT.acmpNo X0.here hx rfl (hb hby d24_2) rfl (rfl) (rfl) (XT.aa_eq_f (fun q => hy (Value.ref.inj q))) ?_
      show Steps p.tables e below (s₁.setTop (mkF m 5 #[.val (.ref y1), .val (.ref y2)] [])) _
      refine XS.aloadN X0.here hx rfl (hb hby d24_5) rfl rfl ?_
      show Steps p.tables e below (s₁.setTop (mkF m 6 #[.val (.ref y1), .val (.ref y2)] [(.ref y1)])) _
      refine XS.ifnullNo X0.here hx rfl (hb hby d24_6) rfl ?_
      show Steps p.tables e below (s₁.setTop (mkF m 9 #[.val (.ref y1), .val (.ref y2)] [])) _
      refine XS.aloadN X0.here hx rfl (hb hby d24_9) rfl rfl ?_
      show Steps p.tables e below (s₁.setTop (mkF m 10 #[.val (.ref y1), .val (.ref y2)] [(.ref y1)])) _
      refine XS.aloadN X0.here hx rfl (hb hby d24_10) rfl rfl ?_
      exact kk_)
    obtain ⟨_, T346, h346, L346, X346, e346, hQ346, st346⟩ := own_callW X0 hx hZ (y := (⟨"java/lang/Object", "equals", "(Ljava/lang/Object;)Z"⟩ : MethodName)) (z := (⟨"java/lang/Integer", "equals", "(Ljava/lang/Object;)Z"⟩ : MethodName)) hown (hw _ (List.mem_of_getElem? (i := 188) rfl)) (hw _ (List.mem_of_getElem? (i := 189) rfl)) (hw _ (List.mem_of_getElem? (i := 191) rfl)) (hw _ (List.mem_of_getElem? (i := 321) rfl)) rfl (hw _ (List.mem_of_getElem? (i := 192) rfl)) (hw _ (List.mem_of_getElem? (i := 16) rfl)) (hw _ (List.mem_of_getElem? (i := 193) rfl)) (by decide) 0 (g := (mkF m 11 #[.val (.ref y1), .val (.ref y2)] [(.ref y2), (.ref y1)])) rfl (by rw [hml]; rfl) y1 Ey1 [(.ref y2)] [] (rm25 l Z a0 hw [] y1 y2 k1 k2 h0 n0 Z0 Ey1 G1 Ey2 G2) (lenOf pd14 rfl) rfl (by show 2 * 0 + _ ≤ _; exact Nat.le_of_eq rfl) (hb hby d24_11) (by decide) (by decide) e0 (by decide) (by decide)
    rcases hQ346 with ⟨⟨hk, rfl⟩ | ⟨hk, rfl⟩, N346, rfl⟩
    · have _ := e346
      have S347 : own_Go p e below s₁ G T346 (mkF m 14 #[.val (.ref y1), .val (.ref y2)] [(.int (1 : Int32))]) := fun tg_ kk_ => S345 tg_ (st346 tg_ kk_)
      have M346 := Fr.app N0 N346
      have S348 : own_Go p e below s₁ G T346 (mkF m 22 #[.val (.ref y1), .val (.ref y2)] [(.int (1 : Int32))]) := fun tg_ kk_ => S347 tg_ (by
        refine XS.ifNo X346.here hx rfl (hb hby d24_14) rfl (XT.i0_eq_f (by decide)) ?_
        show Steps p.tables e below (T346.setTop (mkF m 17 #[.val (.ref y1), .val (.ref y2)] [])) _
        refine XS.iconst X346.here hx rfl (hb hby d24_17) ?_
        show Steps p.tables e below (T346.setTop (mkF m 18 #[.val (.ref y1), .val (.ref y2)] [(.int (1 : Int32))])) _
        refine XS.goto X346.here hx rfl (pc0 := 18) (pc' := 22) rfl (hb hby d24_18) (by decide) (by decide) ?_
        exact kk_)
      obtain ⟨fs, hr, hrun, hended, hW, hsame⟩ := X346.leave (v := some (.int (1 : Int32))) (fun h => by rw [Bd.returns] at h; cases h)
      refine ⟨_, _, ?_, hrun, hended, _, _, rfl, ?_, ⟨_, rfl⟩, hW, hsame.mono (by decide) (by decide)⟩
      · rw [← hG]; exact S348 _ (retN X346 hx (t := .boolean) Bd.returns (by simp) (hb hby d24_22) hr)
      · show Q24 Z y1 y2 k1 k2 h0 n0 _ T346.heap _
        rw [e346]
        exact ⟨Or.inl ⟨hk, rfl⟩, M346, rfl⟩
    · have _ := e346
      have S349 : own_Go p e below s₁ G T346 (mkF m 14 #[.val (.ref y1), .val (.ref y2)] [(.int (0 : Int32))]) := fun tg_ kk_ => S345 tg_ (st346 tg_ kk_)
      have M346 := Fr.app N0 N346
      have S350 : own_Go p e below s₁ G T346 (mkF m 22 #[.val (.ref y1), .val (.ref y2)] [(.int (0 : Int32))]) := fun tg_ kk_ => S349 tg_ (by
        refine XS.ifYes X346.here hx rfl (pc0 := 14) (pc' := 21) rfl (hb hby d24_14) rfl (XT.i0_eq_t (by decide)) (by decide) (by decide) ?_
        show Steps p.tables e below (T346.setTop (mkF m 21 #[.val (.ref y1), .val (.ref y2)] [])) _
        refine XS.iconst X346.here hx rfl (hb hby d24_21) ?_
        exact kk_)
      obtain ⟨fs, hr, hrun, hended, hW, hsame⟩ := X346.leave (v := some (.int (0 : Int32))) (fun h => by rw [Bd.returns] at h; cases h)
      refine ⟨_, _, ?_, hrun, hended, _, _, rfl, ?_, ⟨_, rfl⟩, hW, hsame.mono (by decide) (by decide)⟩
      · rw [← hG]; exact S350 _ (retN X346 hx (t := .boolean) Bd.returns (by simp) (hb hby d24_22) hr)
      · show Q24 Z y1 y2 k1 k2 h0 n0 _ T346.heap _
        rw [e346]
        exact ⟨Or.inr ⟨hk, rfl⟩, M346, rfl⟩
def Q19 (Z : State) (d1 : Addr) (d2 : Addr) (em : Addr) (y1 : Addr) (y2 : Addr) (k1 : Int32) (k2 : Int32) (h0 : Heap) (n0 : Nat) (v : Option Value) (h : Heap) (L : List Loc) : Prop := ((k2 = k1 ∧ v = some (.int 1)) ∨ (¬ k2 = k1 ∧ v = some (.int 0))) ∧ Fr n0 L ∧ Keep h0 h []
set_option maxRecDepth 65536 in
set_option maxHeartbeats 40000000 in
theorem rm19 (l : Launch) (Z : State) (a0 : Array Value) (hw : ∀ d ∈ tables_1, d.before a0 Z = true) (ws : List Jvm.Cond) (d1 : Addr) (d2 : Addr) (em : Addr) (y1 : Addr) (y2 : Addr) (k1 : Int32) (k2 : Int32) (h0 : Heap) (n0 : Nat) (Z0 : n0 ≤ h0.size) (Ed1 : Exa Z h0 d1 "java/util/ImmutableCollections$List12") (F01 : Fld Z h0 d1 "java/util/ImmutableCollections$List12" "e0" "Ljava/lang/Object;" (.ref y1)) (F11 : Fld Z h0 d1 "java/util/ImmutableCollections$List12" "e1" "Ljava/lang/Object;" (.ref em)) (Ed2 : Exa Z h0 d2 "java/util/ImmutableCollections$List12") (F02 : Fld Z h0 d2 "java/util/ImmutableCollections$List12" "e0" "Ljava/lang/Object;" (.ref y2)) (F12 : Fld Z h0 d2 "java/util/ImmutableCollections$List12" "e1" "Ljava/lang/Object;" (.ref em)) (hdd : d1 ≠ d2) (Ey1 : Exa Z h0 y1 "java/lang/Integer") (G1 : Fld Z h0 y1 "java/lang/Integer" "value" "I" (.int k1)) (Ey2 : Exa Z h0 y2 "java/lang/Integer") (G2 : Fld Z h0 y2 "java/lang/Integer" "value" "I" (.int k2)) (O : Old Z n0 h0) (SE : Sta Z Z.heap "java/util/ImmutableCollections" "EMPTY" "Ljava/lang/Object;" (.ref em)) :
    MetFree l (⟨"java/util/ImmutableCollections$AbstractImmutableList", "equals", "(Ljava/lang/Object;)Z"⟩ : MethodName) (head1 (Jvm.Cond.code (⟨"java/util/ImmutableCollections$AbstractImmutableList", "equals", "(Ljava/lang/Object;)Z"⟩ : MethodName) jdk_46_method_13_code 5 (some .boolean) :: ws) ({ frames := 3, cells := 1, slots := 4, locals := 60 } : Room)) (fun aa_ U => aa_ = #[(.ref d2), (.ref d1)] ∧ Z.Warmed39 U.vm ∧ U.heap = h0) (fun _ _ _ _ _ => True) (fun _ U o U' => ∃ v L, o = .returned v ∧ Q19 Z d1 d2 em y1 y2 k1 k2 h0 n0 v U'.heap L ∧ FrameEnd U o U' L ({ frames := 3, cells := 1, slots := 4, locals := 60 } : Room).cells ({ frames := 3, cells := 1, slots := 4, locals := 60 } : Room).slots) := by
  refine MetFree.of_bodySF (plainFor_of_name pn6) hisR ?_
  intro p e s m args below meth c s₁ Bd hml0 hP hK
  obtain ⟨rfl, hZ, hh⟩ := hP
  have hx := Bd.exec
  have hby := Bd.bytes
  have hml : c.maxLocals = 5 := hml0
  have hown : s.vm.findClass "java/util/ImmutableCollections$AbstractImmutableList" = some m.cls := findClass_of_methodNamed Bd.named
  have hnm := (name_of_methodNamed Bd.named Bd.method).1
  have X0 : Stand p l e ({ frames := 3, cells := 1, slots := 4, locals := 60 } : Room) s m #[(.ref d2), (.ref d1)] below meth c s₁ [] 0 0 := Stand.of_body Bd
  have e0 : s₁.heap = h0 := by rw [← hh, Bd.state]; rfl
  have N0 := Fr.nil n0
  obtain ⟨G, hG⟩ : ∃ G, G = entryFrame m #[(.ref d2), (.ref d1)] 5 := ⟨_, rfl⟩
  have S0 : own_Go p e below s₁ G s₁ (mkF m 0 #[.val (.ref d2), .val (.ref d1), .unset, .unset, .unset] []) := fun tg_ kk_ => castTop (by rw [hG]; first | rfl | simp [entryFrame, mkF, argsToLocals, Value.category, maxLocals]) kk_
  have S351 : own_Go p e below s₁ G s₁ (mkF m 8 #[.val (.ref d2), .val (.ref d1), .unset, .unset, .unset] [(.ref d1)]) := fun tg_ kk_ => S0 tg_ (by
    refine XS.aloadN X0.here hx rfl (hb hby d19_0) rfl rfl ?_
    show Steps p.tables e below (s₁.setTop (mkF m 1 #[.val (.ref d2), .val (.ref d1), .unset, .unset, .unset] [(.ref d1)])) _
    refine XS.aloadN X0.here hx rfl (hb hby d19_1) rfl rfl ?_
    show Steps p.tables e below (s₁.setTop (mkF m 2 #[.val (.ref d2), .val (.ref d1), .unset, .unset, .unset] [(.ref d2), (.ref d1)])) _
    refine XT.acmpYes X0.here hx rfl (pc0 := 2) (pc' := 7) rfl (hb hby d19_2) rfl (rfl) (rfl) (XT.aa_ne_t (fun q => hdd (Value.ref.inj q))) (by decide) (by decide) ?_
    show Steps p.tables e below (s₁.setTop (mkF m 7 #[.val (.ref d2), .val (.ref d1), .unset, .unset, .unset] [])) _
    refine XS.aloadN X0.here hx rfl (hb hby d19_7) rfl rfl ?_
    exact kk_)
  obtain ⟨T352, X352, e352, st352⟩ := instY X0 hx hZ hown (hw _ (List.mem_of_getElem? (i := 128) rfl)) e0 (Ins.of_exa Ed1 (hw _ (List.mem_of_getElem? (i := 94) rfl))) (g := (mkF m 8 #[.val (.ref d2), .val (.ref d1), .unset, .unset, .unset] [(.ref d1)])) rfl rfl (hb hby d19_8)
  have S353 : own_Go p e below s₁ G T352 (mkF m 11 #[.val (.ref d2), .val (.ref d1), .unset, .unset, .unset] [(.int (1 : Int32))]) := fun tg_ kk_ => S351 tg_ (st352 tg_ kk_)
  have S354 : own_Go p e below s₁ G T352 (mkF m 17 #[.val (.ref d2), .val (.ref d1), .unset, .unset, .unset] [(.ref d1)]) := fun tg_ kk_ => S353 tg_ (by
    refine XS.ifYes X352.here hx rfl (pc0 := 11) (pc' := 16) rfl (hb hby d19_11) rfl (XT.i0_ne_t (by decide)) (by decide) (by decide) ?_
    show Steps p.tables e below (T352.setTop (mkF m 16 #[.val (.ref d2), .val (.ref d1), .unset, .unset, .unset] [])) _
    refine XS.aloadN X352.here hx rfl (hb hby d19_16) rfl rfl ?_
    exact kk_)
  obtain ⟨T355, X355, e355, st355⟩ := castY X352 hx hZ hown (hw _ (List.mem_of_getElem? (i := 128) rfl)) e352 (Ins.of_exa Ed1 (hw _ (List.mem_of_getElem? (i := 94) rfl))) (g := (mkF m 17 #[.val (.ref d2), .val (.ref d1), .unset, .unset, .unset] [(.ref d1)])) rfl rfl (hb hby d19_17)
  have S356 : own_Go p e below s₁ G T355 (mkF m 20 #[.val (.ref d2), .val (.ref d1), .unset, .unset, .unset] [(.ref d1)]) := fun tg_ kk_ => S354 tg_ (st355 tg_ kk_)
  obtain ⟨_, T357, h357, L357, X357, e357, hQ357, st357⟩ := own_callF X355 hx hZ (y := (⟨"java/util/List", "iterator", "()Ljava/util/Iterator;"⟩ : MethodName)) (z := (⟨"java/util/ImmutableCollections$AbstractImmutableList", "iterator", "()Ljava/util/Iterator;"⟩ : MethodName)) hown (hw _ (List.mem_of_getElem? (i := 129) rfl)) (hw _ (List.mem_of_getElem? (i := 130) rfl)) (mvT hZ (hw _ (List.mem_of_getElem? (i := 131) rfl))) (hw _ (List.mem_of_getElem? (i := 132) rfl)) (hw _ (List.mem_of_getElem? (i := 133) rfl)) (hw _ (List.mem_of_getElem? (i := 134) rfl)) (hw _ (List.mem_of_getElem? (i := 135) rfl)) (hw _ (List.mem_of_getElem? (i := 94) rfl)) (hw _ (List.mem_of_getElem? (i := 36) rfl)) (hw _ (List.mem_of_getElem? (i := 136) rfl)) (by decide) 0 (g := (mkF m 20 #[.val (.ref d2), .val (.ref d1), .unset, .unset, .unset] [(.ref d1)])) rfl (by rw [hml]; rfl) d1 Ed1 [] [] (rm20 l Z a0 hw [] d1 y1 em h0 n0 Z0 Ed1 F01 F11 O SE) (lenOf pd15 rfl) rfl (by show 2 * 0 + _ ≤ _; exact Nat.le_of_eq rfl) (hb hby d19_20) (by decide) (by decide) e355 (by decide) (by decide)
  obtain ⟨x, rfl, N357, K357, hxn, It⟩ := hQ357
  have S358 : own_Go p e below s₁ G T357 (mkF m 25 #[.val (.ref d2), .val (.ref d1), .unset, .unset, .unset] [(.ref x)]) := fun tg_ kk_ => S356 tg_ (st357 tg_ kk_)
  have f359 := Fr.app N0 N357
  have f360 := O.keep K357 all0
  have f361 := Nat.le_trans Z0 K357.1
  have f362 := Ed1.keep K357
  have f363 := Ed2.keep K357
  have f364 := F01.keep K357 nin0
  have f365 := F02.keep K357 nin0
  have f366 := F12.keep K357 nin0
  have f367 := Ey1.keep K357
  have f368 := Ey2.keep K357
  have f369 := G1.keep K357 nin0
  have f370 := G2.keep K357 nin0
  have f371 := Keep.trans (Keep.refl h0 []) K357 all0
  have o_d1 : @LT.lt Nat instLTNat d1 x := Nat.lt_of_lt_of_le Ed1.lt hxn
  have o_d2 : @LT.lt Nat instLTNat d2 x := Nat.lt_of_lt_of_le Ed2.lt hxn
  have o_y1 : @LT.lt Nat instLTNat y1 x := Nat.lt_of_lt_of_le Ey1.lt hxn
  have o_y2 : @LT.lt Nat instLTNat y2 x := Nat.lt_of_lt_of_le Ey2.lt hxn
  have o_n : @LE.le Nat instLENat n0 x := Nat.le_trans Z0 hxn
  have S372 : own_Go p e below s₁ G T357 (mkF m 29 #[.val (.ref d2), .val (.ref d1), .val (.ref x), .val (.int (0 : Int32)), .unset] [(.ref d2)]) := fun tg_ kk_ => S358 tg_ (by
    refine XS.astoreN X357.here hx rfl (hb hby d19_25) rfl rfl (l' := #[.val (.ref d2), .val (.ref d1), .val (.ref x), .unset, .unset]) rfl ?_
    show Steps p.tables e below (T357.setTop (mkF m 26 #[.val (.ref d2), .val (.ref d1), .val (.ref x), .unset, .unset] [])) _
    refine XS.iconst X357.here hx rfl (hb hby d19_26) ?_
    show Steps p.tables e below (T357.setTop (mkF m 27 #[.val (.ref d2), .val (.ref d1), .val (.ref x), .unset, .unset] [(.int (0 : Int32))])) _
    refine XS.istoreN X357.here hx rfl (hb hby d19_27) rfl (l' := #[.val (.ref d2), .val (.ref d1), .val (.ref x), .val (.int (0 : Int32)), .unset]) rfl ?_
    show Steps p.tables e below (T357.setTop (mkF m 28 #[.val (.ref d2), .val (.ref d1), .val (.ref x), .val (.int (0 : Int32)), .unset] [])) _
    refine XS.aloadN X357.here hx rfl (hb hby d19_28) rfl rfl ?_
    exact kk_)
  obtain ⟨_, T373, h373, L373, X373, e373, hQ373, st373⟩ := own_callU X357 hx hZ (y := (⟨"java/util/ImmutableCollections$AbstractImmutableList", "size", "()I"⟩ : MethodName)) (z := (⟨"java/util/ImmutableCollections$List12", "size", "()I"⟩ : MethodName)) hown (hw _ (List.mem_of_getElem? (i := 140) rfl)) (hw _ (List.mem_of_getElem? (i := 141) rfl)) (hw _ (List.mem_of_getElem? (i := 142) rfl)) (hw _ (List.mem_of_getElem? (i := 143) rfl)) (hw _ (List.mem_of_getElem? (i := 91) rfl)) (hw _ (List.mem_of_getElem? (i := 27) rfl)) (hw _ (List.mem_of_getElem? (i := 95) rfl)) (by decide) 0 (g := (mkF m 29 #[.val (.ref d2), .val (.ref d1), .val (.ref x), .val (.int (0 : Int32)), .unset] [(.ref d2)])) rfl (by rw [hml]; rfl) d2 f363 [] [] (rm15 l Z a0 hw [] d2 em h357 n0 f361 f366 f360 SE) (lenOf pd12 rfl) rfl (by show 2 * 0 + _ ≤ _; exact Nat.le_of_eq rfl) (hb hby d19_29) (by decide) (by decide) e357 (by decide) (by decide)
  obtain ⟨rfl, N373, rfl⟩ := hQ373
  have S374 : own_Go p e below s₁ G T373 (mkF m 32 #[.val (.ref d2), .val (.ref d1), .val (.ref x), .val (.int (0 : Int32)), .unset] [(.int (1 : Int32))]) := fun tg_ kk_ => S372 tg_ (st373 tg_ kk_)
  have M373 := Fr.app f359 N373
  have S375 : own_Go p e below s₁ G T373 (mkF m 41 #[.val (.ref d2), .val (.ref d1), .val (.ref x), .val (.int (0 : Int32)), .val (.int (1 : Int32))] [(.ref x)]) := fun tg_ kk_ => S374 tg_ (by
    refine XS.istore X373.here hx rfl (hb hby d19_32) rfl (l' := #[.val (.ref d2), .val (.ref d1), .val (.ref x), .val (.int (0 : Int32)), .val (.int (1 : Int32))]) rfl ?_
    show Steps p.tables e below (T373.setTop (mkF m 34 #[.val (.ref d2), .val (.ref d1), .val (.ref x), .val (.int (0 : Int32)), .val (.int (1 : Int32))] [])) _
    refine XS.iloadN X373.here hx rfl (hb hby d19_34) rfl ?_
    show Steps p.tables e below (T373.setTop (mkF m 35 #[.val (.ref d2), .val (.ref d1), .val (.ref x), .val (.int (0 : Int32)), .val (.int (1 : Int32))] [(.int (0 : Int32))])) _
    refine XS.iload X373.here hx rfl (hb hby d19_35) rfl ?_
    show Steps p.tables e below (T373.setTop (mkF m 37 #[.val (.ref d2), .val (.ref d1), .val (.ref x), .val (.int (0 : Int32)), .val (.int (1 : Int32))] [(.int (1 : Int32)), (.int (0 : Int32))])) _
    refine XS.icmpNo X373.here hx rfl (hb hby d19_37) rfl (XT.ii_ge_f (by decide)) ?_
    show Steps p.tables e below (T373.setTop (mkF m 40 #[.val (.ref d2), .val (.ref d1), .val (.ref x), .val (.int (0 : Int32)), .val (.int (1 : Int32))] [])) _
    refine XS.aloadN X373.here hx rfl (hb hby d19_40) rfl rfl ?_
    exact kk_)
  obtain ⟨_, T376, h376, L376, X376, e376, hQ376, st376⟩ := own_callF X373 hx hZ (y := (⟨"java/util/Iterator", "hasNext", "()Z"⟩ : MethodName)) (z := (⟨"java/util/ImmutableCollections$ListItr", "hasNext", "()Z"⟩ : MethodName)) hown (hw _ (List.mem_of_getElem? (i := 157) rfl)) (hw _ (List.mem_of_getElem? (i := 158) rfl)) (mvT hZ (hw _ (List.mem_of_getElem? (i := 159) rfl))) (hw _ (List.mem_of_getElem? (i := 160) rfl)) (hw _ (List.mem_of_getElem? (i := 161) rfl)) (hw _ (List.mem_of_getElem? (i := 162) rfl)) (hw _ (List.mem_of_getElem? (i := 163) rfl)) (hw _ (List.mem_of_getElem? (i := 164) rfl)) (hw _ (List.mem_of_getElem? (i := 139) rfl)) (hw _ (List.mem_of_getElem? (i := 165) rfl)) (by decide) 0 (g := (mkF m 41 #[.val (.ref d2), .val (.ref d1), .val (.ref x), .val (.int (0 : Int32)), .val (.int (1 : Int32))] [(.ref x)])) rfl (by rw [hml]; rfl) x It.1 [] [] (rm220 l Z a0 hw [] x d1 h357 n0 f361 It) (lenOf pd17 rfl) rfl (by show 2 * 0 + _ ≤ _; exact Nat.le_of_eq rfl) (hb hby d19_41) (by decide) (by decide) e373 (by decide) (by decide)
  obtain ⟨rfl, N376, rfl⟩ := hQ376
  have S377 : own_Go p e below s₁ G T376 (mkF m 46 #[.val (.ref d2), .val (.ref d1), .val (.ref x), .val (.int (0 : Int32)), .val (.int (1 : Int32))] [(.int (1 : Int32))]) := fun tg_ kk_ => S375 tg_ (st376 tg_ kk_)
  have M376 := Fr.app M373 N376
  have S378 : own_Go p e below s₁ G T376 (mkF m 51 #[.val (.ref d2), .val (.ref d1), .val (.ref x), .val (.int (0 : Int32)), .val (.int (1 : Int32))] [(.int (0 : Int32)), (.ref d2)]) := fun tg_ kk_ => S377 tg_ (by
    refine XS.ifNo X376.here hx rfl (hb hby d19_46) rfl (XT.i0_eq_f (by decide)) ?_
    show Steps p.tables e below (T376.setTop (mkF m 49 #[.val (.ref d2), .val (.ref d1), .val (.ref x), .val (.int (0 : Int32)), .val (.int (1 : Int32))] [])) _
    refine XS.aloadN X376.here hx rfl (hb hby d19_49) rfl rfl ?_
    show Steps p.tables e below (T376.setTop (mkF m 50 #[.val (.ref d2), .val (.ref d1), .val (.ref x), .val (.int (0 : Int32)), .val (.int (1 : Int32))] [(.ref d2)])) _
    refine XS.iloadN X376.here hx rfl (hb hby d19_50) rfl ?_
    exact kk_)
  obtain ⟨_, T379, h379, L379, X379, e379, hQ379, st379⟩ := own_callU X376 hx hZ (y := (⟨"java/util/ImmutableCollections$AbstractImmutableList", "get", "(I)Ljava/lang/Object;"⟩ : MethodName)) (z := (⟨"java/util/ImmutableCollections$List12", "get", "(I)Ljava/lang/Object;"⟩ : MethodName)) hown (hw _ (List.mem_of_getElem? (i := 166) rfl)) (hw _ (List.mem_of_getElem? (i := 167) rfl)) (hw _ (List.mem_of_getElem? (i := 168) rfl)) (hw _ (List.mem_of_getElem? (i := 169) rfl)) (hw _ (List.mem_of_getElem? (i := 170) rfl)) (hw _ (List.mem_of_getElem? (i := 27) rfl)) (hw _ (List.mem_of_getElem? (i := 171) rfl)) (by decide) 0 (g := (mkF m 51 #[.val (.ref d2), .val (.ref d1), .val (.ref x), .val (.int (0 : Int32)), .val (.int (1 : Int32))] [(.int (0 : Int32)), (.ref d2)])) rfl (by rw [hml]; rfl) d2 f363 [(.int (0 : Int32))] [] (rm23 l Z a0 hw [] d2 y2 h357 n0 f361 f365) (lenOf pd18 rfl) rfl (by show 2 * 0 + _ ≤ _; exact Nat.le_of_eq rfl) (hb hby d19_51) (by decide) (by decide) e376 (by decide) (by decide)
  obtain ⟨rfl, N379, rfl⟩ := hQ379
  have S380 : own_Go p e below s₁ G T379 (mkF m 54 #[.val (.ref d2), .val (.ref d1), .val (.ref x), .val (.int (0 : Int32)), .val (.int (1 : Int32))] [(.ref y2)]) := fun tg_ kk_ => S378 tg_ (st379 tg_ kk_)
  have M379 := Fr.app M376 N379
  have S381 : own_Go p e below s₁ G T379 (mkF m 55 #[.val (.ref d2), .val (.ref d1), .val (.ref x), .val (.int (0 : Int32)), .val (.int (1 : Int32))] [(.ref x), (.ref y2)]) := fun tg_ kk_ => S380 tg_ (by
    refine XS.aloadN X379.here hx rfl (hb hby d19_54) rfl rfl ?_
    exact kk_)
  obtain ⟨_, T382, h382, L382, X382, e382, hQ382, st382⟩ := own_callFW X379 hx hZ (y := (⟨"java/util/Iterator", "next", "()Ljava/lang/Object;"⟩ : MethodName)) (z := (⟨"java/util/ImmutableCollections$ListItr", "next", "()Ljava/lang/Object;"⟩ : MethodName)) hown (hw _ (List.mem_of_getElem? (i := 172) rfl)) (hw _ (List.mem_of_getElem? (i := 173) rfl)) (mvT hZ (hw _ (List.mem_of_getElem? (i := 174) rfl))) (hw _ (List.mem_of_getElem? (i := 175) rfl)) (hw _ (List.mem_of_getElem? (i := 176) rfl)) (hw _ (List.mem_of_getElem? (i := 177) rfl)) (hw _ (List.mem_of_getElem? (i := 178) rfl)) (hw _ (List.mem_of_getElem? (i := 164) rfl)) (hw _ (List.mem_of_getElem? (i := 139) rfl)) (hw _ (List.mem_of_getElem? (i := 179) rfl)) (by decide) 1 (g := (mkF m 55 #[.val (.ref d2), .val (.ref d1), .val (.ref x), .val (.int (0 : Int32)), .val (.int (1 : Int32))] [(.ref x), (.ref y2)])) rfl (by rw [hml]; rfl) x It.1 [] [(.ref y2)] (rm49 l Z a0 hw [] x d1 y1 h357 n0 f361 It o_n f362 f364) (lenOf pd33 rfl) rfl (by show 2 * 0 + _ ≤ _; exact Nat.le_of_eq rfl) (hb hby d19_55) (by decide) (by decide) e379 (by decide) (by decide)
  obtain ⟨rfl, N382, K382, It2⟩ := hQ382
  have S383 : own_Go p e below s₁ G T382 (mkF m 60 #[.val (.ref d2), .val (.ref d1), .val (.ref x), .val (.int (0 : Int32)), .val (.int (1 : Int32))] [(.ref y1), (.ref y2)]) := fun tg_ kk_ => S381 tg_ (st382 tg_ kk_)
  have f384 := Fr.app M379 N382
  have f385 := f360.keep K382 (allS (by omega) all0)
  have f386 := Nat.le_trans f361 K382.1
  have f387 := f362.keep K382
  have f388 := f363.keep K382
  have f389 := f364.keep K382 (ninS (own_nelt (by omega)) nin0)
  have f390 := f365.keep K382 (ninS (own_nelt (by omega)) nin0)
  have f391 := f366.keep K382 (ninS (own_nelt (by omega)) nin0)
  have f392 := f367.keep K382
  have f393 := f368.keep K382
  have f394 := f369.keep K382 (ninS (own_nelt (by omega)) nin0)
  have f395 := f370.keep K382 (ninS (own_nelt (by omega)) nin0)
  have f396 := Keep.trans f371 K382 (allS (Or.inr (by omega)) all0)
  obtain ⟨_, T397, h397, L397, X397, e397, hQ397, st397⟩ := own_callS X382 hx hZ (y := (⟨"java/util/Objects", "equals", "(Ljava/lang/Object;Ljava/lang/Object;)Z"⟩ : MethodName)) hown (hw _ (List.mem_of_getElem? (i := 185) rfl)) (hw _ (List.mem_of_getElem? (i := 186) rfl)) (hw _ (List.mem_of_getElem? (i := 55) rfl)) (hw _ (List.mem_of_getElem? (i := 187) rfl)) (by decide) 0 (g := (mkF m 60 #[.val (.ref d2), .val (.ref d1), .val (.ref x), .val (.int (0 : Int32)), .val (.int (1 : Int32))] [(.ref y1), (.ref y2)])) rfl (by rw [hml]; rfl) [(.ref y2), (.ref y1)] [] (rm24 l Z a0 hw [] y2 y1 k2 k1 h382 n0 f386 f393 f395 f392 f394) (lenOf pd19 rfl) rfl (by show 2 * 0 + _ ≤ _; exact Nat.le_of_eq rfl) (hb hby d19_60) (by decide) (by decide) e382 (by decide) (by decide)
  rcases hQ397 with ⟨⟨hk, rfl⟩ | ⟨hk, rfl⟩, N397, rfl⟩
  · have _ := e397
    have S398 : own_Go p e below s₁ G T397 (mkF m 63 #[.val (.ref d2), .val (.ref d1), .val (.ref x), .val (.int (0 : Int32)), .val (.int (1 : Int32))] [(.int (1 : Int32))]) := fun tg_ kk_ => S383 tg_ (st397 tg_ kk_)
    have M397 := Fr.app f384 N397
    have S399 : own_Go p e below s₁ G T397 (mkF m 71 #[.val (.ref d2), .val (.ref d1), .val (.ref x), .val (.int ((0 : Int32) + (1 : Int32))), .val (.int (1 : Int32))] []) := fun tg_ kk_ => S398 tg_ (by
      refine XS.ifYes X397.here hx rfl (pc0 := 63) (pc' := 68) rfl (hb hby d19_63) rfl (XT.i0_ne_t (by decide)) (by decide) (by decide) ?_
      show Steps p.tables e below (T397.setTop (mkF m 68 #[.val (.ref d2), .val (.ref d1), .val (.ref x), .val (.int (0 : Int32)), .val (.int (1 : Int32))] [])) _
      refine XS.iinc X397.here hx rfl (hb hby d19_68) rfl (l' := #[.val (.ref d2), .val (.ref d1), .val (.ref x), .val (.int ((0 : Int32) + (1 : Int32))), .val (.int (1 : Int32))]) rfl ?_
      exact kk_)
    rw [show ((0 : Int32) + (1 : Int32)) = (1 : Int32) from by decide +kernel] at S399
    have S400 : own_Go p e below s₁ G T397 (mkF m 75 #[.val (.ref d2), .val (.ref d1), .val (.ref x), .val (.int (1 : Int32)), .val (.int (1 : Int32))] [(.ref x)]) := fun tg_ kk_ => S399 tg_ (by
      refine XS.goto X397.here hx rfl (pc0 := 71) (pc' := 34) rfl (hb hby d19_71) (by decide) (by decide) ?_
      show Steps p.tables e below (T397.setTop (mkF m 34 #[.val (.ref d2), .val (.ref d1), .val (.ref x), .val (.int (1 : Int32)), .val (.int (1 : Int32))] [])) _
      refine XS.iloadN X397.here hx rfl (hb hby d19_34) rfl ?_
      show Steps p.tables e below (T397.setTop (mkF m 35 #[.val (.ref d2), .val (.ref d1), .val (.ref x), .val (.int (1 : Int32)), .val (.int (1 : Int32))] [(.int (1 : Int32))])) _
      refine XS.iload X397.here hx rfl (hb hby d19_35) rfl ?_
      show Steps p.tables e below (T397.setTop (mkF m 37 #[.val (.ref d2), .val (.ref d1), .val (.ref x), .val (.int (1 : Int32)), .val (.int (1 : Int32))] [(.int (1 : Int32)), (.int (1 : Int32))])) _
      refine XS.icmpYes X397.here hx rfl (pc0 := 37) (pc' := 74) rfl (hb hby d19_37) rfl (XT.ii_ge_t (by decide)) (by decide) (by decide) ?_
      show Steps p.tables e below (T397.setTop (mkF m 74 #[.val (.ref d2), .val (.ref d1), .val (.ref x), .val (.int (1 : Int32)), .val (.int (1 : Int32))] [])) _
      refine XS.aloadN X397.here hx rfl (hb hby d19_74) rfl rfl ?_
      exact kk_)
    obtain ⟨_, T401, h401, L401, X401, e401, hQ401, st401⟩ := own_callF X397 hx hZ (y := (⟨"java/util/Iterator", "hasNext", "()Z"⟩ : MethodName)) (z := (⟨"java/util/ImmutableCollections$ListItr", "hasNext", "()Z"⟩ : MethodName)) hown (hw _ (List.mem_of_getElem? (i := 157) rfl)) (hw _ (List.mem_of_getElem? (i := 158) rfl)) (mvT hZ (hw _ (List.mem_of_getElem? (i := 159) rfl))) (hw _ (List.mem_of_getElem? (i := 160) rfl)) (hw _ (List.mem_of_getElem? (i := 161) rfl)) (hw _ (List.mem_of_getElem? (i := 162) rfl)) (hw _ (List.mem_of_getElem? (i := 163) rfl)) (hw _ (List.mem_of_getElem? (i := 164) rfl)) (hw _ (List.mem_of_getElem? (i := 139) rfl)) (hw _ (List.mem_of_getElem? (i := 165) rfl)) (by decide) 0 (g := (mkF m 75 #[.val (.ref d2), .val (.ref d1), .val (.ref x), .val (.int (1 : Int32)), .val (.int (1 : Int32))] [(.ref x)])) rfl (by rw [hml]; rfl) x It2.1 [] [] (rm221 l Z a0 hw [] x d1 h382 n0 f386 It2) (lenOf pd17 rfl) rfl (by show 2 * 0 + _ ≤ _; exact Nat.le_of_eq rfl) (hb hby d19_75) (by decide) (by decide) e397 (by decide) (by decide)
    obtain ⟨rfl, N401, rfl⟩ := hQ401
    have S402 : own_Go p e below s₁ G T401 (mkF m 80 #[.val (.ref d2), .val (.ref d1), .val (.ref x), .val (.int (1 : Int32)), .val (.int (1 : Int32))] [(.int (0 : Int32))]) := fun tg_ kk_ => S400 tg_ (st401 tg_ kk_)
    have M401 := Fr.app M397 N401
    have S403 : own_Go p e below s₁ G T401 (mkF m 88 #[.val (.ref d2), .val (.ref d1), .val (.ref x), .val (.int (1 : Int32)), .val (.int (1 : Int32))] [(.int (1 : Int32))]) := fun tg_ kk_ => S402 tg_ (by
      refine XS.ifNo X401.here hx rfl (hb hby d19_80) rfl (XT.i0_ne_f (by decide)) ?_
      show Steps p.tables e below (T401.setTop (mkF m 83 #[.val (.ref d2), .val (.ref d1), .val (.ref x), .val (.int (1 : Int32)), .val (.int (1 : Int32))] [])) _
      refine XS.iconst X401.here hx rfl (hb hby d19_83) ?_
      show Steps p.tables e below (T401.setTop (mkF m 84 #[.val (.ref d2), .val (.ref d1), .val (.ref x), .val (.int (1 : Int32)), .val (.int (1 : Int32))] [(.int (1 : Int32))])) _
      refine XS.goto X401.here hx rfl (pc0 := 84) (pc' := 88) rfl (hb hby d19_84) (by decide) (by decide) ?_
      exact kk_)
    obtain ⟨fs, hr, hrun, hended, hW, hsame⟩ := X401.leave (v := some (.int (1 : Int32))) (fun h => by rw [Bd.returns] at h; cases h)
    refine ⟨_, _, ?_, hrun, hended, _, _, rfl, ?_, ⟨_, rfl⟩, hW, hsame.mono (by decide) (by decide)⟩
    · rw [← hG]; exact S403 _ (retN X401 hx (t := .boolean) Bd.returns (by simp) (hb hby d19_88) hr)
    · show Q19 Z d1 d2 em y1 y2 k1 k2 h0 n0 _ T401.heap _
      rw [e401]
      exact ⟨Or.inl ⟨hk, rfl⟩, M401, f396⟩
  · have _ := e397
    have S404 : own_Go p e below s₁ G T397 (mkF m 63 #[.val (.ref d2), .val (.ref d1), .val (.ref x), .val (.int (0 : Int32)), .val (.int (1 : Int32))] [(.int (0 : Int32))]) := fun tg_ kk_ => S383 tg_ (st397 tg_ kk_)
    have M397 := Fr.app f384 N397
    have S405 : own_Go p e below s₁ G T397 (mkF m 67 #[.val (.ref d2), .val (.ref d1), .val (.ref x), .val (.int (0 : Int32)), .val (.int (1 : Int32))] [(.int (0 : Int32))]) := fun tg_ kk_ => S404 tg_ (by
      refine XS.ifNo X397.here hx rfl (hb hby d19_63) rfl (XT.i0_ne_f (by decide)) ?_
      show Steps p.tables e below (T397.setTop (mkF m 66 #[.val (.ref d2), .val (.ref d1), .val (.ref x), .val (.int (0 : Int32)), .val (.int (1 : Int32))] [])) _
      refine XS.iconst X397.here hx rfl (hb hby d19_66) ?_
      exact kk_)
    obtain ⟨fs, hr, hrun, hended, hW, hsame⟩ := X397.leave (v := some (.int (0 : Int32))) (fun h => by rw [Bd.returns] at h; cases h)
    refine ⟨_, _, ?_, hrun, hended, _, _, rfl, ?_, ⟨_, rfl⟩, hW, hsame.mono (by decide) (by decide)⟩
    · rw [← hG]; exact S405 _ (retN X397 hx (t := .boolean) Bd.returns (by simp) (hb hby d19_67) hr)
    · show Q19 Z d1 d2 em y1 y2 k1 k2 h0 n0 _ T397.heap _
      rw [e397]
      exact ⟨Or.inr ⟨hk, rfl⟩, M397, f396⟩
def Q18 (Z : State) (u : Addr) (em : Addr) (x1 : Addr) (d1 : Addr) (y1 : Addr) (k1 : Int32) (x2 : Addr) (d2 : Addr) (y2 : Addr) (k2 : Int32) (h0 : Heap) (n0 : Nat) (v : Option Value) (h : Heap) (L : List Loc) : Prop := ((k2 = k1 ∧ v = some (.int 1)) ∨ (¬ k2 = k1 ∧ v = some (.int 0))) ∧ Fr n0 L ∧ Keep h0 h []
set_option maxRecDepth 65536 in
set_option maxHeartbeats 40000000 in
theorem rm18 (l : Launch) (Z : State) (a0 : Array Value) (hw : ∀ d ∈ tables_1, d.before a0 Z = true) (ws : List Jvm.Cond) (u : Addr) (em : Addr) (x1 : Addr) (d1 : Addr) (y1 : Addr) (k1 : Int32) (x2 : Addr) (d2 : Addr) (y2 : Addr) (k2 : Int32) (h0 : Heap) (n0 : Nat) (Z0 : n0 ≤ h0.size) (N1 : own_Not Z h0 u em x1 d1 y1 k1) (N2 : own_Not Z h0 u em x2 d2 y2 k2) (hdd : d1 ≠ d2) (O : Old Z n0 h0) (SE : Sta Z Z.heap "java/util/ImmutableCollections" "EMPTY" "Ljava/lang/Object;" (.ref em)) (SU : Sta Z Z.heap "com/example/provenans/provenans/model/Notation$Level" "UNIT" "Lcom/example/provenans/provenans/model/Notation$Level;" (.ref u)) (EU : Exa Z Z.heap u "com/example/provenans/provenans/model/Notation$Level") (FU : Fld Z Z.heap u "java/lang/Enum" "ordinal" "I" (.int 0)) :
    MetFree l (⟨"com/example/provenans/provenans/model/Notation", "equals", "(Ljava/lang/Object;)Z"⟩ : MethodName) (head1 (Jvm.Cond.code (⟨"com/example/provenans/provenans/model/Notation", "equals", "(Ljava/lang/Object;)Z"⟩ : MethodName) prog_57_method_13_code 3 (some .boolean) :: ws) ({ frames := 4, cells := 1, slots := 4, locals := 78 } : Room)) (fun aa_ U => aa_ = #[(.ref x1), (.ref x2)] ∧ Z.Warmed39 U.vm ∧ U.heap = h0) (fun _ _ _ _ _ => True) (fun _ U o U' => ∃ v L, o = .returned v ∧ Q18 Z u em x1 d1 y1 k1 x2 d2 y2 k2 h0 n0 v U'.heap L ∧ FrameEnd U o U' L ({ frames := 4, cells := 1, slots := 4, locals := 78 } : Room).cells ({ frames := 4, cells := 1, slots := 4, locals := 78 } : Room).slots) := by
  refine MetFree.of_bodySF (plainFor_of_name pn1) hisR ?_
  intro p e s m args below meth c s₁ Bd hml0 hP hK
  obtain ⟨rfl, hZ, hh⟩ := hP
  have hx := Bd.exec
  have hby := Bd.bytes
  have hml : c.maxLocals = 3 := hml0
  have hown : s.vm.findClass "com/example/provenans/provenans/model/Notation" = some m.cls := findClass_of_methodNamed Bd.named
  have hnm := (name_of_methodNamed Bd.named Bd.method).1
  have X0 : Stand p l e ({ frames := 4, cells := 1, slots := 4, locals := 78 } : Room) s m #[(.ref x1), (.ref x2)] below meth c s₁ [] 0 0 := Stand.of_body Bd
  have e0 : s₁.heap = h0 := by rw [← hh, Bd.state]; rfl
  have N0 := Fr.nil n0
  obtain ⟨G, hG⟩ : ∃ G, G = entryFrame m #[(.ref x1), (.ref x2)] 3 := ⟨_, rfl⟩
  have S0 : own_Go p e below s₁ G s₁ (mkF m 0 #[.val (.ref x1), .val (.ref x2), .unset] []) := fun tg_ kk_ => castTop (by rw [hG]; first | rfl | simp [entryFrame, mkF, argsToLocals, Value.category, maxLocals]) kk_
  obtain ⟨Ex1, Fs1, Fl1, Fq1, Ed1, F01, F11, Ey1, Fy1⟩ := id N1
  obtain ⟨Ex2, Fs2, Fl2, Fq2, Ed2, F02, F12, Ey2, Fy2⟩ := id N2
  have S406 : own_Go p e below s₁ G s₁ (mkF m 1 #[.val (.ref x1), .val (.ref x2), .unset] [(.ref x2)]) := fun tg_ kk_ => S0 tg_ (by
    refine XS.aloadN X0.here hx rfl (hb hby d18_0) rfl rfl ?_
    exact kk_)
  obtain ⟨T407, X407, e407, st407⟩ := instY X0 hx hZ hown (hw _ (List.mem_of_getElem? (i := 9) rfl)) e0 (Ins.of_exa Ex2 (hw _ (List.mem_of_getElem? (i := 119) rfl))) (g := (mkF m 1 #[.val (.ref x1), .val (.ref x2), .unset] [(.ref x2)])) rfl rfl (hb hby d18_1)
  have S408 : own_Go p e below s₁ G T407 (mkF m 4 #[.val (.ref x1), .val (.ref x2), .unset] [(.int (1 : Int32))]) := fun tg_ kk_ => S406 tg_ (st407 tg_ kk_)
  have S409 : own_Go p e below s₁ G T407 (mkF m 8 #[.val (.ref x1), .val (.ref x2), .unset] [(.ref x2)]) := fun tg_ kk_ => S408 tg_ (by
    refine XS.ifNo X407.here hx rfl (hb hby d18_4) rfl (XT.i0_eq_f (by decide)) ?_
    show Steps p.tables e below (T407.setTop (mkF m 7 #[.val (.ref x1), .val (.ref x2), .unset] [])) _
    refine XS.aloadN X407.here hx rfl (hb hby d18_7) rfl rfl ?_
    exact kk_)
  obtain ⟨T410, X410, e410, st410⟩ := castY X407 hx hZ hown (hw _ (List.mem_of_getElem? (i := 9) rfl)) e407 (Ins.of_exa Ex2 (hw _ (List.mem_of_getElem? (i := 119) rfl))) (g := (mkF m 8 #[.val (.ref x1), .val (.ref x2), .unset] [(.ref x2)])) rfl rfl (hb hby d18_8)
  have S411 : own_Go p e below s₁ G T410 (mkF m 11 #[.val (.ref x1), .val (.ref x2), .unset] [(.ref x2)]) := fun tg_ kk_ => S409 tg_ (st410 tg_ kk_)
  have S412 : own_Go p e below s₁ G T410 (mkF m 13 #[.val (.ref x1), .val (.ref x2), .val (.ref x2)] [(.ref x2)]) := fun tg_ kk_ => S411 tg_ (by
    refine XS.astoreN X410.here hx rfl (hb hby d18_11) rfl rfl (l' := #[.val (.ref x1), .val (.ref x2), .val (.ref x2)]) rfl ?_
    show Steps p.tables e below (T410.setTop (mkF m 12 #[.val (.ref x1), .val (.ref x2), .val (.ref x2)] [])) _
    refine XS.aloadN X410.here hx rfl (hb hby d18_12) rfl rfl ?_
    exact kk_)
  obtain ⟨T413, X413, e413, st413⟩ := getF X410 hx hZ hown (host := "") (Or.inl (hw _ (List.mem_of_getElem? (i := 70) rfl))) Via.refl e410 Fs2 (g := (mkF m 13 #[.val (.ref x1), .val (.ref x2), .val (.ref x2)] [(.ref x2)])) rfl rfl (hb hby d18_13)
  have S414 : own_Go p e below s₁ G T413 (mkF m 16 #[.val (.ref x1), .val (.ref x2), .val (.ref x2)] [(.ref d2)]) := fun tg_ kk_ => S412 tg_ (st413 tg_ kk_)
  have S415 : own_Go p e below s₁ G T413 (mkF m 17 #[.val (.ref x1), .val (.ref x2), .val (.ref x2)] [(.ref x1), (.ref d2)]) := fun tg_ kk_ => S414 tg_ (by
    refine XS.aloadN X413.here hx rfl (hb hby d18_16) rfl rfl ?_
    exact kk_)
  obtain ⟨T416, X416, e416, st416⟩ := getF X413 hx hZ hown (host := "") (Or.inl (hw _ (List.mem_of_getElem? (i := 70) rfl))) Via.refl e413 Fs1 (g := (mkF m 17 #[.val (.ref x1), .val (.ref x2), .val (.ref x2)] [(.ref x1), (.ref d2)])) rfl rfl (hb hby d18_17)
  have S417 : own_Go p e below s₁ G T416 (mkF m 20 #[.val (.ref x1), .val (.ref x2), .val (.ref x2)] [(.ref d1), (.ref d2)]) := fun tg_ kk_ => S415 tg_ (st416 tg_ kk_)
  obtain ⟨_, T418, h418, L418, X418, e418, hQ418, st418⟩ := own_callF X416 hx hZ (y := (⟨"java/util/List", "equals", "(Ljava/lang/Object;)Z"⟩ : MethodName)) (z := (⟨"java/util/ImmutableCollections$AbstractImmutableList", "equals", "(Ljava/lang/Object;)Z"⟩ : MethodName)) hown (hw _ (List.mem_of_getElem? (i := 120) rfl)) (hw _ (List.mem_of_getElem? (i := 121) rfl)) (mvT hZ (hw _ (List.mem_of_getElem? (i := 122) rfl))) (hw _ (List.mem_of_getElem? (i := 123) rfl)) (hw _ (List.mem_of_getElem? (i := 124) rfl)) (hw _ (List.mem_of_getElem? (i := 125) rfl)) (hw _ (List.mem_of_getElem? (i := 126) rfl)) (hw _ (List.mem_of_getElem? (i := 94) rfl)) (hw _ (List.mem_of_getElem? (i := 36) rfl)) (hw _ (List.mem_of_getElem? (i := 127) rfl)) (by decide) 0 (g := (mkF m 20 #[.val (.ref x1), .val (.ref x2), .val (.ref x2)] [(.ref d1), (.ref d2)])) rfl (by rw [hml]; rfl) d2 Ed2 [(.ref d1)] [] (rm19 l Z a0 hw [] d1 d2 em y1 y2 k1 k2 h0 n0 Z0 Ed1 F01 F11 Ed2 F02 F12 hdd Ey1 Fy1 Ey2 Fy2 O SE) (lenOf pd14 rfl) rfl (by show 2 * 0 + _ ≤ _; exact Nat.le_of_eq rfl) (hb hby d18_20) (by decide) (by decide) e416 (by decide) (by decide)
  rcases hQ418 with ⟨⟨hk, rfl⟩ | ⟨hk, rfl⟩, N418, K418⟩
  · have _ := e418
    have S419 : own_Go p e below s₁ G T418 (mkF m 25 #[.val (.ref x1), .val (.ref x2), .val (.ref x2)] [(.int (1 : Int32))]) := fun tg_ kk_ => S417 tg_ (st418 tg_ kk_)
    have M1 := Fr.app N0 N418
    have S420 : own_Go p e below s₁ G T418 (mkF m 29 #[.val (.ref x1), .val (.ref x2), .val (.ref x2)] [(.ref x2)]) := fun tg_ kk_ => S419 tg_ (by
      refine XS.ifNo X418.here hx rfl (hb hby d18_25) rfl (XT.i0_eq_f (by decide)) ?_
      show Steps p.tables e below (T418.setTop (mkF m 28 #[.val (.ref x1), .val (.ref x2), .val (.ref x2)] [])) _
      refine XS.aloadN X418.here hx rfl (hb hby d18_28) rfl rfl ?_
      exact kk_)
    obtain ⟨T421, X421, e421, st421⟩ := getF X418 hx hZ hown (host := "") (Or.inl (hw _ (List.mem_of_getElem? (i := 72) rfl))) Via.refl e418 (Fl2.keep K418 nin0) (g := (mkF m 29 #[.val (.ref x1), .val (.ref x2), .val (.ref x2)] [(.ref x2)])) rfl rfl (hb hby d18_29)
    have S422 : own_Go p e below s₁ G T421 (mkF m 32 #[.val (.ref x1), .val (.ref x2), .val (.ref x2)] [(.ref u)]) := fun tg_ kk_ => S420 tg_ (st421 tg_ kk_)
    have S423 : own_Go p e below s₁ G T421 (mkF m 33 #[.val (.ref x1), .val (.ref x2), .val (.ref x2)] [(.ref x1), (.ref u)]) := fun tg_ kk_ => S422 tg_ (by
      refine XS.aloadN X421.here hx rfl (hb hby d18_32) rfl rfl ?_
      exact kk_)
    obtain ⟨T424, X424, e424, st424⟩ := getF X421 hx hZ hown (host := "") (Or.inl (hw _ (List.mem_of_getElem? (i := 72) rfl))) Via.refl e421 (Fl1.keep K418 nin0) (g := (mkF m 33 #[.val (.ref x1), .val (.ref x2), .val (.ref x2)] [(.ref x1), (.ref u)])) rfl rfl (hb hby d18_33)
    have S425 : own_Go p e below s₁ G T424 (mkF m 36 #[.val (.ref x1), .val (.ref x2), .val (.ref x2)] [(.ref u), (.ref u)]) := fun tg_ kk_ => S423 tg_ (st424 tg_ kk_)
    have S426 : own_Go p e below s₁ G T424 (mkF m 40 #[.val (.ref x1), .val (.ref x2), .val (.ref x2)] [(.ref x2)]) := fun tg_ kk_ => S425 tg_ (by
      refine XT.acmpNo X424.here hx rfl (hb hby d18_36) rfl (rfl) (rfl) (XT.aa_ne_f rfl) ?_
      show Steps p.tables e below (T424.setTop (mkF m 39 #[.val (.ref x1), .val (.ref x2), .val (.ref x2)] [])) _
      refine XS.aloadN X424.here hx rfl (hb hby d18_39) rfl rfl ?_
      exact kk_)
    obtain ⟨T427, X427, e427, st427⟩ := getF X424 hx hZ hown (host := "") (Or.inl (hw _ (List.mem_of_getElem? (i := 74) rfl))) Via.refl e424 (Fq2.keep K418 nin0) (g := (mkF m 40 #[.val (.ref x1), .val (.ref x2), .val (.ref x2)] [(.ref x2)])) rfl rfl (hb hby d18_40)
    have S428 : own_Go p e below s₁ G T427 (mkF m 43 #[.val (.ref x1), .val (.ref x2), .val (.ref x2)] [(.int (0 : Int32))]) := fun tg_ kk_ => S426 tg_ (st427 tg_ kk_)
    have S429 : own_Go p e below s₁ G T427 (mkF m 44 #[.val (.ref x1), .val (.ref x2), .val (.ref x2)] [(.ref x1), (.int (0 : Int32))]) := fun tg_ kk_ => S428 tg_ (by
      refine XS.aloadN X427.here hx rfl (hb hby d18_43) rfl rfl ?_
      exact kk_)
    obtain ⟨T430, X430, e430, st430⟩ := getF X427 hx hZ hown (host := "") (Or.inl (hw _ (List.mem_of_getElem? (i := 74) rfl))) Via.refl e427 (Fq1.keep K418 nin0) (g := (mkF m 44 #[.val (.ref x1), .val (.ref x2), .val (.ref x2)] [(.ref x1), (.int (0 : Int32))])) rfl rfl (hb hby d18_44)
    have S431 : own_Go p e below s₁ G T430 (mkF m 47 #[.val (.ref x1), .val (.ref x2), .val (.ref x2)] [(.int (0 : Int32)), (.int (0 : Int32))]) := fun tg_ kk_ => S429 tg_ (st430 tg_ kk_)
    have S432 : own_Go p e below s₁ G T430 (mkF m 55 #[.val (.ref x1), .val (.ref x2), .val (.ref x2)] [(.int (1 : Int32))]) := fun tg_ kk_ => S431 tg_ (by
      refine XS.icmpNo X430.here hx rfl (hb hby d18_47) rfl (XT.ii_ne_f (by decide)) ?_
      show Steps p.tables e below (T430.setTop (mkF m 50 #[.val (.ref x1), .val (.ref x2), .val (.ref x2)] [])) _
      refine XS.iconst X430.here hx rfl (hb hby d18_50) ?_
      show Steps p.tables e below (T430.setTop (mkF m 51 #[.val (.ref x1), .val (.ref x2), .val (.ref x2)] [(.int (1 : Int32))])) _
      refine XS.goto X430.here hx rfl (pc0 := 51) (pc' := 55) rfl (hb hby d18_51) (by decide) (by decide) ?_
      exact kk_)
    obtain ⟨fs, hr, hrun, hended, hW, hsame⟩ := X430.leave (v := some (.int (1 : Int32))) (fun h => by rw [Bd.returns] at h; cases h)
    refine ⟨_, _, ?_, hrun, hended, _, _, rfl, ?_, ⟨_, rfl⟩, hW, hsame.mono (by decide) (by decide)⟩
    · rw [← hG]; exact S432 _ (retN X430 hx (t := .boolean) Bd.returns (by simp) (hb hby d18_55) hr)
    · show Q18 Z u em x1 d1 y1 k1 x2 d2 y2 k2 h0 n0 _ T430.heap _
      rw [e430]
      exact ⟨Or.inl ⟨hk, rfl⟩, M1, K418⟩
  · have _ := e418
    have S433 : own_Go p e below s₁ G T418 (mkF m 25 #[.val (.ref x1), .val (.ref x2), .val (.ref x2)] [(.int (0 : Int32))]) := fun tg_ kk_ => S417 tg_ (st418 tg_ kk_)
    have M1 := Fr.app N0 N418
    have S434 : own_Go p e below s₁ G T418 (mkF m 55 #[.val (.ref x1), .val (.ref x2), .val (.ref x2)] [(.int (0 : Int32))]) := fun tg_ kk_ => S433 tg_ (by
      refine XS.ifYes X418.here hx rfl (pc0 := 25) (pc' := 54) rfl (hb hby d18_25) rfl (XT.i0_eq_t (by decide)) (by decide) (by decide) ?_
      show Steps p.tables e below (T418.setTop (mkF m 54 #[.val (.ref x1), .val (.ref x2), .val (.ref x2)] [])) _
      refine XS.iconst X418.here hx rfl (hb hby d18_54) ?_
      exact kk_)
    obtain ⟨fs, hr, hrun, hended, hW, hsame⟩ := X418.leave (v := some (.int (0 : Int32))) (fun h => by rw [Bd.returns] at h; cases h)
    refine ⟨_, _, ?_, hrun, hended, _, _, rfl, ?_, ⟨_, rfl⟩, hW, hsame.mono (by decide) (by decide)⟩
    · rw [← hG]; exact S434 _ (retN X418 hx (t := .boolean) Bd.returns (by simp) (hb hby d18_55) hr)
    · show Q18 Z u em x1 d1 y1 k1 x2 d2 y2 k2 h0 n0 _ T418.heap _
      rw [e418]
      exact ⟨Or.inr ⟨hk, rfl⟩, M1, K418⟩
def Q48 (Z : State) (u : Addr) (h0 : Heap) (n0 : Nat) (v : Option Value) (h : Heap) (L : List Loc) : Prop := v = some (.int 0) ∧ Fr n0 L ∧ h0 = h
set_option maxRecDepth 65536 in
set_option maxHeartbeats 40000000 in
theorem rm48 (l : Launch) (Z : State) (a0 : Array Value) (hw : ∀ d ∈ tables_1, d.before a0 Z = true) (ws : List Jvm.Cond) (u : Addr) (h0 : Heap) (n0 : Nat) (Z0 : n0 ≤ h0.size) (O : Old Z n0 h0) (EU : Exa Z Z.heap u "com/example/provenans/provenans/model/Notation$Level") (FU : Fld Z Z.heap u "java/lang/Enum" "ordinal" "I" (.int 0)) (cL : ClassId) (kk : Class) (mm : Addr) (m1 : Z.vm.findClass "com/example/provenans/provenans/model/Notation$Level" = some cL) (m2 : Z.vm.classes[cL]? = some kk) (m3 : kk.mirror = some mm) :
    MetFree l (⟨"java/lang/Enum", "compareTo", "(Ljava/lang/Enum;)I"⟩ : MethodName) (head1 (Jvm.Cond.code (⟨"java/lang/Enum", "compareTo", "(Ljava/lang/Enum;)I"⟩ : MethodName) jdk_37_method_8_code 4 (some .int) :: ws) ({ frames := 1, cells := 0, slots := 0, locals := 20 } : Room)) (fun aa_ U => aa_ = #[(.ref u), (.ref u)] ∧ Z.Warmed39 U.vm ∧ U.heap = h0) (fun _ _ _ _ _ => True) (fun _ U o U' => ∃ v L, o = .returned v ∧ Q48 Z u h0 n0 v U'.heap L ∧ FrameEnd U o U' L ({ frames := 1, cells := 0, slots := 0, locals := 20 } : Room).cells ({ frames := 1, cells := 0, slots := 0, locals := 20 } : Room).slots) := by
  refine MetFree.of_bodySF (plainFor_of_name pn10) hisR ?_
  intro p e s m args below meth c s₁ Bd hml0 hP hK
  obtain ⟨rfl, hZ, hh⟩ := hP
  have hx := Bd.exec
  have hby := Bd.bytes
  have hml : c.maxLocals = 4 := hml0
  have hown : s.vm.findClass "java/lang/Enum" = some m.cls := findClass_of_methodNamed Bd.named
  have hnm := (name_of_methodNamed Bd.named Bd.method).1
  have X0 : Stand p l e ({ frames := 1, cells := 0, slots := 0, locals := 20 } : Room) s m #[(.ref u), (.ref u)] below meth c s₁ [] 0 0 := Stand.of_body Bd
  have e0 : s₁.heap = h0 := by rw [← hh, Bd.state]; rfl
  have N0 := Fr.nil n0
  obtain ⟨G, hG⟩ : ∃ G, G = entryFrame m #[(.ref u), (.ref u)] 4 := ⟨_, rfl⟩
  have S0 : own_Go p e below s₁ G s₁ (mkF m 0 #[.val (.ref u), .val (.ref u), .unset, .unset] []) := fun tg_ kk_ => castTop (by rw [hG]; first | rfl | simp [entryFrame, mkF, argsToLocals, Value.category, maxLocals]) kk_
  have S435 : own_Go p e below s₁ G s₁ (mkF m 5 #[.val (.ref u), .val (.ref u), .val (.ref u), .val (.ref u)] [(.ref u)]) := fun tg_ kk_ => S0 tg_ (by
    refine XS.aloadN X0.here hx rfl (hb hby d48_0) rfl rfl ?_
    show Steps p.tables e below (s₁.setTop (mkF m 1 #[.val (.ref u), .val (.ref u), .unset, .unset] [(.ref u)])) _
    refine XS.astoreN X0.here hx rfl (hb hby d48_1) rfl rfl (l' := #[.val (.ref u), .val (.ref u), .val (.ref u), .unset]) rfl ?_
    show Steps p.tables e below (s₁.setTop (mkF m 2 #[.val (.ref u), .val (.ref u), .val (.ref u), .unset] [])) _
    refine XS.aloadN X0.here hx rfl (hb hby d48_2) rfl rfl ?_
    show Steps p.tables e below (s₁.setTop (mkF m 3 #[.val (.ref u), .val (.ref u), .val (.ref u), .unset] [(.ref u)])) _
    refine XS.astoreN X0.here hx rfl (hb hby d48_3) rfl rfl (l' := #[.val (.ref u), .val (.ref u), .val (.ref u), .val (.ref u)]) rfl ?_
    show Steps p.tables e below (s₁.setTop (mkF m 4 #[.val (.ref u), .val (.ref u), .val (.ref u), .val (.ref u)] [])) _
    refine XS.aloadN X0.here hx rfl (hb hby d48_4) rfl rfl ?_
    exact kk_)
  obtain ⟨T436, X436, e436, st436⟩ := own_getClass X0 hx hZ hown (hw _ (List.mem_of_getElem? (i := 318) rfl)) (hw _ (List.mem_of_getElem? (i := 319) rfl)) (hw _ (List.mem_of_getElem? (i := 321) rfl)) (hw _ (List.mem_of_getElem? (i := 320) rfl)) (hw _ (List.mem_of_getElem? (i := 322) rfl)) 0 (g := (mkF m 5 #[.val (.ref u), .val (.ref u), .val (.ref u), .val (.ref u)] [(.ref u)])) rfl (by rw [hml]; rfl) u (EU.ext O.2) m1 m2 m3 [] rfl (by show 2 * 0 + _ ≤ _; exact Nat.le_of_eq rfl) (hb hby d48_5) (by decide) (by decide) e0
  have S437 : own_Go p e below s₁ G T436 (mkF m 8 #[.val (.ref u), .val (.ref u), .val (.ref u), .val (.ref u)] [(.ref mm)]) := fun tg_ kk_ => S435 tg_ (st436 tg_ kk_)
  have S438 : own_Go p e below s₁ G T436 (mkF m 9 #[.val (.ref u), .val (.ref u), .val (.ref u), .val (.ref u)] [(.ref u), (.ref mm)]) := fun tg_ kk_ => S437 tg_ (by
    refine XS.aloadN X436.here hx rfl (hb hby d48_8) rfl rfl ?_
    exact kk_)
  obtain ⟨T439, X439, e439, st439⟩ := own_getClass X436 hx hZ hown (hw _ (List.mem_of_getElem? (i := 318) rfl)) (hw _ (List.mem_of_getElem? (i := 319) rfl)) (hw _ (List.mem_of_getElem? (i := 321) rfl)) (hw _ (List.mem_of_getElem? (i := 320) rfl)) (hw _ (List.mem_of_getElem? (i := 322) rfl)) 1 (g := (mkF m 9 #[.val (.ref u), .val (.ref u), .val (.ref u), .val (.ref u)] [(.ref u), (.ref mm)])) rfl (by rw [hml]; rfl) u (EU.ext O.2) m1 m2 m3 [(.ref mm)] rfl (by show 2 * 0 + _ ≤ _; exact Nat.le_of_eq rfl) (hb hby d48_9) (by decide) (by decide) e436
  have S440 : own_Go p e below s₁ G T439 (mkF m 12 #[.val (.ref u), .val (.ref u), .val (.ref u), .val (.ref u)] [(.ref mm), (.ref mm)]) := fun tg_ kk_ => S438 tg_ (st439 tg_ kk_)
  have S441 : own_Go p e below s₁ G T439 (mkF m 35 #[.val (.ref u), .val (.ref u), .val (.ref u), .val (.ref u)] [(.ref u)]) := fun tg_ kk_ => S440 tg_ (by
    refine XT.acmpYes X439.here hx rfl (pc0 := 12) (pc' := 34) rfl (hb hby d48_12) rfl (rfl) (rfl) (XT.aa_eq_t rfl) (by decide) (by decide) ?_
    show Steps p.tables e below (T439.setTop (mkF m 34 #[.val (.ref u), .val (.ref u), .val (.ref u), .val (.ref u)] [])) _
    refine XS.aloadN X439.here hx rfl (hb hby d48_34) rfl rfl ?_
    exact kk_)
  obtain ⟨T442, X442, e442, st442⟩ := getF X439 hx hZ hown (host := "") (Or.inl (hw _ (List.mem_of_getElem? (i := 103) rfl))) Via.refl e439 (FU.ext O.2) (g := (mkF m 35 #[.val (.ref u), .val (.ref u), .val (.ref u), .val (.ref u)] [(.ref u)])) rfl rfl (hb hby d48_35)
  have S443 : own_Go p e below s₁ G T442 (mkF m 38 #[.val (.ref u), .val (.ref u), .val (.ref u), .val (.ref u)] [(.int (0 : Int32))]) := fun tg_ kk_ => S441 tg_ (st442 tg_ kk_)
  have S444 : own_Go p e below s₁ G T442 (mkF m 39 #[.val (.ref u), .val (.ref u), .val (.ref u), .val (.ref u)] [(.ref u), (.int (0 : Int32))]) := fun tg_ kk_ => S443 tg_ (by
    refine XS.aloadN X442.here hx rfl (hb hby d48_38) rfl rfl ?_
    exact kk_)
  obtain ⟨T445, X445, e445, st445⟩ := getF X442 hx hZ hown (host := "") (Or.inl (hw _ (List.mem_of_getElem? (i := 103) rfl))) Via.refl e442 (FU.ext O.2) (g := (mkF m 39 #[.val (.ref u), .val (.ref u), .val (.ref u), .val (.ref u)] [(.ref u), (.int (0 : Int32))])) rfl rfl (hb hby d48_39)
  have S446 : own_Go p e below s₁ G T445 (mkF m 42 #[.val (.ref u), .val (.ref u), .val (.ref u), .val (.ref u)] [(.int (0 : Int32)), (.int (0 : Int32))]) := fun tg_ kk_ => S444 tg_ (st445 tg_ kk_)
  have S447 : own_Go p e below s₁ G T445 (mkF m 43 #[.val (.ref u), .val (.ref u), .val (.ref u), .val (.ref u)] [(.int ((0 : Int32) - (0 : Int32)))]) := fun tg_ kk_ => S446 tg_ (by
    refine XS.isub X445.here hx rfl (hb hby d48_42) rfl ?_
    exact kk_)
  rw [show ((0 : Int32) - (0 : Int32)) = (0 : Int32) from by decide +kernel] at S447
  obtain ⟨fs, hr, hrun, hended, hW, hsame⟩ := X445.leave (v := some (.int (0 : Int32))) (fun h => by rw [Bd.returns] at h; cases h)
  refine ⟨_, _, ?_, hrun, hended, _, _, rfl, ?_, ⟨_, rfl⟩, hW, hsame.mono (by decide) (by decide)⟩
  · rw [← hG]; exact S447 _ (retI X445 hx Bd.returns (hb hby d48_43) hr)
  · show Q48 Z u h0 n0 _ T445.heap _
    rw [e445]
    exact ⟨rfl, N0, rfl⟩
theorem own_cmp11 : own_cmp 1 1 = 0 := by decide
theorem own_cmp00 : own_cmp 0 0 = 0 := by decide
def Q27 (Z : State) (u : Addr) (em : Addr) (x1 : Addr) (d1 : Addr) (y1 : Addr) (k1 : Int32) (x2 : Addr) (d2 : Addr) (y2 : Addr) (k2 : Int32) (h0 : Heap) (n0 : Nat) (v : Option Value) (h : Heap) (L : List Loc) : Prop := v = some (.int (own_cmp k1 k2)) ∧ Fr n0 L ∧ h0 = h
set_option maxRecDepth 65536 in
set_option maxHeartbeats 40000000 in
theorem rm27 (l : Launch) (Z : State) (a0 : Array Value) (hw : ∀ d ∈ tables_1, d.before a0 Z = true) (ws : List Jvm.Cond) (u : Addr) (em : Addr) (x1 : Addr) (d1 : Addr) (y1 : Addr) (k1 : Int32) (x2 : Addr) (d2 : Addr) (y2 : Addr) (k2 : Int32) (h0 : Heap) (n0 : Nat) (Z0 : n0 ≤ h0.size) (N1 : own_Not Z h0 u em x1 d1 y1 k1) (N2 : own_Not Z h0 u em x2 d2 y2 k2) (hdd : d1 ≠ d2) (O : Old Z n0 h0) (SE : Sta Z Z.heap "java/util/ImmutableCollections" "EMPTY" "Ljava/lang/Object;" (.ref em)) (SU : Sta Z Z.heap "com/example/provenans/provenans/model/Notation$Level" "UNIT" "Lcom/example/provenans/provenans/model/Notation$Level;" (.ref u)) (EU : Exa Z Z.heap u "com/example/provenans/provenans/model/Notation$Level") (FU : Fld Z Z.heap u "java/lang/Enum" "ordinal" "I" (.int 0)) (cL : ClassId) (kk : Class) (mm : Addr) (m1 : Z.vm.findClass "com/example/provenans/provenans/model/Notation$Level" = some cL) (m2 : Z.vm.classes[cL]? = some kk) (m3 : kk.mirror = some mm) :
    MetFree l (⟨"com/example/provenans/provenans/model/Notation", "compareTo", "(Lcom/example/provenans/provenans/model/Notation;)I"⟩ : MethodName) (head1 (Jvm.Cond.code (⟨"com/example/provenans/provenans/model/Notation", "compareTo", "(Lcom/example/provenans/provenans/model/Notation;)I"⟩ : MethodName) prog_57_method_12_code 5 (some .int) :: ws) ({ frames := 2, cells := 0, slots := 0, locals := 40 } : Room)) (fun aa_ U => aa_ = #[(.ref x1), (.ref x2)] ∧ Z.Warmed39 U.vm ∧ U.heap = h0) (fun _ _ _ _ _ => True) (fun _ U o U' => ∃ v L, o = .returned v ∧ Q27 Z u em x1 d1 y1 k1 x2 d2 y2 k2 h0 n0 v U'.heap L ∧ FrameEnd U o U' L ({ frames := 2, cells := 0, slots := 0, locals := 40 } : Room).cells ({ frames := 2, cells := 0, slots := 0, locals := 40 } : Room).slots) := by
  refine MetFree.of_bodySF (plainFor_of_name pn1) hisR ?_
  intro p e s m args below meth c s₁ Bd hml0 hP hK
  obtain ⟨rfl, hZ, hh⟩ := hP
  have hx := Bd.exec
  have hby := Bd.bytes
  have hml : c.maxLocals = 5 := hml0
  have hown : s.vm.findClass "com/example/provenans/provenans/model/Notation" = some m.cls := findClass_of_methodNamed Bd.named
  have hnm := (name_of_methodNamed Bd.named Bd.method).1
  have X0 : Stand p l e ({ frames := 2, cells := 0, slots := 0, locals := 40 } : Room) s m #[(.ref x1), (.ref x2)] below meth c s₁ [] 0 0 := Stand.of_body Bd
  have e0 : s₁.heap = h0 := by rw [← hh, Bd.state]; rfl
  have N0 := Fr.nil n0
  obtain ⟨G, hG⟩ : ∃ G, G = entryFrame m #[(.ref x1), (.ref x2)] 5 := ⟨_, rfl⟩
  have S0 : own_Go p e below s₁ G s₁ (mkF m 0 #[.val (.ref x1), .val (.ref x2), .unset, .unset, .unset] []) := fun tg_ kk_ => castTop (by rw [hG]; first | rfl | simp [entryFrame, mkF, argsToLocals, Value.category, maxLocals]) kk_
  obtain ⟨Ex1, Fs1, Fl1, Fq1, Ed1, F01, F11, Ey1, Fy1⟩ := id N1
  obtain ⟨Ex2, Fs2, Fl2, Fq2, Ed2, F02, F12, Ey2, Fy2⟩ := id N2
  have S448 : own_Go p e below s₁ G s₁ (mkF m 1 #[.val (.ref x1), .val (.ref x2), .unset, .unset, .unset] [(.ref x1)]) := fun tg_ kk_ => S0 tg_ (by
    refine XS.aloadN X0.here hx rfl (hb hby d27_0) rfl rfl ?_
    exact kk_)
  obtain ⟨T449, X449, e449, st449⟩ := getF X0 hx hZ hown (host := "") (Or.inl (hw _ (List.mem_of_getElem? (i := 70) rfl))) Via.refl e0 Fs1 (g := (mkF m 1 #[.val (.ref x1), .val (.ref x2), .unset, .unset, .unset] [(.ref x1)])) rfl rfl (hb hby d27_1)
  have S450 : own_Go p e below s₁ G T449 (mkF m 4 #[.val (.ref x1), .val (.ref x2), .unset, .unset, .unset] [(.ref d1)]) := fun tg_ kk_ => S448 tg_ (st449 tg_ kk_)
  obtain ⟨_, T451, h451, L451, X451, e451, hQ451, st451⟩ := own_callF X449 hx hZ (y := (⟨"java/util/List", "size", "()I"⟩ : MethodName)) (z := (⟨"java/util/ImmutableCollections$List12", "size", "()I"⟩ : MethodName)) hown (hw _ (List.mem_of_getElem? (i := 87) rfl)) (hw _ (List.mem_of_getElem? (i := 88) rfl)) (mvT hZ (hw _ (List.mem_of_getElem? (i := 89) rfl))) (hw _ (List.mem_of_getElem? (i := 90) rfl)) (hw _ (List.mem_of_getElem? (i := 91) rfl)) (hw _ (List.mem_of_getElem? (i := 92) rfl)) (hw _ (List.mem_of_getElem? (i := 93) rfl)) (hw _ (List.mem_of_getElem? (i := 94) rfl)) (hw _ (List.mem_of_getElem? (i := 27) rfl)) (hw _ (List.mem_of_getElem? (i := 95) rfl)) (by decide) 0 (g := (mkF m 4 #[.val (.ref x1), .val (.ref x2), .unset, .unset, .unset] [(.ref d1)])) rfl (by rw [hml]; rfl) d1 Ed1 [] [] (rm15 l Z a0 hw [] d1 em h0 n0 Z0 F11 O SE) (lenOf pd12 rfl) rfl (by show 2 * 0 + _ ≤ _; exact Nat.le_of_eq rfl) (hb hby d27_4) (by decide) (by decide) e449 (by decide) (by decide)
  obtain ⟨rfl, N451, rfl⟩ := hQ451
  have S452 : own_Go p e below s₁ G T451 (mkF m 9 #[.val (.ref x1), .val (.ref x2), .unset, .unset, .unset] [(.int (1 : Int32))]) := fun tg_ kk_ => S450 tg_ (st451 tg_ kk_)
  have M451 := Fr.app N0 N451
  have S453 : own_Go p e below s₁ G T451 (mkF m 10 #[.val (.ref x1), .val (.ref x2), .unset, .unset, .unset] [(.ref x2), (.int (1 : Int32))]) := fun tg_ kk_ => S452 tg_ (by
    refine XS.aloadN X451.here hx rfl (hb hby d27_9) rfl rfl ?_
    exact kk_)
  obtain ⟨T454, X454, e454, st454⟩ := getF X451 hx hZ hown (host := "") (Or.inl (hw _ (List.mem_of_getElem? (i := 70) rfl))) Via.refl e451 Fs2 (g := (mkF m 10 #[.val (.ref x1), .val (.ref x2), .unset, .unset, .unset] [(.ref x2), (.int (1 : Int32))])) rfl rfl (hb hby d27_10)
  have S455 : own_Go p e below s₁ G T454 (mkF m 13 #[.val (.ref x1), .val (.ref x2), .unset, .unset, .unset] [(.ref d2), (.int (1 : Int32))]) := fun tg_ kk_ => S453 tg_ (st454 tg_ kk_)
  obtain ⟨_, T456, h456, L456, X456, e456, hQ456, st456⟩ := own_callF X454 hx hZ (y := (⟨"java/util/List", "size", "()I"⟩ : MethodName)) (z := (⟨"java/util/ImmutableCollections$List12", "size", "()I"⟩ : MethodName)) hown (hw _ (List.mem_of_getElem? (i := 87) rfl)) (hw _ (List.mem_of_getElem? (i := 88) rfl)) (mvT hZ (hw _ (List.mem_of_getElem? (i := 89) rfl))) (hw _ (List.mem_of_getElem? (i := 90) rfl)) (hw _ (List.mem_of_getElem? (i := 91) rfl)) (hw _ (List.mem_of_getElem? (i := 92) rfl)) (hw _ (List.mem_of_getElem? (i := 93) rfl)) (hw _ (List.mem_of_getElem? (i := 94) rfl)) (hw _ (List.mem_of_getElem? (i := 27) rfl)) (hw _ (List.mem_of_getElem? (i := 95) rfl)) (by decide) 1 (g := (mkF m 13 #[.val (.ref x1), .val (.ref x2), .unset, .unset, .unset] [(.ref d2), (.int (1 : Int32))])) rfl (by rw [hml]; rfl) d2 Ed2 [] [(.int (1 : Int32))] (rm15 l Z a0 hw [] d2 em h0 n0 Z0 F12 O SE) (lenOf pd12 rfl) rfl (by show 2 * 0 + _ ≤ _; exact Nat.le_of_eq rfl) (hb hby d27_13) (by decide) (by decide) e454 (by decide) (by decide)
  obtain ⟨rfl, N456, rfl⟩ := hQ456
  have S457 : own_Go p e below s₁ G T456 (mkF m 18 #[.val (.ref x1), .val (.ref x2), .unset, .unset, .unset] [(.int (1 : Int32)), (.int (1 : Int32))]) := fun tg_ kk_ => S455 tg_ (st456 tg_ kk_)
  have M456 := Fr.app M451 N456
  obtain ⟨_, T458, h458, L458, X458, e458, hQ458, st458⟩ := own_callS X456 hx hZ (y := (⟨"java/lang/Math", "min", "(II)I"⟩ : MethodName)) hown (hw _ (List.mem_of_getElem? (i := 208) rfl)) (hw _ (List.mem_of_getElem? (i := 209) rfl)) (hw _ (List.mem_of_getElem? (i := 3) rfl)) (hw _ (List.mem_of_getElem? (i := 210) rfl)) (by decide) 0 (g := (mkF m 18 #[.val (.ref x1), .val (.ref x2), .unset, .unset, .unset] [(.int (1 : Int32)), (.int (1 : Int32))])) rfl (by rw [hml]; rfl) [(.int (1 : Int32)), (.int (1 : Int32))] [] (rm28 l Z a0 hw [] h0 n0 Z0) (lenOf pd2 rfl) rfl (by show 2 * 0 + _ ≤ _; exact Nat.le_of_eq rfl) (hb hby d27_18) (by decide) (by decide) e456 (by decide) (by decide)
  obtain ⟨rfl, N458, rfl⟩ := hQ458
  have S459 : own_Go p e below s₁ G T458 (mkF m 21 #[.val (.ref x1), .val (.ref x2), .unset, .unset, .unset] [(.int (1 : Int32))]) := fun tg_ kk_ => S457 tg_ (st458 tg_ kk_)
  have M458 := Fr.app M456 N458
  have S460 : own_Go p e below s₁ G T458 (mkF m 30 #[.val (.ref x1), .val (.ref x2), .val (.int (1 : Int32)), .val (.int (0 : Int32)), .unset] [(.ref x1)]) := fun tg_ kk_ => S459 tg_ (by
    refine XS.istoreN X458.here hx rfl (hb hby d27_21) rfl (l' := #[.val (.ref x1), .val (.ref x2), .val (.int (1 : Int32)), .unset, .unset]) rfl ?_
    show Steps p.tables e below (T458.setTop (mkF m 22 #[.val (.ref x1), .val (.ref x2), .val (.int (1 : Int32)), .unset, .unset] [])) _
    refine XS.iconst X458.here hx rfl (hb hby d27_22) ?_
    show Steps p.tables e below (T458.setTop (mkF m 23 #[.val (.ref x1), .val (.ref x2), .val (.int (1 : Int32)), .unset, .unset] [(.int (0 : Int32))])) _
    refine XS.istoreN X458.here hx rfl (hb hby d27_23) rfl (l' := #[.val (.ref x1), .val (.ref x2), .val (.int (1 : Int32)), .val (.int (0 : Int32)), .unset]) rfl ?_
    show Steps p.tables e below (T458.setTop (mkF m 24 #[.val (.ref x1), .val (.ref x2), .val (.int (1 : Int32)), .val (.int (0 : Int32)), .unset] [])) _
    refine XS.iloadN X458.here hx rfl (hb hby d27_24) rfl ?_
    show Steps p.tables e below (T458.setTop (mkF m 25 #[.val (.ref x1), .val (.ref x2), .val (.int (1 : Int32)), .val (.int (0 : Int32)), .unset] [(.int (0 : Int32))])) _
    refine XS.iloadN X458.here hx rfl (hb hby d27_25) rfl ?_
    show Steps p.tables e below (T458.setTop (mkF m 26 #[.val (.ref x1), .val (.ref x2), .val (.int (1 : Int32)), .val (.int (0 : Int32)), .unset] [(.int (1 : Int32)), (.int (0 : Int32))])) _
    refine XS.icmpNo X458.here hx rfl (hb hby d27_26) rfl (XT.ii_ge_f (by decide)) ?_
    show Steps p.tables e below (T458.setTop (mkF m 29 #[.val (.ref x1), .val (.ref x2), .val (.int (1 : Int32)), .val (.int (0 : Int32)), .unset] [])) _
    refine XS.aloadN X458.here hx rfl (hb hby d27_29) rfl rfl ?_
    exact kk_)
  obtain ⟨T461, X461, e461, st461⟩ := getF X458 hx hZ hown (host := "") (Or.inl (hw _ (List.mem_of_getElem? (i := 70) rfl))) Via.refl e458 Fs1 (g := (mkF m 30 #[.val (.ref x1), .val (.ref x2), .val (.int (1 : Int32)), .val (.int (0 : Int32)), .unset] [(.ref x1)])) rfl rfl (hb hby d27_30)
  have S462 : own_Go p e below s₁ G T461 (mkF m 33 #[.val (.ref x1), .val (.ref x2), .val (.int (1 : Int32)), .val (.int (0 : Int32)), .unset] [(.ref d1)]) := fun tg_ kk_ => S460 tg_ (st461 tg_ kk_)
  have S463 : own_Go p e below s₁ G T461 (mkF m 34 #[.val (.ref x1), .val (.ref x2), .val (.int (1 : Int32)), .val (.int (0 : Int32)), .unset] [(.int (0 : Int32)), (.ref d1)]) := fun tg_ kk_ => S462 tg_ (by
    refine XS.iloadN X461.here hx rfl (hb hby d27_33) rfl ?_
    exact kk_)
  obtain ⟨_, T464, h464, L464, X464, e464, hQ464, st464⟩ := own_callF X461 hx hZ (y := (⟨"java/util/List", "get", "(I)Ljava/lang/Object;"⟩ : MethodName)) (z := (⟨"java/util/ImmutableCollections$List12", "get", "(I)Ljava/lang/Object;"⟩ : MethodName)) hown (hw _ (List.mem_of_getElem? (i := 211) rfl)) (hw _ (List.mem_of_getElem? (i := 168) rfl)) (mvT hZ (hw _ (List.mem_of_getElem? (i := 181) rfl))) (hw _ (List.mem_of_getElem? (i := 182) rfl)) (hw _ (List.mem_of_getElem? (i := 170) rfl)) (hw _ (List.mem_of_getElem? (i := 183) rfl)) (hw _ (List.mem_of_getElem? (i := 184) rfl)) (hw _ (List.mem_of_getElem? (i := 94) rfl)) (hw _ (List.mem_of_getElem? (i := 27) rfl)) (hw _ (List.mem_of_getElem? (i := 171) rfl)) (by decide) 0 (g := (mkF m 34 #[.val (.ref x1), .val (.ref x2), .val (.int (1 : Int32)), .val (.int (0 : Int32)), .unset] [(.int (0 : Int32)), (.ref d1)])) rfl (by rw [hml]; rfl) d1 Ed1 [(.int (0 : Int32))] [] (rm23 l Z a0 hw [] d1 y1 h0 n0 Z0 F01) (lenOf pd18 rfl) rfl (by show 2 * 0 + _ ≤ _; exact Nat.le_of_eq rfl) (hb hby d27_34) (by decide) (by decide) e461 (by decide) (by decide)
  obtain ⟨rfl, N464, rfl⟩ := hQ464
  have S465 : own_Go p e below s₁ G T464 (mkF m 39 #[.val (.ref x1), .val (.ref x2), .val (.int (1 : Int32)), .val (.int (0 : Int32)), .unset] [(.ref y1)]) := fun tg_ kk_ => S463 tg_ (st464 tg_ kk_)
  have M464 := Fr.app M458 N464
  obtain ⟨T466, X466, e466, st466⟩ := castY X464 hx hZ hown (hw _ (List.mem_of_getElem? (i := 212) rfl)) e464 (Ins.of_exa Ey1 (hw _ (List.mem_of_getElem? (i := 195) rfl))) (g := (mkF m 39 #[.val (.ref x1), .val (.ref x2), .val (.int (1 : Int32)), .val (.int (0 : Int32)), .unset] [(.ref y1)])) rfl rfl (hb hby d27_39)
  have S467 : own_Go p e below s₁ G T466 (mkF m 42 #[.val (.ref x1), .val (.ref x2), .val (.int (1 : Int32)), .val (.int (0 : Int32)), .unset] [(.ref y1)]) := fun tg_ kk_ => S465 tg_ (st466 tg_ kk_)
  obtain ⟨_, T468, h468, L468, X468, e468, hQ468, st468⟩ := own_callV X466 hx hZ (y := (⟨"java/lang/Integer", "intValue", "()I"⟩ : MethodName)) hown (hw _ (List.mem_of_getElem? (i := 213) rfl)) (hw _ (List.mem_of_getElem? (i := 199) rfl)) (hw _ (List.mem_of_getElem? (i := 201) rfl)) (hw _ (List.mem_of_getElem? (i := 200) rfl)) (hw _ (List.mem_of_getElem? (i := 16) rfl)) (hw _ (List.mem_of_getElem? (i := 202) rfl)) (by decide) 0 (g := (mkF m 42 #[.val (.ref x1), .val (.ref x2), .val (.int (1 : Int32)), .val (.int (0 : Int32)), .unset] [(.ref y1)])) rfl (by rw [hml]; rfl) y1 Ey1 [] [] (rm26 l Z a0 hw [] y1 k1 h0 n0 Z0 Fy1) (lenOf pd12 rfl) rfl (by show 2 * 0 + _ ≤ _; exact Nat.le_of_eq rfl) (hb hby d27_42) (by decide) (by decide) e466 (by decide) (by decide)
  obtain ⟨rfl, N468, rfl⟩ := hQ468
  have S469 : own_Go p e below s₁ G T468 (mkF m 45 #[.val (.ref x1), .val (.ref x2), .val (.int (1 : Int32)), .val (.int (0 : Int32)), .unset] [(.int k1)]) := fun tg_ kk_ => S467 tg_ (st468 tg_ kk_)
  have M468 := Fr.app M464 N468
  have S470 : own_Go p e below s₁ G T468 (mkF m 46 #[.val (.ref x1), .val (.ref x2), .val (.int (1 : Int32)), .val (.int (0 : Int32)), .unset] [(.ref x2), (.int k1)]) := fun tg_ kk_ => S469 tg_ (by
    refine XS.aloadN X468.here hx rfl (hb hby d27_45) rfl rfl ?_
    exact kk_)
  obtain ⟨T471, X471, e471, st471⟩ := getF X468 hx hZ hown (host := "") (Or.inl (hw _ (List.mem_of_getElem? (i := 70) rfl))) Via.refl e468 Fs2 (g := (mkF m 46 #[.val (.ref x1), .val (.ref x2), .val (.int (1 : Int32)), .val (.int (0 : Int32)), .unset] [(.ref x2), (.int k1)])) rfl rfl (hb hby d27_46)
  have S472 : own_Go p e below s₁ G T471 (mkF m 49 #[.val (.ref x1), .val (.ref x2), .val (.int (1 : Int32)), .val (.int (0 : Int32)), .unset] [(.ref d2), (.int k1)]) := fun tg_ kk_ => S470 tg_ (st471 tg_ kk_)
  have S473 : own_Go p e below s₁ G T471 (mkF m 50 #[.val (.ref x1), .val (.ref x2), .val (.int (1 : Int32)), .val (.int (0 : Int32)), .unset] [(.int (0 : Int32)), (.ref d2), (.int k1)]) := fun tg_ kk_ => S472 tg_ (by
    refine XS.iloadN X471.here hx rfl (hb hby d27_49) rfl ?_
    exact kk_)
  obtain ⟨_, T474, h474, L474, X474, e474, hQ474, st474⟩ := own_callF X471 hx hZ (y := (⟨"java/util/List", "get", "(I)Ljava/lang/Object;"⟩ : MethodName)) (z := (⟨"java/util/ImmutableCollections$List12", "get", "(I)Ljava/lang/Object;"⟩ : MethodName)) hown (hw _ (List.mem_of_getElem? (i := 211) rfl)) (hw _ (List.mem_of_getElem? (i := 168) rfl)) (mvT hZ (hw _ (List.mem_of_getElem? (i := 181) rfl))) (hw _ (List.mem_of_getElem? (i := 182) rfl)) (hw _ (List.mem_of_getElem? (i := 170) rfl)) (hw _ (List.mem_of_getElem? (i := 183) rfl)) (hw _ (List.mem_of_getElem? (i := 184) rfl)) (hw _ (List.mem_of_getElem? (i := 94) rfl)) (hw _ (List.mem_of_getElem? (i := 27) rfl)) (hw _ (List.mem_of_getElem? (i := 171) rfl)) (by decide) 1 (g := (mkF m 50 #[.val (.ref x1), .val (.ref x2), .val (.int (1 : Int32)), .val (.int (0 : Int32)), .unset] [(.int (0 : Int32)), (.ref d2), (.int k1)])) rfl (by rw [hml]; rfl) d2 Ed2 [(.int (0 : Int32))] [(.int k1)] (rm23 l Z a0 hw [] d2 y2 h0 n0 Z0 F02) (lenOf pd18 rfl) rfl (by show 2 * 0 + _ ≤ _; exact Nat.le_of_eq rfl) (hb hby d27_50) (by decide) (by decide) e471 (by decide) (by decide)
  obtain ⟨rfl, N474, rfl⟩ := hQ474
  have S475 : own_Go p e below s₁ G T474 (mkF m 55 #[.val (.ref x1), .val (.ref x2), .val (.int (1 : Int32)), .val (.int (0 : Int32)), .unset] [(.ref y2), (.int k1)]) := fun tg_ kk_ => S473 tg_ (st474 tg_ kk_)
  have M474 := Fr.app M468 N474
  obtain ⟨T476, X476, e476, st476⟩ := castY X474 hx hZ hown (hw _ (List.mem_of_getElem? (i := 212) rfl)) e474 (Ins.of_exa Ey2 (hw _ (List.mem_of_getElem? (i := 195) rfl))) (g := (mkF m 55 #[.val (.ref x1), .val (.ref x2), .val (.int (1 : Int32)), .val (.int (0 : Int32)), .unset] [(.ref y2), (.int k1)])) rfl rfl (hb hby d27_55)
  have S477 : own_Go p e below s₁ G T476 (mkF m 58 #[.val (.ref x1), .val (.ref x2), .val (.int (1 : Int32)), .val (.int (0 : Int32)), .unset] [(.ref y2), (.int k1)]) := fun tg_ kk_ => S475 tg_ (st476 tg_ kk_)
  obtain ⟨_, T478, h478, L478, X478, e478, hQ478, st478⟩ := own_callV X476 hx hZ (y := (⟨"java/lang/Integer", "intValue", "()I"⟩ : MethodName)) hown (hw _ (List.mem_of_getElem? (i := 213) rfl)) (hw _ (List.mem_of_getElem? (i := 199) rfl)) (hw _ (List.mem_of_getElem? (i := 201) rfl)) (hw _ (List.mem_of_getElem? (i := 200) rfl)) (hw _ (List.mem_of_getElem? (i := 16) rfl)) (hw _ (List.mem_of_getElem? (i := 202) rfl)) (by decide) 1 (g := (mkF m 58 #[.val (.ref x1), .val (.ref x2), .val (.int (1 : Int32)), .val (.int (0 : Int32)), .unset] [(.ref y2), (.int k1)])) rfl (by rw [hml]; rfl) y2 Ey2 [] [(.int k1)] (rm26 l Z a0 hw [] y2 k2 h0 n0 Z0 Fy2) (lenOf pd12 rfl) rfl (by show 2 * 0 + _ ≤ _; exact Nat.le_of_eq rfl) (hb hby d27_58) (by decide) (by decide) e476 (by decide) (by decide)
  obtain ⟨rfl, N478, rfl⟩ := hQ478
  have S479 : own_Go p e below s₁ G T478 (mkF m 61 #[.val (.ref x1), .val (.ref x2), .val (.int (1 : Int32)), .val (.int (0 : Int32)), .unset] [(.int k2), (.int k1)]) := fun tg_ kk_ => S477 tg_ (st478 tg_ kk_)
  have M478 := Fr.app M474 N478
  obtain ⟨_, T480, h480, L480, X480, e480, hQ480, st480⟩ := own_callS X478 hx hZ (y := (⟨"java/lang/Integer", "compare", "(II)I"⟩ : MethodName)) hown (hw _ (List.mem_of_getElem? (i := 214) rfl)) (hw _ (List.mem_of_getElem? (i := 215) rfl)) (hw _ (List.mem_of_getElem? (i := 16) rfl)) (hw _ (List.mem_of_getElem? (i := 216) rfl)) (by decide) 0 (g := (mkF m 61 #[.val (.ref x1), .val (.ref x2), .val (.int (1 : Int32)), .val (.int (0 : Int32)), .unset] [(.int k2), (.int k1)])) rfl (by rw [hml]; rfl) [(.int k1), (.int k2)] [] (rm29 l Z a0 hw [] k1 k2 h0 n0 Z0) (lenOf pd2 rfl) rfl (by show 2 * 0 + _ ≤ _; exact Nat.le_of_eq rfl) (hb hby d27_61) (by decide) (by decide) e478 (by decide) (by decide)
  obtain ⟨rfl, N480, rfl⟩ := hQ480
  have S481 : own_Go p e below s₁ G T480 (mkF m 64 #[.val (.ref x1), .val (.ref x2), .val (.int (1 : Int32)), .val (.int (0 : Int32)), .unset] [(.int (own_cmp k1 k2))]) := fun tg_ kk_ => S479 tg_ (st480 tg_ kk_)
  have M480 := Fr.app M478 N480
  have S482 : own_Go p e below s₁ G T480 (mkF m 68 #[.val (.ref x1), .val (.ref x2), .val (.int (1 : Int32)), .val (.int (0 : Int32)), .val (.int (own_cmp k1 k2))] [(.int (own_cmp k1 k2))]) := fun tg_ kk_ => S481 tg_ (by
    refine XS.istore X480.here hx rfl (hb hby d27_64) rfl (l' := #[.val (.ref x1), .val (.ref x2), .val (.int (1 : Int32)), .val (.int (0 : Int32)), .val (.int (own_cmp k1 k2))]) rfl ?_
    show Steps p.tables e below (T480.setTop (mkF m 66 #[.val (.ref x1), .val (.ref x2), .val (.int (1 : Int32)), .val (.int (0 : Int32)), .val (.int (own_cmp k1 k2))] [])) _
    refine XS.iload X480.here hx rfl (hb hby d27_66) rfl ?_
    exact kk_)
  by_cases hc : own_cmp k1 k2 = 0
  · have _ := N0
    rw [hc] at S482
    have S483 : own_Go p e below s₁ G T480 (mkF m 77 #[.val (.ref x1), .val (.ref x2), .val (.int (1 : Int32)), .val (.int ((0 : Int32) + (1 : Int32))), .val (.int (0 : Int32))] []) := fun tg_ kk_ => S482 tg_ (by
      refine XS.ifYes X480.here hx rfl (pc0 := 68) (pc' := 74) rfl (hb hby d27_68) rfl (XT.i0_eq_t (by decide)) (by decide) (by decide) ?_
      show Steps p.tables e below (T480.setTop (mkF m 74 #[.val (.ref x1), .val (.ref x2), .val (.int (1 : Int32)), .val (.int (0 : Int32)), .val (.int (0 : Int32))] [])) _
      refine XS.iinc X480.here hx rfl (hb hby d27_74) rfl (l' := #[.val (.ref x1), .val (.ref x2), .val (.int (1 : Int32)), .val (.int ((0 : Int32) + (1 : Int32))), .val (.int (0 : Int32))]) rfl ?_
      exact kk_)
    rw [show ((0 : Int32) + (1 : Int32)) = (1 : Int32) from by decide +kernel] at S483
    have S484 : own_Go p e below s₁ G T480 (mkF m 81 #[.val (.ref x1), .val (.ref x2), .val (.int (1 : Int32)), .val (.int (1 : Int32)), .val (.int (0 : Int32))] [(.ref x1)]) := fun tg_ kk_ => S483 tg_ (by
      refine XS.goto X480.here hx rfl (pc0 := 77) (pc' := 24) rfl (hb hby d27_77) (by decide) (by decide) ?_
      show Steps p.tables e below (T480.setTop (mkF m 24 #[.val (.ref x1), .val (.ref x2), .val (.int (1 : Int32)), .val (.int (1 : Int32)), .val (.int (0 : Int32))] [])) _
      refine XS.iloadN X480.here hx rfl (hb hby d27_24) rfl ?_
      show Steps p.tables e below (T480.setTop (mkF m 25 #[.val (.ref x1), .val (.ref x2), .val (.int (1 : Int32)), .val (.int (1 : Int32)), .val (.int (0 : Int32))] [(.int (1 : Int32))])) _
      refine XS.iloadN X480.here hx rfl (hb hby d27_25) rfl ?_
      show Steps p.tables e below (T480.setTop (mkF m 26 #[.val (.ref x1), .val (.ref x2), .val (.int (1 : Int32)), .val (.int (1 : Int32)), .val (.int (0 : Int32))] [(.int (1 : Int32)), (.int (1 : Int32))])) _
      refine XS.icmpYes X480.here hx rfl (pc0 := 26) (pc' := 80) rfl (hb hby d27_26) rfl (XT.ii_ge_t (by decide)) (by decide) (by decide) ?_
      show Steps p.tables e below (T480.setTop (mkF m 80 #[.val (.ref x1), .val (.ref x2), .val (.int (1 : Int32)), .val (.int (1 : Int32)), .val (.int (0 : Int32))] [])) _
      refine XS.aloadN X480.here hx rfl (hb hby d27_80) rfl rfl ?_
      exact kk_)
    obtain ⟨T485, X485, e485, st485⟩ := getF X480 hx hZ hown (host := "") (Or.inl (hw _ (List.mem_of_getElem? (i := 70) rfl))) Via.refl e480 Fs1 (g := (mkF m 81 #[.val (.ref x1), .val (.ref x2), .val (.int (1 : Int32)), .val (.int (1 : Int32)), .val (.int (0 : Int32))] [(.ref x1)])) rfl rfl (hb hby d27_81)
    have S486 : own_Go p e below s₁ G T485 (mkF m 84 #[.val (.ref x1), .val (.ref x2), .val (.int (1 : Int32)), .val (.int (1 : Int32)), .val (.int (0 : Int32))] [(.ref d1)]) := fun tg_ kk_ => S484 tg_ (st485 tg_ kk_)
    obtain ⟨_, T487, h487, L487, X487, e487, hQ487, st487⟩ := own_callF X485 hx hZ (y := (⟨"java/util/List", "size", "()I"⟩ : MethodName)) (z := (⟨"java/util/ImmutableCollections$List12", "size", "()I"⟩ : MethodName)) hown (hw _ (List.mem_of_getElem? (i := 87) rfl)) (hw _ (List.mem_of_getElem? (i := 88) rfl)) (mvT hZ (hw _ (List.mem_of_getElem? (i := 89) rfl))) (hw _ (List.mem_of_getElem? (i := 90) rfl)) (hw _ (List.mem_of_getElem? (i := 91) rfl)) (hw _ (List.mem_of_getElem? (i := 92) rfl)) (hw _ (List.mem_of_getElem? (i := 93) rfl)) (hw _ (List.mem_of_getElem? (i := 94) rfl)) (hw _ (List.mem_of_getElem? (i := 27) rfl)) (hw _ (List.mem_of_getElem? (i := 95) rfl)) (by decide) 0 (g := (mkF m 84 #[.val (.ref x1), .val (.ref x2), .val (.int (1 : Int32)), .val (.int (1 : Int32)), .val (.int (0 : Int32))] [(.ref d1)])) rfl (by rw [hml]; rfl) d1 Ed1 [] [] (rm15 l Z a0 hw [] d1 em h0 n0 Z0 F11 O SE) (lenOf pd12 rfl) rfl (by show 2 * 0 + _ ≤ _; exact Nat.le_of_eq rfl) (hb hby d27_84) (by decide) (by decide) e485 (by decide) (by decide)
    obtain ⟨rfl, N487, rfl⟩ := hQ487
    have S488 : own_Go p e below s₁ G T487 (mkF m 89 #[.val (.ref x1), .val (.ref x2), .val (.int (1 : Int32)), .val (.int (1 : Int32)), .val (.int (0 : Int32))] [(.int (1 : Int32))]) := fun tg_ kk_ => S486 tg_ (st487 tg_ kk_)
    have M487 := Fr.app M480 N487
    have S489 : own_Go p e below s₁ G T487 (mkF m 90 #[.val (.ref x1), .val (.ref x2), .val (.int (1 : Int32)), .val (.int (1 : Int32)), .val (.int (0 : Int32))] [(.ref x2), (.int (1 : Int32))]) := fun tg_ kk_ => S488 tg_ (by
      refine XS.aloadN X487.here hx rfl (hb hby d27_89) rfl rfl ?_
      exact kk_)
    obtain ⟨T490, X490, e490, st490⟩ := getF X487 hx hZ hown (host := "") (Or.inl (hw _ (List.mem_of_getElem? (i := 70) rfl))) Via.refl e487 Fs2 (g := (mkF m 90 #[.val (.ref x1), .val (.ref x2), .val (.int (1 : Int32)), .val (.int (1 : Int32)), .val (.int (0 : Int32))] [(.ref x2), (.int (1 : Int32))])) rfl rfl (hb hby d27_90)
    have S491 : own_Go p e below s₁ G T490 (mkF m 93 #[.val (.ref x1), .val (.ref x2), .val (.int (1 : Int32)), .val (.int (1 : Int32)), .val (.int (0 : Int32))] [(.ref d2), (.int (1 : Int32))]) := fun tg_ kk_ => S489 tg_ (st490 tg_ kk_)
    obtain ⟨_, T492, h492, L492, X492, e492, hQ492, st492⟩ := own_callF X490 hx hZ (y := (⟨"java/util/List", "size", "()I"⟩ : MethodName)) (z := (⟨"java/util/ImmutableCollections$List12", "size", "()I"⟩ : MethodName)) hown (hw _ (List.mem_of_getElem? (i := 87) rfl)) (hw _ (List.mem_of_getElem? (i := 88) rfl)) (mvT hZ (hw _ (List.mem_of_getElem? (i := 89) rfl))) (hw _ (List.mem_of_getElem? (i := 90) rfl)) (hw _ (List.mem_of_getElem? (i := 91) rfl)) (hw _ (List.mem_of_getElem? (i := 92) rfl)) (hw _ (List.mem_of_getElem? (i := 93) rfl)) (hw _ (List.mem_of_getElem? (i := 94) rfl)) (hw _ (List.mem_of_getElem? (i := 27) rfl)) (hw _ (List.mem_of_getElem? (i := 95) rfl)) (by decide) 1 (g := (mkF m 93 #[.val (.ref x1), .val (.ref x2), .val (.int (1 : Int32)), .val (.int (1 : Int32)), .val (.int (0 : Int32))] [(.ref d2), (.int (1 : Int32))])) rfl (by rw [hml]; rfl) d2 Ed2 [] [(.int (1 : Int32))] (rm15 l Z a0 hw [] d2 em h0 n0 Z0 F12 O SE) (lenOf pd12 rfl) rfl (by show 2 * 0 + _ ≤ _; exact Nat.le_of_eq rfl) (hb hby d27_93) (by decide) (by decide) e490 (by decide) (by decide)
    obtain ⟨rfl, N492, rfl⟩ := hQ492
    have S493 : own_Go p e below s₁ G T492 (mkF m 98 #[.val (.ref x1), .val (.ref x2), .val (.int (1 : Int32)), .val (.int (1 : Int32)), .val (.int (0 : Int32))] [(.int (1 : Int32)), (.int (1 : Int32))]) := fun tg_ kk_ => S491 tg_ (st492 tg_ kk_)
    have M492 := Fr.app M487 N492
    obtain ⟨_, T494, h494, L494, X494, e494, hQ494, st494⟩ := own_callS X492 hx hZ (y := (⟨"java/lang/Integer", "compare", "(II)I"⟩ : MethodName)) hown (hw _ (List.mem_of_getElem? (i := 214) rfl)) (hw _ (List.mem_of_getElem? (i := 215) rfl)) (hw _ (List.mem_of_getElem? (i := 16) rfl)) (hw _ (List.mem_of_getElem? (i := 216) rfl)) (by decide) 0 (g := (mkF m 98 #[.val (.ref x1), .val (.ref x2), .val (.int (1 : Int32)), .val (.int (1 : Int32)), .val (.int (0 : Int32))] [(.int (1 : Int32)), (.int (1 : Int32))])) rfl (by rw [hml]; rfl) [(.int (1 : Int32)), (.int (1 : Int32))] [] (rm29 l Z a0 hw [] 1 1 h0 n0 Z0) (lenOf pd2 rfl) rfl (by show 2 * 0 + _ ≤ _; exact Nat.le_of_eq rfl) (hb hby d27_98) (by decide) (by decide) e492 (by decide) (by decide)
    obtain ⟨rfl, N494, rfl⟩ := hQ494
    have S495 : own_Go p e below s₁ G T494 (mkF m 101 #[.val (.ref x1), .val (.ref x2), .val (.int (1 : Int32)), .val (.int (1 : Int32)), .val (.int (0 : Int32))] [(.int (own_cmp 1 1))]) := fun tg_ kk_ => S493 tg_ (st494 tg_ kk_)
    have M494 := Fr.app M492 N494
    rw [own_cmp11] at S495
    have S496 : own_Go p e below s₁ G T494 (mkF m 109 #[.val (.ref x1), .val (.ref x2), .val (.int (1 : Int32)), .val (.int (0 : Int32)), .val (.int (0 : Int32))] [(.ref x1)]) := fun tg_ kk_ => S495 tg_ (by
      refine XS.istoreN X494.here hx rfl (hb hby d27_101) rfl (l' := #[.val (.ref x1), .val (.ref x2), .val (.int (1 : Int32)), .val (.int (0 : Int32)), .val (.int (0 : Int32))]) rfl ?_
      show Steps p.tables e below (T494.setTop (mkF m 102 #[.val (.ref x1), .val (.ref x2), .val (.int (1 : Int32)), .val (.int (0 : Int32)), .val (.int (0 : Int32))] [])) _
      refine XS.iloadN X494.here hx rfl (hb hby d27_102) rfl ?_
      show Steps p.tables e below (T494.setTop (mkF m 103 #[.val (.ref x1), .val (.ref x2), .val (.int (1 : Int32)), .val (.int (0 : Int32)), .val (.int (0 : Int32))] [(.int (0 : Int32))])) _
      refine XS.ifYes X494.here hx rfl (pc0 := 103) (pc' := 108) rfl (hb hby d27_103) rfl (XT.i0_eq_t (by decide)) (by decide) (by decide) ?_
      show Steps p.tables e below (T494.setTop (mkF m 108 #[.val (.ref x1), .val (.ref x2), .val (.int (1 : Int32)), .val (.int (0 : Int32)), .val (.int (0 : Int32))] [])) _
      refine XS.aloadN X494.here hx rfl (hb hby d27_108) rfl rfl ?_
      exact kk_)
    obtain ⟨T497, X497, e497, st497⟩ := getF X494 hx hZ hown (host := "") (Or.inl (hw _ (List.mem_of_getElem? (i := 72) rfl))) Via.refl e494 Fl1 (g := (mkF m 109 #[.val (.ref x1), .val (.ref x2), .val (.int (1 : Int32)), .val (.int (0 : Int32)), .val (.int (0 : Int32))] [(.ref x1)])) rfl rfl (hb hby d27_109)
    have S498 : own_Go p e below s₁ G T497 (mkF m 112 #[.val (.ref x1), .val (.ref x2), .val (.int (1 : Int32)), .val (.int (0 : Int32)), .val (.int (0 : Int32))] [(.ref u)]) := fun tg_ kk_ => S496 tg_ (st497 tg_ kk_)
    have S499 : own_Go p e below s₁ G T497 (mkF m 113 #[.val (.ref x1), .val (.ref x2), .val (.int (1 : Int32)), .val (.int (0 : Int32)), .val (.int (0 : Int32))] [(.ref x2), (.ref u)]) := fun tg_ kk_ => S498 tg_ (by
      refine XS.aloadN X497.here hx rfl (hb hby d27_112) rfl rfl ?_
      exact kk_)
    obtain ⟨T500, X500, e500, st500⟩ := getF X497 hx hZ hown (host := "") (Or.inl (hw _ (List.mem_of_getElem? (i := 72) rfl))) Via.refl e497 Fl2 (g := (mkF m 113 #[.val (.ref x1), .val (.ref x2), .val (.int (1 : Int32)), .val (.int (0 : Int32)), .val (.int (0 : Int32))] [(.ref x2), (.ref u)])) rfl rfl (hb hby d27_113)
    have S501 : own_Go p e below s₁ G T500 (mkF m 116 #[.val (.ref x1), .val (.ref x2), .val (.int (1 : Int32)), .val (.int (0 : Int32)), .val (.int (0 : Int32))] [(.ref u), (.ref u)]) := fun tg_ kk_ => S499 tg_ (st500 tg_ kk_)
    obtain ⟨_, T502, h502, L502, X502, e502, hQ502, st502⟩ := own_callU X500 hx hZ (y := (⟨"com/example/provenans/provenans/model/Notation$Level", "compareTo", "(Ljava/lang/Enum;)I"⟩ : MethodName)) (z := (⟨"java/lang/Enum", "compareTo", "(Ljava/lang/Enum;)I"⟩ : MethodName)) hown (hw _ (List.mem_of_getElem? (i := 312) rfl)) (hw _ (List.mem_of_getElem? (i := 313) rfl)) (hw _ (List.mem_of_getElem? (i := 314) rfl)) (hw _ (List.mem_of_getElem? (i := 316) rfl)) (hw _ (List.mem_of_getElem? (i := 315) rfl)) (hw _ (List.mem_of_getElem? (i := 101) rfl)) (hw _ (List.mem_of_getElem? (i := 317) rfl)) (by decide) 0 (g := (mkF m 116 #[.val (.ref x1), .val (.ref x2), .val (.int (1 : Int32)), .val (.int (0 : Int32)), .val (.int (0 : Int32))] [(.ref u), (.ref u)])) rfl (by rw [hml]; rfl) u (EU.ext O.2) [(.ref u)] [] (rm48 l Z a0 hw [] u h0 n0 Z0 O EU FU cL kk mm m1 m2 m3) (lenOf pd32 rfl) rfl (by show 2 * 0 + _ ≤ _; exact Nat.le_of_eq rfl) (hb hby d27_116) (by decide) (by decide) e500 (by decide) (by decide)
    obtain ⟨rfl, N502, rfl⟩ := hQ502
    have S503 : own_Go p e below s₁ G T502 (mkF m 119 #[.val (.ref x1), .val (.ref x2), .val (.int (1 : Int32)), .val (.int (0 : Int32)), .val (.int (0 : Int32))] [(.int (0 : Int32))]) := fun tg_ kk_ => S501 tg_ (st502 tg_ kk_)
    have M502 := Fr.app M494 N502
    have S504 : own_Go p e below s₁ G T502 (mkF m 132 #[.val (.ref x1), .val (.ref x2), .val (.int (1 : Int32)), .val (.int (0 : Int32)), .val (.int (0 : Int32))] [(.ref x1)]) := fun tg_ kk_ => S503 tg_ (by
      refine XS.istore X502.here hx rfl (hb hby d27_119) rfl (l' := #[.val (.ref x1), .val (.ref x2), .val (.int (1 : Int32)), .val (.int (0 : Int32)), .val (.int (0 : Int32))]) rfl ?_
      show Steps p.tables e below (T502.setTop (mkF m 121 #[.val (.ref x1), .val (.ref x2), .val (.int (1 : Int32)), .val (.int (0 : Int32)), .val (.int (0 : Int32))] [])) _
      refine XS.iload X502.here hx rfl (hb hby d27_121) rfl ?_
      show Steps p.tables e below (T502.setTop (mkF m 123 #[.val (.ref x1), .val (.ref x2), .val (.int (1 : Int32)), .val (.int (0 : Int32)), .val (.int (0 : Int32))] [(.int (0 : Int32))])) _
      refine XS.ifYes X502.here hx rfl (pc0 := 123) (pc' := 131) rfl (hb hby d27_123) rfl (XT.i0_eq_t (by decide)) (by decide) (by decide) ?_
      show Steps p.tables e below (T502.setTop (mkF m 131 #[.val (.ref x1), .val (.ref x2), .val (.int (1 : Int32)), .val (.int (0 : Int32)), .val (.int (0 : Int32))] [])) _
      refine XS.aloadN X502.here hx rfl (hb hby d27_131) rfl rfl ?_
      exact kk_)
    obtain ⟨T505, X505, e505, st505⟩ := getF X502 hx hZ hown (host := "") (Or.inl (hw _ (List.mem_of_getElem? (i := 74) rfl))) Via.refl e502 Fq1 (g := (mkF m 132 #[.val (.ref x1), .val (.ref x2), .val (.int (1 : Int32)), .val (.int (0 : Int32)), .val (.int (0 : Int32))] [(.ref x1)])) rfl rfl (hb hby d27_132)
    have S506 : own_Go p e below s₁ G T505 (mkF m 135 #[.val (.ref x1), .val (.ref x2), .val (.int (1 : Int32)), .val (.int (0 : Int32)), .val (.int (0 : Int32))] [(.int (0 : Int32))]) := fun tg_ kk_ => S504 tg_ (st505 tg_ kk_)
    have S507 : own_Go p e below s₁ G T505 (mkF m 136 #[.val (.ref x1), .val (.ref x2), .val (.int (1 : Int32)), .val (.int (0 : Int32)), .val (.int (0 : Int32))] [(.ref x2), (.int (0 : Int32))]) := fun tg_ kk_ => S506 tg_ (by
      refine XS.aloadN X505.here hx rfl (hb hby d27_135) rfl rfl ?_
      exact kk_)
    obtain ⟨T508, X508, e508, st508⟩ := getF X505 hx hZ hown (host := "") (Or.inl (hw _ (List.mem_of_getElem? (i := 74) rfl))) Via.refl e505 Fq2 (g := (mkF m 136 #[.val (.ref x1), .val (.ref x2), .val (.int (1 : Int32)), .val (.int (0 : Int32)), .val (.int (0 : Int32))] [(.ref x2), (.int (0 : Int32))])) rfl rfl (hb hby d27_136)
    have S509 : own_Go p e below s₁ G T508 (mkF m 139 #[.val (.ref x1), .val (.ref x2), .val (.int (1 : Int32)), .val (.int (0 : Int32)), .val (.int (0 : Int32))] [(.int (0 : Int32)), (.int (0 : Int32))]) := fun tg_ kk_ => S507 tg_ (st508 tg_ kk_)
    obtain ⟨_, T510, h510, L510, X510, e510, hQ510, st510⟩ := own_callS X508 hx hZ (y := (⟨"java/lang/Integer", "compare", "(II)I"⟩ : MethodName)) hown (hw _ (List.mem_of_getElem? (i := 214) rfl)) (hw _ (List.mem_of_getElem? (i := 215) rfl)) (hw _ (List.mem_of_getElem? (i := 16) rfl)) (hw _ (List.mem_of_getElem? (i := 216) rfl)) (by decide) 0 (g := (mkF m 139 #[.val (.ref x1), .val (.ref x2), .val (.int (1 : Int32)), .val (.int (0 : Int32)), .val (.int (0 : Int32))] [(.int (0 : Int32)), (.int (0 : Int32))])) rfl (by rw [hml]; rfl) [(.int (0 : Int32)), (.int (0 : Int32))] [] (rm29 l Z a0 hw [] 0 0 h0 n0 Z0) (lenOf pd2 rfl) rfl (by show 2 * 0 + _ ≤ _; exact Nat.le_of_eq rfl) (hb hby d27_139) (by decide) (by decide) e508 (by decide) (by decide)
    obtain ⟨rfl, N510, rfl⟩ := hQ510
    have S511 : own_Go p e below s₁ G T510 (mkF m 142 #[.val (.ref x1), .val (.ref x2), .val (.int (1 : Int32)), .val (.int (0 : Int32)), .val (.int (0 : Int32))] [(.int (own_cmp 0 0))]) := fun tg_ kk_ => S509 tg_ (st510 tg_ kk_)
    have M510 := Fr.app M502 N510
    rw [own_cmp00] at S511
    obtain ⟨fs, hr, hrun, hended, hW, hsame⟩ := X510.leave (v := some (.int (0 : Int32))) (fun h => by rw [Bd.returns] at h; cases h)
    refine ⟨_, _, ?_, hrun, hended, _, _, rfl, ?_, ⟨_, rfl⟩, hW, hsame.mono (by decide) (by decide)⟩
    · rw [← hG]; exact S511 _ (retI X510 hx Bd.returns (hb hby d27_142) hr)
    · show Q27 Z u em x1 d1 y1 k1 x2 d2 y2 k2 h0 n0 _ T510.heap _
      rw [e510]
      exact ⟨by rw [hc], M510, rfl⟩
  · have _ := N0
    have S512 : own_Go p e below s₁ G T480 (mkF m 73 #[.val (.ref x1), .val (.ref x2), .val (.int (1 : Int32)), .val (.int (0 : Int32)), .val (.int (own_cmp k1 k2))] [(.int (own_cmp k1 k2))]) := fun tg_ kk_ => S482 tg_ (by
      refine XS.ifNo X480.here hx rfl (hb hby d27_68) rfl (XT.i0_eq_f hc) ?_
      show Steps p.tables e below (T480.setTop (mkF m 71 #[.val (.ref x1), .val (.ref x2), .val (.int (1 : Int32)), .val (.int (0 : Int32)), .val (.int (own_cmp k1 k2))] [])) _
      refine XS.iload X480.here hx rfl (hb hby d27_71) rfl ?_
      exact kk_)
    obtain ⟨fs, hr, hrun, hended, hW, hsame⟩ := X480.leave (v := some (.int (own_cmp k1 k2))) (fun h => by rw [Bd.returns] at h; cases h)
    refine ⟨_, _, ?_, hrun, hended, _, _, rfl, ?_, ⟨_, rfl⟩, hW, hsame.mono (by decide) (by decide)⟩
    · rw [← hG]; exact S512 _ (retI X480 hx Bd.returns (hb hby d27_73) hr)
    · show Q27 Z u em x1 d1 y1 k1 x2 d2 y2 k2 h0 n0 _ T480.heap _
      rw [e480]
      exact ⟨rfl, M480, rfl⟩
def Q34 (Z : State) (k : Int32) (h0 : Heap) (n0 : Nat) (v : Option Value) (h : Heap) (L : List Loc) : Prop := v = some (.int (own_dig k)) ∧ Fr n0 L ∧ h0 = h
set_option maxRecDepth 65536 in
set_option maxHeartbeats 40000000 in
theorem rm34 (l : Launch) (Z : State) (a0 : Array Value) (hw : ∀ d ∈ tables_1, d.before a0 Z = true) (ws : List Jvm.Cond) (k : Int32) (h0 : Heap) (n0 : Nat) (Z0 : n0 ≤ h0.size) (hk : ¬ k < 0) :
    MetFree l (⟨"java/lang/Integer", "stringSize", "(I)I"⟩ : MethodName) (head1 (Jvm.Cond.code (⟨"java/lang/Integer", "stringSize", "(I)I"⟩ : MethodName) jdk_33_method_13_code 4 (some .int) :: ws) ({ frames := 0, cells := 0, slots := 0, locals := 0 } : Room)) (fun aa_ U => aa_ = #[(.int k)] ∧ Z.Warmed39 U.vm ∧ U.heap = h0) (fun _ _ _ _ _ => True) (fun _ U o U' => ∃ v L, o = .returned v ∧ Q34 Z k h0 n0 v U'.heap L ∧ FrameEnd U o U' L ({ frames := 0, cells := 0, slots := 0, locals := 0 } : Room).cells ({ frames := 0, cells := 0, slots := 0, locals := 0 } : Room).slots) := by
  refine MetFree.of_bodySF (plainFor_of_name pn2) hisR ?_
  intro p e s m args below meth c s₁ Bd hml0 hP hK
  obtain ⟨rfl, hZ, hh⟩ := hP
  have hx := Bd.exec
  have hby := Bd.bytes
  have hml : c.maxLocals = 4 := hml0
  have hown : s.vm.findClass "java/lang/Integer" = some m.cls := findClass_of_methodNamed Bd.named
  have hnm := (name_of_methodNamed Bd.named Bd.method).1
  have X0 : Stand p l e ({ frames := 0, cells := 0, slots := 0, locals := 0 } : Room) s m #[(.int k)] below meth c s₁ [] 0 0 := Stand.of_body Bd
  have e0 : s₁.heap = h0 := by rw [← hh, Bd.state]; rfl
  have N0 := Fr.nil n0
  obtain ⟨G, hG⟩ : ∃ G, G = entryFrame m #[(.int k)] 4 := ⟨_, rfl⟩
  have S0 : own_Go p e below s₁ G s₁ (mkF m 0 #[.val (.int k), .unset, .unset, .unset] []) := fun tg_ kk_ => castTop (by rw [hG]; first | rfl | simp [entryFrame, mkF, argsToLocals, Value.category, maxLocals]) kk_
  have S513 : own_Go p e below s₁ G s₁ (mkF m 24 #[.val (.int (-k)), .val (.int (0 : Int32)), .val (.int (-10 : Int32)), .val (.int (1 : Int32))] [(.int (-10 : Int32)), (.int (-k))]) := fun tg_ kk_ => S0 tg_ (by
    refine XS.iconst X0.here hx rfl (hb hby d34_0) ?_
    show Steps p.tables e below (s₁.setTop (mkF m 1 #[.val (.int k), .unset, .unset, .unset] [(.int (1 : Int32))])) _
    refine XS.istoreN X0.here hx rfl (hb hby d34_1) rfl (l' := #[.val (.int k), .val (.int (1 : Int32)), .unset, .unset]) rfl ?_
    show Steps p.tables e below (s₁.setTop (mkF m 2 #[.val (.int k), .val (.int (1 : Int32)), .unset, .unset] [])) _
    refine XS.iloadN X0.here hx rfl (hb hby d34_2) rfl ?_
    show Steps p.tables e below (s₁.setTop (mkF m 3 #[.val (.int k), .val (.int (1 : Int32)), .unset, .unset] [(.int k)])) _
    refine XS.ifNo X0.here hx rfl (hb hby d34_3) rfl (XT.i0_lt_f hk) ?_
    show Steps p.tables e below (s₁.setTop (mkF m 6 #[.val (.int k), .val (.int (1 : Int32)), .unset, .unset] [])) _
    refine XS.iconst X0.here hx rfl (hb hby d34_6) ?_
    show Steps p.tables e below (s₁.setTop (mkF m 7 #[.val (.int k), .val (.int (1 : Int32)), .unset, .unset] [(.int (0 : Int32))])) _
    refine XS.istoreN X0.here hx rfl (hb hby d34_7) rfl (l' := #[.val (.int k), .val (.int (0 : Int32)), .unset, .unset]) rfl ?_
    show Steps p.tables e below (s₁.setTop (mkF m 8 #[.val (.int k), .val (.int (0 : Int32)), .unset, .unset] [])) _
    refine XS.iloadN X0.here hx rfl (hb hby d34_8) rfl ?_
    show Steps p.tables e below (s₁.setTop (mkF m 9 #[.val (.int k), .val (.int (0 : Int32)), .unset, .unset] [(.int k)])) _
    refine XS.ineg X0.here hx rfl (hb hby d34_9) rfl ?_
    show Steps p.tables e below (s₁.setTop (mkF m 10 #[.val (.int k), .val (.int (0 : Int32)), .unset, .unset] [(.int (-k))])) _
    refine XS.istoreN X0.here hx rfl (hb hby d34_10) rfl (l' := #[.val (.int (-k)), .val (.int (0 : Int32)), .unset, .unset]) rfl ?_
    show Steps p.tables e below (s₁.setTop (mkF m 11 #[.val (.int (-k)), .val (.int (0 : Int32)), .unset, .unset] [])) _
    refine XS.bipush X0.here hx rfl (hb hby d34_11) ?_
    show Steps p.tables e below (s₁.setTop (mkF m 13 #[.val (.int (-k)), .val (.int (0 : Int32)), .unset, .unset] [(.int (-10 : Int32))])) _
    refine XS.istoreN X0.here hx rfl (hb hby d34_13) rfl (l' := #[.val (.int (-k)), .val (.int (0 : Int32)), .val (.int (-10 : Int32)), .unset]) rfl ?_
    show Steps p.tables e below (s₁.setTop (mkF m 14 #[.val (.int (-k)), .val (.int (0 : Int32)), .val (.int (-10 : Int32)), .unset] [])) _
    refine XS.iconst X0.here hx rfl (hb hby d34_14) ?_
    show Steps p.tables e below (s₁.setTop (mkF m 15 #[.val (.int (-k)), .val (.int (0 : Int32)), .val (.int (-10 : Int32)), .unset] [(.int (1 : Int32))])) _
    refine XS.istoreN X0.here hx rfl (hb hby d34_15) rfl (l' := #[.val (.int (-k)), .val (.int (0 : Int32)), .val (.int (-10 : Int32)), .val (.int (1 : Int32))]) rfl ?_
    show Steps p.tables e below (s₁.setTop (mkF m 16 #[.val (.int (-k)), .val (.int (0 : Int32)), .val (.int (-10 : Int32)), .val (.int (1 : Int32))] [])) _
    refine XS.iloadN X0.here hx rfl (hb hby d34_16) rfl ?_
    show Steps p.tables e below (s₁.setTop (mkF m 17 #[.val (.int (-k)), .val (.int (0 : Int32)), .val (.int (-10 : Int32)), .val (.int (1 : Int32))] [(.int (1 : Int32))])) _
    refine XS.bipush X0.here hx rfl (hb hby d34_17) ?_
    show Steps p.tables e below (s₁.setTop (mkF m 19 #[.val (.int (-k)), .val (.int (0 : Int32)), .val (.int (-10 : Int32)), .val (.int (1 : Int32))] [(.int (10 : Int32)), (.int (1 : Int32))])) _
    refine XS.icmpNo X0.here hx rfl (hb hby d34_19) rfl (XT.ii_ge_f (by decide)) ?_
    show Steps p.tables e below (s₁.setTop (mkF m 22 #[.val (.int (-k)), .val (.int (0 : Int32)), .val (.int (-10 : Int32)), .val (.int (1 : Int32))] [])) _
    refine XS.iloadN X0.here hx rfl (hb hby d34_22) rfl ?_
    show Steps p.tables e below (s₁.setTop (mkF m 23 #[.val (.int (-k)), .val (.int (0 : Int32)), .val (.int (-10 : Int32)), .val (.int (1 : Int32))] [(.int (-k))])) _
    refine XS.iloadN X0.here hx rfl (hb hby d34_23) rfl ?_
    exact kk_)
  by_cases hs1 : (-10 : Int32) < (-k)
  · have _ := N0
    have S514 : own_Go p e below s₁ G s₁ (mkF m 30 #[.val (.int (-k)), .val (.int (0 : Int32)), .val (.int (-10 : Int32)), .val (.int (1 : Int32))] [(.int ((1 : Int32) + (0 : Int32)))]) := fun tg_ kk_ => S513 tg_ (by
      refine XS.icmpNo X0.here hx rfl (hb hby d34_24) rfl (XT.ii_le_f hs1) ?_
      show Steps p.tables e below (s₁.setTop (mkF m 27 #[.val (.int (-k)), .val (.int (0 : Int32)), .val (.int (-10 : Int32)), .val (.int (1 : Int32))] [])) _
      refine XS.iloadN X0.here hx rfl (hb hby d34_27) rfl ?_
      show Steps p.tables e below (s₁.setTop (mkF m 28 #[.val (.int (-k)), .val (.int (0 : Int32)), .val (.int (-10 : Int32)), .val (.int (1 : Int32))] [(.int (1 : Int32))])) _
      refine XS.iloadN X0.here hx rfl (hb hby d34_28) rfl ?_
      show Steps p.tables e below (s₁.setTop (mkF m 29 #[.val (.int (-k)), .val (.int (0 : Int32)), .val (.int (-10 : Int32)), .val (.int (1 : Int32))] [(.int (0 : Int32)), (.int (1 : Int32))])) _
      refine XS.iadd X0.here hx rfl (hb hby d34_29) rfl ?_
      exact kk_)
    rw [show ((1 : Int32) + (0 : Int32)) = (1 : Int32) from by decide +kernel] at S514
    obtain ⟨fs, hr, hrun, hended, hW, hsame⟩ := X0.leave (v := some (.int (1 : Int32))) (fun h => by rw [Bd.returns] at h; cases h)
    refine ⟨_, _, ?_, hrun, hended, _, _, rfl, ?_, ⟨_, rfl⟩, hW, hsame.mono (by decide) (by decide)⟩
    · rw [← hG]; exact S514 _ (retI X0 hx Bd.returns (hb hby d34_30) hr)
    · show Q34 Z k h0 n0 _ s₁.heap _
      rw [e0]
      exact ⟨by simp only [own_dig, hs1, if_true, if_false], N0, rfl⟩
  · have _ := N0
    have S515 : own_Go p e below s₁ G s₁ (mkF m 35 #[.val (.int (-k)), .val (.int (0 : Int32)), .val (.int (-10 : Int32)), .val (.int (1 : Int32))] [(.int ((10 : Int32) * (-10 : Int32)))]) := fun tg_ kk_ => S513 tg_ (by
      refine XS.icmpYes X0.here hx rfl (pc0 := 24) (pc' := 31) rfl (hb hby d34_24) rfl (XT.ii_le_t hs1) (by decide) (by decide) ?_
      show Steps p.tables e below (s₁.setTop (mkF m 31 #[.val (.int (-k)), .val (.int (0 : Int32)), .val (.int (-10 : Int32)), .val (.int (1 : Int32))] [])) _
      refine XS.bipush X0.here hx rfl (hb hby d34_31) ?_
      show Steps p.tables e below (s₁.setTop (mkF m 33 #[.val (.int (-k)), .val (.int (0 : Int32)), .val (.int (-10 : Int32)), .val (.int (1 : Int32))] [(.int (10 : Int32))])) _
      refine XS.iloadN X0.here hx rfl (hb hby d34_33) rfl ?_
      show Steps p.tables e below (s₁.setTop (mkF m 34 #[.val (.int (-k)), .val (.int (0 : Int32)), .val (.int (-10 : Int32)), .val (.int (1 : Int32))] [(.int (-10 : Int32)), (.int (10 : Int32))])) _
      refine XS.imul X0.here hx rfl (hb hby d34_34) rfl ?_
      exact kk_)
    rw [show ((10 : Int32) * (-10 : Int32)) = (-100 : Int32) from by decide +kernel] at S515
    have S516 : own_Go p e below s₁ G s₁ (mkF m 39 #[.val (.int (-k)), .val (.int (0 : Int32)), .val (.int (-100 : Int32)), .val (.int ((1 : Int32) + (1 : Int32)))] []) := fun tg_ kk_ => S515 tg_ (by
      refine XS.istoreN X0.here hx rfl (hb hby d34_35) rfl (l' := #[.val (.int (-k)), .val (.int (0 : Int32)), .val (.int (-100 : Int32)), .val (.int (1 : Int32))]) rfl ?_
      show Steps p.tables e below (s₁.setTop (mkF m 36 #[.val (.int (-k)), .val (.int (0 : Int32)), .val (.int (-100 : Int32)), .val (.int (1 : Int32))] [])) _
      refine XS.iinc X0.here hx rfl (hb hby d34_36) rfl (l' := #[.val (.int (-k)), .val (.int (0 : Int32)), .val (.int (-100 : Int32)), .val (.int ((1 : Int32) + (1 : Int32)))]) rfl ?_
      exact kk_)
    rw [show ((1 : Int32) + (1 : Int32)) = (2 : Int32) from by decide +kernel] at S516
    have S517 : own_Go p e below s₁ G s₁ (mkF m 24 #[.val (.int (-k)), .val (.int (0 : Int32)), .val (.int (-100 : Int32)), .val (.int (2 : Int32))] [(.int (-100 : Int32)), (.int (-k))]) := fun tg_ kk_ => S516 tg_ (by
      refine XS.goto X0.here hx rfl (pc0 := 39) (pc' := 16) rfl (hb hby d34_39) (by decide) (by decide) ?_
      show Steps p.tables e below (s₁.setTop (mkF m 16 #[.val (.int (-k)), .val (.int (0 : Int32)), .val (.int (-100 : Int32)), .val (.int (2 : Int32))] [])) _
      refine XS.iloadN X0.here hx rfl (hb hby d34_16) rfl ?_
      show Steps p.tables e below (s₁.setTop (mkF m 17 #[.val (.int (-k)), .val (.int (0 : Int32)), .val (.int (-100 : Int32)), .val (.int (2 : Int32))] [(.int (2 : Int32))])) _
      refine XS.bipush X0.here hx rfl (hb hby d34_17) ?_
      show Steps p.tables e below (s₁.setTop (mkF m 19 #[.val (.int (-k)), .val (.int (0 : Int32)), .val (.int (-100 : Int32)), .val (.int (2 : Int32))] [(.int (10 : Int32)), (.int (2 : Int32))])) _
      refine XS.icmpNo X0.here hx rfl (hb hby d34_19) rfl (XT.ii_ge_f (by decide)) ?_
      show Steps p.tables e below (s₁.setTop (mkF m 22 #[.val (.int (-k)), .val (.int (0 : Int32)), .val (.int (-100 : Int32)), .val (.int (2 : Int32))] [])) _
      refine XS.iloadN X0.here hx rfl (hb hby d34_22) rfl ?_
      show Steps p.tables e below (s₁.setTop (mkF m 23 #[.val (.int (-k)), .val (.int (0 : Int32)), .val (.int (-100 : Int32)), .val (.int (2 : Int32))] [(.int (-k))])) _
      refine XS.iloadN X0.here hx rfl (hb hby d34_23) rfl ?_
      exact kk_)
    by_cases hs2 : (-100 : Int32) < (-k)
    · have _ := N0
      have S518 : own_Go p e below s₁ G s₁ (mkF m 30 #[.val (.int (-k)), .val (.int (0 : Int32)), .val (.int (-100 : Int32)), .val (.int (2 : Int32))] [(.int ((2 : Int32) + (0 : Int32)))]) := fun tg_ kk_ => S517 tg_ (by
        refine XS.icmpNo X0.here hx rfl (hb hby d34_24) rfl (XT.ii_le_f hs2) ?_
        show Steps p.tables e below (s₁.setTop (mkF m 27 #[.val (.int (-k)), .val (.int (0 : Int32)), .val (.int (-100 : Int32)), .val (.int (2 : Int32))] [])) _
        refine XS.iloadN X0.here hx rfl (hb hby d34_27) rfl ?_
        show Steps p.tables e below (s₁.setTop (mkF m 28 #[.val (.int (-k)), .val (.int (0 : Int32)), .val (.int (-100 : Int32)), .val (.int (2 : Int32))] [(.int (2 : Int32))])) _
        refine XS.iloadN X0.here hx rfl (hb hby d34_28) rfl ?_
        show Steps p.tables e below (s₁.setTop (mkF m 29 #[.val (.int (-k)), .val (.int (0 : Int32)), .val (.int (-100 : Int32)), .val (.int (2 : Int32))] [(.int (0 : Int32)), (.int (2 : Int32))])) _
        refine XS.iadd X0.here hx rfl (hb hby d34_29) rfl ?_
        exact kk_)
      rw [show ((2 : Int32) + (0 : Int32)) = (2 : Int32) from by decide +kernel] at S518
      obtain ⟨fs, hr, hrun, hended, hW, hsame⟩ := X0.leave (v := some (.int (2 : Int32))) (fun h => by rw [Bd.returns] at h; cases h)
      refine ⟨_, _, ?_, hrun, hended, _, _, rfl, ?_, ⟨_, rfl⟩, hW, hsame.mono (by decide) (by decide)⟩
      · rw [← hG]; exact S518 _ (retI X0 hx Bd.returns (hb hby d34_30) hr)
      · show Q34 Z k h0 n0 _ s₁.heap _
        rw [e0]
        exact ⟨by simp only [own_dig, hs1, hs2, if_true, if_false], N0, rfl⟩
    · have _ := N0
      have S519 : own_Go p e below s₁ G s₁ (mkF m 35 #[.val (.int (-k)), .val (.int (0 : Int32)), .val (.int (-100 : Int32)), .val (.int (2 : Int32))] [(.int ((10 : Int32) * (-100 : Int32)))]) := fun tg_ kk_ => S517 tg_ (by
        refine XS.icmpYes X0.here hx rfl (pc0 := 24) (pc' := 31) rfl (hb hby d34_24) rfl (XT.ii_le_t hs2) (by decide) (by decide) ?_
        show Steps p.tables e below (s₁.setTop (mkF m 31 #[.val (.int (-k)), .val (.int (0 : Int32)), .val (.int (-100 : Int32)), .val (.int (2 : Int32))] [])) _
        refine XS.bipush X0.here hx rfl (hb hby d34_31) ?_
        show Steps p.tables e below (s₁.setTop (mkF m 33 #[.val (.int (-k)), .val (.int (0 : Int32)), .val (.int (-100 : Int32)), .val (.int (2 : Int32))] [(.int (10 : Int32))])) _
        refine XS.iloadN X0.here hx rfl (hb hby d34_33) rfl ?_
        show Steps p.tables e below (s₁.setTop (mkF m 34 #[.val (.int (-k)), .val (.int (0 : Int32)), .val (.int (-100 : Int32)), .val (.int (2 : Int32))] [(.int (-100 : Int32)), (.int (10 : Int32))])) _
        refine XS.imul X0.here hx rfl (hb hby d34_34) rfl ?_
        exact kk_)
      rw [show ((10 : Int32) * (-100 : Int32)) = (-1000 : Int32) from by decide +kernel] at S519
      have S520 : own_Go p e below s₁ G s₁ (mkF m 39 #[.val (.int (-k)), .val (.int (0 : Int32)), .val (.int (-1000 : Int32)), .val (.int ((2 : Int32) + (1 : Int32)))] []) := fun tg_ kk_ => S519 tg_ (by
        refine XS.istoreN X0.here hx rfl (hb hby d34_35) rfl (l' := #[.val (.int (-k)), .val (.int (0 : Int32)), .val (.int (-1000 : Int32)), .val (.int (2 : Int32))]) rfl ?_
        show Steps p.tables e below (s₁.setTop (mkF m 36 #[.val (.int (-k)), .val (.int (0 : Int32)), .val (.int (-1000 : Int32)), .val (.int (2 : Int32))] [])) _
        refine XS.iinc X0.here hx rfl (hb hby d34_36) rfl (l' := #[.val (.int (-k)), .val (.int (0 : Int32)), .val (.int (-1000 : Int32)), .val (.int ((2 : Int32) + (1 : Int32)))]) rfl ?_
        exact kk_)
      rw [show ((2 : Int32) + (1 : Int32)) = (3 : Int32) from by decide +kernel] at S520
      have S521 : own_Go p e below s₁ G s₁ (mkF m 24 #[.val (.int (-k)), .val (.int (0 : Int32)), .val (.int (-1000 : Int32)), .val (.int (3 : Int32))] [(.int (-1000 : Int32)), (.int (-k))]) := fun tg_ kk_ => S520 tg_ (by
        refine XS.goto X0.here hx rfl (pc0 := 39) (pc' := 16) rfl (hb hby d34_39) (by decide) (by decide) ?_
        show Steps p.tables e below (s₁.setTop (mkF m 16 #[.val (.int (-k)), .val (.int (0 : Int32)), .val (.int (-1000 : Int32)), .val (.int (3 : Int32))] [])) _
        refine XS.iloadN X0.here hx rfl (hb hby d34_16) rfl ?_
        show Steps p.tables e below (s₁.setTop (mkF m 17 #[.val (.int (-k)), .val (.int (0 : Int32)), .val (.int (-1000 : Int32)), .val (.int (3 : Int32))] [(.int (3 : Int32))])) _
        refine XS.bipush X0.here hx rfl (hb hby d34_17) ?_
        show Steps p.tables e below (s₁.setTop (mkF m 19 #[.val (.int (-k)), .val (.int (0 : Int32)), .val (.int (-1000 : Int32)), .val (.int (3 : Int32))] [(.int (10 : Int32)), (.int (3 : Int32))])) _
        refine XS.icmpNo X0.here hx rfl (hb hby d34_19) rfl (XT.ii_ge_f (by decide)) ?_
        show Steps p.tables e below (s₁.setTop (mkF m 22 #[.val (.int (-k)), .val (.int (0 : Int32)), .val (.int (-1000 : Int32)), .val (.int (3 : Int32))] [])) _
        refine XS.iloadN X0.here hx rfl (hb hby d34_22) rfl ?_
        show Steps p.tables e below (s₁.setTop (mkF m 23 #[.val (.int (-k)), .val (.int (0 : Int32)), .val (.int (-1000 : Int32)), .val (.int (3 : Int32))] [(.int (-k))])) _
        refine XS.iloadN X0.here hx rfl (hb hby d34_23) rfl ?_
        exact kk_)
      by_cases hs3 : (-1000 : Int32) < (-k)
      · have _ := N0
        have S522 : own_Go p e below s₁ G s₁ (mkF m 30 #[.val (.int (-k)), .val (.int (0 : Int32)), .val (.int (-1000 : Int32)), .val (.int (3 : Int32))] [(.int ((3 : Int32) + (0 : Int32)))]) := fun tg_ kk_ => S521 tg_ (by
          refine XS.icmpNo X0.here hx rfl (hb hby d34_24) rfl (XT.ii_le_f hs3) ?_
          show Steps p.tables e below (s₁.setTop (mkF m 27 #[.val (.int (-k)), .val (.int (0 : Int32)), .val (.int (-1000 : Int32)), .val (.int (3 : Int32))] [])) _
          refine XS.iloadN X0.here hx rfl (hb hby d34_27) rfl ?_
          show Steps p.tables e below (s₁.setTop (mkF m 28 #[.val (.int (-k)), .val (.int (0 : Int32)), .val (.int (-1000 : Int32)), .val (.int (3 : Int32))] [(.int (3 : Int32))])) _
          refine XS.iloadN X0.here hx rfl (hb hby d34_28) rfl ?_
          show Steps p.tables e below (s₁.setTop (mkF m 29 #[.val (.int (-k)), .val (.int (0 : Int32)), .val (.int (-1000 : Int32)), .val (.int (3 : Int32))] [(.int (0 : Int32)), (.int (3 : Int32))])) _
          refine XS.iadd X0.here hx rfl (hb hby d34_29) rfl ?_
          exact kk_)
        rw [show ((3 : Int32) + (0 : Int32)) = (3 : Int32) from by decide +kernel] at S522
        obtain ⟨fs, hr, hrun, hended, hW, hsame⟩ := X0.leave (v := some (.int (3 : Int32))) (fun h => by rw [Bd.returns] at h; cases h)
        refine ⟨_, _, ?_, hrun, hended, _, _, rfl, ?_, ⟨_, rfl⟩, hW, hsame.mono (by decide) (by decide)⟩
        · rw [← hG]; exact S522 _ (retI X0 hx Bd.returns (hb hby d34_30) hr)
        · show Q34 Z k h0 n0 _ s₁.heap _
          rw [e0]
          exact ⟨by simp only [own_dig, hs1, hs2, hs3, if_true, if_false], N0, rfl⟩
      · have _ := N0
        have S523 : own_Go p e below s₁ G s₁ (mkF m 35 #[.val (.int (-k)), .val (.int (0 : Int32)), .val (.int (-1000 : Int32)), .val (.int (3 : Int32))] [(.int ((10 : Int32) * (-1000 : Int32)))]) := fun tg_ kk_ => S521 tg_ (by
          refine XS.icmpYes X0.here hx rfl (pc0 := 24) (pc' := 31) rfl (hb hby d34_24) rfl (XT.ii_le_t hs3) (by decide) (by decide) ?_
          show Steps p.tables e below (s₁.setTop (mkF m 31 #[.val (.int (-k)), .val (.int (0 : Int32)), .val (.int (-1000 : Int32)), .val (.int (3 : Int32))] [])) _
          refine XS.bipush X0.here hx rfl (hb hby d34_31) ?_
          show Steps p.tables e below (s₁.setTop (mkF m 33 #[.val (.int (-k)), .val (.int (0 : Int32)), .val (.int (-1000 : Int32)), .val (.int (3 : Int32))] [(.int (10 : Int32))])) _
          refine XS.iloadN X0.here hx rfl (hb hby d34_33) rfl ?_
          show Steps p.tables e below (s₁.setTop (mkF m 34 #[.val (.int (-k)), .val (.int (0 : Int32)), .val (.int (-1000 : Int32)), .val (.int (3 : Int32))] [(.int (-1000 : Int32)), (.int (10 : Int32))])) _
          refine XS.imul X0.here hx rfl (hb hby d34_34) rfl ?_
          exact kk_)
        rw [show ((10 : Int32) * (-1000 : Int32)) = (-10000 : Int32) from by decide +kernel] at S523
        have S524 : own_Go p e below s₁ G s₁ (mkF m 39 #[.val (.int (-k)), .val (.int (0 : Int32)), .val (.int (-10000 : Int32)), .val (.int ((3 : Int32) + (1 : Int32)))] []) := fun tg_ kk_ => S523 tg_ (by
          refine XS.istoreN X0.here hx rfl (hb hby d34_35) rfl (l' := #[.val (.int (-k)), .val (.int (0 : Int32)), .val (.int (-10000 : Int32)), .val (.int (3 : Int32))]) rfl ?_
          show Steps p.tables e below (s₁.setTop (mkF m 36 #[.val (.int (-k)), .val (.int (0 : Int32)), .val (.int (-10000 : Int32)), .val (.int (3 : Int32))] [])) _
          refine XS.iinc X0.here hx rfl (hb hby d34_36) rfl (l' := #[.val (.int (-k)), .val (.int (0 : Int32)), .val (.int (-10000 : Int32)), .val (.int ((3 : Int32) + (1 : Int32)))]) rfl ?_
          exact kk_)
        rw [show ((3 : Int32) + (1 : Int32)) = (4 : Int32) from by decide +kernel] at S524
        have S525 : own_Go p e below s₁ G s₁ (mkF m 24 #[.val (.int (-k)), .val (.int (0 : Int32)), .val (.int (-10000 : Int32)), .val (.int (4 : Int32))] [(.int (-10000 : Int32)), (.int (-k))]) := fun tg_ kk_ => S524 tg_ (by
          refine XS.goto X0.here hx rfl (pc0 := 39) (pc' := 16) rfl (hb hby d34_39) (by decide) (by decide) ?_
          show Steps p.tables e below (s₁.setTop (mkF m 16 #[.val (.int (-k)), .val (.int (0 : Int32)), .val (.int (-10000 : Int32)), .val (.int (4 : Int32))] [])) _
          refine XS.iloadN X0.here hx rfl (hb hby d34_16) rfl ?_
          show Steps p.tables e below (s₁.setTop (mkF m 17 #[.val (.int (-k)), .val (.int (0 : Int32)), .val (.int (-10000 : Int32)), .val (.int (4 : Int32))] [(.int (4 : Int32))])) _
          refine XS.bipush X0.here hx rfl (hb hby d34_17) ?_
          show Steps p.tables e below (s₁.setTop (mkF m 19 #[.val (.int (-k)), .val (.int (0 : Int32)), .val (.int (-10000 : Int32)), .val (.int (4 : Int32))] [(.int (10 : Int32)), (.int (4 : Int32))])) _
          refine XS.icmpNo X0.here hx rfl (hb hby d34_19) rfl (XT.ii_ge_f (by decide)) ?_
          show Steps p.tables e below (s₁.setTop (mkF m 22 #[.val (.int (-k)), .val (.int (0 : Int32)), .val (.int (-10000 : Int32)), .val (.int (4 : Int32))] [])) _
          refine XS.iloadN X0.here hx rfl (hb hby d34_22) rfl ?_
          show Steps p.tables e below (s₁.setTop (mkF m 23 #[.val (.int (-k)), .val (.int (0 : Int32)), .val (.int (-10000 : Int32)), .val (.int (4 : Int32))] [(.int (-k))])) _
          refine XS.iloadN X0.here hx rfl (hb hby d34_23) rfl ?_
          exact kk_)
        by_cases hs4 : (-10000 : Int32) < (-k)
        · have _ := N0
          have S526 : own_Go p e below s₁ G s₁ (mkF m 30 #[.val (.int (-k)), .val (.int (0 : Int32)), .val (.int (-10000 : Int32)), .val (.int (4 : Int32))] [(.int ((4 : Int32) + (0 : Int32)))]) := fun tg_ kk_ => S525 tg_ (by
            refine XS.icmpNo X0.here hx rfl (hb hby d34_24) rfl (XT.ii_le_f hs4) ?_
            show Steps p.tables e below (s₁.setTop (mkF m 27 #[.val (.int (-k)), .val (.int (0 : Int32)), .val (.int (-10000 : Int32)), .val (.int (4 : Int32))] [])) _
            refine XS.iloadN X0.here hx rfl (hb hby d34_27) rfl ?_
            show Steps p.tables e below (s₁.setTop (mkF m 28 #[.val (.int (-k)), .val (.int (0 : Int32)), .val (.int (-10000 : Int32)), .val (.int (4 : Int32))] [(.int (4 : Int32))])) _
            refine XS.iloadN X0.here hx rfl (hb hby d34_28) rfl ?_
            show Steps p.tables e below (s₁.setTop (mkF m 29 #[.val (.int (-k)), .val (.int (0 : Int32)), .val (.int (-10000 : Int32)), .val (.int (4 : Int32))] [(.int (0 : Int32)), (.int (4 : Int32))])) _
            refine XS.iadd X0.here hx rfl (hb hby d34_29) rfl ?_
            exact kk_)
          rw [show ((4 : Int32) + (0 : Int32)) = (4 : Int32) from by decide +kernel] at S526
          obtain ⟨fs, hr, hrun, hended, hW, hsame⟩ := X0.leave (v := some (.int (4 : Int32))) (fun h => by rw [Bd.returns] at h; cases h)
          refine ⟨_, _, ?_, hrun, hended, _, _, rfl, ?_, ⟨_, rfl⟩, hW, hsame.mono (by decide) (by decide)⟩
          · rw [← hG]; exact S526 _ (retI X0 hx Bd.returns (hb hby d34_30) hr)
          · show Q34 Z k h0 n0 _ s₁.heap _
            rw [e0]
            exact ⟨by simp only [own_dig, hs1, hs2, hs3, hs4, if_true, if_false], N0, rfl⟩
        · have _ := N0
          have S527 : own_Go p e below s₁ G s₁ (mkF m 35 #[.val (.int (-k)), .val (.int (0 : Int32)), .val (.int (-10000 : Int32)), .val (.int (4 : Int32))] [(.int ((10 : Int32) * (-10000 : Int32)))]) := fun tg_ kk_ => S525 tg_ (by
            refine XS.icmpYes X0.here hx rfl (pc0 := 24) (pc' := 31) rfl (hb hby d34_24) rfl (XT.ii_le_t hs4) (by decide) (by decide) ?_
            show Steps p.tables e below (s₁.setTop (mkF m 31 #[.val (.int (-k)), .val (.int (0 : Int32)), .val (.int (-10000 : Int32)), .val (.int (4 : Int32))] [])) _
            refine XS.bipush X0.here hx rfl (hb hby d34_31) ?_
            show Steps p.tables e below (s₁.setTop (mkF m 33 #[.val (.int (-k)), .val (.int (0 : Int32)), .val (.int (-10000 : Int32)), .val (.int (4 : Int32))] [(.int (10 : Int32))])) _
            refine XS.iloadN X0.here hx rfl (hb hby d34_33) rfl ?_
            show Steps p.tables e below (s₁.setTop (mkF m 34 #[.val (.int (-k)), .val (.int (0 : Int32)), .val (.int (-10000 : Int32)), .val (.int (4 : Int32))] [(.int (-10000 : Int32)), (.int (10 : Int32))])) _
            refine XS.imul X0.here hx rfl (hb hby d34_34) rfl ?_
            exact kk_)
          rw [show ((10 : Int32) * (-10000 : Int32)) = (-100000 : Int32) from by decide +kernel] at S527
          have S528 : own_Go p e below s₁ G s₁ (mkF m 39 #[.val (.int (-k)), .val (.int (0 : Int32)), .val (.int (-100000 : Int32)), .val (.int ((4 : Int32) + (1 : Int32)))] []) := fun tg_ kk_ => S527 tg_ (by
            refine XS.istoreN X0.here hx rfl (hb hby d34_35) rfl (l' := #[.val (.int (-k)), .val (.int (0 : Int32)), .val (.int (-100000 : Int32)), .val (.int (4 : Int32))]) rfl ?_
            show Steps p.tables e below (s₁.setTop (mkF m 36 #[.val (.int (-k)), .val (.int (0 : Int32)), .val (.int (-100000 : Int32)), .val (.int (4 : Int32))] [])) _
            refine XS.iinc X0.here hx rfl (hb hby d34_36) rfl (l' := #[.val (.int (-k)), .val (.int (0 : Int32)), .val (.int (-100000 : Int32)), .val (.int ((4 : Int32) + (1 : Int32)))]) rfl ?_
            exact kk_)
          rw [show ((4 : Int32) + (1 : Int32)) = (5 : Int32) from by decide +kernel] at S528
          have S529 : own_Go p e below s₁ G s₁ (mkF m 24 #[.val (.int (-k)), .val (.int (0 : Int32)), .val (.int (-100000 : Int32)), .val (.int (5 : Int32))] [(.int (-100000 : Int32)), (.int (-k))]) := fun tg_ kk_ => S528 tg_ (by
            refine XS.goto X0.here hx rfl (pc0 := 39) (pc' := 16) rfl (hb hby d34_39) (by decide) (by decide) ?_
            show Steps p.tables e below (s₁.setTop (mkF m 16 #[.val (.int (-k)), .val (.int (0 : Int32)), .val (.int (-100000 : Int32)), .val (.int (5 : Int32))] [])) _
            refine XS.iloadN X0.here hx rfl (hb hby d34_16) rfl ?_
            show Steps p.tables e below (s₁.setTop (mkF m 17 #[.val (.int (-k)), .val (.int (0 : Int32)), .val (.int (-100000 : Int32)), .val (.int (5 : Int32))] [(.int (5 : Int32))])) _
            refine XS.bipush X0.here hx rfl (hb hby d34_17) ?_
            show Steps p.tables e below (s₁.setTop (mkF m 19 #[.val (.int (-k)), .val (.int (0 : Int32)), .val (.int (-100000 : Int32)), .val (.int (5 : Int32))] [(.int (10 : Int32)), (.int (5 : Int32))])) _
            refine XS.icmpNo X0.here hx rfl (hb hby d34_19) rfl (XT.ii_ge_f (by decide)) ?_
            show Steps p.tables e below (s₁.setTop (mkF m 22 #[.val (.int (-k)), .val (.int (0 : Int32)), .val (.int (-100000 : Int32)), .val (.int (5 : Int32))] [])) _
            refine XS.iloadN X0.here hx rfl (hb hby d34_22) rfl ?_
            show Steps p.tables e below (s₁.setTop (mkF m 23 #[.val (.int (-k)), .val (.int (0 : Int32)), .val (.int (-100000 : Int32)), .val (.int (5 : Int32))] [(.int (-k))])) _
            refine XS.iloadN X0.here hx rfl (hb hby d34_23) rfl ?_
            exact kk_)
          by_cases hs5 : (-100000 : Int32) < (-k)
          · have _ := N0
            have S530 : own_Go p e below s₁ G s₁ (mkF m 30 #[.val (.int (-k)), .val (.int (0 : Int32)), .val (.int (-100000 : Int32)), .val (.int (5 : Int32))] [(.int ((5 : Int32) + (0 : Int32)))]) := fun tg_ kk_ => S529 tg_ (by
              refine XS.icmpNo X0.here hx rfl (hb hby d34_24) rfl (XT.ii_le_f hs5) ?_
              show Steps p.tables e below (s₁.setTop (mkF m 27 #[.val (.int (-k)), .val (.int (0 : Int32)), .val (.int (-100000 : Int32)), .val (.int (5 : Int32))] [])) _
              refine XS.iloadN X0.here hx rfl (hb hby d34_27) rfl ?_
              show Steps p.tables e below (s₁.setTop (mkF m 28 #[.val (.int (-k)), .val (.int (0 : Int32)), .val (.int (-100000 : Int32)), .val (.int (5 : Int32))] [(.int (5 : Int32))])) _
              refine XS.iloadN X0.here hx rfl (hb hby d34_28) rfl ?_
              show Steps p.tables e below (s₁.setTop (mkF m 29 #[.val (.int (-k)), .val (.int (0 : Int32)), .val (.int (-100000 : Int32)), .val (.int (5 : Int32))] [(.int (0 : Int32)), (.int (5 : Int32))])) _
              refine XS.iadd X0.here hx rfl (hb hby d34_29) rfl ?_
              exact kk_)
            rw [show ((5 : Int32) + (0 : Int32)) = (5 : Int32) from by decide +kernel] at S530
            obtain ⟨fs, hr, hrun, hended, hW, hsame⟩ := X0.leave (v := some (.int (5 : Int32))) (fun h => by rw [Bd.returns] at h; cases h)
            refine ⟨_, _, ?_, hrun, hended, _, _, rfl, ?_, ⟨_, rfl⟩, hW, hsame.mono (by decide) (by decide)⟩
            · rw [← hG]; exact S530 _ (retI X0 hx Bd.returns (hb hby d34_30) hr)
            · show Q34 Z k h0 n0 _ s₁.heap _
              rw [e0]
              exact ⟨by simp only [own_dig, hs1, hs2, hs3, hs4, hs5, if_true, if_false], N0, rfl⟩
          · have _ := N0
            have S531 : own_Go p e below s₁ G s₁ (mkF m 35 #[.val (.int (-k)), .val (.int (0 : Int32)), .val (.int (-100000 : Int32)), .val (.int (5 : Int32))] [(.int ((10 : Int32) * (-100000 : Int32)))]) := fun tg_ kk_ => S529 tg_ (by
              refine XS.icmpYes X0.here hx rfl (pc0 := 24) (pc' := 31) rfl (hb hby d34_24) rfl (XT.ii_le_t hs5) (by decide) (by decide) ?_
              show Steps p.tables e below (s₁.setTop (mkF m 31 #[.val (.int (-k)), .val (.int (0 : Int32)), .val (.int (-100000 : Int32)), .val (.int (5 : Int32))] [])) _
              refine XS.bipush X0.here hx rfl (hb hby d34_31) ?_
              show Steps p.tables e below (s₁.setTop (mkF m 33 #[.val (.int (-k)), .val (.int (0 : Int32)), .val (.int (-100000 : Int32)), .val (.int (5 : Int32))] [(.int (10 : Int32))])) _
              refine XS.iloadN X0.here hx rfl (hb hby d34_33) rfl ?_
              show Steps p.tables e below (s₁.setTop (mkF m 34 #[.val (.int (-k)), .val (.int (0 : Int32)), .val (.int (-100000 : Int32)), .val (.int (5 : Int32))] [(.int (-100000 : Int32)), (.int (10 : Int32))])) _
              refine XS.imul X0.here hx rfl (hb hby d34_34) rfl ?_
              exact kk_)
            rw [show ((10 : Int32) * (-100000 : Int32)) = (-1000000 : Int32) from by decide +kernel] at S531
            have S532 : own_Go p e below s₁ G s₁ (mkF m 39 #[.val (.int (-k)), .val (.int (0 : Int32)), .val (.int (-1000000 : Int32)), .val (.int ((5 : Int32) + (1 : Int32)))] []) := fun tg_ kk_ => S531 tg_ (by
              refine XS.istoreN X0.here hx rfl (hb hby d34_35) rfl (l' := #[.val (.int (-k)), .val (.int (0 : Int32)), .val (.int (-1000000 : Int32)), .val (.int (5 : Int32))]) rfl ?_
              show Steps p.tables e below (s₁.setTop (mkF m 36 #[.val (.int (-k)), .val (.int (0 : Int32)), .val (.int (-1000000 : Int32)), .val (.int (5 : Int32))] [])) _
              refine XS.iinc X0.here hx rfl (hb hby d34_36) rfl (l' := #[.val (.int (-k)), .val (.int (0 : Int32)), .val (.int (-1000000 : Int32)), .val (.int ((5 : Int32) + (1 : Int32)))]) rfl ?_
              exact kk_)
            rw [show ((5 : Int32) + (1 : Int32)) = (6 : Int32) from by decide +kernel] at S532
            have S533 : own_Go p e below s₁ G s₁ (mkF m 24 #[.val (.int (-k)), .val (.int (0 : Int32)), .val (.int (-1000000 : Int32)), .val (.int (6 : Int32))] [(.int (-1000000 : Int32)), (.int (-k))]) := fun tg_ kk_ => S532 tg_ (by
              refine XS.goto X0.here hx rfl (pc0 := 39) (pc' := 16) rfl (hb hby d34_39) (by decide) (by decide) ?_
              show Steps p.tables e below (s₁.setTop (mkF m 16 #[.val (.int (-k)), .val (.int (0 : Int32)), .val (.int (-1000000 : Int32)), .val (.int (6 : Int32))] [])) _
              refine XS.iloadN X0.here hx rfl (hb hby d34_16) rfl ?_
              show Steps p.tables e below (s₁.setTop (mkF m 17 #[.val (.int (-k)), .val (.int (0 : Int32)), .val (.int (-1000000 : Int32)), .val (.int (6 : Int32))] [(.int (6 : Int32))])) _
              refine XS.bipush X0.here hx rfl (hb hby d34_17) ?_
              show Steps p.tables e below (s₁.setTop (mkF m 19 #[.val (.int (-k)), .val (.int (0 : Int32)), .val (.int (-1000000 : Int32)), .val (.int (6 : Int32))] [(.int (10 : Int32)), (.int (6 : Int32))])) _
              refine XS.icmpNo X0.here hx rfl (hb hby d34_19) rfl (XT.ii_ge_f (by decide)) ?_
              show Steps p.tables e below (s₁.setTop (mkF m 22 #[.val (.int (-k)), .val (.int (0 : Int32)), .val (.int (-1000000 : Int32)), .val (.int (6 : Int32))] [])) _
              refine XS.iloadN X0.here hx rfl (hb hby d34_22) rfl ?_
              show Steps p.tables e below (s₁.setTop (mkF m 23 #[.val (.int (-k)), .val (.int (0 : Int32)), .val (.int (-1000000 : Int32)), .val (.int (6 : Int32))] [(.int (-k))])) _
              refine XS.iloadN X0.here hx rfl (hb hby d34_23) rfl ?_
              exact kk_)
            by_cases hs6 : (-1000000 : Int32) < (-k)
            · have _ := N0
              have S534 : own_Go p e below s₁ G s₁ (mkF m 30 #[.val (.int (-k)), .val (.int (0 : Int32)), .val (.int (-1000000 : Int32)), .val (.int (6 : Int32))] [(.int ((6 : Int32) + (0 : Int32)))]) := fun tg_ kk_ => S533 tg_ (by
                refine XS.icmpNo X0.here hx rfl (hb hby d34_24) rfl (XT.ii_le_f hs6) ?_
                show Steps p.tables e below (s₁.setTop (mkF m 27 #[.val (.int (-k)), .val (.int (0 : Int32)), .val (.int (-1000000 : Int32)), .val (.int (6 : Int32))] [])) _
                refine XS.iloadN X0.here hx rfl (hb hby d34_27) rfl ?_
                show Steps p.tables e below (s₁.setTop (mkF m 28 #[.val (.int (-k)), .val (.int (0 : Int32)), .val (.int (-1000000 : Int32)), .val (.int (6 : Int32))] [(.int (6 : Int32))])) _
                refine XS.iloadN X0.here hx rfl (hb hby d34_28) rfl ?_
                show Steps p.tables e below (s₁.setTop (mkF m 29 #[.val (.int (-k)), .val (.int (0 : Int32)), .val (.int (-1000000 : Int32)), .val (.int (6 : Int32))] [(.int (0 : Int32)), (.int (6 : Int32))])) _
                refine XS.iadd X0.here hx rfl (hb hby d34_29) rfl ?_
                exact kk_)
              rw [show ((6 : Int32) + (0 : Int32)) = (6 : Int32) from by decide +kernel] at S534
              obtain ⟨fs, hr, hrun, hended, hW, hsame⟩ := X0.leave (v := some (.int (6 : Int32))) (fun h => by rw [Bd.returns] at h; cases h)
              refine ⟨_, _, ?_, hrun, hended, _, _, rfl, ?_, ⟨_, rfl⟩, hW, hsame.mono (by decide) (by decide)⟩
              · rw [← hG]; exact S534 _ (retI X0 hx Bd.returns (hb hby d34_30) hr)
              · show Q34 Z k h0 n0 _ s₁.heap _
                rw [e0]
                exact ⟨by simp only [own_dig, hs1, hs2, hs3, hs4, hs5, hs6, if_true, if_false], N0, rfl⟩
            · have _ := N0
              have S535 : own_Go p e below s₁ G s₁ (mkF m 35 #[.val (.int (-k)), .val (.int (0 : Int32)), .val (.int (-1000000 : Int32)), .val (.int (6 : Int32))] [(.int ((10 : Int32) * (-1000000 : Int32)))]) := fun tg_ kk_ => S533 tg_ (by
                refine XS.icmpYes X0.here hx rfl (pc0 := 24) (pc' := 31) rfl (hb hby d34_24) rfl (XT.ii_le_t hs6) (by decide) (by decide) ?_
                show Steps p.tables e below (s₁.setTop (mkF m 31 #[.val (.int (-k)), .val (.int (0 : Int32)), .val (.int (-1000000 : Int32)), .val (.int (6 : Int32))] [])) _
                refine XS.bipush X0.here hx rfl (hb hby d34_31) ?_
                show Steps p.tables e below (s₁.setTop (mkF m 33 #[.val (.int (-k)), .val (.int (0 : Int32)), .val (.int (-1000000 : Int32)), .val (.int (6 : Int32))] [(.int (10 : Int32))])) _
                refine XS.iloadN X0.here hx rfl (hb hby d34_33) rfl ?_
                show Steps p.tables e below (s₁.setTop (mkF m 34 #[.val (.int (-k)), .val (.int (0 : Int32)), .val (.int (-1000000 : Int32)), .val (.int (6 : Int32))] [(.int (-1000000 : Int32)), (.int (10 : Int32))])) _
                refine XS.imul X0.here hx rfl (hb hby d34_34) rfl ?_
                exact kk_)
              rw [show ((10 : Int32) * (-1000000 : Int32)) = (-10000000 : Int32) from by decide +kernel] at S535
              have S536 : own_Go p e below s₁ G s₁ (mkF m 39 #[.val (.int (-k)), .val (.int (0 : Int32)), .val (.int (-10000000 : Int32)), .val (.int ((6 : Int32) + (1 : Int32)))] []) := fun tg_ kk_ => S535 tg_ (by
                refine XS.istoreN X0.here hx rfl (hb hby d34_35) rfl (l' := #[.val (.int (-k)), .val (.int (0 : Int32)), .val (.int (-10000000 : Int32)), .val (.int (6 : Int32))]) rfl ?_
                show Steps p.tables e below (s₁.setTop (mkF m 36 #[.val (.int (-k)), .val (.int (0 : Int32)), .val (.int (-10000000 : Int32)), .val (.int (6 : Int32))] [])) _
                refine XS.iinc X0.here hx rfl (hb hby d34_36) rfl (l' := #[.val (.int (-k)), .val (.int (0 : Int32)), .val (.int (-10000000 : Int32)), .val (.int ((6 : Int32) + (1 : Int32)))]) rfl ?_
                exact kk_)
              rw [show ((6 : Int32) + (1 : Int32)) = (7 : Int32) from by decide +kernel] at S536
              have S537 : own_Go p e below s₁ G s₁ (mkF m 24 #[.val (.int (-k)), .val (.int (0 : Int32)), .val (.int (-10000000 : Int32)), .val (.int (7 : Int32))] [(.int (-10000000 : Int32)), (.int (-k))]) := fun tg_ kk_ => S536 tg_ (by
                refine XS.goto X0.here hx rfl (pc0 := 39) (pc' := 16) rfl (hb hby d34_39) (by decide) (by decide) ?_
                show Steps p.tables e below (s₁.setTop (mkF m 16 #[.val (.int (-k)), .val (.int (0 : Int32)), .val (.int (-10000000 : Int32)), .val (.int (7 : Int32))] [])) _
                refine XS.iloadN X0.here hx rfl (hb hby d34_16) rfl ?_
                show Steps p.tables e below (s₁.setTop (mkF m 17 #[.val (.int (-k)), .val (.int (0 : Int32)), .val (.int (-10000000 : Int32)), .val (.int (7 : Int32))] [(.int (7 : Int32))])) _
                refine XS.bipush X0.here hx rfl (hb hby d34_17) ?_
                show Steps p.tables e below (s₁.setTop (mkF m 19 #[.val (.int (-k)), .val (.int (0 : Int32)), .val (.int (-10000000 : Int32)), .val (.int (7 : Int32))] [(.int (10 : Int32)), (.int (7 : Int32))])) _
                refine XS.icmpNo X0.here hx rfl (hb hby d34_19) rfl (XT.ii_ge_f (by decide)) ?_
                show Steps p.tables e below (s₁.setTop (mkF m 22 #[.val (.int (-k)), .val (.int (0 : Int32)), .val (.int (-10000000 : Int32)), .val (.int (7 : Int32))] [])) _
                refine XS.iloadN X0.here hx rfl (hb hby d34_22) rfl ?_
                show Steps p.tables e below (s₁.setTop (mkF m 23 #[.val (.int (-k)), .val (.int (0 : Int32)), .val (.int (-10000000 : Int32)), .val (.int (7 : Int32))] [(.int (-k))])) _
                refine XS.iloadN X0.here hx rfl (hb hby d34_23) rfl ?_
                exact kk_)
              by_cases hs7 : (-10000000 : Int32) < (-k)
              · have _ := N0
                have S538 : own_Go p e below s₁ G s₁ (mkF m 30 #[.val (.int (-k)), .val (.int (0 : Int32)), .val (.int (-10000000 : Int32)), .val (.int (7 : Int32))] [(.int ((7 : Int32) + (0 : Int32)))]) := fun tg_ kk_ => S537 tg_ (by
                  refine XS.icmpNo X0.here hx rfl (hb hby d34_24) rfl (XT.ii_le_f hs7) ?_
                  show Steps p.tables e below (s₁.setTop (mkF m 27 #[.val (.int (-k)), .val (.int (0 : Int32)), .val (.int (-10000000 : Int32)), .val (.int (7 : Int32))] [])) _
                  refine XS.iloadN X0.here hx rfl (hb hby d34_27) rfl ?_
                  show Steps p.tables e below (s₁.setTop (mkF m 28 #[.val (.int (-k)), .val (.int (0 : Int32)), .val (.int (-10000000 : Int32)), .val (.int (7 : Int32))] [(.int (7 : Int32))])) _
                  refine XS.iloadN X0.here hx rfl (hb hby d34_28) rfl ?_
                  show Steps p.tables e below (s₁.setTop (mkF m 29 #[.val (.int (-k)), .val (.int (0 : Int32)), .val (.int (-10000000 : Int32)), .val (.int (7 : Int32))] [(.int (0 : Int32)), (.int (7 : Int32))])) _
                  refine XS.iadd X0.here hx rfl (hb hby d34_29) rfl ?_
                  exact kk_)
                rw [show ((7 : Int32) + (0 : Int32)) = (7 : Int32) from by decide +kernel] at S538
                obtain ⟨fs, hr, hrun, hended, hW, hsame⟩ := X0.leave (v := some (.int (7 : Int32))) (fun h => by rw [Bd.returns] at h; cases h)
                refine ⟨_, _, ?_, hrun, hended, _, _, rfl, ?_, ⟨_, rfl⟩, hW, hsame.mono (by decide) (by decide)⟩
                · rw [← hG]; exact S538 _ (retI X0 hx Bd.returns (hb hby d34_30) hr)
                · show Q34 Z k h0 n0 _ s₁.heap _
                  rw [e0]
                  exact ⟨by simp only [own_dig, hs1, hs2, hs3, hs4, hs5, hs6, hs7, if_true, if_false], N0, rfl⟩
              · have _ := N0
                have S539 : own_Go p e below s₁ G s₁ (mkF m 35 #[.val (.int (-k)), .val (.int (0 : Int32)), .val (.int (-10000000 : Int32)), .val (.int (7 : Int32))] [(.int ((10 : Int32) * (-10000000 : Int32)))]) := fun tg_ kk_ => S537 tg_ (by
                  refine XS.icmpYes X0.here hx rfl (pc0 := 24) (pc' := 31) rfl (hb hby d34_24) rfl (XT.ii_le_t hs7) (by decide) (by decide) ?_
                  show Steps p.tables e below (s₁.setTop (mkF m 31 #[.val (.int (-k)), .val (.int (0 : Int32)), .val (.int (-10000000 : Int32)), .val (.int (7 : Int32))] [])) _
                  refine XS.bipush X0.here hx rfl (hb hby d34_31) ?_
                  show Steps p.tables e below (s₁.setTop (mkF m 33 #[.val (.int (-k)), .val (.int (0 : Int32)), .val (.int (-10000000 : Int32)), .val (.int (7 : Int32))] [(.int (10 : Int32))])) _
                  refine XS.iloadN X0.here hx rfl (hb hby d34_33) rfl ?_
                  show Steps p.tables e below (s₁.setTop (mkF m 34 #[.val (.int (-k)), .val (.int (0 : Int32)), .val (.int (-10000000 : Int32)), .val (.int (7 : Int32))] [(.int (-10000000 : Int32)), (.int (10 : Int32))])) _
                  refine XS.imul X0.here hx rfl (hb hby d34_34) rfl ?_
                  exact kk_)
                rw [show ((10 : Int32) * (-10000000 : Int32)) = (-100000000 : Int32) from by decide +kernel] at S539
                have S540 : own_Go p e below s₁ G s₁ (mkF m 39 #[.val (.int (-k)), .val (.int (0 : Int32)), .val (.int (-100000000 : Int32)), .val (.int ((7 : Int32) + (1 : Int32)))] []) := fun tg_ kk_ => S539 tg_ (by
                  refine XS.istoreN X0.here hx rfl (hb hby d34_35) rfl (l' := #[.val (.int (-k)), .val (.int (0 : Int32)), .val (.int (-100000000 : Int32)), .val (.int (7 : Int32))]) rfl ?_
                  show Steps p.tables e below (s₁.setTop (mkF m 36 #[.val (.int (-k)), .val (.int (0 : Int32)), .val (.int (-100000000 : Int32)), .val (.int (7 : Int32))] [])) _
                  refine XS.iinc X0.here hx rfl (hb hby d34_36) rfl (l' := #[.val (.int (-k)), .val (.int (0 : Int32)), .val (.int (-100000000 : Int32)), .val (.int ((7 : Int32) + (1 : Int32)))]) rfl ?_
                  exact kk_)
                rw [show ((7 : Int32) + (1 : Int32)) = (8 : Int32) from by decide +kernel] at S540
                have S541 : own_Go p e below s₁ G s₁ (mkF m 24 #[.val (.int (-k)), .val (.int (0 : Int32)), .val (.int (-100000000 : Int32)), .val (.int (8 : Int32))] [(.int (-100000000 : Int32)), (.int (-k))]) := fun tg_ kk_ => S540 tg_ (by
                  refine XS.goto X0.here hx rfl (pc0 := 39) (pc' := 16) rfl (hb hby d34_39) (by decide) (by decide) ?_
                  show Steps p.tables e below (s₁.setTop (mkF m 16 #[.val (.int (-k)), .val (.int (0 : Int32)), .val (.int (-100000000 : Int32)), .val (.int (8 : Int32))] [])) _
                  refine XS.iloadN X0.here hx rfl (hb hby d34_16) rfl ?_
                  show Steps p.tables e below (s₁.setTop (mkF m 17 #[.val (.int (-k)), .val (.int (0 : Int32)), .val (.int (-100000000 : Int32)), .val (.int (8 : Int32))] [(.int (8 : Int32))])) _
                  refine XS.bipush X0.here hx rfl (hb hby d34_17) ?_
                  show Steps p.tables e below (s₁.setTop (mkF m 19 #[.val (.int (-k)), .val (.int (0 : Int32)), .val (.int (-100000000 : Int32)), .val (.int (8 : Int32))] [(.int (10 : Int32)), (.int (8 : Int32))])) _
                  refine XS.icmpNo X0.here hx rfl (hb hby d34_19) rfl (XT.ii_ge_f (by decide)) ?_
                  show Steps p.tables e below (s₁.setTop (mkF m 22 #[.val (.int (-k)), .val (.int (0 : Int32)), .val (.int (-100000000 : Int32)), .val (.int (8 : Int32))] [])) _
                  refine XS.iloadN X0.here hx rfl (hb hby d34_22) rfl ?_
                  show Steps p.tables e below (s₁.setTop (mkF m 23 #[.val (.int (-k)), .val (.int (0 : Int32)), .val (.int (-100000000 : Int32)), .val (.int (8 : Int32))] [(.int (-k))])) _
                  refine XS.iloadN X0.here hx rfl (hb hby d34_23) rfl ?_
                  exact kk_)
                by_cases hs8 : (-100000000 : Int32) < (-k)
                · have _ := N0
                  have S542 : own_Go p e below s₁ G s₁ (mkF m 30 #[.val (.int (-k)), .val (.int (0 : Int32)), .val (.int (-100000000 : Int32)), .val (.int (8 : Int32))] [(.int ((8 : Int32) + (0 : Int32)))]) := fun tg_ kk_ => S541 tg_ (by
                    refine XS.icmpNo X0.here hx rfl (hb hby d34_24) rfl (XT.ii_le_f hs8) ?_
                    show Steps p.tables e below (s₁.setTop (mkF m 27 #[.val (.int (-k)), .val (.int (0 : Int32)), .val (.int (-100000000 : Int32)), .val (.int (8 : Int32))] [])) _
                    refine XS.iloadN X0.here hx rfl (hb hby d34_27) rfl ?_
                    show Steps p.tables e below (s₁.setTop (mkF m 28 #[.val (.int (-k)), .val (.int (0 : Int32)), .val (.int (-100000000 : Int32)), .val (.int (8 : Int32))] [(.int (8 : Int32))])) _
                    refine XS.iloadN X0.here hx rfl (hb hby d34_28) rfl ?_
                    show Steps p.tables e below (s₁.setTop (mkF m 29 #[.val (.int (-k)), .val (.int (0 : Int32)), .val (.int (-100000000 : Int32)), .val (.int (8 : Int32))] [(.int (0 : Int32)), (.int (8 : Int32))])) _
                    refine XS.iadd X0.here hx rfl (hb hby d34_29) rfl ?_
                    exact kk_)
                  rw [show ((8 : Int32) + (0 : Int32)) = (8 : Int32) from by decide +kernel] at S542
                  obtain ⟨fs, hr, hrun, hended, hW, hsame⟩ := X0.leave (v := some (.int (8 : Int32))) (fun h => by rw [Bd.returns] at h; cases h)
                  refine ⟨_, _, ?_, hrun, hended, _, _, rfl, ?_, ⟨_, rfl⟩, hW, hsame.mono (by decide) (by decide)⟩
                  · rw [← hG]; exact S542 _ (retI X0 hx Bd.returns (hb hby d34_30) hr)
                  · show Q34 Z k h0 n0 _ s₁.heap _
                    rw [e0]
                    exact ⟨by simp only [own_dig, hs1, hs2, hs3, hs4, hs5, hs6, hs7, hs8, if_true, if_false], N0, rfl⟩
                · have _ := N0
                  have S543 : own_Go p e below s₁ G s₁ (mkF m 35 #[.val (.int (-k)), .val (.int (0 : Int32)), .val (.int (-100000000 : Int32)), .val (.int (8 : Int32))] [(.int ((10 : Int32) * (-100000000 : Int32)))]) := fun tg_ kk_ => S541 tg_ (by
                    refine XS.icmpYes X0.here hx rfl (pc0 := 24) (pc' := 31) rfl (hb hby d34_24) rfl (XT.ii_le_t hs8) (by decide) (by decide) ?_
                    show Steps p.tables e below (s₁.setTop (mkF m 31 #[.val (.int (-k)), .val (.int (0 : Int32)), .val (.int (-100000000 : Int32)), .val (.int (8 : Int32))] [])) _
                    refine XS.bipush X0.here hx rfl (hb hby d34_31) ?_
                    show Steps p.tables e below (s₁.setTop (mkF m 33 #[.val (.int (-k)), .val (.int (0 : Int32)), .val (.int (-100000000 : Int32)), .val (.int (8 : Int32))] [(.int (10 : Int32))])) _
                    refine XS.iloadN X0.here hx rfl (hb hby d34_33) rfl ?_
                    show Steps p.tables e below (s₁.setTop (mkF m 34 #[.val (.int (-k)), .val (.int (0 : Int32)), .val (.int (-100000000 : Int32)), .val (.int (8 : Int32))] [(.int (-100000000 : Int32)), (.int (10 : Int32))])) _
                    refine XS.imul X0.here hx rfl (hb hby d34_34) rfl ?_
                    exact kk_)
                  rw [show ((10 : Int32) * (-100000000 : Int32)) = (-1000000000 : Int32) from by decide +kernel] at S543
                  have S544 : own_Go p e below s₁ G s₁ (mkF m 39 #[.val (.int (-k)), .val (.int (0 : Int32)), .val (.int (-1000000000 : Int32)), .val (.int ((8 : Int32) + (1 : Int32)))] []) := fun tg_ kk_ => S543 tg_ (by
                    refine XS.istoreN X0.here hx rfl (hb hby d34_35) rfl (l' := #[.val (.int (-k)), .val (.int (0 : Int32)), .val (.int (-1000000000 : Int32)), .val (.int (8 : Int32))]) rfl ?_
                    show Steps p.tables e below (s₁.setTop (mkF m 36 #[.val (.int (-k)), .val (.int (0 : Int32)), .val (.int (-1000000000 : Int32)), .val (.int (8 : Int32))] [])) _
                    refine XS.iinc X0.here hx rfl (hb hby d34_36) rfl (l' := #[.val (.int (-k)), .val (.int (0 : Int32)), .val (.int (-1000000000 : Int32)), .val (.int ((8 : Int32) + (1 : Int32)))]) rfl ?_
                    exact kk_)
                  rw [show ((8 : Int32) + (1 : Int32)) = (9 : Int32) from by decide +kernel] at S544
                  have S545 : own_Go p e below s₁ G s₁ (mkF m 24 #[.val (.int (-k)), .val (.int (0 : Int32)), .val (.int (-1000000000 : Int32)), .val (.int (9 : Int32))] [(.int (-1000000000 : Int32)), (.int (-k))]) := fun tg_ kk_ => S544 tg_ (by
                    refine XS.goto X0.here hx rfl (pc0 := 39) (pc' := 16) rfl (hb hby d34_39) (by decide) (by decide) ?_
                    show Steps p.tables e below (s₁.setTop (mkF m 16 #[.val (.int (-k)), .val (.int (0 : Int32)), .val (.int (-1000000000 : Int32)), .val (.int (9 : Int32))] [])) _
                    refine XS.iloadN X0.here hx rfl (hb hby d34_16) rfl ?_
                    show Steps p.tables e below (s₁.setTop (mkF m 17 #[.val (.int (-k)), .val (.int (0 : Int32)), .val (.int (-1000000000 : Int32)), .val (.int (9 : Int32))] [(.int (9 : Int32))])) _
                    refine XS.bipush X0.here hx rfl (hb hby d34_17) ?_
                    show Steps p.tables e below (s₁.setTop (mkF m 19 #[.val (.int (-k)), .val (.int (0 : Int32)), .val (.int (-1000000000 : Int32)), .val (.int (9 : Int32))] [(.int (10 : Int32)), (.int (9 : Int32))])) _
                    refine XS.icmpNo X0.here hx rfl (hb hby d34_19) rfl (XT.ii_ge_f (by decide)) ?_
                    show Steps p.tables e below (s₁.setTop (mkF m 22 #[.val (.int (-k)), .val (.int (0 : Int32)), .val (.int (-1000000000 : Int32)), .val (.int (9 : Int32))] [])) _
                    refine XS.iloadN X0.here hx rfl (hb hby d34_22) rfl ?_
                    show Steps p.tables e below (s₁.setTop (mkF m 23 #[.val (.int (-k)), .val (.int (0 : Int32)), .val (.int (-1000000000 : Int32)), .val (.int (9 : Int32))] [(.int (-k))])) _
                    refine XS.iloadN X0.here hx rfl (hb hby d34_23) rfl ?_
                    exact kk_)
                  by_cases hs9 : (-1000000000 : Int32) < (-k)
                  · have _ := N0
                    have S546 : own_Go p e below s₁ G s₁ (mkF m 30 #[.val (.int (-k)), .val (.int (0 : Int32)), .val (.int (-1000000000 : Int32)), .val (.int (9 : Int32))] [(.int ((9 : Int32) + (0 : Int32)))]) := fun tg_ kk_ => S545 tg_ (by
                      refine XS.icmpNo X0.here hx rfl (hb hby d34_24) rfl (XT.ii_le_f hs9) ?_
                      show Steps p.tables e below (s₁.setTop (mkF m 27 #[.val (.int (-k)), .val (.int (0 : Int32)), .val (.int (-1000000000 : Int32)), .val (.int (9 : Int32))] [])) _
                      refine XS.iloadN X0.here hx rfl (hb hby d34_27) rfl ?_
                      show Steps p.tables e below (s₁.setTop (mkF m 28 #[.val (.int (-k)), .val (.int (0 : Int32)), .val (.int (-1000000000 : Int32)), .val (.int (9 : Int32))] [(.int (9 : Int32))])) _
                      refine XS.iloadN X0.here hx rfl (hb hby d34_28) rfl ?_
                      show Steps p.tables e below (s₁.setTop (mkF m 29 #[.val (.int (-k)), .val (.int (0 : Int32)), .val (.int (-1000000000 : Int32)), .val (.int (9 : Int32))] [(.int (0 : Int32)), (.int (9 : Int32))])) _
                      refine XS.iadd X0.here hx rfl (hb hby d34_29) rfl ?_
                      exact kk_)
                    rw [show ((9 : Int32) + (0 : Int32)) = (9 : Int32) from by decide +kernel] at S546
                    obtain ⟨fs, hr, hrun, hended, hW, hsame⟩ := X0.leave (v := some (.int (9 : Int32))) (fun h => by rw [Bd.returns] at h; cases h)
                    refine ⟨_, _, ?_, hrun, hended, _, _, rfl, ?_, ⟨_, rfl⟩, hW, hsame.mono (by decide) (by decide)⟩
                    · rw [← hG]; exact S546 _ (retI X0 hx Bd.returns (hb hby d34_30) hr)
                    · show Q34 Z k h0 n0 _ s₁.heap _
                      rw [e0]
                      exact ⟨by simp only [own_dig, hs1, hs2, hs3, hs4, hs5, hs6, hs7, hs8, hs9, if_true, if_false], N0, rfl⟩
                  · have _ := N0
                    have S547 : own_Go p e below s₁ G s₁ (mkF m 35 #[.val (.int (-k)), .val (.int (0 : Int32)), .val (.int (-1000000000 : Int32)), .val (.int (9 : Int32))] [(.int ((10 : Int32) * (-1000000000 : Int32)))]) := fun tg_ kk_ => S545 tg_ (by
                      refine XS.icmpYes X0.here hx rfl (pc0 := 24) (pc' := 31) rfl (hb hby d34_24) rfl (XT.ii_le_t hs9) (by decide) (by decide) ?_
                      show Steps p.tables e below (s₁.setTop (mkF m 31 #[.val (.int (-k)), .val (.int (0 : Int32)), .val (.int (-1000000000 : Int32)), .val (.int (9 : Int32))] [])) _
                      refine XS.bipush X0.here hx rfl (hb hby d34_31) ?_
                      show Steps p.tables e below (s₁.setTop (mkF m 33 #[.val (.int (-k)), .val (.int (0 : Int32)), .val (.int (-1000000000 : Int32)), .val (.int (9 : Int32))] [(.int (10 : Int32))])) _
                      refine XS.iloadN X0.here hx rfl (hb hby d34_33) rfl ?_
                      show Steps p.tables e below (s₁.setTop (mkF m 34 #[.val (.int (-k)), .val (.int (0 : Int32)), .val (.int (-1000000000 : Int32)), .val (.int (9 : Int32))] [(.int (-1000000000 : Int32)), (.int (10 : Int32))])) _
                      refine XS.imul X0.here hx rfl (hb hby d34_34) rfl ?_
                      exact kk_)
                    rw [show ((10 : Int32) * (-1000000000 : Int32)) = (-1410065408 : Int32) from by decide +kernel] at S547
                    have S548 : own_Go p e below s₁ G s₁ (mkF m 39 #[.val (.int (-k)), .val (.int (0 : Int32)), .val (.int (-1410065408 : Int32)), .val (.int ((9 : Int32) + (1 : Int32)))] []) := fun tg_ kk_ => S547 tg_ (by
                      refine XS.istoreN X0.here hx rfl (hb hby d34_35) rfl (l' := #[.val (.int (-k)), .val (.int (0 : Int32)), .val (.int (-1410065408 : Int32)), .val (.int (9 : Int32))]) rfl ?_
                      show Steps p.tables e below (s₁.setTop (mkF m 36 #[.val (.int (-k)), .val (.int (0 : Int32)), .val (.int (-1410065408 : Int32)), .val (.int (9 : Int32))] [])) _
                      refine XS.iinc X0.here hx rfl (hb hby d34_36) rfl (l' := #[.val (.int (-k)), .val (.int (0 : Int32)), .val (.int (-1410065408 : Int32)), .val (.int ((9 : Int32) + (1 : Int32)))]) rfl ?_
                      exact kk_)
                    rw [show ((9 : Int32) + (1 : Int32)) = (10 : Int32) from by decide +kernel] at S548
                    have S549 : own_Go p e below s₁ G s₁ (mkF m 46 #[.val (.int (-k)), .val (.int (0 : Int32)), .val (.int (-1410065408 : Int32)), .val (.int (10 : Int32))] [(.int ((10 : Int32) + (0 : Int32)))]) := fun tg_ kk_ => S548 tg_ (by
                      refine XS.goto X0.here hx rfl (pc0 := 39) (pc' := 16) rfl (hb hby d34_39) (by decide) (by decide) ?_
                      show Steps p.tables e below (s₁.setTop (mkF m 16 #[.val (.int (-k)), .val (.int (0 : Int32)), .val (.int (-1410065408 : Int32)), .val (.int (10 : Int32))] [])) _
                      refine XS.iloadN X0.here hx rfl (hb hby d34_16) rfl ?_
                      show Steps p.tables e below (s₁.setTop (mkF m 17 #[.val (.int (-k)), .val (.int (0 : Int32)), .val (.int (-1410065408 : Int32)), .val (.int (10 : Int32))] [(.int (10 : Int32))])) _
                      refine XS.bipush X0.here hx rfl (hb hby d34_17) ?_
                      show Steps p.tables e below (s₁.setTop (mkF m 19 #[.val (.int (-k)), .val (.int (0 : Int32)), .val (.int (-1410065408 : Int32)), .val (.int (10 : Int32))] [(.int (10 : Int32)), (.int (10 : Int32))])) _
                      refine XS.icmpYes X0.here hx rfl (pc0 := 19) (pc' := 42) rfl (hb hby d34_19) rfl (XT.ii_ge_t (by decide)) (by decide) (by decide) ?_
                      show Steps p.tables e below (s₁.setTop (mkF m 42 #[.val (.int (-k)), .val (.int (0 : Int32)), .val (.int (-1410065408 : Int32)), .val (.int (10 : Int32))] [])) _
                      refine XS.bipush X0.here hx rfl (hb hby d34_42) ?_
                      show Steps p.tables e below (s₁.setTop (mkF m 44 #[.val (.int (-k)), .val (.int (0 : Int32)), .val (.int (-1410065408 : Int32)), .val (.int (10 : Int32))] [(.int (10 : Int32))])) _
                      refine XS.iloadN X0.here hx rfl (hb hby d34_44) rfl ?_
                      show Steps p.tables e below (s₁.setTop (mkF m 45 #[.val (.int (-k)), .val (.int (0 : Int32)), .val (.int (-1410065408 : Int32)), .val (.int (10 : Int32))] [(.int (0 : Int32)), (.int (10 : Int32))])) _
                      refine XS.iadd X0.here hx rfl (hb hby d34_45) rfl ?_
                      exact kk_)
                    rw [show ((10 : Int32) + (0 : Int32)) = (10 : Int32) from by decide +kernel] at S549
                    obtain ⟨fs, hr, hrun, hended, hW, hsame⟩ := X0.leave (v := some (.int (10 : Int32))) (fun h => by rw [Bd.returns] at h; cases h)
                    refine ⟨_, _, ?_, hrun, hended, _, _, rfl, ?_, ⟨_, rfl⟩, hW, hsame.mono (by decide) (by decide)⟩
                    · rw [← hG]; exact S549 _ (retI X0 hx Bd.returns (hb hby d34_46) hr)
                    · show Q34 Z k h0 n0 _ s₁.heap _
                      rw [e0]
                      exact ⟨by simp only [own_dig, hs1, hs2, hs3, hs4, hs5, hs6, hs7, hs8, hs9, if_true, if_false], N0, rfl⟩
theorem pn12 : plainName "com/example/provenans/provenans/model/NotationOfPinLaw" = true := by first | (simp [plainName, overriddenIn]; done) | decide +kernel
def Q37 (Z : State) (k : Int32) (h0 : Heap) (n0 : Nat) (v : Option Value) (h : Heap) (L : List Loc) : Prop := v = some (.int (own_dig2 k)) ∧ Fr n0 L ∧ h0 = h
set_option maxRecDepth 65536 in
set_option maxHeartbeats 40000000 in
theorem rm37 (l : Launch) (Z : State) (a0 : Array Value) (hw : ∀ d ∈ tables_1, d.before a0 Z = true) (ws : List Jvm.Cond) (k : Int32) (h0 : Heap) (n0 : Nat) (Z0 : n0 ≤ h0.size)  :
    MetFree l (⟨"com/example/provenans/provenans/model/NotationOfPinLaw", "digits", "(I)I"⟩ : MethodName) (head1 (Jvm.Cond.code (⟨"com/example/provenans/provenans/model/NotationOfPinLaw", "digits", "(I)I"⟩ : MethodName) method_2_code 1 (some .int) :: ws) ({ frames := 0, cells := 0, slots := 0, locals := 0 } : Room)) (fun aa_ U => aa_ = #[(.int k)] ∧ Z.Warmed39 U.vm ∧ U.heap = h0) (fun _ _ _ _ _ => True) (fun _ U o U' => ∃ v L, o = .returned v ∧ Q37 Z k h0 n0 v U'.heap L ∧ FrameEnd U o U' L ({ frames := 0, cells := 0, slots := 0, locals := 0 } : Room).cells ({ frames := 0, cells := 0, slots := 0, locals := 0 } : Room).slots) := by
  refine MetFree.of_bodySF (plainFor_of_name pn12) hisR ?_
  intro p e s m args below meth c s₁ Bd hml0 hP hK
  obtain ⟨rfl, hZ, hh⟩ := hP
  have hx := Bd.exec
  have hby := Bd.bytes
  have hml : c.maxLocals = 1 := hml0
  have hown : s.vm.findClass "com/example/provenans/provenans/model/NotationOfPinLaw" = some m.cls := findClass_of_methodNamed Bd.named
  have hnm := (name_of_methodNamed Bd.named Bd.method).1
  have X0 : Stand p l e ({ frames := 0, cells := 0, slots := 0, locals := 0 } : Room) s m #[(.int k)] below meth c s₁ [] 0 0 := Stand.of_body Bd
  have e0 : s₁.heap = h0 := by rw [← hh, Bd.state]; rfl
  have N0 := Fr.nil n0
  obtain ⟨G, hG⟩ : ∃ G, G = entryFrame m #[(.int k)] 1 := ⟨_, rfl⟩
  have S0 : own_Go p e below s₁ G s₁ (mkF m 0 #[.val (.int k)] []) := fun tg_ kk_ => castTop (by rw [hG]; first | rfl | simp [entryFrame, mkF, argsToLocals, Value.category, maxLocals]) kk_
  have S550 : own_Go p e below s₁ G s₁ (mkF m 3 #[.val (.int k)] [(.int (10 : Int32)), (.int k)]) := fun tg_ kk_ => S0 tg_ (by
    refine XS.iloadN X0.here hx rfl (hb hby d37_0) rfl ?_
    show Steps p.tables e below (s₁.setTop (mkF m 1 #[.val (.int k)] [(.int k)])) _
    refine XS.bipush X0.here hx rfl (hb hby d37_1) ?_
    exact kk_)
  by_cases hc551 : k < (10 : Int32)
  · have _ := N0
    have S552 : own_Go p e below s₁ G s₁ (mkF m 7 #[.val (.int k)] [(.int (1 : Int32))]) := fun tg_ kk_ => S550 tg_ (by
      refine XS.icmpNo X0.here hx rfl (hb hby d37_3) rfl (XT.ii_ge_f hc551) ?_
      show Steps p.tables e below (s₁.setTop (mkF m 6 #[.val (.int k)] [])) _
      refine XS.iconst X0.here hx rfl (hb hby d37_6) ?_
      exact kk_)
    obtain ⟨fs, hr, hrun, hended, hW, hsame⟩ := X0.leave (v := some (.int (1 : Int32))) (fun h => by rw [Bd.returns] at h; cases h)
    refine ⟨_, _, ?_, hrun, hended, _, _, rfl, ?_, ⟨_, rfl⟩, hW, hsame.mono (by decide) (by decide)⟩
    · rw [← hG]; exact S552 _ (retI X0 hx Bd.returns (hb hby d37_7) hr)
    · show Q37 Z k h0 n0 _ s₁.heap _
      rw [e0]
      exact ⟨by simp only [own_dig2, hc551, if_true, if_false], N0, rfl⟩
  · have _ := N0
    have S553 : own_Go p e below s₁ G s₁ (mkF m 11 #[.val (.int k)] [(.int (100 : Int32)), (.int k)]) := fun tg_ kk_ => S550 tg_ (by
      refine XS.icmpYes X0.here hx rfl (pc0 := 3) (pc' := 8) rfl (hb hby d37_3) rfl (XT.ii_ge_t hc551) (by decide) (by decide) ?_
      show Steps p.tables e below (s₁.setTop (mkF m 8 #[.val (.int k)] [])) _
      refine XS.iloadN X0.here hx rfl (hb hby d37_8) rfl ?_
      show Steps p.tables e below (s₁.setTop (mkF m 9 #[.val (.int k)] [(.int k)])) _
      refine XS.bipush X0.here hx rfl (hb hby d37_9) ?_
      exact kk_)
    by_cases hc554 : k < (100 : Int32)
    · have _ := N0
      have S555 : own_Go p e below s₁ G s₁ (mkF m 15 #[.val (.int k)] [(.int (2 : Int32))]) := fun tg_ kk_ => S553 tg_ (by
        refine XS.icmpNo X0.here hx rfl (hb hby d37_11) rfl (XT.ii_ge_f hc554) ?_
        show Steps p.tables e below (s₁.setTop (mkF m 14 #[.val (.int k)] [])) _
        refine XS.iconst X0.here hx rfl (hb hby d37_14) ?_
        exact kk_)
      obtain ⟨fs, hr, hrun, hended, hW, hsame⟩ := X0.leave (v := some (.int (2 : Int32))) (fun h => by rw [Bd.returns] at h; cases h)
      refine ⟨_, _, ?_, hrun, hended, _, _, rfl, ?_, ⟨_, rfl⟩, hW, hsame.mono (by decide) (by decide)⟩
      · rw [← hG]; exact S555 _ (retI X0 hx Bd.returns (hb hby d37_15) hr)
      · show Q37 Z k h0 n0 _ s₁.heap _
        rw [e0]
        exact ⟨by simp only [own_dig2, hc551, hc554, if_true, if_false], N0, rfl⟩
    · have _ := N0
      have S556 : own_Go p e below s₁ G s₁ (mkF m 20 #[.val (.int k)] [(.int (1000 : Int32)), (.int k)]) := fun tg_ kk_ => S553 tg_ (by
        refine XS.icmpYes X0.here hx rfl (pc0 := 11) (pc' := 16) rfl (hb hby d37_11) rfl (XT.ii_ge_t hc554) (by decide) (by decide) ?_
        show Steps p.tables e below (s₁.setTop (mkF m 16 #[.val (.int k)] [])) _
        refine XS.iloadN X0.here hx rfl (hb hby d37_16) rfl ?_
        show Steps p.tables e below (s₁.setTop (mkF m 17 #[.val (.int k)] [(.int k)])) _
        refine XS.sipush X0.here hx rfl (hb hby d37_17) ?_
        exact kk_)
      by_cases hc557 : k < (1000 : Int32)
      · have _ := N0
        have S558 : own_Go p e below s₁ G s₁ (mkF m 24 #[.val (.int k)] [(.int (3 : Int32))]) := fun tg_ kk_ => S556 tg_ (by
          refine XS.icmpNo X0.here hx rfl (hb hby d37_20) rfl (XT.ii_ge_f hc557) ?_
          show Steps p.tables e below (s₁.setTop (mkF m 23 #[.val (.int k)] [])) _
          refine XS.iconst X0.here hx rfl (hb hby d37_23) ?_
          exact kk_)
        obtain ⟨fs, hr, hrun, hended, hW, hsame⟩ := X0.leave (v := some (.int (3 : Int32))) (fun h => by rw [Bd.returns] at h; cases h)
        refine ⟨_, _, ?_, hrun, hended, _, _, rfl, ?_, ⟨_, rfl⟩, hW, hsame.mono (by decide) (by decide)⟩
        · rw [← hG]; exact S558 _ (retI X0 hx Bd.returns (hb hby d37_24) hr)
        · show Q37 Z k h0 n0 _ s₁.heap _
          rw [e0]
          exact ⟨by simp only [own_dig2, hc551, hc554, hc557, if_true, if_false], N0, rfl⟩
      · have _ := N0
        have S559 : own_Go p e below s₁ G s₁ (mkF m 29 #[.val (.int k)] [(.int (10000 : Int32)), (.int k)]) := fun tg_ kk_ => S556 tg_ (by
          refine XS.icmpYes X0.here hx rfl (pc0 := 20) (pc' := 25) rfl (hb hby d37_20) rfl (XT.ii_ge_t hc557) (by decide) (by decide) ?_
          show Steps p.tables e below (s₁.setTop (mkF m 25 #[.val (.int k)] [])) _
          refine XS.iloadN X0.here hx rfl (hb hby d37_25) rfl ?_
          show Steps p.tables e below (s₁.setTop (mkF m 26 #[.val (.int k)] [(.int k)])) _
          refine XS.sipush X0.here hx rfl (hb hby d37_26) ?_
          exact kk_)
        by_cases hc560 : k < (10000 : Int32)
        · have _ := N0
          have S561 : own_Go p e below s₁ G s₁ (mkF m 33 #[.val (.int k)] [(.int (4 : Int32))]) := fun tg_ kk_ => S559 tg_ (by
            refine XS.icmpNo X0.here hx rfl (hb hby d37_29) rfl (XT.ii_ge_f hc560) ?_
            show Steps p.tables e below (s₁.setTop (mkF m 32 #[.val (.int k)] [])) _
            refine XS.iconst X0.here hx rfl (hb hby d37_32) ?_
            exact kk_)
          obtain ⟨fs, hr, hrun, hended, hW, hsame⟩ := X0.leave (v := some (.int (4 : Int32))) (fun h => by rw [Bd.returns] at h; cases h)
          refine ⟨_, _, ?_, hrun, hended, _, _, rfl, ?_, ⟨_, rfl⟩, hW, hsame.mono (by decide) (by decide)⟩
          · rw [← hG]; exact S561 _ (retI X0 hx Bd.returns (hb hby d37_33) hr)
          · show Q37 Z k h0 n0 _ s₁.heap _
            rw [e0]
            exact ⟨by simp only [own_dig2, hc551, hc554, hc557, hc560, if_true, if_false], N0, rfl⟩
        · have _ := N0
          have S562 : own_Go p e below s₁ G s₁ (mkF m 37 #[.val (.int k)] [(.int (100000 : Int32)), (.int k)]) := fun tg_ kk_ => S559 tg_ (by
            refine XS.icmpYes X0.here hx rfl (pc0 := 29) (pc' := 34) rfl (hb hby d37_29) rfl (XT.ii_ge_t hc560) (by decide) (by decide) ?_
            show Steps p.tables e below (s₁.setTop (mkF m 34 #[.val (.int k)] [])) _
            refine XS.iloadN X0.here hx rfl (hb hby d37_34) rfl ?_
            show Steps p.tables e below (s₁.setTop (mkF m 35 #[.val (.int k)] [(.int k)])) _
            refine X0.ldcInt hx hown (mvT hZ (hw _ (List.mem_of_getElem? (i := 307) rfl))) (g := (mkF m 35 #[.val (.int k)] [(.int k)])) rfl (hb hby d37_35) _ ?_
            exact kk_)
          by_cases hc563 : k < (100000 : Int32)
          · have _ := N0
            have S564 : own_Go p e below s₁ G s₁ (mkF m 41 #[.val (.int k)] [(.int (5 : Int32))]) := fun tg_ kk_ => S562 tg_ (by
              refine XS.icmpNo X0.here hx rfl (hb hby d37_37) rfl (XT.ii_ge_f hc563) ?_
              show Steps p.tables e below (s₁.setTop (mkF m 40 #[.val (.int k)] [])) _
              refine XS.iconst X0.here hx rfl (hb hby d37_40) ?_
              exact kk_)
            obtain ⟨fs, hr, hrun, hended, hW, hsame⟩ := X0.leave (v := some (.int (5 : Int32))) (fun h => by rw [Bd.returns] at h; cases h)
            refine ⟨_, _, ?_, hrun, hended, _, _, rfl, ?_, ⟨_, rfl⟩, hW, hsame.mono (by decide) (by decide)⟩
            · rw [← hG]; exact S564 _ (retI X0 hx Bd.returns (hb hby d37_41) hr)
            · show Q37 Z k h0 n0 _ s₁.heap _
              rw [e0]
              exact ⟨by simp only [own_dig2, hc551, hc554, hc557, hc560, hc563, if_true, if_false], N0, rfl⟩
          · have _ := N0
            have S565 : own_Go p e below s₁ G s₁ (mkF m 45 #[.val (.int k)] [(.int (1000000 : Int32)), (.int k)]) := fun tg_ kk_ => S562 tg_ (by
              refine XS.icmpYes X0.here hx rfl (pc0 := 37) (pc' := 42) rfl (hb hby d37_37) rfl (XT.ii_ge_t hc563) (by decide) (by decide) ?_
              show Steps p.tables e below (s₁.setTop (mkF m 42 #[.val (.int k)] [])) _
              refine XS.iloadN X0.here hx rfl (hb hby d37_42) rfl ?_
              show Steps p.tables e below (s₁.setTop (mkF m 43 #[.val (.int k)] [(.int k)])) _
              refine X0.ldcInt hx hown (mvT hZ (hw _ (List.mem_of_getElem? (i := 308) rfl))) (g := (mkF m 43 #[.val (.int k)] [(.int k)])) rfl (hb hby d37_43) _ ?_
              exact kk_)
            by_cases hc566 : k < (1000000 : Int32)
            · have _ := N0
              have S567 : own_Go p e below s₁ G s₁ (mkF m 50 #[.val (.int k)] [(.int (6 : Int32))]) := fun tg_ kk_ => S565 tg_ (by
                refine XS.icmpNo X0.here hx rfl (hb hby d37_45) rfl (XT.ii_ge_f hc566) ?_
                show Steps p.tables e below (s₁.setTop (mkF m 48 #[.val (.int k)] [])) _
                refine XS.bipush X0.here hx rfl (hb hby d37_48) ?_
                exact kk_)
              obtain ⟨fs, hr, hrun, hended, hW, hsame⟩ := X0.leave (v := some (.int (6 : Int32))) (fun h => by rw [Bd.returns] at h; cases h)
              refine ⟨_, _, ?_, hrun, hended, _, _, rfl, ?_, ⟨_, rfl⟩, hW, hsame.mono (by decide) (by decide)⟩
              · rw [← hG]; exact S567 _ (retI X0 hx Bd.returns (hb hby d37_50) hr)
              · show Q37 Z k h0 n0 _ s₁.heap _
                rw [e0]
                exact ⟨by simp only [own_dig2, hc551, hc554, hc557, hc560, hc563, hc566, if_true, if_false], N0, rfl⟩
            · have _ := N0
              have S568 : own_Go p e below s₁ G s₁ (mkF m 54 #[.val (.int k)] [(.int (10000000 : Int32)), (.int k)]) := fun tg_ kk_ => S565 tg_ (by
                refine XS.icmpYes X0.here hx rfl (pc0 := 45) (pc' := 51) rfl (hb hby d37_45) rfl (XT.ii_ge_t hc566) (by decide) (by decide) ?_
                show Steps p.tables e below (s₁.setTop (mkF m 51 #[.val (.int k)] [])) _
                refine XS.iloadN X0.here hx rfl (hb hby d37_51) rfl ?_
                show Steps p.tables e below (s₁.setTop (mkF m 52 #[.val (.int k)] [(.int k)])) _
                refine X0.ldcInt hx hown (mvT hZ (hw _ (List.mem_of_getElem? (i := 309) rfl))) (g := (mkF m 52 #[.val (.int k)] [(.int k)])) rfl (hb hby d37_52) _ ?_
                exact kk_)
              by_cases hc569 : k < (10000000 : Int32)
              · have _ := N0
                have S570 : own_Go p e below s₁ G s₁ (mkF m 59 #[.val (.int k)] [(.int (7 : Int32))]) := fun tg_ kk_ => S568 tg_ (by
                  refine XS.icmpNo X0.here hx rfl (hb hby d37_54) rfl (XT.ii_ge_f hc569) ?_
                  show Steps p.tables e below (s₁.setTop (mkF m 57 #[.val (.int k)] [])) _
                  refine XS.bipush X0.here hx rfl (hb hby d37_57) ?_
                  exact kk_)
                obtain ⟨fs, hr, hrun, hended, hW, hsame⟩ := X0.leave (v := some (.int (7 : Int32))) (fun h => by rw [Bd.returns] at h; cases h)
                refine ⟨_, _, ?_, hrun, hended, _, _, rfl, ?_, ⟨_, rfl⟩, hW, hsame.mono (by decide) (by decide)⟩
                · rw [← hG]; exact S570 _ (retI X0 hx Bd.returns (hb hby d37_59) hr)
                · show Q37 Z k h0 n0 _ s₁.heap _
                  rw [e0]
                  exact ⟨by simp only [own_dig2, hc551, hc554, hc557, hc560, hc563, hc566, hc569, if_true, if_false], N0, rfl⟩
              · have _ := N0
                have S571 : own_Go p e below s₁ G s₁ (mkF m 63 #[.val (.int k)] [(.int (100000000 : Int32)), (.int k)]) := fun tg_ kk_ => S568 tg_ (by
                  refine XS.icmpYes X0.here hx rfl (pc0 := 54) (pc' := 60) rfl (hb hby d37_54) rfl (XT.ii_ge_t hc569) (by decide) (by decide) ?_
                  show Steps p.tables e below (s₁.setTop (mkF m 60 #[.val (.int k)] [])) _
                  refine XS.iloadN X0.here hx rfl (hb hby d37_60) rfl ?_
                  show Steps p.tables e below (s₁.setTop (mkF m 61 #[.val (.int k)] [(.int k)])) _
                  refine X0.ldcInt hx hown (mvT hZ (hw _ (List.mem_of_getElem? (i := 310) rfl))) (g := (mkF m 61 #[.val (.int k)] [(.int k)])) rfl (hb hby d37_61) _ ?_
                  exact kk_)
                by_cases hc572 : k < (100000000 : Int32)
                · have _ := N0
                  have S573 : own_Go p e below s₁ G s₁ (mkF m 68 #[.val (.int k)] [(.int (8 : Int32))]) := fun tg_ kk_ => S571 tg_ (by
                    refine XS.icmpNo X0.here hx rfl (hb hby d37_63) rfl (XT.ii_ge_f hc572) ?_
                    show Steps p.tables e below (s₁.setTop (mkF m 66 #[.val (.int k)] [])) _
                    refine XS.bipush X0.here hx rfl (hb hby d37_66) ?_
                    exact kk_)
                  obtain ⟨fs, hr, hrun, hended, hW, hsame⟩ := X0.leave (v := some (.int (8 : Int32))) (fun h => by rw [Bd.returns] at h; cases h)
                  refine ⟨_, _, ?_, hrun, hended, _, _, rfl, ?_, ⟨_, rfl⟩, hW, hsame.mono (by decide) (by decide)⟩
                  · rw [← hG]; exact S573 _ (retI X0 hx Bd.returns (hb hby d37_68) hr)
                  · show Q37 Z k h0 n0 _ s₁.heap _
                    rw [e0]
                    exact ⟨by simp only [own_dig2, hc551, hc554, hc557, hc560, hc563, hc566, hc569, hc572, if_true, if_false], N0, rfl⟩
                · have _ := N0
                  have S574 : own_Go p e below s₁ G s₁ (mkF m 72 #[.val (.int k)] [(.int (1000000000 : Int32)), (.int k)]) := fun tg_ kk_ => S571 tg_ (by
                    refine XS.icmpYes X0.here hx rfl (pc0 := 63) (pc' := 69) rfl (hb hby d37_63) rfl (XT.ii_ge_t hc572) (by decide) (by decide) ?_
                    show Steps p.tables e below (s₁.setTop (mkF m 69 #[.val (.int k)] [])) _
                    refine XS.iloadN X0.here hx rfl (hb hby d37_69) rfl ?_
                    show Steps p.tables e below (s₁.setTop (mkF m 70 #[.val (.int k)] [(.int k)])) _
                    refine X0.ldcInt hx hown (mvT hZ (hw _ (List.mem_of_getElem? (i := 311) rfl))) (g := (mkF m 70 #[.val (.int k)] [(.int k)])) rfl (hb hby d37_70) _ ?_
                    exact kk_)
                  by_cases hc575 : k < (1000000000 : Int32)
                  · have _ := N0
                    have S576 : own_Go p e below s₁ G s₁ (mkF m 77 #[.val (.int k)] [(.int (9 : Int32))]) := fun tg_ kk_ => S574 tg_ (by
                      refine XS.icmpNo X0.here hx rfl (hb hby d37_72) rfl (XT.ii_ge_f hc575) ?_
                      show Steps p.tables e below (s₁.setTop (mkF m 75 #[.val (.int k)] [])) _
                      refine XS.bipush X0.here hx rfl (hb hby d37_75) ?_
                      exact kk_)
                    obtain ⟨fs, hr, hrun, hended, hW, hsame⟩ := X0.leave (v := some (.int (9 : Int32))) (fun h => by rw [Bd.returns] at h; cases h)
                    refine ⟨_, _, ?_, hrun, hended, _, _, rfl, ?_, ⟨_, rfl⟩, hW, hsame.mono (by decide) (by decide)⟩
                    · rw [← hG]; exact S576 _ (retI X0 hx Bd.returns (hb hby d37_77) hr)
                    · show Q37 Z k h0 n0 _ s₁.heap _
                      rw [e0]
                      exact ⟨by simp only [own_dig2, hc551, hc554, hc557, hc560, hc563, hc566, hc569, hc572, hc575, if_true, if_false], N0, rfl⟩
                  · have _ := N0
                    have S577 : own_Go p e below s₁ G s₁ (mkF m 80 #[.val (.int k)] [(.int (10 : Int32))]) := fun tg_ kk_ => S574 tg_ (by
                      refine XS.icmpYes X0.here hx rfl (pc0 := 72) (pc' := 78) rfl (hb hby d37_72) rfl (XT.ii_ge_t hc575) (by decide) (by decide) ?_
                      show Steps p.tables e below (s₁.setTop (mkF m 78 #[.val (.int k)] [])) _
                      refine XS.bipush X0.here hx rfl (hb hby d37_78) ?_
                      exact kk_)
                    obtain ⟨fs, hr, hrun, hended, hW, hsame⟩ := X0.leave (v := some (.int (10 : Int32))) (fun h => by rw [Bd.returns] at h; cases h)
                    refine ⟨_, _, ?_, hrun, hended, _, _, rfl, ?_, ⟨_, rfl⟩, hW, hsame.mono (by decide) (by decide)⟩
                    · rw [← hG]; exact S577 _ (retI X0 hx Bd.returns (hb hby d37_80) hr)
                    · show Q37 Z k h0 n0 _ s₁.heap _
                      rw [e0]
                      exact ⟨by simp only [own_dig2, hc551, hc554, hc557, hc560, hc563, hc566, hc569, hc572, hc575, if_true, if_false], N0, rfl⟩
def Q45 (Z : State) (n : Nat) (h0 : Heap) (n0 : Nat) (v : Option Value) (h : Heap) (L : List Loc) : Prop := v = some (.int (Int32.ofNat (10 ^ (n - 1)))) ∧ Fr n0 L ∧ h0 = h
set_option maxRecDepth 65536 in
set_option maxHeartbeats 40000000 in
theorem rm45 (l : Launch) (Z : State) (a0 : Array Value) (hw : ∀ d ∈ tables_1, d.before a0 Z = true) (ws : List Jvm.Cond) (n : Nat) (h0 : Heap) (n0 : Nat) (Z0 : n0 ≤ h0.size) (hn : 1 ≤ n ∧ n ≤ 10) :
    MetFree l (⟨"com/example/provenans/provenans/model/NotationOfPinLaw", "pow10", "(I)I"⟩ : MethodName) (head1 (Jvm.Cond.code (⟨"com/example/provenans/provenans/model/NotationOfPinLaw", "pow10", "(I)I"⟩ : MethodName) method_3_code 1 (some .int) :: ws) ({ frames := 0, cells := 0, slots := 0, locals := 0 } : Room)) (fun aa_ U => aa_ = #[(.int (Int32.ofNat n))] ∧ Z.Warmed39 U.vm ∧ U.heap = h0) (fun _ _ _ _ _ => True) (fun _ U o U' => ∃ v L, o = .returned v ∧ Q45 Z n h0 n0 v U'.heap L ∧ FrameEnd U o U' L ({ frames := 0, cells := 0, slots := 0, locals := 0 } : Room).cells ({ frames := 0, cells := 0, slots := 0, locals := 0 } : Room).slots) := by
  refine MetFree.of_bodySF (plainFor_of_name pn12) hisR ?_
  intro p e s m args below meth c s₁ Bd hml0 hP hK
  obtain ⟨rfl, hZ, hh⟩ := hP
  have hx := Bd.exec
  have hby := Bd.bytes
  have hml : c.maxLocals = 1 := hml0
  have hown : s.vm.findClass "com/example/provenans/provenans/model/NotationOfPinLaw" = some m.cls := findClass_of_methodNamed Bd.named
  have hnm := (name_of_methodNamed Bd.named Bd.method).1
  have X0 : Stand p l e ({ frames := 0, cells := 0, slots := 0, locals := 0 } : Room) s m #[(.int (Int32.ofNat n))] below meth c s₁ [] 0 0 := Stand.of_body Bd
  have e0 : s₁.heap = h0 := by rw [← hh, Bd.state]; rfl
  have N0 := Fr.nil n0
  obtain ⟨G, hG⟩ : ∃ G, G = entryFrame m #[(.int (Int32.ofNat n))] 1 := ⟨_, rfl⟩
  have S0 : own_Go p e below s₁ G s₁ (mkF m 0 #[.val (.int (Int32.ofNat n))] []) := fun tg_ kk_ => castTop (by rw [hG]; first | rfl | simp [entryFrame, mkF, argsToLocals, Value.category, maxLocals]) kk_
  have hc : n = 1 ∨ n = 2 ∨ n = 3 ∨ n = 4 ∨ n = 5 ∨ n = 6 ∨ n = 7 ∨ n = 8 ∨ n = 9 ∨ n = 10 := by omega
  rcases hc with rfl | rfl | rfl | rfl | rfl | rfl | rfl | rfl | rfl | rfl
  · have _ := N0
    have S578 : own_Go p e below s₁ G s₁ (mkF m 6 #[.val (.int (1 : Int32))] [(.int (1 : Int32))]) := fun tg_ kk_ => S0 tg_ (by
      refine XS.iloadN X0.here hx rfl (hb hby d45_0) rfl ?_
      show Steps p.tables e below (s₁.setTop (mkF m 1 #[.val (.int (1 : Int32))] [(.int (1 : Int32))])) _
      refine XS.iconst X0.here hx rfl (hb hby d45_1) ?_
      show Steps p.tables e below (s₁.setTop (mkF m 2 #[.val (.int (1 : Int32))] [(.int (1 : Int32)), (.int (1 : Int32))])) _
      refine XS.icmpNo X0.here hx rfl (hb hby d45_2) rfl (XT.ii_gt_f (by decide)) ?_
      show Steps p.tables e below (s₁.setTop (mkF m 5 #[.val (.int (1 : Int32))] [])) _
      refine XS.iconst X0.here hx rfl (hb hby d45_5) ?_
      exact kk_)
    obtain ⟨fs, hr, hrun, hended, hW, hsame⟩ := X0.leave (v := some (.int (1 : Int32))) (fun h => by rw [Bd.returns] at h; cases h)
    refine ⟨_, _, ?_, hrun, hended, _, _, rfl, ?_, ⟨_, rfl⟩, hW, hsame.mono (by decide) (by decide)⟩
    · rw [← hG]; exact S578 _ (retI X0 hx Bd.returns (hb hby d45_6) hr)
    · show Q45 Z 1 h0 n0 _ s₁.heap _
      rw [e0]
      exact ⟨by decide +kernel, N0, rfl⟩
  · have _ := N0
    have S579 : own_Go p e below s₁ G s₁ (mkF m 14 #[.val (.int (2 : Int32))] [(.int (10 : Int32))]) := fun tg_ kk_ => S0 tg_ (by
      refine XS.iloadN X0.here hx rfl (hb hby d45_0) rfl ?_
      show Steps p.tables e below (s₁.setTop (mkF m 1 #[.val (.int (2 : Int32))] [(.int (2 : Int32))])) _
      refine XS.iconst X0.here hx rfl (hb hby d45_1) ?_
      show Steps p.tables e below (s₁.setTop (mkF m 2 #[.val (.int (2 : Int32))] [(.int (1 : Int32)), (.int (2 : Int32))])) _
      refine XS.icmpYes X0.here hx rfl (pc0 := 2) (pc' := 7) rfl (hb hby d45_2) rfl (XT.ii_gt_t (by decide)) (by decide) (by decide) ?_
      show Steps p.tables e below (s₁.setTop (mkF m 7 #[.val (.int (2 : Int32))] [])) _
      refine XS.iloadN X0.here hx rfl (hb hby d45_7) rfl ?_
      show Steps p.tables e below (s₁.setTop (mkF m 8 #[.val (.int (2 : Int32))] [(.int (2 : Int32))])) _
      refine XS.iconst X0.here hx rfl (hb hby d45_8) ?_
      show Steps p.tables e below (s₁.setTop (mkF m 9 #[.val (.int (2 : Int32))] [(.int (2 : Int32)), (.int (2 : Int32))])) _
      refine XS.icmpNo X0.here hx rfl (hb hby d45_9) rfl (XT.ii_ne_f (by decide)) ?_
      show Steps p.tables e below (s₁.setTop (mkF m 12 #[.val (.int (2 : Int32))] [])) _
      refine XS.bipush X0.here hx rfl (hb hby d45_12) ?_
      exact kk_)
    obtain ⟨fs, hr, hrun, hended, hW, hsame⟩ := X0.leave (v := some (.int (10 : Int32))) (fun h => by rw [Bd.returns] at h; cases h)
    refine ⟨_, _, ?_, hrun, hended, _, _, rfl, ?_, ⟨_, rfl⟩, hW, hsame.mono (by decide) (by decide)⟩
    · rw [← hG]; exact S579 _ (retI X0 hx Bd.returns (hb hby d45_14) hr)
    · show Q45 Z 2 h0 n0 _ s₁.heap _
      rw [e0]
      exact ⟨by decide +kernel, N0, rfl⟩
  · have _ := N0
    have S580 : own_Go p e below s₁ G s₁ (mkF m 22 #[.val (.int (3 : Int32))] [(.int (100 : Int32))]) := fun tg_ kk_ => S0 tg_ (by
      refine XS.iloadN X0.here hx rfl (hb hby d45_0) rfl ?_
      show Steps p.tables e below (s₁.setTop (mkF m 1 #[.val (.int (3 : Int32))] [(.int (3 : Int32))])) _
      refine XS.iconst X0.here hx rfl (hb hby d45_1) ?_
      show Steps p.tables e below (s₁.setTop (mkF m 2 #[.val (.int (3 : Int32))] [(.int (1 : Int32)), (.int (3 : Int32))])) _
      refine XS.icmpYes X0.here hx rfl (pc0 := 2) (pc' := 7) rfl (hb hby d45_2) rfl (XT.ii_gt_t (by decide)) (by decide) (by decide) ?_
      show Steps p.tables e below (s₁.setTop (mkF m 7 #[.val (.int (3 : Int32))] [])) _
      refine XS.iloadN X0.here hx rfl (hb hby d45_7) rfl ?_
      show Steps p.tables e below (s₁.setTop (mkF m 8 #[.val (.int (3 : Int32))] [(.int (3 : Int32))])) _
      refine XS.iconst X0.here hx rfl (hb hby d45_8) ?_
      show Steps p.tables e below (s₁.setTop (mkF m 9 #[.val (.int (3 : Int32))] [(.int (2 : Int32)), (.int (3 : Int32))])) _
      refine XS.icmpYes X0.here hx rfl (pc0 := 9) (pc' := 15) rfl (hb hby d45_9) rfl (XT.ii_ne_t (by decide)) (by decide) (by decide) ?_
      show Steps p.tables e below (s₁.setTop (mkF m 15 #[.val (.int (3 : Int32))] [])) _
      refine XS.iloadN X0.here hx rfl (hb hby d45_15) rfl ?_
      show Steps p.tables e below (s₁.setTop (mkF m 16 #[.val (.int (3 : Int32))] [(.int (3 : Int32))])) _
      refine XS.iconst X0.here hx rfl (hb hby d45_16) ?_
      show Steps p.tables e below (s₁.setTop (mkF m 17 #[.val (.int (3 : Int32))] [(.int (3 : Int32)), (.int (3 : Int32))])) _
      refine XS.icmpNo X0.here hx rfl (hb hby d45_17) rfl (XT.ii_ne_f (by decide)) ?_
      show Steps p.tables e below (s₁.setTop (mkF m 20 #[.val (.int (3 : Int32))] [])) _
      refine XS.bipush X0.here hx rfl (hb hby d45_20) ?_
      exact kk_)
    obtain ⟨fs, hr, hrun, hended, hW, hsame⟩ := X0.leave (v := some (.int (100 : Int32))) (fun h => by rw [Bd.returns] at h; cases h)
    refine ⟨_, _, ?_, hrun, hended, _, _, rfl, ?_, ⟨_, rfl⟩, hW, hsame.mono (by decide) (by decide)⟩
    · rw [← hG]; exact S580 _ (retI X0 hx Bd.returns (hb hby d45_22) hr)
    · show Q45 Z 3 h0 n0 _ s₁.heap _
      rw [e0]
      exact ⟨by decide +kernel, N0, rfl⟩
  · have _ := N0
    have S581 : own_Go p e below s₁ G s₁ (mkF m 31 #[.val (.int (4 : Int32))] [(.int (1000 : Int32))]) := fun tg_ kk_ => S0 tg_ (by
      refine XS.iloadN X0.here hx rfl (hb hby d45_0) rfl ?_
      show Steps p.tables e below (s₁.setTop (mkF m 1 #[.val (.int (4 : Int32))] [(.int (4 : Int32))])) _
      refine XS.iconst X0.here hx rfl (hb hby d45_1) ?_
      show Steps p.tables e below (s₁.setTop (mkF m 2 #[.val (.int (4 : Int32))] [(.int (1 : Int32)), (.int (4 : Int32))])) _
      refine XS.icmpYes X0.here hx rfl (pc0 := 2) (pc' := 7) rfl (hb hby d45_2) rfl (XT.ii_gt_t (by decide)) (by decide) (by decide) ?_
      show Steps p.tables e below (s₁.setTop (mkF m 7 #[.val (.int (4 : Int32))] [])) _
      refine XS.iloadN X0.here hx rfl (hb hby d45_7) rfl ?_
      show Steps p.tables e below (s₁.setTop (mkF m 8 #[.val (.int (4 : Int32))] [(.int (4 : Int32))])) _
      refine XS.iconst X0.here hx rfl (hb hby d45_8) ?_
      show Steps p.tables e below (s₁.setTop (mkF m 9 #[.val (.int (4 : Int32))] [(.int (2 : Int32)), (.int (4 : Int32))])) _
      refine XS.icmpYes X0.here hx rfl (pc0 := 9) (pc' := 15) rfl (hb hby d45_9) rfl (XT.ii_ne_t (by decide)) (by decide) (by decide) ?_
      show Steps p.tables e below (s₁.setTop (mkF m 15 #[.val (.int (4 : Int32))] [])) _
      refine XS.iloadN X0.here hx rfl (hb hby d45_15) rfl ?_
      show Steps p.tables e below (s₁.setTop (mkF m 16 #[.val (.int (4 : Int32))] [(.int (4 : Int32))])) _
      refine XS.iconst X0.here hx rfl (hb hby d45_16) ?_
      show Steps p.tables e below (s₁.setTop (mkF m 17 #[.val (.int (4 : Int32))] [(.int (3 : Int32)), (.int (4 : Int32))])) _
      refine XS.icmpYes X0.here hx rfl (pc0 := 17) (pc' := 23) rfl (hb hby d45_17) rfl (XT.ii_ne_t (by decide)) (by decide) (by decide) ?_
      show Steps p.tables e below (s₁.setTop (mkF m 23 #[.val (.int (4 : Int32))] [])) _
      refine XS.iloadN X0.here hx rfl (hb hby d45_23) rfl ?_
      show Steps p.tables e below (s₁.setTop (mkF m 24 #[.val (.int (4 : Int32))] [(.int (4 : Int32))])) _
      refine XS.iconst X0.here hx rfl (hb hby d45_24) ?_
      show Steps p.tables e below (s₁.setTop (mkF m 25 #[.val (.int (4 : Int32))] [(.int (4 : Int32)), (.int (4 : Int32))])) _
      refine XS.icmpNo X0.here hx rfl (hb hby d45_25) rfl (XT.ii_ne_f (by decide)) ?_
      show Steps p.tables e below (s₁.setTop (mkF m 28 #[.val (.int (4 : Int32))] [])) _
      refine XS.sipush X0.here hx rfl (hb hby d45_28) ?_
      exact kk_)
    obtain ⟨fs, hr, hrun, hended, hW, hsame⟩ := X0.leave (v := some (.int (1000 : Int32))) (fun h => by rw [Bd.returns] at h; cases h)
    refine ⟨_, _, ?_, hrun, hended, _, _, rfl, ?_, ⟨_, rfl⟩, hW, hsame.mono (by decide) (by decide)⟩
    · rw [← hG]; exact S581 _ (retI X0 hx Bd.returns (hb hby d45_31) hr)
    · show Q45 Z 4 h0 n0 _ s₁.heap _
      rw [e0]
      exact ⟨by decide +kernel, N0, rfl⟩
  · have _ := N0
    have S582 : own_Go p e below s₁ G s₁ (mkF m 40 #[.val (.int (5 : Int32))] [(.int (10000 : Int32))]) := fun tg_ kk_ => S0 tg_ (by
      refine XS.iloadN X0.here hx rfl (hb hby d45_0) rfl ?_
      show Steps p.tables e below (s₁.setTop (mkF m 1 #[.val (.int (5 : Int32))] [(.int (5 : Int32))])) _
      refine XS.iconst X0.here hx rfl (hb hby d45_1) ?_
      show Steps p.tables e below (s₁.setTop (mkF m 2 #[.val (.int (5 : Int32))] [(.int (1 : Int32)), (.int (5 : Int32))])) _
      refine XS.icmpYes X0.here hx rfl (pc0 := 2) (pc' := 7) rfl (hb hby d45_2) rfl (XT.ii_gt_t (by decide)) (by decide) (by decide) ?_
      show Steps p.tables e below (s₁.setTop (mkF m 7 #[.val (.int (5 : Int32))] [])) _
      refine XS.iloadN X0.here hx rfl (hb hby d45_7) rfl ?_
      show Steps p.tables e below (s₁.setTop (mkF m 8 #[.val (.int (5 : Int32))] [(.int (5 : Int32))])) _
      refine XS.iconst X0.here hx rfl (hb hby d45_8) ?_
      show Steps p.tables e below (s₁.setTop (mkF m 9 #[.val (.int (5 : Int32))] [(.int (2 : Int32)), (.int (5 : Int32))])) _
      refine XS.icmpYes X0.here hx rfl (pc0 := 9) (pc' := 15) rfl (hb hby d45_9) rfl (XT.ii_ne_t (by decide)) (by decide) (by decide) ?_
      show Steps p.tables e below (s₁.setTop (mkF m 15 #[.val (.int (5 : Int32))] [])) _
      refine XS.iloadN X0.here hx rfl (hb hby d45_15) rfl ?_
      show Steps p.tables e below (s₁.setTop (mkF m 16 #[.val (.int (5 : Int32))] [(.int (5 : Int32))])) _
      refine XS.iconst X0.here hx rfl (hb hby d45_16) ?_
      show Steps p.tables e below (s₁.setTop (mkF m 17 #[.val (.int (5 : Int32))] [(.int (3 : Int32)), (.int (5 : Int32))])) _
      refine XS.icmpYes X0.here hx rfl (pc0 := 17) (pc' := 23) rfl (hb hby d45_17) rfl (XT.ii_ne_t (by decide)) (by decide) (by decide) ?_
      show Steps p.tables e below (s₁.setTop (mkF m 23 #[.val (.int (5 : Int32))] [])) _
      refine XS.iloadN X0.here hx rfl (hb hby d45_23) rfl ?_
      show Steps p.tables e below (s₁.setTop (mkF m 24 #[.val (.int (5 : Int32))] [(.int (5 : Int32))])) _
      refine XS.iconst X0.here hx rfl (hb hby d45_24) ?_
      show Steps p.tables e below (s₁.setTop (mkF m 25 #[.val (.int (5 : Int32))] [(.int (4 : Int32)), (.int (5 : Int32))])) _
      refine XS.icmpYes X0.here hx rfl (pc0 := 25) (pc' := 32) rfl (hb hby d45_25) rfl (XT.ii_ne_t (by decide)) (by decide) (by decide) ?_
      show Steps p.tables e below (s₁.setTop (mkF m 32 #[.val (.int (5 : Int32))] [])) _
      refine XS.iloadN X0.here hx rfl (hb hby d45_32) rfl ?_
      show Steps p.tables e below (s₁.setTop (mkF m 33 #[.val (.int (5 : Int32))] [(.int (5 : Int32))])) _
      refine XS.iconst X0.here hx rfl (hb hby d45_33) ?_
      show Steps p.tables e below (s₁.setTop (mkF m 34 #[.val (.int (5 : Int32))] [(.int (5 : Int32)), (.int (5 : Int32))])) _
      refine XS.icmpNo X0.here hx rfl (hb hby d45_34) rfl (XT.ii_ne_f (by decide)) ?_
      show Steps p.tables e below (s₁.setTop (mkF m 37 #[.val (.int (5 : Int32))] [])) _
      refine XS.sipush X0.here hx rfl (hb hby d45_37) ?_
      exact kk_)
    obtain ⟨fs, hr, hrun, hended, hW, hsame⟩ := X0.leave (v := some (.int (10000 : Int32))) (fun h => by rw [Bd.returns] at h; cases h)
    refine ⟨_, _, ?_, hrun, hended, _, _, rfl, ?_, ⟨_, rfl⟩, hW, hsame.mono (by decide) (by decide)⟩
    · rw [← hG]; exact S582 _ (retI X0 hx Bd.returns (hb hby d45_40) hr)
    · show Q45 Z 5 h0 n0 _ s₁.heap _
      rw [e0]
      exact ⟨by decide +kernel, N0, rfl⟩
  · have _ := N0
    have S583 : own_Go p e below s₁ G s₁ (mkF m 49 #[.val (.int (6 : Int32))] [(.int (100000 : Int32))]) := fun tg_ kk_ => S0 tg_ (by
      refine XS.iloadN X0.here hx rfl (hb hby d45_0) rfl ?_
      show Steps p.tables e below (s₁.setTop (mkF m 1 #[.val (.int (6 : Int32))] [(.int (6 : Int32))])) _
      refine XS.iconst X0.here hx rfl (hb hby d45_1) ?_
      show Steps p.tables e below (s₁.setTop (mkF m 2 #[.val (.int (6 : Int32))] [(.int (1 : Int32)), (.int (6 : Int32))])) _
      refine XS.icmpYes X0.here hx rfl (pc0 := 2) (pc' := 7) rfl (hb hby d45_2) rfl (XT.ii_gt_t (by decide)) (by decide) (by decide) ?_
      show Steps p.tables e below (s₁.setTop (mkF m 7 #[.val (.int (6 : Int32))] [])) _
      refine XS.iloadN X0.here hx rfl (hb hby d45_7) rfl ?_
      show Steps p.tables e below (s₁.setTop (mkF m 8 #[.val (.int (6 : Int32))] [(.int (6 : Int32))])) _
      refine XS.iconst X0.here hx rfl (hb hby d45_8) ?_
      show Steps p.tables e below (s₁.setTop (mkF m 9 #[.val (.int (6 : Int32))] [(.int (2 : Int32)), (.int (6 : Int32))])) _
      refine XS.icmpYes X0.here hx rfl (pc0 := 9) (pc' := 15) rfl (hb hby d45_9) rfl (XT.ii_ne_t (by decide)) (by decide) (by decide) ?_
      show Steps p.tables e below (s₁.setTop (mkF m 15 #[.val (.int (6 : Int32))] [])) _
      refine XS.iloadN X0.here hx rfl (hb hby d45_15) rfl ?_
      show Steps p.tables e below (s₁.setTop (mkF m 16 #[.val (.int (6 : Int32))] [(.int (6 : Int32))])) _
      refine XS.iconst X0.here hx rfl (hb hby d45_16) ?_
      show Steps p.tables e below (s₁.setTop (mkF m 17 #[.val (.int (6 : Int32))] [(.int (3 : Int32)), (.int (6 : Int32))])) _
      refine XS.icmpYes X0.here hx rfl (pc0 := 17) (pc' := 23) rfl (hb hby d45_17) rfl (XT.ii_ne_t (by decide)) (by decide) (by decide) ?_
      show Steps p.tables e below (s₁.setTop (mkF m 23 #[.val (.int (6 : Int32))] [])) _
      refine XS.iloadN X0.here hx rfl (hb hby d45_23) rfl ?_
      show Steps p.tables e below (s₁.setTop (mkF m 24 #[.val (.int (6 : Int32))] [(.int (6 : Int32))])) _
      refine XS.iconst X0.here hx rfl (hb hby d45_24) ?_
      show Steps p.tables e below (s₁.setTop (mkF m 25 #[.val (.int (6 : Int32))] [(.int (4 : Int32)), (.int (6 : Int32))])) _
      refine XS.icmpYes X0.here hx rfl (pc0 := 25) (pc' := 32) rfl (hb hby d45_25) rfl (XT.ii_ne_t (by decide)) (by decide) (by decide) ?_
      show Steps p.tables e below (s₁.setTop (mkF m 32 #[.val (.int (6 : Int32))] [])) _
      refine XS.iloadN X0.here hx rfl (hb hby d45_32) rfl ?_
      show Steps p.tables e below (s₁.setTop (mkF m 33 #[.val (.int (6 : Int32))] [(.int (6 : Int32))])) _
      refine XS.iconst X0.here hx rfl (hb hby d45_33) ?_
      show Steps p.tables e below (s₁.setTop (mkF m 34 #[.val (.int (6 : Int32))] [(.int (5 : Int32)), (.int (6 : Int32))])) _
      refine XS.icmpYes X0.here hx rfl (pc0 := 34) (pc' := 41) rfl (hb hby d45_34) rfl (XT.ii_ne_t (by decide)) (by decide) (by decide) ?_
      show Steps p.tables e below (s₁.setTop (mkF m 41 #[.val (.int (6 : Int32))] [])) _
      refine XS.iloadN X0.here hx rfl (hb hby d45_41) rfl ?_
      show Steps p.tables e below (s₁.setTop (mkF m 42 #[.val (.int (6 : Int32))] [(.int (6 : Int32))])) _
      refine XS.bipush X0.here hx rfl (hb hby d45_42) ?_
      show Steps p.tables e below (s₁.setTop (mkF m 44 #[.val (.int (6 : Int32))] [(.int (6 : Int32)), (.int (6 : Int32))])) _
      refine XS.icmpNo X0.here hx rfl (hb hby d45_44) rfl (XT.ii_ne_f (by decide)) ?_
      show Steps p.tables e below (s₁.setTop (mkF m 47 #[.val (.int (6 : Int32))] [])) _
      refine X0.ldcInt hx hown (mvT hZ (hw _ (List.mem_of_getElem? (i := 307) rfl))) (g := (mkF m 47 #[.val (.int (6 : Int32))] [])) rfl (hb hby d45_47) _ ?_
      exact kk_)
    obtain ⟨fs, hr, hrun, hended, hW, hsame⟩ := X0.leave (v := some (.int (100000 : Int32))) (fun h => by rw [Bd.returns] at h; cases h)
    refine ⟨_, _, ?_, hrun, hended, _, _, rfl, ?_, ⟨_, rfl⟩, hW, hsame.mono (by decide) (by decide)⟩
    · rw [← hG]; exact S583 _ (retI X0 hx Bd.returns (hb hby d45_49) hr)
    · show Q45 Z 6 h0 n0 _ s₁.heap _
      rw [e0]
      exact ⟨by decide +kernel, N0, rfl⟩
  · have _ := N0
    have S584 : own_Go p e below s₁ G s₁ (mkF m 58 #[.val (.int (7 : Int32))] [(.int (1000000 : Int32))]) := fun tg_ kk_ => S0 tg_ (by
      refine XS.iloadN X0.here hx rfl (hb hby d45_0) rfl ?_
      show Steps p.tables e below (s₁.setTop (mkF m 1 #[.val (.int (7 : Int32))] [(.int (7 : Int32))])) _
      refine XS.iconst X0.here hx rfl (hb hby d45_1) ?_
      show Steps p.tables e below (s₁.setTop (mkF m 2 #[.val (.int (7 : Int32))] [(.int (1 : Int32)), (.int (7 : Int32))])) _
      refine XS.icmpYes X0.here hx rfl (pc0 := 2) (pc' := 7) rfl (hb hby d45_2) rfl (XT.ii_gt_t (by decide)) (by decide) (by decide) ?_
      show Steps p.tables e below (s₁.setTop (mkF m 7 #[.val (.int (7 : Int32))] [])) _
      refine XS.iloadN X0.here hx rfl (hb hby d45_7) rfl ?_
      show Steps p.tables e below (s₁.setTop (mkF m 8 #[.val (.int (7 : Int32))] [(.int (7 : Int32))])) _
      refine XS.iconst X0.here hx rfl (hb hby d45_8) ?_
      show Steps p.tables e below (s₁.setTop (mkF m 9 #[.val (.int (7 : Int32))] [(.int (2 : Int32)), (.int (7 : Int32))])) _
      refine XS.icmpYes X0.here hx rfl (pc0 := 9) (pc' := 15) rfl (hb hby d45_9) rfl (XT.ii_ne_t (by decide)) (by decide) (by decide) ?_
      show Steps p.tables e below (s₁.setTop (mkF m 15 #[.val (.int (7 : Int32))] [])) _
      refine XS.iloadN X0.here hx rfl (hb hby d45_15) rfl ?_
      show Steps p.tables e below (s₁.setTop (mkF m 16 #[.val (.int (7 : Int32))] [(.int (7 : Int32))])) _
      refine XS.iconst X0.here hx rfl (hb hby d45_16) ?_
      show Steps p.tables e below (s₁.setTop (mkF m 17 #[.val (.int (7 : Int32))] [(.int (3 : Int32)), (.int (7 : Int32))])) _
      refine XS.icmpYes X0.here hx rfl (pc0 := 17) (pc' := 23) rfl (hb hby d45_17) rfl (XT.ii_ne_t (by decide)) (by decide) (by decide) ?_
      show Steps p.tables e below (s₁.setTop (mkF m 23 #[.val (.int (7 : Int32))] [])) _
      refine XS.iloadN X0.here hx rfl (hb hby d45_23) rfl ?_
      show Steps p.tables e below (s₁.setTop (mkF m 24 #[.val (.int (7 : Int32))] [(.int (7 : Int32))])) _
      refine XS.iconst X0.here hx rfl (hb hby d45_24) ?_
      show Steps p.tables e below (s₁.setTop (mkF m 25 #[.val (.int (7 : Int32))] [(.int (4 : Int32)), (.int (7 : Int32))])) _
      refine XS.icmpYes X0.here hx rfl (pc0 := 25) (pc' := 32) rfl (hb hby d45_25) rfl (XT.ii_ne_t (by decide)) (by decide) (by decide) ?_
      show Steps p.tables e below (s₁.setTop (mkF m 32 #[.val (.int (7 : Int32))] [])) _
      refine XS.iloadN X0.here hx rfl (hb hby d45_32) rfl ?_
      show Steps p.tables e below (s₁.setTop (mkF m 33 #[.val (.int (7 : Int32))] [(.int (7 : Int32))])) _
      refine XS.iconst X0.here hx rfl (hb hby d45_33) ?_
      show Steps p.tables e below (s₁.setTop (mkF m 34 #[.val (.int (7 : Int32))] [(.int (5 : Int32)), (.int (7 : Int32))])) _
      refine XS.icmpYes X0.here hx rfl (pc0 := 34) (pc' := 41) rfl (hb hby d45_34) rfl (XT.ii_ne_t (by decide)) (by decide) (by decide) ?_
      show Steps p.tables e below (s₁.setTop (mkF m 41 #[.val (.int (7 : Int32))] [])) _
      refine XS.iloadN X0.here hx rfl (hb hby d45_41) rfl ?_
      show Steps p.tables e below (s₁.setTop (mkF m 42 #[.val (.int (7 : Int32))] [(.int (7 : Int32))])) _
      refine XS.bipush X0.here hx rfl (hb hby d45_42) ?_
      show Steps p.tables e below (s₁.setTop (mkF m 44 #[.val (.int (7 : Int32))] [(.int (6 : Int32)), (.int (7 : Int32))])) _
      refine XS.icmpYes X0.here hx rfl (pc0 := 44) (pc' := 50) rfl (hb hby d45_44) rfl (XT.ii_ne_t (by decide)) (by decide) (by decide) ?_
      show Steps p.tables e below (s₁.setTop (mkF m 50 #[.val (.int (7 : Int32))] [])) _
      refine XS.iloadN X0.here hx rfl (hb hby d45_50) rfl ?_
      show Steps p.tables e below (s₁.setTop (mkF m 51 #[.val (.int (7 : Int32))] [(.int (7 : Int32))])) _
      refine XS.bipush X0.here hx rfl (hb hby d45_51) ?_
      show Steps p.tables e below (s₁.setTop (mkF m 53 #[.val (.int (7 : Int32))] [(.int (7 : Int32)), (.int (7 : Int32))])) _
      refine XS.icmpNo X0.here hx rfl (hb hby d45_53) rfl (XT.ii_ne_f (by decide)) ?_
      show Steps p.tables e below (s₁.setTop (mkF m 56 #[.val (.int (7 : Int32))] [])) _
      refine X0.ldcInt hx hown (mvT hZ (hw _ (List.mem_of_getElem? (i := 308) rfl))) (g := (mkF m 56 #[.val (.int (7 : Int32))] [])) rfl (hb hby d45_56) _ ?_
      exact kk_)
    obtain ⟨fs, hr, hrun, hended, hW, hsame⟩ := X0.leave (v := some (.int (1000000 : Int32))) (fun h => by rw [Bd.returns] at h; cases h)
    refine ⟨_, _, ?_, hrun, hended, _, _, rfl, ?_, ⟨_, rfl⟩, hW, hsame.mono (by decide) (by decide)⟩
    · rw [← hG]; exact S584 _ (retI X0 hx Bd.returns (hb hby d45_58) hr)
    · show Q45 Z 7 h0 n0 _ s₁.heap _
      rw [e0]
      exact ⟨by decide +kernel, N0, rfl⟩
  · have _ := N0
    have S585 : own_Go p e below s₁ G s₁ (mkF m 67 #[.val (.int (8 : Int32))] [(.int (10000000 : Int32))]) := fun tg_ kk_ => S0 tg_ (by
      refine XS.iloadN X0.here hx rfl (hb hby d45_0) rfl ?_
      show Steps p.tables e below (s₁.setTop (mkF m 1 #[.val (.int (8 : Int32))] [(.int (8 : Int32))])) _
      refine XS.iconst X0.here hx rfl (hb hby d45_1) ?_
      show Steps p.tables e below (s₁.setTop (mkF m 2 #[.val (.int (8 : Int32))] [(.int (1 : Int32)), (.int (8 : Int32))])) _
      refine XS.icmpYes X0.here hx rfl (pc0 := 2) (pc' := 7) rfl (hb hby d45_2) rfl (XT.ii_gt_t (by decide)) (by decide) (by decide) ?_
      show Steps p.tables e below (s₁.setTop (mkF m 7 #[.val (.int (8 : Int32))] [])) _
      refine XS.iloadN X0.here hx rfl (hb hby d45_7) rfl ?_
      show Steps p.tables e below (s₁.setTop (mkF m 8 #[.val (.int (8 : Int32))] [(.int (8 : Int32))])) _
      refine XS.iconst X0.here hx rfl (hb hby d45_8) ?_
      show Steps p.tables e below (s₁.setTop (mkF m 9 #[.val (.int (8 : Int32))] [(.int (2 : Int32)), (.int (8 : Int32))])) _
      refine XS.icmpYes X0.here hx rfl (pc0 := 9) (pc' := 15) rfl (hb hby d45_9) rfl (XT.ii_ne_t (by decide)) (by decide) (by decide) ?_
      show Steps p.tables e below (s₁.setTop (mkF m 15 #[.val (.int (8 : Int32))] [])) _
      refine XS.iloadN X0.here hx rfl (hb hby d45_15) rfl ?_
      show Steps p.tables e below (s₁.setTop (mkF m 16 #[.val (.int (8 : Int32))] [(.int (8 : Int32))])) _
      refine XS.iconst X0.here hx rfl (hb hby d45_16) ?_
      show Steps p.tables e below (s₁.setTop (mkF m 17 #[.val (.int (8 : Int32))] [(.int (3 : Int32)), (.int (8 : Int32))])) _
      refine XS.icmpYes X0.here hx rfl (pc0 := 17) (pc' := 23) rfl (hb hby d45_17) rfl (XT.ii_ne_t (by decide)) (by decide) (by decide) ?_
      show Steps p.tables e below (s₁.setTop (mkF m 23 #[.val (.int (8 : Int32))] [])) _
      refine XS.iloadN X0.here hx rfl (hb hby d45_23) rfl ?_
      show Steps p.tables e below (s₁.setTop (mkF m 24 #[.val (.int (8 : Int32))] [(.int (8 : Int32))])) _
      refine XS.iconst X0.here hx rfl (hb hby d45_24) ?_
      show Steps p.tables e below (s₁.setTop (mkF m 25 #[.val (.int (8 : Int32))] [(.int (4 : Int32)), (.int (8 : Int32))])) _
      refine XS.icmpYes X0.here hx rfl (pc0 := 25) (pc' := 32) rfl (hb hby d45_25) rfl (XT.ii_ne_t (by decide)) (by decide) (by decide) ?_
      show Steps p.tables e below (s₁.setTop (mkF m 32 #[.val (.int (8 : Int32))] [])) _
      refine XS.iloadN X0.here hx rfl (hb hby d45_32) rfl ?_
      show Steps p.tables e below (s₁.setTop (mkF m 33 #[.val (.int (8 : Int32))] [(.int (8 : Int32))])) _
      refine XS.iconst X0.here hx rfl (hb hby d45_33) ?_
      show Steps p.tables e below (s₁.setTop (mkF m 34 #[.val (.int (8 : Int32))] [(.int (5 : Int32)), (.int (8 : Int32))])) _
      refine XS.icmpYes X0.here hx rfl (pc0 := 34) (pc' := 41) rfl (hb hby d45_34) rfl (XT.ii_ne_t (by decide)) (by decide) (by decide) ?_
      show Steps p.tables e below (s₁.setTop (mkF m 41 #[.val (.int (8 : Int32))] [])) _
      refine XS.iloadN X0.here hx rfl (hb hby d45_41) rfl ?_
      show Steps p.tables e below (s₁.setTop (mkF m 42 #[.val (.int (8 : Int32))] [(.int (8 : Int32))])) _
      refine XS.bipush X0.here hx rfl (hb hby d45_42) ?_
      show Steps p.tables e below (s₁.setTop (mkF m 44 #[.val (.int (8 : Int32))] [(.int (6 : Int32)), (.int (8 : Int32))])) _
      refine XS.icmpYes X0.here hx rfl (pc0 := 44) (pc' := 50) rfl (hb hby d45_44) rfl (XT.ii_ne_t (by decide)) (by decide) (by decide) ?_
      show Steps p.tables e below (s₁.setTop (mkF m 50 #[.val (.int (8 : Int32))] [])) _
      refine XS.iloadN X0.here hx rfl (hb hby d45_50) rfl ?_
      show Steps p.tables e below (s₁.setTop (mkF m 51 #[.val (.int (8 : Int32))] [(.int (8 : Int32))])) _
      refine XS.bipush X0.here hx rfl (hb hby d45_51) ?_
      show Steps p.tables e below (s₁.setTop (mkF m 53 #[.val (.int (8 : Int32))] [(.int (7 : Int32)), (.int (8 : Int32))])) _
      refine XS.icmpYes X0.here hx rfl (pc0 := 53) (pc' := 59) rfl (hb hby d45_53) rfl (XT.ii_ne_t (by decide)) (by decide) (by decide) ?_
      show Steps p.tables e below (s₁.setTop (mkF m 59 #[.val (.int (8 : Int32))] [])) _
      refine XS.iloadN X0.here hx rfl (hb hby d45_59) rfl ?_
      show Steps p.tables e below (s₁.setTop (mkF m 60 #[.val (.int (8 : Int32))] [(.int (8 : Int32))])) _
      refine XS.bipush X0.here hx rfl (hb hby d45_60) ?_
      show Steps p.tables e below (s₁.setTop (mkF m 62 #[.val (.int (8 : Int32))] [(.int (8 : Int32)), (.int (8 : Int32))])) _
      refine XS.icmpNo X0.here hx rfl (hb hby d45_62) rfl (XT.ii_ne_f (by decide)) ?_
      show Steps p.tables e below (s₁.setTop (mkF m 65 #[.val (.int (8 : Int32))] [])) _
      refine X0.ldcInt hx hown (mvT hZ (hw _ (List.mem_of_getElem? (i := 309) rfl))) (g := (mkF m 65 #[.val (.int (8 : Int32))] [])) rfl (hb hby d45_65) _ ?_
      exact kk_)
    obtain ⟨fs, hr, hrun, hended, hW, hsame⟩ := X0.leave (v := some (.int (10000000 : Int32))) (fun h => by rw [Bd.returns] at h; cases h)
    refine ⟨_, _, ?_, hrun, hended, _, _, rfl, ?_, ⟨_, rfl⟩, hW, hsame.mono (by decide) (by decide)⟩
    · rw [← hG]; exact S585 _ (retI X0 hx Bd.returns (hb hby d45_67) hr)
    · show Q45 Z 8 h0 n0 _ s₁.heap _
      rw [e0]
      exact ⟨by decide +kernel, N0, rfl⟩
  · have _ := N0
    have S586 : own_Go p e below s₁ G s₁ (mkF m 76 #[.val (.int (9 : Int32))] [(.int (100000000 : Int32))]) := fun tg_ kk_ => S0 tg_ (by
      refine XS.iloadN X0.here hx rfl (hb hby d45_0) rfl ?_
      show Steps p.tables e below (s₁.setTop (mkF m 1 #[.val (.int (9 : Int32))] [(.int (9 : Int32))])) _
      refine XS.iconst X0.here hx rfl (hb hby d45_1) ?_
      show Steps p.tables e below (s₁.setTop (mkF m 2 #[.val (.int (9 : Int32))] [(.int (1 : Int32)), (.int (9 : Int32))])) _
      refine XS.icmpYes X0.here hx rfl (pc0 := 2) (pc' := 7) rfl (hb hby d45_2) rfl (XT.ii_gt_t (by decide)) (by decide) (by decide) ?_
      show Steps p.tables e below (s₁.setTop (mkF m 7 #[.val (.int (9 : Int32))] [])) _
      refine XS.iloadN X0.here hx rfl (hb hby d45_7) rfl ?_
      show Steps p.tables e below (s₁.setTop (mkF m 8 #[.val (.int (9 : Int32))] [(.int (9 : Int32))])) _
      refine XS.iconst X0.here hx rfl (hb hby d45_8) ?_
      show Steps p.tables e below (s₁.setTop (mkF m 9 #[.val (.int (9 : Int32))] [(.int (2 : Int32)), (.int (9 : Int32))])) _
      refine XS.icmpYes X0.here hx rfl (pc0 := 9) (pc' := 15) rfl (hb hby d45_9) rfl (XT.ii_ne_t (by decide)) (by decide) (by decide) ?_
      show Steps p.tables e below (s₁.setTop (mkF m 15 #[.val (.int (9 : Int32))] [])) _
      refine XS.iloadN X0.here hx rfl (hb hby d45_15) rfl ?_
      show Steps p.tables e below (s₁.setTop (mkF m 16 #[.val (.int (9 : Int32))] [(.int (9 : Int32))])) _
      refine XS.iconst X0.here hx rfl (hb hby d45_16) ?_
      show Steps p.tables e below (s₁.setTop (mkF m 17 #[.val (.int (9 : Int32))] [(.int (3 : Int32)), (.int (9 : Int32))])) _
      refine XS.icmpYes X0.here hx rfl (pc0 := 17) (pc' := 23) rfl (hb hby d45_17) rfl (XT.ii_ne_t (by decide)) (by decide) (by decide) ?_
      show Steps p.tables e below (s₁.setTop (mkF m 23 #[.val (.int (9 : Int32))] [])) _
      refine XS.iloadN X0.here hx rfl (hb hby d45_23) rfl ?_
      show Steps p.tables e below (s₁.setTop (mkF m 24 #[.val (.int (9 : Int32))] [(.int (9 : Int32))])) _
      refine XS.iconst X0.here hx rfl (hb hby d45_24) ?_
      show Steps p.tables e below (s₁.setTop (mkF m 25 #[.val (.int (9 : Int32))] [(.int (4 : Int32)), (.int (9 : Int32))])) _
      refine XS.icmpYes X0.here hx rfl (pc0 := 25) (pc' := 32) rfl (hb hby d45_25) rfl (XT.ii_ne_t (by decide)) (by decide) (by decide) ?_
      show Steps p.tables e below (s₁.setTop (mkF m 32 #[.val (.int (9 : Int32))] [])) _
      refine XS.iloadN X0.here hx rfl (hb hby d45_32) rfl ?_
      show Steps p.tables e below (s₁.setTop (mkF m 33 #[.val (.int (9 : Int32))] [(.int (9 : Int32))])) _
      refine XS.iconst X0.here hx rfl (hb hby d45_33) ?_
      show Steps p.tables e below (s₁.setTop (mkF m 34 #[.val (.int (9 : Int32))] [(.int (5 : Int32)), (.int (9 : Int32))])) _
      refine XS.icmpYes X0.here hx rfl (pc0 := 34) (pc' := 41) rfl (hb hby d45_34) rfl (XT.ii_ne_t (by decide)) (by decide) (by decide) ?_
      show Steps p.tables e below (s₁.setTop (mkF m 41 #[.val (.int (9 : Int32))] [])) _
      refine XS.iloadN X0.here hx rfl (hb hby d45_41) rfl ?_
      show Steps p.tables e below (s₁.setTop (mkF m 42 #[.val (.int (9 : Int32))] [(.int (9 : Int32))])) _
      refine XS.bipush X0.here hx rfl (hb hby d45_42) ?_
      show Steps p.tables e below (s₁.setTop (mkF m 44 #[.val (.int (9 : Int32))] [(.int (6 : Int32)), (.int (9 : Int32))])) _
      refine XS.icmpYes X0.here hx rfl (pc0 := 44) (pc' := 50) rfl (hb hby d45_44) rfl (XT.ii_ne_t (by decide)) (by decide) (by decide) ?_
      show Steps p.tables e below (s₁.setTop (mkF m 50 #[.val (.int (9 : Int32))] [])) _
      refine XS.iloadN X0.here hx rfl (hb hby d45_50) rfl ?_
      show Steps p.tables e below (s₁.setTop (mkF m 51 #[.val (.int (9 : Int32))] [(.int (9 : Int32))])) _
      refine XS.bipush X0.here hx rfl (hb hby d45_51) ?_
      show Steps p.tables e below (s₁.setTop (mkF m 53 #[.val (.int (9 : Int32))] [(.int (7 : Int32)), (.int (9 : Int32))])) _
      refine XS.icmpYes X0.here hx rfl (pc0 := 53) (pc' := 59) rfl (hb hby d45_53) rfl (XT.ii_ne_t (by decide)) (by decide) (by decide) ?_
      show Steps p.tables e below (s₁.setTop (mkF m 59 #[.val (.int (9 : Int32))] [])) _
      refine XS.iloadN X0.here hx rfl (hb hby d45_59) rfl ?_
      show Steps p.tables e below (s₁.setTop (mkF m 60 #[.val (.int (9 : Int32))] [(.int (9 : Int32))])) _
      refine XS.bipush X0.here hx rfl (hb hby d45_60) ?_
      show Steps p.tables e below (s₁.setTop (mkF m 62 #[.val (.int (9 : Int32))] [(.int (8 : Int32)), (.int (9 : Int32))])) _
      refine XS.icmpYes X0.here hx rfl (pc0 := 62) (pc' := 68) rfl (hb hby d45_62) rfl (XT.ii_ne_t (by decide)) (by decide) (by decide) ?_
      show Steps p.tables e below (s₁.setTop (mkF m 68 #[.val (.int (9 : Int32))] [])) _
      refine XS.iloadN X0.here hx rfl (hb hby d45_68) rfl ?_
      show Steps p.tables e below (s₁.setTop (mkF m 69 #[.val (.int (9 : Int32))] [(.int (9 : Int32))])) _
      refine XS.bipush X0.here hx rfl (hb hby d45_69) ?_
      show Steps p.tables e below (s₁.setTop (mkF m 71 #[.val (.int (9 : Int32))] [(.int (9 : Int32)), (.int (9 : Int32))])) _
      refine XS.icmpNo X0.here hx rfl (hb hby d45_71) rfl (XT.ii_ne_f (by decide)) ?_
      show Steps p.tables e below (s₁.setTop (mkF m 74 #[.val (.int (9 : Int32))] [])) _
      refine X0.ldcInt hx hown (mvT hZ (hw _ (List.mem_of_getElem? (i := 310) rfl))) (g := (mkF m 74 #[.val (.int (9 : Int32))] [])) rfl (hb hby d45_74) _ ?_
      exact kk_)
    obtain ⟨fs, hr, hrun, hended, hW, hsame⟩ := X0.leave (v := some (.int (100000000 : Int32))) (fun h => by rw [Bd.returns] at h; cases h)
    refine ⟨_, _, ?_, hrun, hended, _, _, rfl, ?_, ⟨_, rfl⟩, hW, hsame.mono (by decide) (by decide)⟩
    · rw [← hG]; exact S586 _ (retI X0 hx Bd.returns (hb hby d45_76) hr)
    · show Q45 Z 9 h0 n0 _ s₁.heap _
      rw [e0]
      exact ⟨by decide +kernel, N0, rfl⟩
  · have _ := N0
    have S587 : own_Go p e below s₁ G s₁ (mkF m 79 #[.val (.int (10 : Int32))] [(.int (1000000000 : Int32))]) := fun tg_ kk_ => S0 tg_ (by
      refine XS.iloadN X0.here hx rfl (hb hby d45_0) rfl ?_
      show Steps p.tables e below (s₁.setTop (mkF m 1 #[.val (.int (10 : Int32))] [(.int (10 : Int32))])) _
      refine XS.iconst X0.here hx rfl (hb hby d45_1) ?_
      show Steps p.tables e below (s₁.setTop (mkF m 2 #[.val (.int (10 : Int32))] [(.int (1 : Int32)), (.int (10 : Int32))])) _
      refine XS.icmpYes X0.here hx rfl (pc0 := 2) (pc' := 7) rfl (hb hby d45_2) rfl (XT.ii_gt_t (by decide)) (by decide) (by decide) ?_
      show Steps p.tables e below (s₁.setTop (mkF m 7 #[.val (.int (10 : Int32))] [])) _
      refine XS.iloadN X0.here hx rfl (hb hby d45_7) rfl ?_
      show Steps p.tables e below (s₁.setTop (mkF m 8 #[.val (.int (10 : Int32))] [(.int (10 : Int32))])) _
      refine XS.iconst X0.here hx rfl (hb hby d45_8) ?_
      show Steps p.tables e below (s₁.setTop (mkF m 9 #[.val (.int (10 : Int32))] [(.int (2 : Int32)), (.int (10 : Int32))])) _
      refine XS.icmpYes X0.here hx rfl (pc0 := 9) (pc' := 15) rfl (hb hby d45_9) rfl (XT.ii_ne_t (by decide)) (by decide) (by decide) ?_
      show Steps p.tables e below (s₁.setTop (mkF m 15 #[.val (.int (10 : Int32))] [])) _
      refine XS.iloadN X0.here hx rfl (hb hby d45_15) rfl ?_
      show Steps p.tables e below (s₁.setTop (mkF m 16 #[.val (.int (10 : Int32))] [(.int (10 : Int32))])) _
      refine XS.iconst X0.here hx rfl (hb hby d45_16) ?_
      show Steps p.tables e below (s₁.setTop (mkF m 17 #[.val (.int (10 : Int32))] [(.int (3 : Int32)), (.int (10 : Int32))])) _
      refine XS.icmpYes X0.here hx rfl (pc0 := 17) (pc' := 23) rfl (hb hby d45_17) rfl (XT.ii_ne_t (by decide)) (by decide) (by decide) ?_
      show Steps p.tables e below (s₁.setTop (mkF m 23 #[.val (.int (10 : Int32))] [])) _
      refine XS.iloadN X0.here hx rfl (hb hby d45_23) rfl ?_
      show Steps p.tables e below (s₁.setTop (mkF m 24 #[.val (.int (10 : Int32))] [(.int (10 : Int32))])) _
      refine XS.iconst X0.here hx rfl (hb hby d45_24) ?_
      show Steps p.tables e below (s₁.setTop (mkF m 25 #[.val (.int (10 : Int32))] [(.int (4 : Int32)), (.int (10 : Int32))])) _
      refine XS.icmpYes X0.here hx rfl (pc0 := 25) (pc' := 32) rfl (hb hby d45_25) rfl (XT.ii_ne_t (by decide)) (by decide) (by decide) ?_
      show Steps p.tables e below (s₁.setTop (mkF m 32 #[.val (.int (10 : Int32))] [])) _
      refine XS.iloadN X0.here hx rfl (hb hby d45_32) rfl ?_
      show Steps p.tables e below (s₁.setTop (mkF m 33 #[.val (.int (10 : Int32))] [(.int (10 : Int32))])) _
      refine XS.iconst X0.here hx rfl (hb hby d45_33) ?_
      show Steps p.tables e below (s₁.setTop (mkF m 34 #[.val (.int (10 : Int32))] [(.int (5 : Int32)), (.int (10 : Int32))])) _
      refine XS.icmpYes X0.here hx rfl (pc0 := 34) (pc' := 41) rfl (hb hby d45_34) rfl (XT.ii_ne_t (by decide)) (by decide) (by decide) ?_
      show Steps p.tables e below (s₁.setTop (mkF m 41 #[.val (.int (10 : Int32))] [])) _
      refine XS.iloadN X0.here hx rfl (hb hby d45_41) rfl ?_
      show Steps p.tables e below (s₁.setTop (mkF m 42 #[.val (.int (10 : Int32))] [(.int (10 : Int32))])) _
      refine XS.bipush X0.here hx rfl (hb hby d45_42) ?_
      show Steps p.tables e below (s₁.setTop (mkF m 44 #[.val (.int (10 : Int32))] [(.int (6 : Int32)), (.int (10 : Int32))])) _
      refine XS.icmpYes X0.here hx rfl (pc0 := 44) (pc' := 50) rfl (hb hby d45_44) rfl (XT.ii_ne_t (by decide)) (by decide) (by decide) ?_
      show Steps p.tables e below (s₁.setTop (mkF m 50 #[.val (.int (10 : Int32))] [])) _
      refine XS.iloadN X0.here hx rfl (hb hby d45_50) rfl ?_
      show Steps p.tables e below (s₁.setTop (mkF m 51 #[.val (.int (10 : Int32))] [(.int (10 : Int32))])) _
      refine XS.bipush X0.here hx rfl (hb hby d45_51) ?_
      show Steps p.tables e below (s₁.setTop (mkF m 53 #[.val (.int (10 : Int32))] [(.int (7 : Int32)), (.int (10 : Int32))])) _
      refine XS.icmpYes X0.here hx rfl (pc0 := 53) (pc' := 59) rfl (hb hby d45_53) rfl (XT.ii_ne_t (by decide)) (by decide) (by decide) ?_
      show Steps p.tables e below (s₁.setTop (mkF m 59 #[.val (.int (10 : Int32))] [])) _
      refine XS.iloadN X0.here hx rfl (hb hby d45_59) rfl ?_
      show Steps p.tables e below (s₁.setTop (mkF m 60 #[.val (.int (10 : Int32))] [(.int (10 : Int32))])) _
      refine XS.bipush X0.here hx rfl (hb hby d45_60) ?_
      show Steps p.tables e below (s₁.setTop (mkF m 62 #[.val (.int (10 : Int32))] [(.int (8 : Int32)), (.int (10 : Int32))])) _
      refine XS.icmpYes X0.here hx rfl (pc0 := 62) (pc' := 68) rfl (hb hby d45_62) rfl (XT.ii_ne_t (by decide)) (by decide) (by decide) ?_
      show Steps p.tables e below (s₁.setTop (mkF m 68 #[.val (.int (10 : Int32))] [])) _
      refine XS.iloadN X0.here hx rfl (hb hby d45_68) rfl ?_
      show Steps p.tables e below (s₁.setTop (mkF m 69 #[.val (.int (10 : Int32))] [(.int (10 : Int32))])) _
      refine XS.bipush X0.here hx rfl (hb hby d45_69) ?_
      show Steps p.tables e below (s₁.setTop (mkF m 71 #[.val (.int (10 : Int32))] [(.int (9 : Int32)), (.int (10 : Int32))])) _
      refine XS.icmpYes X0.here hx rfl (pc0 := 71) (pc' := 77) rfl (hb hby d45_71) rfl (XT.ii_ne_t (by decide)) (by decide) (by decide) ?_
      show Steps p.tables e below (s₁.setTop (mkF m 77 #[.val (.int (10 : Int32))] [])) _
      refine X0.ldcInt hx hown (mvT hZ (hw _ (List.mem_of_getElem? (i := 311) rfl))) (g := (mkF m 77 #[.val (.int (10 : Int32))] [])) rfl (hb hby d45_77) _ ?_
      exact kk_)
    obtain ⟨fs, hr, hrun, hended, hW, hsame⟩ := X0.leave (v := some (.int (1000000000 : Int32))) (fun h => by rw [Bd.returns] at h; cases h)
    refine ⟨_, _, ?_, hrun, hended, _, _, rfl, ?_, ⟨_, rfl⟩, hW, hsame.mono (by decide) (by decide)⟩
    · rw [← hG]; exact S587 _ (retI X0 hx Bd.returns (hb hby d45_79) hr)
    · show Q45 Z 10 h0 n0 _ s₁.heap _
      rw [e0]
      exact ⟨by decide +kernel, N0, rfl⟩
theorem own_in100 {c : Cell} {r : Nat} (S : c.slots.size = 100) (h : r < 100) : ¬ (Int32.ofNat r < 0 ∨ c.slots.size ≤ (Int32.ofNat r).toNatClampNeg) := by
  rw [S, own_n32 (by omega)]; exact fun q => q.elim (own_nn32 (by omega)) (fun q => by omega)
theorem own_at100 {c : Cell} {r x : Nat} (H : ∀ i, i < 100 → c.slots[i]? = some (.int (Int32.ofNat (48 + x)))) (h : r < 100) : True := trivial
set_option maxRecDepth 65536 in
set_option maxHeartbeats 40000000 in
theorem own_gc {p : Program} {l : Launch} {e : Env} {s : State} {m : MethodId} {args : Array Value} {below : List Frame} {meth : Method} {c : Code} {Z : State} {a0 : Array Value} {h0 : Heap} {n0 : Nat} (bf : Addr) (kb : ClassId) (K n : Nat) (hn : n ≤ 10) (hbf : @LE.le Nat instLENat n0 bf) (dO dT : Addr) (DO DT : Cell) (SO : Sta Z Z.heap "java/lang/Integer" "DigitOnes" "[B" (.ref dO)) (ST : Sta Z Z.heap "java/lang/Integer" "DigitTens" "[B" (.ref dT)) (AO : Arr Z Z.heap dO DO .byte) (AT : Arr Z Z.heap dT DT .byte) (SzO : DO.slots.size = 100) (SzT : DT.slots.size = 100) (HO : ∀ i, i < 100 → DO.slots[i]? = some (.int (Int32.ofNat (48 + i % 10)))) (HT : ∀ i, i < 100 → DT.slots[i]? = some (.int (Int32.ofNat (48 + i / 10)))) (hx : p.tables.exec = Jvm.exec) (hZ : Z.Warmed39 s.vm) (hw : ∀ q ∈ tables_1, q.before a0 Z = true) (hby : c.code = jdk_33_method_12_code) (hml : c.maxLocals = 7) (hown : s.vm.findClass "java/lang/Integer" = some m.cls) :
    ∀ (f mg cp : Nat) (T0 : State) (h : Heap) (locs : List Loc) (s3 s4 : Slot), One s3 → One s4 → cp ≤ 2 * f → 1 ≤ cp → cp ≤ n → 10 ^ (cp - 1) ≤ mg → mg < 10 ^ cp → mg < 2 ^ 31 → mg = K / 10 ^ (n - cp) → Stand p l e ({ frames := 0, cells := 0, slots := 0, locals := 0 } : Room) s m args below meth c T0 locs 0 0 → T0.heap = h → Old Z n0 h → Fr n0 locs → Keep h0 h [bf] → Arv Z h bf kb .byte (Int32.ofNat n) (own_buf K n cp) (.int 0) →
      ∃ (T' : State) (h' : Heap) (locs' : List Loc) (i' : Int32) (s3' s4' : Slot), Stand p l e ({ frames := 0, cells := 0, slots := 0, locals := 0 } : Room) s m args below meth c T' locs' 0 0 ∧ T'.heap = h' ∧ Fr n0 locs' ∧ Keep h0 h' [bf] ∧ Arv Z h' bf kb .byte (Int32.ofNat n) (own_dv K n) (.int 0) ∧ own_Go p e below T0 (mkF m 22 #[.val (.int (-(Int32.ofNat mg))), .val (.int (Int32.ofNat n)), .val (.ref bf), s3, s4, .val (.int (Int32.ofNat cp)), .val (.int (0 : Int32))] []) T' (mkF m 120 #[.val (.int i'), .val (.int (Int32.ofNat n)), .val (.ref bf), s3', s4', .val (.int (Int32.ofNat 0)), .val (.int (0 : Int32))] [(.int (Int32.ofNat 0))]) := by
  intro f
  induction f with
  | zero =>
    intro mg cp T0 h locs s3 s4 h3 h4 hf h1; omega
  | succ f ih =>
    intro mg cp T0 h locs s3 s4 h3 h4 hf h1 h2 hra hrb hm hmK X0 e0 O N Kp V
    have hb10 : cp ≤ 10 := by omega
    have S588 : own_Go p e below T0 (mkF m 22 #[.val (.int (-(Int32.ofNat mg))), .val (.int (Int32.ofNat n)), .val (.ref bf), s3, s4, .val (.int (Int32.ofNat cp)), .val (.int (0 : Int32))] []) T0 (mkF m 25 #[.val (.int (-(Int32.ofNat mg))), .val (.int (Int32.ofNat n)), .val (.ref bf), s3, s4, .val (.int (Int32.ofNat cp)), .val (.int (0 : Int32))] [(.int (-100 : Int32)), (.int (-(Int32.ofNat mg)))]) := fun tg_ kk_ => (own_Go.refl T0 _) tg_ (by
      refine XS.iloadN X0.here hx rfl (hb hby d35_22) rfl ?_
      show Steps p.tables e below (T0.setTop (mkF m 23 #[.val (.int (-(Int32.ofNat mg))), .val (.int (Int32.ofNat n)), .val (.ref bf), s3, s4, .val (.int (Int32.ofNat cp)), .val (.int (0 : Int32))] [(.int (-(Int32.ofNat mg)))])) _
      refine XS.bipush X0.here hx rfl (hb hby d35_23) ?_
      exact kk_)
    have hmod : K / 10 ^ (n - cp) = mg := hmK.symm
    have hk1 : K / 10 ^ (n - (cp - 1)) = mg / 10 := by rw [own_k1 h1 h2, hmod]
    by_cases h100 : mg < 100
    · have hg := (own_gt100 hm).mpr h100
      have S589 : own_Go p e below T0 (mkF m 22 #[.val (.int (-(Int32.ofNat mg))), .val (.int (Int32.ofNat n)), .val (.ref bf), s3, s4, .val (.int (Int32.ofNat cp)), .val (.int (0 : Int32))] []) T0 (mkF m 78 #[.val (.int (-(Int32.ofNat mg))), .val (.int (Int32.ofNat n)), .val (.ref bf), s3, s4, .val (.int ((Int32.ofNat cp) + (-1 : Int32))), .val (.int (0 : Int32))] [(.int ((Int32.ofNat cp) + (-1 : Int32))), (.ref bf)]) := fun tg_ kk_ => S588 tg_ (by
        refine XS.icmpYes X0.here hx rfl (pc0 := 25) (pc' := 72) rfl (hb hby d35_25) rfl (XT.ii_gt_t hg) (by decide) (by decide) ?_
        show Steps p.tables e below (T0.setTop (mkF m 72 #[.val (.int (-(Int32.ofNat mg))), .val (.int (Int32.ofNat n)), .val (.ref bf), s3, s4, .val (.int (Int32.ofNat cp)), .val (.int (0 : Int32))] [])) _
        refine XS.aloadN X0.here hx rfl (hb hby d35_72) rfl rfl ?_
        show Steps p.tables e below (T0.setTop (mkF m 73 #[.val (.int (-(Int32.ofNat mg))), .val (.int (Int32.ofNat n)), .val (.ref bf), s3, s4, .val (.int (Int32.ofNat cp)), .val (.int (0 : Int32))] [(.ref bf)])) _
        refine XS.iinc X0.here hx rfl (hb hby d35_73) rfl (l' := #[.val (.int (-(Int32.ofNat mg))), .val (.int (Int32.ofNat n)), .val (.ref bf), s3, s4, .val (.int ((Int32.ofNat cp) + (-1 : Int32))), .val (.int (0 : Int32))]) rfl ?_
        show Steps p.tables e below (T0.setTop (mkF m 76 #[.val (.int (-(Int32.ofNat mg))), .val (.int (Int32.ofNat n)), .val (.ref bf), s3, s4, .val (.int ((Int32.ofNat cp) + (-1 : Int32))), .val (.int (0 : Int32))] [(.ref bf)])) _
        refine XS.iload X0.here hx rfl (hb hby d35_76) rfl ?_
        exact kk_)
      rw [own_dec32 (c := cp) (by omega) (by omega)] at S589
      obtain ⟨T590, X590, e590, st590⟩ := getS2 X0 hx hZ (host := "") hown (Or.inl (hw _ (List.mem_of_getElem? (i := 243) rfl))) Via.refl e0 (SO.ext O.2) (g := (mkF m 78 #[.val (.int (-(Int32.ofNat mg))), .val (.int (Int32.ofNat n)), .val (.ref bf), s3, s4, .val (.int (Int32.ofNat (cp - 1))), .val (.int (0 : Int32))] [(.int (Int32.ofNat (cp - 1))), (.ref bf)])) rfl (hb hby d35_78)
      have S591 : own_Go p e below T0 (mkF m 22 #[.val (.int (-(Int32.ofNat mg))), .val (.int (Int32.ofNat n)), .val (.ref bf), s3, s4, .val (.int (Int32.ofNat cp)), .val (.int (0 : Int32))] []) T590 (mkF m 81 #[.val (.int (-(Int32.ofNat mg))), .val (.int (Int32.ofNat n)), .val (.ref bf), s3, s4, .val (.int (Int32.ofNat (cp - 1))), .val (.int (0 : Int32))] [(.ref dO), (.int (Int32.ofNat (cp - 1))), (.ref bf)]) := fun tg_ kk_ => S589 tg_ (st590 tg_ kk_)
      have S592 : own_Go p e below T0 (mkF m 22 #[.val (.int (-(Int32.ofNat mg))), .val (.int (Int32.ofNat n)), .val (.ref bf), s3, s4, .val (.int (Int32.ofNat cp)), .val (.int (0 : Int32))] []) T590 (mkF m 83 #[.val (.int (-(Int32.ofNat mg))), .val (.int (Int32.ofNat n)), .val (.ref bf), s3, s4, .val (.int (Int32.ofNat (cp - 1))), .val (.int (0 : Int32))] [(.int (-(-(Int32.ofNat mg)))), (.ref dO), (.int (Int32.ofNat (cp - 1))), (.ref bf)]) := fun tg_ kk_ => S591 tg_ (by
        refine XS.iloadN X590.here hx rfl (hb hby d35_81) rfl ?_
        show Steps p.tables e below (T590.setTop (mkF m 82 #[.val (.int (-(Int32.ofNat mg))), .val (.int (Int32.ofNat n)), .val (.ref bf), s3, s4, .val (.int (Int32.ofNat (cp - 1))), .val (.int (0 : Int32))] [(.int (-(Int32.ofNat mg))), (.ref dO), (.int (Int32.ofNat (cp - 1))), (.ref bf)])) _
        refine XS.ineg X590.here hx rfl (hb hby d35_82) rfl ?_
        exact kk_)
      rw [own_negneg mg] at S592
      have A593 := AO.ext O.2
      have hr593 : mg < 100 := by omega
      have at593 : DO.slots[(Int32.ofNat (mg)).toNatClampNeg]? = some (.int (Int32.ofNat (48 + mg % 10))) := by rw [own_n32 (by omega), HO _ hr593] <;> exact congrArg (fun z => some (Value.int (Int32.ofNat (48 + z)))) (by omega)
      have S594 : own_Go p e below T0 (mkF m 22 #[.val (.int (-(Int32.ofNat mg))), .val (.int (Int32.ofNat n)), .val (.ref bf), s3, s4, .val (.int (Int32.ofNat cp)), .val (.int (0 : Int32))] []) T590 (mkF m 84 #[.val (.int (-(Int32.ofNat mg))), .val (.int (Int32.ofNat n)), .val (.ref bf), s3, s4, .val (.int (Int32.ofNat (cp - 1))), .val (.int (0 : Int32))] [(.int (Int32.ofNat (48 + mg % 10))), (.int (Int32.ofNat (cp - 1))), (.ref bf)]) := fun tg_ kk_ => S592 tg_ (by
        refine X590.baloadBytes hx (j := (Int32.ofNat mg)) (v := (.int (Int32.ofNat (48 + mg % 10)))) (cell := DO) (by rw [e590]; exact A593.1) (State.isArrayOf_alike hZ.alike A593.2.1) A593.2.2 (own_in100 SzO hr593) at593 (g := (mkF m 83 #[.val (.int (-(Int32.ofNat mg))), .val (.int (Int32.ofNat n)), .val (.ref bf), s3, s4, .val (.int (Int32.ofNat (cp - 1))), .val (.int (0 : Int32))] [(.int (Int32.ofNat mg)), (.ref dO), (.int (Int32.ofNat (cp - 1))), (.ref bf)])) rfl rfl (hb hby d35_83) _ ?_
        exact kk_)
      obtain ⟨cl593, B593, b593, z593, y593, H593, F593⟩ := id V
      obtain ⟨U593, u593, Y593, f593x, W593, su593⟩ := stB X590 hx hZ e590 B593 (j := (Int32.ofNat (cp - 1))) (own_in32 z593 (by omega) (by omega)) (g := (mkF m 84 #[.val (.int (-(Int32.ofNat mg))), .val (.int (Int32.ofNat n)), .val (.ref bf), s3, s4, .val (.int (Int32.ofNat (cp - 1))), .val (.int (0 : Int32))] [(.int (Int32.ofNat (48 + mg % 10))), (.int (Int32.ofNat (cp - 1))), (.ref bf)])) rfl rfl (hb hby d35_84)
      have S595 : own_Go p e below T0 (mkF m 22 #[.val (.int (-(Int32.ofNat mg))), .val (.int (Int32.ofNat n)), .val (.ref bf), s3, s4, .val (.int (Int32.ofNat cp)), .val (.int (0 : Int32))] []) U593 (mkF m 85 #[.val (.int (-(Int32.ofNat mg))), .val (.int (Int32.ofNat n)), .val (.ref bf), s3, s4, .val (.int (Int32.ofNat (cp - 1))), .val (.int (0 : Int32))] []) := fun tg_ kk_ => S594 tg_ (su593 tg_ kk_)
      have hx10593 : mg % 10 < 10 := by omega
      rw [own_nar48 hx10593] at W593
      have V593 := Arv.set B593 b593 z593 y593 H593 F593 (own_fit48 hx10593) W593 (cp - 1) (own_n32 (by omega)) (by rw [own_buf_len (by omega)]; omega)
      have hbs593 := own_buf_set (K := K) (n := n) (c := cp) (by omega) (by omega)
      rw [hmod] at hbs593
      rw [hbs593] at V593
      have O593 := O.wr W593 hbf
      have N593 := Fr.snoc Y593 N hbf
      have K593 := Keep.wr Kp W593 (Or.inl (by simp))
      have S596 : own_Go p e below T0 (mkF m 22 #[.val (.int (-(Int32.ofNat mg))), .val (.int (Int32.ofNat n)), .val (.ref bf), s3, s4, .val (.int (Int32.ofNat cp)), .val (.int (0 : Int32))] []) U593 (mkF m 88 #[.val (.int (-(Int32.ofNat mg))), .val (.int (Int32.ofNat n)), .val (.ref bf), s3, s4, .val (.int (Int32.ofNat (cp - 1))), .val (.int (0 : Int32))] [(.int (-9 : Int32)), (.int (-(Int32.ofNat mg)))]) := fun tg_ kk_ => S595 tg_ (by
        refine XS.iloadN Y593.here hx rfl (hb hby d35_85) rfl ?_
        show Steps p.tables e below (U593.setTop (mkF m 86 #[.val (.int (-(Int32.ofNat mg))), .val (.int (Int32.ofNat n)), .val (.ref bf), s3, s4, .val (.int (Int32.ofNat (cp - 1))), .val (.int (0 : Int32))] [(.int (-(Int32.ofNat mg)))])) _
        refine XS.bipush Y593.here hx rfl (hb hby d35_86) ?_
        exact kk_)
      by_cases h9 : 9 < mg
      · have hg2 := (own_lt9 hm).mpr h9
        have hc2 : cp = 2 := own_r2 h1 hb10 hra hrb h100 h9
        have S597 : own_Go p e below T0 (mkF m 22 #[.val (.int (-(Int32.ofNat mg))), .val (.int (Int32.ofNat n)), .val (.ref bf), s3, s4, .val (.int (Int32.ofNat cp)), .val (.int (0 : Int32))] []) U593 (mkF m 97 #[.val (.int (-(Int32.ofNat mg))), .val (.int (Int32.ofNat n)), .val (.ref bf), s3, s4, .val (.int ((Int32.ofNat (cp - 1)) + (-1 : Int32))), .val (.int (0 : Int32))] [(.int ((Int32.ofNat (cp - 1)) + (-1 : Int32))), (.ref bf)]) := fun tg_ kk_ => S596 tg_ (by
          refine XS.icmpNo Y593.here hx rfl (hb hby d35_88) rfl (XT.ii_ge_f hg2) ?_
          show Steps p.tables e below (U593.setTop (mkF m 91 #[.val (.int (-(Int32.ofNat mg))), .val (.int (Int32.ofNat n)), .val (.ref bf), s3, s4, .val (.int (Int32.ofNat (cp - 1))), .val (.int (0 : Int32))] [])) _
          refine XS.aloadN Y593.here hx rfl (hb hby d35_91) rfl rfl ?_
          show Steps p.tables e below (U593.setTop (mkF m 92 #[.val (.int (-(Int32.ofNat mg))), .val (.int (Int32.ofNat n)), .val (.ref bf), s3, s4, .val (.int (Int32.ofNat (cp - 1))), .val (.int (0 : Int32))] [(.ref bf)])) _
          refine XS.iinc Y593.here hx rfl (hb hby d35_92) rfl (l' := #[.val (.int (-(Int32.ofNat mg))), .val (.int (Int32.ofNat n)), .val (.ref bf), s3, s4, .val (.int ((Int32.ofNat (cp - 1)) + (-1 : Int32))), .val (.int (0 : Int32))]) rfl ?_
          show Steps p.tables e below (U593.setTop (mkF m 95 #[.val (.int (-(Int32.ofNat mg))), .val (.int (Int32.ofNat n)), .val (.ref bf), s3, s4, .val (.int ((Int32.ofNat (cp - 1)) + (-1 : Int32))), .val (.int (0 : Int32))] [(.ref bf)])) _
          refine XS.iload Y593.here hx rfl (hb hby d35_95) rfl ?_
          exact kk_)
        rw [own_dec32 (c := cp - 1) (by omega) (by omega)] at S597
        obtain ⟨T598, X598, e598, st598⟩ := getS2 Y593 hx hZ (host := "") hown (Or.inl (hw _ (List.mem_of_getElem? (i := 295) rfl))) Via.refl f593x (ST.ext O593.2) (g := (mkF m 97 #[.val (.int (-(Int32.ofNat mg))), .val (.int (Int32.ofNat n)), .val (.ref bf), s3, s4, .val (.int (Int32.ofNat (cp - 1 - 1))), .val (.int (0 : Int32))] [(.int (Int32.ofNat (cp - 1 - 1))), (.ref bf)])) rfl (hb hby d35_97)
        have S599 : own_Go p e below T0 (mkF m 22 #[.val (.int (-(Int32.ofNat mg))), .val (.int (Int32.ofNat n)), .val (.ref bf), s3, s4, .val (.int (Int32.ofNat cp)), .val (.int (0 : Int32))] []) T598 (mkF m 100 #[.val (.int (-(Int32.ofNat mg))), .val (.int (Int32.ofNat n)), .val (.ref bf), s3, s4, .val (.int (Int32.ofNat (cp - 1 - 1))), .val (.int (0 : Int32))] [(.ref dT), (.int (Int32.ofNat (cp - 1 - 1))), (.ref bf)]) := fun tg_ kk_ => S597 tg_ (st598 tg_ kk_)
        have S600 : own_Go p e below T0 (mkF m 22 #[.val (.int (-(Int32.ofNat mg))), .val (.int (Int32.ofNat n)), .val (.ref bf), s3, s4, .val (.int (Int32.ofNat cp)), .val (.int (0 : Int32))] []) T598 (mkF m 102 #[.val (.int (-(Int32.ofNat mg))), .val (.int (Int32.ofNat n)), .val (.ref bf), s3, s4, .val (.int (Int32.ofNat (cp - 1 - 1))), .val (.int (0 : Int32))] [(.int (-(-(Int32.ofNat mg)))), (.ref dT), (.int (Int32.ofNat (cp - 1 - 1))), (.ref bf)]) := fun tg_ kk_ => S599 tg_ (by
          refine XS.iloadN X598.here hx rfl (hb hby d35_100) rfl ?_
          show Steps p.tables e below (T598.setTop (mkF m 101 #[.val (.int (-(Int32.ofNat mg))), .val (.int (Int32.ofNat n)), .val (.ref bf), s3, s4, .val (.int (Int32.ofNat (cp - 1 - 1))), .val (.int (0 : Int32))] [(.int (-(Int32.ofNat mg))), (.ref dT), (.int (Int32.ofNat (cp - 1 - 1))), (.ref bf)])) _
          refine XS.ineg X598.here hx rfl (hb hby d35_101) rfl ?_
          exact kk_)
        rw [own_negneg mg] at S600
        have A601 := AT.ext O593.2
        have hr601 : mg < 100 := by omega
        have at601 : DT.slots[(Int32.ofNat (mg)).toNatClampNeg]? = some (.int (Int32.ofNat (48 + mg / 10 % 10))) := by rw [own_n32 (by omega), HT _ hr601] <;> exact congrArg (fun z => some (Value.int (Int32.ofNat (48 + z)))) (by omega)
        have S602 : own_Go p e below T0 (mkF m 22 #[.val (.int (-(Int32.ofNat mg))), .val (.int (Int32.ofNat n)), .val (.ref bf), s3, s4, .val (.int (Int32.ofNat cp)), .val (.int (0 : Int32))] []) T598 (mkF m 103 #[.val (.int (-(Int32.ofNat mg))), .val (.int (Int32.ofNat n)), .val (.ref bf), s3, s4, .val (.int (Int32.ofNat (cp - 1 - 1))), .val (.int (0 : Int32))] [(.int (Int32.ofNat (48 + mg / 10 % 10))), (.int (Int32.ofNat (cp - 1 - 1))), (.ref bf)]) := fun tg_ kk_ => S600 tg_ (by
          refine X598.baloadBytes hx (j := (Int32.ofNat mg)) (v := (.int (Int32.ofNat (48 + mg / 10 % 10)))) (cell := DT) (by rw [e598]; exact A601.1) (State.isArrayOf_alike hZ.alike A601.2.1) A601.2.2 (own_in100 SzT hr601) at601 (g := (mkF m 102 #[.val (.int (-(Int32.ofNat mg))), .val (.int (Int32.ofNat n)), .val (.ref bf), s3, s4, .val (.int (Int32.ofNat (cp - 1 - 1))), .val (.int (0 : Int32))] [(.int (Int32.ofNat mg)), (.ref dT), (.int (Int32.ofNat (cp - 1 - 1))), (.ref bf)])) rfl rfl (hb hby d35_102) _ ?_
          exact kk_)
        obtain ⟨cl601, B601, b601, z601, y601, H601, F601⟩ := id V593
        obtain ⟨U601, u601, Y601, f601x, W601, su601⟩ := stB X598 hx hZ e598 B601 (j := (Int32.ofNat (cp - 1 - 1))) (own_in32 z601 (by omega) (by omega)) (g := (mkF m 103 #[.val (.int (-(Int32.ofNat mg))), .val (.int (Int32.ofNat n)), .val (.ref bf), s3, s4, .val (.int (Int32.ofNat (cp - 1 - 1))), .val (.int (0 : Int32))] [(.int (Int32.ofNat (48 + mg / 10 % 10))), (.int (Int32.ofNat (cp - 1 - 1))), (.ref bf)])) rfl rfl (hb hby d35_103)
        have S603 : own_Go p e below T0 (mkF m 22 #[.val (.int (-(Int32.ofNat mg))), .val (.int (Int32.ofNat n)), .val (.ref bf), s3, s4, .val (.int (Int32.ofNat cp)), .val (.int (0 : Int32))] []) U601 (mkF m 104 #[.val (.int (-(Int32.ofNat mg))), .val (.int (Int32.ofNat n)), .val (.ref bf), s3, s4, .val (.int (Int32.ofNat (cp - 1 - 1))), .val (.int (0 : Int32))] []) := fun tg_ kk_ => S602 tg_ (su601 tg_ kk_)
        have hx10601 : mg / 10 % 10 < 10 := by omega
        rw [own_nar48 hx10601] at W601
        have V601 := Arv.set B601 b601 z601 y601 H601 F601 (own_fit48 hx10601) W601 (cp - 1 - 1) (own_n32 (by omega)) (by rw [own_buf_len (by omega)]; omega)
        have hbs601 := own_buf_set (K := K) (n := n) (c := cp - 1) (by omega) (by omega)
        rw [hk1] at hbs601
        rw [hbs601] at V601
        have O601 := O593.wr W601 hbf
        have N601 := Fr.snoc Y601 N593 hbf
        have K601 := Keep.wr K593 W601 (Or.inl (by simp))
        have S604 : own_Go p e below T0 (mkF m 22 #[.val (.int (-(Int32.ofNat mg))), .val (.int (Int32.ofNat n)), .val (.ref bf), s3, s4, .val (.int (Int32.ofNat cp)), .val (.int (0 : Int32))] []) U601 (mkF m 120 #[.val (.int (-(Int32.ofNat mg))), .val (.int (Int32.ofNat n)), .val (.ref bf), s3, s4, .val (.int (Int32.ofNat (cp - 1 - 1))), .val (.int (0 : Int32))] [(.int (Int32.ofNat (cp - 1 - 1)))]) := fun tg_ kk_ => S603 tg_ (by
          refine XS.iload Y601.here hx rfl (hb hby d35_104) rfl ?_
          show Steps p.tables e below (U601.setTop (mkF m 106 #[.val (.int (-(Int32.ofNat mg))), .val (.int (Int32.ofNat n)), .val (.ref bf), s3, s4, .val (.int (Int32.ofNat (cp - 1 - 1))), .val (.int (0 : Int32))] [(.int (0 : Int32))])) _
          refine XS.ifYes Y601.here hx rfl (pc0 := 106) (pc' := 118) rfl (hb hby d35_106) rfl (XT.i0_eq_t (by decide)) (by decide) (by decide) ?_
          show Steps p.tables e below (U601.setTop (mkF m 118 #[.val (.int (-(Int32.ofNat mg))), .val (.int (Int32.ofNat n)), .val (.ref bf), s3, s4, .val (.int (Int32.ofNat (cp - 1 - 1))), .val (.int (0 : Int32))] [])) _
          refine XS.iload Y601.here hx rfl (hb hby d35_118) rfl ?_
          exact kk_)
        subst hc2
        rw [own_buf_zero] at V601
        exact ⟨U601, _, _, _, _, _, Y601, f601x, N601, K601, V601, S604⟩
      · have hg2 : ¬ (-(Int32.ofNat mg)) < (-9 : Int32) := fun q => h9 ((own_lt9 hm).mp q)
        have hc1 : cp = 1 := own_r3 h1 hb10 hra h9
        have S605 : own_Go p e below T0 (mkF m 22 #[.val (.int (-(Int32.ofNat mg))), .val (.int (Int32.ofNat n)), .val (.ref bf), s3, s4, .val (.int (Int32.ofNat cp)), .val (.int (0 : Int32))] []) U593 (mkF m 120 #[.val (.int (-(Int32.ofNat mg))), .val (.int (Int32.ofNat n)), .val (.ref bf), s3, s4, .val (.int (Int32.ofNat (cp - 1))), .val (.int (0 : Int32))] [(.int (Int32.ofNat (cp - 1)))]) := fun tg_ kk_ => S596 tg_ (by
          refine XS.icmpYes Y593.here hx rfl (pc0 := 88) (pc' := 104) rfl (hb hby d35_88) rfl (XT.ii_ge_t hg2) (by decide) (by decide) ?_
          show Steps p.tables e below (U593.setTop (mkF m 104 #[.val (.int (-(Int32.ofNat mg))), .val (.int (Int32.ofNat n)), .val (.ref bf), s3, s4, .val (.int (Int32.ofNat (cp - 1))), .val (.int (0 : Int32))] [])) _
          refine XS.iload Y593.here hx rfl (hb hby d35_104) rfl ?_
          show Steps p.tables e below (U593.setTop (mkF m 106 #[.val (.int (-(Int32.ofNat mg))), .val (.int (Int32.ofNat n)), .val (.ref bf), s3, s4, .val (.int (Int32.ofNat (cp - 1))), .val (.int (0 : Int32))] [(.int (0 : Int32))])) _
          refine XS.ifYes Y593.here hx rfl (pc0 := 106) (pc' := 118) rfl (hb hby d35_106) rfl (XT.i0_eq_t (by decide)) (by decide) (by decide) ?_
          show Steps p.tables e below (U593.setTop (mkF m 118 #[.val (.int (-(Int32.ofNat mg))), .val (.int (Int32.ofNat n)), .val (.ref bf), s3, s4, .val (.int (Int32.ofNat (cp - 1))), .val (.int (0 : Int32))] [])) _
          refine XS.iload Y593.here hx rfl (hb hby d35_118) rfl ?_
          exact kk_)
        subst hc1
        rw [own_buf_zero] at V593
        exact ⟨U593, _, _, _, _, _, Y593, f593x, N593, K593, V593, S605⟩
    · have hg : ¬ ((-100 : Int32) < -(Int32.ofNat mg)) := fun q => h100 ((own_gt100 hm).mp q)
      obtain ⟨hc3, ha2, hb2⟩ := own_r1 h1 hb10 hra hrb h100
      have S606 : own_Go p e below T0 (mkF m 22 #[.val (.int (-(Int32.ofNat mg))), .val (.int (Int32.ofNat n)), .val (.ref bf), s3, s4, .val (.int (Int32.ofNat cp)), .val (.int (0 : Int32))] []) T0 (mkF m 32 #[.val (.int (-(Int32.ofNat mg))), .val (.int (Int32.ofNat n)), .val (.ref bf), s3, s4, .val (.int (Int32.ofNat cp)), .val (.int (0 : Int32))] [(.int ((-(Int32.ofNat mg)) / (100 : Int32)))]) := fun tg_ kk_ => S588 tg_ (by
        refine XS.icmpNo X0.here hx rfl (hb hby d35_25) rfl (XT.ii_gt_f hg) ?_
        show Steps p.tables e below (T0.setTop (mkF m 28 #[.val (.int (-(Int32.ofNat mg))), .val (.int (Int32.ofNat n)), .val (.ref bf), s3, s4, .val (.int (Int32.ofNat cp)), .val (.int (0 : Int32))] [])) _
        refine XS.iloadN X0.here hx rfl (hb hby d35_28) rfl ?_
        show Steps p.tables e below (T0.setTop (mkF m 29 #[.val (.int (-(Int32.ofNat mg))), .val (.int (Int32.ofNat n)), .val (.ref bf), s3, s4, .val (.int (Int32.ofNat cp)), .val (.int (0 : Int32))] [(.int (-(Int32.ofNat mg)))])) _
        refine XS.bipush X0.here hx rfl (hb hby d35_29) ?_
        show Steps p.tables e below (T0.setTop (mkF m 31 #[.val (.int (-(Int32.ofNat mg))), .val (.int (Int32.ofNat n)), .val (.ref bf), s3, s4, .val (.int (Int32.ofNat cp)), .val (.int (0 : Int32))] [(.int (100 : Int32)), (.int (-(Int32.ofNat mg)))])) _
        refine XS.idiv X0.here hx rfl (hb hby d35_31) rfl (by decide) ?_
        exact kk_)
      rw [own_negdiv hm] at S606
      have S607 : own_Go p e below T0 (mkF m 22 #[.val (.int (-(Int32.ofNat mg))), .val (.int (Int32.ofNat n)), .val (.ref bf), s3, s4, .val (.int (Int32.ofNat cp)), .val (.int (0 : Int32))] []) T0 (mkF m 39 #[.val (.int (-(Int32.ofNat mg))), .val (.int (Int32.ofNat n)), .val (.ref bf), .val (.int (-(Int32.ofNat (mg / 100)))), s4, .val (.int (Int32.ofNat cp)), .val (.int (0 : Int32))] [(.int (((-(Int32.ofNat (mg / 100))) * (100 : Int32)) - (-(Int32.ofNat mg))))]) := fun tg_ kk_ => S606 tg_ (by
        refine XS.istoreN X0.here hx rfl (hb hby d35_32) rfl (l' := #[.val (.int (-(Int32.ofNat mg))), .val (.int (Int32.ofNat n)), .val (.ref bf), .val (.int (-(Int32.ofNat (mg / 100)))), s4, .val (.int (Int32.ofNat cp)), .val (.int (0 : Int32))]) (XS.store1 rfl h3 rfl) ?_
        show Steps p.tables e below (T0.setTop (mkF m 33 #[.val (.int (-(Int32.ofNat mg))), .val (.int (Int32.ofNat n)), .val (.ref bf), .val (.int (-(Int32.ofNat (mg / 100)))), s4, .val (.int (Int32.ofNat cp)), .val (.int (0 : Int32))] [])) _
        refine XS.iloadN X0.here hx rfl (hb hby d35_33) rfl ?_
        show Steps p.tables e below (T0.setTop (mkF m 34 #[.val (.int (-(Int32.ofNat mg))), .val (.int (Int32.ofNat n)), .val (.ref bf), .val (.int (-(Int32.ofNat (mg / 100)))), s4, .val (.int (Int32.ofNat cp)), .val (.int (0 : Int32))] [(.int (-(Int32.ofNat (mg / 100))))])) _
        refine XS.bipush X0.here hx rfl (hb hby d35_34) ?_
        show Steps p.tables e below (T0.setTop (mkF m 36 #[.val (.int (-(Int32.ofNat mg))), .val (.int (Int32.ofNat n)), .val (.ref bf), .val (.int (-(Int32.ofNat (mg / 100)))), s4, .val (.int (Int32.ofNat cp)), .val (.int (0 : Int32))] [(.int (100 : Int32)), (.int (-(Int32.ofNat (mg / 100))))])) _
        refine XS.imul X0.here hx rfl (hb hby d35_36) rfl ?_
        show Steps p.tables e below (T0.setTop (mkF m 37 #[.val (.int (-(Int32.ofNat mg))), .val (.int (Int32.ofNat n)), .val (.ref bf), .val (.int (-(Int32.ofNat (mg / 100)))), s4, .val (.int (Int32.ofNat cp)), .val (.int (0 : Int32))] [(.int ((-(Int32.ofNat (mg / 100))) * (100 : Int32)))])) _
        refine XS.iloadN X0.here hx rfl (hb hby d35_37) rfl ?_
        show Steps p.tables e below (T0.setTop (mkF m 38 #[.val (.int (-(Int32.ofNat mg))), .val (.int (Int32.ofNat n)), .val (.ref bf), .val (.int (-(Int32.ofNat (mg / 100)))), s4, .val (.int (Int32.ofNat cp)), .val (.int (0 : Int32))] [(.int (-(Int32.ofNat mg))), (.int ((-(Int32.ofNat (mg / 100))) * (100 : Int32)))])) _
        refine XS.isub X0.here hx rfl (hb hby d35_38) rfl ?_
        exact kk_)
      rw [own_negrem hm] at S607
      have S608 : own_Go p e below T0 (mkF m 22 #[.val (.int (-(Int32.ofNat mg))), .val (.int (Int32.ofNat n)), .val (.ref bf), s3, s4, .val (.int (Int32.ofNat cp)), .val (.int (0 : Int32))] []) T0 (mkF m 49 #[.val (.int (-(Int32.ofNat (mg / 100)))), .val (.int (Int32.ofNat n)), .val (.ref bf), .val (.int (-(Int32.ofNat (mg / 100)))), .val (.int (Int32.ofNat (mg % 100))), .val (.int ((Int32.ofNat cp) + (-1 : Int32))), .val (.int (0 : Int32))] [(.int ((Int32.ofNat cp) + (-1 : Int32))), (.ref bf)]) := fun tg_ kk_ => S607 tg_ (by
        refine XS.istore X0.here hx rfl (hb hby d35_39) rfl (l' := #[.val (.int (-(Int32.ofNat mg))), .val (.int (Int32.ofNat n)), .val (.ref bf), .val (.int (-(Int32.ofNat (mg / 100)))), .val (.int (Int32.ofNat (mg % 100))), .val (.int (Int32.ofNat cp)), .val (.int (0 : Int32))]) (XS.store1 rfl h4 rfl) ?_
        show Steps p.tables e below (T0.setTop (mkF m 41 #[.val (.int (-(Int32.ofNat mg))), .val (.int (Int32.ofNat n)), .val (.ref bf), .val (.int (-(Int32.ofNat (mg / 100)))), .val (.int (Int32.ofNat (mg % 100))), .val (.int (Int32.ofNat cp)), .val (.int (0 : Int32))] [])) _
        refine XS.iloadN X0.here hx rfl (hb hby d35_41) rfl ?_
        show Steps p.tables e below (T0.setTop (mkF m 42 #[.val (.int (-(Int32.ofNat mg))), .val (.int (Int32.ofNat n)), .val (.ref bf), .val (.int (-(Int32.ofNat (mg / 100)))), .val (.int (Int32.ofNat (mg % 100))), .val (.int (Int32.ofNat cp)), .val (.int (0 : Int32))] [(.int (-(Int32.ofNat (mg / 100))))])) _
        refine XS.istoreN X0.here hx rfl (hb hby d35_42) rfl (l' := #[.val (.int (-(Int32.ofNat (mg / 100)))), .val (.int (Int32.ofNat n)), .val (.ref bf), .val (.int (-(Int32.ofNat (mg / 100)))), .val (.int (Int32.ofNat (mg % 100))), .val (.int (Int32.ofNat cp)), .val (.int (0 : Int32))]) rfl ?_
        show Steps p.tables e below (T0.setTop (mkF m 43 #[.val (.int (-(Int32.ofNat (mg / 100)))), .val (.int (Int32.ofNat n)), .val (.ref bf), .val (.int (-(Int32.ofNat (mg / 100)))), .val (.int (Int32.ofNat (mg % 100))), .val (.int (Int32.ofNat cp)), .val (.int (0 : Int32))] [])) _
        refine XS.aloadN X0.here hx rfl (hb hby d35_43) rfl rfl ?_
        show Steps p.tables e below (T0.setTop (mkF m 44 #[.val (.int (-(Int32.ofNat (mg / 100)))), .val (.int (Int32.ofNat n)), .val (.ref bf), .val (.int (-(Int32.ofNat (mg / 100)))), .val (.int (Int32.ofNat (mg % 100))), .val (.int (Int32.ofNat cp)), .val (.int (0 : Int32))] [(.ref bf)])) _
        refine XS.iinc X0.here hx rfl (hb hby d35_44) rfl (l' := #[.val (.int (-(Int32.ofNat (mg / 100)))), .val (.int (Int32.ofNat n)), .val (.ref bf), .val (.int (-(Int32.ofNat (mg / 100)))), .val (.int (Int32.ofNat (mg % 100))), .val (.int ((Int32.ofNat cp) + (-1 : Int32))), .val (.int (0 : Int32))]) rfl ?_
        show Steps p.tables e below (T0.setTop (mkF m 47 #[.val (.int (-(Int32.ofNat (mg / 100)))), .val (.int (Int32.ofNat n)), .val (.ref bf), .val (.int (-(Int32.ofNat (mg / 100)))), .val (.int (Int32.ofNat (mg % 100))), .val (.int ((Int32.ofNat cp) + (-1 : Int32))), .val (.int (0 : Int32))] [(.ref bf)])) _
        refine XS.iload X0.here hx rfl (hb hby d35_47) rfl ?_
        exact kk_)
      rw [own_dec32 (c := cp) (by omega) (by omega)] at S608
      obtain ⟨T609, X609, e609, st609⟩ := getS2 X0 hx hZ (host := "") hown (Or.inl (hw _ (List.mem_of_getElem? (i := 243) rfl))) Via.refl e0 (SO.ext O.2) (g := (mkF m 49 #[.val (.int (-(Int32.ofNat (mg / 100)))), .val (.int (Int32.ofNat n)), .val (.ref bf), .val (.int (-(Int32.ofNat (mg / 100)))), .val (.int (Int32.ofNat (mg % 100))), .val (.int (Int32.ofNat (cp - 1))), .val (.int (0 : Int32))] [(.int (Int32.ofNat (cp - 1))), (.ref bf)])) rfl (hb hby d35_49)
      have S610 : own_Go p e below T0 (mkF m 22 #[.val (.int (-(Int32.ofNat mg))), .val (.int (Int32.ofNat n)), .val (.ref bf), s3, s4, .val (.int (Int32.ofNat cp)), .val (.int (0 : Int32))] []) T609 (mkF m 52 #[.val (.int (-(Int32.ofNat (mg / 100)))), .val (.int (Int32.ofNat n)), .val (.ref bf), .val (.int (-(Int32.ofNat (mg / 100)))), .val (.int (Int32.ofNat (mg % 100))), .val (.int (Int32.ofNat (cp - 1))), .val (.int (0 : Int32))] [(.ref dO), (.int (Int32.ofNat (cp - 1))), (.ref bf)]) := fun tg_ kk_ => S608 tg_ (st609 tg_ kk_)
      have S611 : own_Go p e below T0 (mkF m 22 #[.val (.int (-(Int32.ofNat mg))), .val (.int (Int32.ofNat n)), .val (.ref bf), s3, s4, .val (.int (Int32.ofNat cp)), .val (.int (0 : Int32))] []) T609 (mkF m 54 #[.val (.int (-(Int32.ofNat (mg / 100)))), .val (.int (Int32.ofNat n)), .val (.ref bf), .val (.int (-(Int32.ofNat (mg / 100)))), .val (.int (Int32.ofNat (mg % 100))), .val (.int (Int32.ofNat (cp - 1))), .val (.int (0 : Int32))] [(.int (Int32.ofNat (mg % 100))), (.ref dO), (.int (Int32.ofNat (cp - 1))), (.ref bf)]) := fun tg_ kk_ => S610 tg_ (by
        refine XS.iload X609.here hx rfl (hb hby d35_52) rfl ?_
        exact kk_)
      have A612 := AO.ext O.2
      have hr612 : mg % 100 < 100 := by omega
      have at612 : DO.slots[(Int32.ofNat (mg % 100)).toNatClampNeg]? = some (.int (Int32.ofNat (48 + mg % 10))) := by rw [own_n32 (by omega), HO _ hr612] <;> exact congrArg (fun z => some (Value.int (Int32.ofNat (48 + z)))) (by omega)
      have S613 : own_Go p e below T0 (mkF m 22 #[.val (.int (-(Int32.ofNat mg))), .val (.int (Int32.ofNat n)), .val (.ref bf), s3, s4, .val (.int (Int32.ofNat cp)), .val (.int (0 : Int32))] []) T609 (mkF m 55 #[.val (.int (-(Int32.ofNat (mg / 100)))), .val (.int (Int32.ofNat n)), .val (.ref bf), .val (.int (-(Int32.ofNat (mg / 100)))), .val (.int (Int32.ofNat (mg % 100))), .val (.int (Int32.ofNat (cp - 1))), .val (.int (0 : Int32))] [(.int (Int32.ofNat (48 + mg % 10))), (.int (Int32.ofNat (cp - 1))), (.ref bf)]) := fun tg_ kk_ => S611 tg_ (by
        refine X609.baloadBytes hx (j := (Int32.ofNat (mg % 100))) (v := (.int (Int32.ofNat (48 + mg % 10)))) (cell := DO) (by rw [e609]; exact A612.1) (State.isArrayOf_alike hZ.alike A612.2.1) A612.2.2 (own_in100 SzO hr612) at612 (g := (mkF m 54 #[.val (.int (-(Int32.ofNat (mg / 100)))), .val (.int (Int32.ofNat n)), .val (.ref bf), .val (.int (-(Int32.ofNat (mg / 100)))), .val (.int (Int32.ofNat (mg % 100))), .val (.int (Int32.ofNat (cp - 1))), .val (.int (0 : Int32))] [(.int (Int32.ofNat (mg % 100))), (.ref dO), (.int (Int32.ofNat (cp - 1))), (.ref bf)])) rfl rfl (hb hby d35_54) _ ?_
        exact kk_)
      obtain ⟨cl612, B612, b612, z612, y612, H612, F612⟩ := id V
      obtain ⟨U612, u612, Y612, f612x, W612, su612⟩ := stB X609 hx hZ e609 B612 (j := (Int32.ofNat (cp - 1))) (own_in32 z612 (by omega) (by omega)) (g := (mkF m 55 #[.val (.int (-(Int32.ofNat (mg / 100)))), .val (.int (Int32.ofNat n)), .val (.ref bf), .val (.int (-(Int32.ofNat (mg / 100)))), .val (.int (Int32.ofNat (mg % 100))), .val (.int (Int32.ofNat (cp - 1))), .val (.int (0 : Int32))] [(.int (Int32.ofNat (48 + mg % 10))), (.int (Int32.ofNat (cp - 1))), (.ref bf)])) rfl rfl (hb hby d35_55)
      have S614 : own_Go p e below T0 (mkF m 22 #[.val (.int (-(Int32.ofNat mg))), .val (.int (Int32.ofNat n)), .val (.ref bf), s3, s4, .val (.int (Int32.ofNat cp)), .val (.int (0 : Int32))] []) U612 (mkF m 56 #[.val (.int (-(Int32.ofNat (mg / 100)))), .val (.int (Int32.ofNat n)), .val (.ref bf), .val (.int (-(Int32.ofNat (mg / 100)))), .val (.int (Int32.ofNat (mg % 100))), .val (.int (Int32.ofNat (cp - 1))), .val (.int (0 : Int32))] []) := fun tg_ kk_ => S613 tg_ (su612 tg_ kk_)
      have hx10612 : mg % 10 < 10 := by omega
      rw [own_nar48 hx10612] at W612
      have V612 := Arv.set B612 b612 z612 y612 H612 F612 (own_fit48 hx10612) W612 (cp - 1) (own_n32 (by omega)) (by rw [own_buf_len (by omega)]; omega)
      have hbs612 := own_buf_set (K := K) (n := n) (c := cp) (by omega) (by omega)
      rw [hmod] at hbs612
      rw [hbs612] at V612
      have O612 := O.wr W612 hbf
      have N612 := Fr.snoc Y612 N hbf
      have K612 := Keep.wr Kp W612 (Or.inl (by simp))
      have S615 : own_Go p e below T0 (mkF m 22 #[.val (.int (-(Int32.ofNat mg))), .val (.int (Int32.ofNat n)), .val (.ref bf), s3, s4, .val (.int (Int32.ofNat cp)), .val (.int (0 : Int32))] []) U612 (mkF m 62 #[.val (.int (-(Int32.ofNat (mg / 100)))), .val (.int (Int32.ofNat n)), .val (.ref bf), .val (.int (-(Int32.ofNat (mg / 100)))), .val (.int (Int32.ofNat (mg % 100))), .val (.int ((Int32.ofNat (cp - 1)) + (-1 : Int32))), .val (.int (0 : Int32))] [(.int ((Int32.ofNat (cp - 1)) + (-1 : Int32))), (.ref bf)]) := fun tg_ kk_ => S614 tg_ (by
        refine XS.aloadN Y612.here hx rfl (hb hby d35_56) rfl rfl ?_
        show Steps p.tables e below (U612.setTop (mkF m 57 #[.val (.int (-(Int32.ofNat (mg / 100)))), .val (.int (Int32.ofNat n)), .val (.ref bf), .val (.int (-(Int32.ofNat (mg / 100)))), .val (.int (Int32.ofNat (mg % 100))), .val (.int (Int32.ofNat (cp - 1))), .val (.int (0 : Int32))] [(.ref bf)])) _
        refine XS.iinc Y612.here hx rfl (hb hby d35_57) rfl (l' := #[.val (.int (-(Int32.ofNat (mg / 100)))), .val (.int (Int32.ofNat n)), .val (.ref bf), .val (.int (-(Int32.ofNat (mg / 100)))), .val (.int (Int32.ofNat (mg % 100))), .val (.int ((Int32.ofNat (cp - 1)) + (-1 : Int32))), .val (.int (0 : Int32))]) rfl ?_
        show Steps p.tables e below (U612.setTop (mkF m 60 #[.val (.int (-(Int32.ofNat (mg / 100)))), .val (.int (Int32.ofNat n)), .val (.ref bf), .val (.int (-(Int32.ofNat (mg / 100)))), .val (.int (Int32.ofNat (mg % 100))), .val (.int ((Int32.ofNat (cp - 1)) + (-1 : Int32))), .val (.int (0 : Int32))] [(.ref bf)])) _
        refine XS.iload Y612.here hx rfl (hb hby d35_60) rfl ?_
        exact kk_)
      rw [own_dec32 (c := cp - 1) (by omega) (by omega)] at S615
      obtain ⟨T616, X616, e616, st616⟩ := getS2 Y612 hx hZ (host := "") hown (Or.inl (hw _ (List.mem_of_getElem? (i := 295) rfl))) Via.refl f612x (ST.ext O612.2) (g := (mkF m 62 #[.val (.int (-(Int32.ofNat (mg / 100)))), .val (.int (Int32.ofNat n)), .val (.ref bf), .val (.int (-(Int32.ofNat (mg / 100)))), .val (.int (Int32.ofNat (mg % 100))), .val (.int (Int32.ofNat (cp - 1 - 1))), .val (.int (0 : Int32))] [(.int (Int32.ofNat (cp - 1 - 1))), (.ref bf)])) rfl (hb hby d35_62)
      have S617 : own_Go p e below T0 (mkF m 22 #[.val (.int (-(Int32.ofNat mg))), .val (.int (Int32.ofNat n)), .val (.ref bf), s3, s4, .val (.int (Int32.ofNat cp)), .val (.int (0 : Int32))] []) T616 (mkF m 65 #[.val (.int (-(Int32.ofNat (mg / 100)))), .val (.int (Int32.ofNat n)), .val (.ref bf), .val (.int (-(Int32.ofNat (mg / 100)))), .val (.int (Int32.ofNat (mg % 100))), .val (.int (Int32.ofNat (cp - 1 - 1))), .val (.int (0 : Int32))] [(.ref dT), (.int (Int32.ofNat (cp - 1 - 1))), (.ref bf)]) := fun tg_ kk_ => S615 tg_ (st616 tg_ kk_)
      have S618 : own_Go p e below T0 (mkF m 22 #[.val (.int (-(Int32.ofNat mg))), .val (.int (Int32.ofNat n)), .val (.ref bf), s3, s4, .val (.int (Int32.ofNat cp)), .val (.int (0 : Int32))] []) T616 (mkF m 67 #[.val (.int (-(Int32.ofNat (mg / 100)))), .val (.int (Int32.ofNat n)), .val (.ref bf), .val (.int (-(Int32.ofNat (mg / 100)))), .val (.int (Int32.ofNat (mg % 100))), .val (.int (Int32.ofNat (cp - 1 - 1))), .val (.int (0 : Int32))] [(.int (Int32.ofNat (mg % 100))), (.ref dT), (.int (Int32.ofNat (cp - 1 - 1))), (.ref bf)]) := fun tg_ kk_ => S617 tg_ (by
        refine XS.iload X616.here hx rfl (hb hby d35_65) rfl ?_
        exact kk_)
      have A619 := AT.ext O612.2
      have hr619 : mg % 100 < 100 := by omega
      have at619 : DT.slots[(Int32.ofNat (mg % 100)).toNatClampNeg]? = some (.int (Int32.ofNat (48 + mg / 10 % 10))) := by rw [own_n32 (by omega), HT _ hr619] <;> exact congrArg (fun z => some (Value.int (Int32.ofNat (48 + z)))) (by omega)
      have S620 : own_Go p e below T0 (mkF m 22 #[.val (.int (-(Int32.ofNat mg))), .val (.int (Int32.ofNat n)), .val (.ref bf), s3, s4, .val (.int (Int32.ofNat cp)), .val (.int (0 : Int32))] []) T616 (mkF m 68 #[.val (.int (-(Int32.ofNat (mg / 100)))), .val (.int (Int32.ofNat n)), .val (.ref bf), .val (.int (-(Int32.ofNat (mg / 100)))), .val (.int (Int32.ofNat (mg % 100))), .val (.int (Int32.ofNat (cp - 1 - 1))), .val (.int (0 : Int32))] [(.int (Int32.ofNat (48 + mg / 10 % 10))), (.int (Int32.ofNat (cp - 1 - 1))), (.ref bf)]) := fun tg_ kk_ => S618 tg_ (by
        refine X616.baloadBytes hx (j := (Int32.ofNat (mg % 100))) (v := (.int (Int32.ofNat (48 + mg / 10 % 10)))) (cell := DT) (by rw [e616]; exact A619.1) (State.isArrayOf_alike hZ.alike A619.2.1) A619.2.2 (own_in100 SzT hr619) at619 (g := (mkF m 67 #[.val (.int (-(Int32.ofNat (mg / 100)))), .val (.int (Int32.ofNat n)), .val (.ref bf), .val (.int (-(Int32.ofNat (mg / 100)))), .val (.int (Int32.ofNat (mg % 100))), .val (.int (Int32.ofNat (cp - 1 - 1))), .val (.int (0 : Int32))] [(.int (Int32.ofNat (mg % 100))), (.ref dT), (.int (Int32.ofNat (cp - 1 - 1))), (.ref bf)])) rfl rfl (hb hby d35_67) _ ?_
        exact kk_)
      obtain ⟨cl619, B619, b619, z619, y619, H619, F619⟩ := id V612
      obtain ⟨U619, u619, Y619, f619x, W619, su619⟩ := stB X616 hx hZ e616 B619 (j := (Int32.ofNat (cp - 1 - 1))) (own_in32 z619 (by omega) (by omega)) (g := (mkF m 68 #[.val (.int (-(Int32.ofNat (mg / 100)))), .val (.int (Int32.ofNat n)), .val (.ref bf), .val (.int (-(Int32.ofNat (mg / 100)))), .val (.int (Int32.ofNat (mg % 100))), .val (.int (Int32.ofNat (cp - 1 - 1))), .val (.int (0 : Int32))] [(.int (Int32.ofNat (48 + mg / 10 % 10))), (.int (Int32.ofNat (cp - 1 - 1))), (.ref bf)])) rfl rfl (hb hby d35_68)
      have S621 : own_Go p e below T0 (mkF m 22 #[.val (.int (-(Int32.ofNat mg))), .val (.int (Int32.ofNat n)), .val (.ref bf), s3, s4, .val (.int (Int32.ofNat cp)), .val (.int (0 : Int32))] []) U619 (mkF m 69 #[.val (.int (-(Int32.ofNat (mg / 100)))), .val (.int (Int32.ofNat n)), .val (.ref bf), .val (.int (-(Int32.ofNat (mg / 100)))), .val (.int (Int32.ofNat (mg % 100))), .val (.int (Int32.ofNat (cp - 1 - 1))), .val (.int (0 : Int32))] []) := fun tg_ kk_ => S620 tg_ (su619 tg_ kk_)
      have hx10619 : mg / 10 % 10 < 10 := by omega
      rw [own_nar48 hx10619] at W619
      have V619 := Arv.set B619 b619 z619 y619 H619 F619 (own_fit48 hx10619) W619 (cp - 1 - 1) (own_n32 (by omega)) (by rw [own_buf_len (by omega)]; omega)
      have hbs619 := own_buf_set (K := K) (n := n) (c := cp - 1) (by omega) (by omega)
      rw [hk1] at hbs619
      rw [hbs619] at V619
      have O619 := O612.wr W619 hbf
      have N619 := Fr.snoc Y619 N612 hbf
      have K619 := Keep.wr K612 W619 (Or.inl (by simp))
      have S622 : own_Go p e below T0 (mkF m 22 #[.val (.int (-(Int32.ofNat mg))), .val (.int (Int32.ofNat n)), .val (.ref bf), s3, s4, .val (.int (Int32.ofNat cp)), .val (.int (0 : Int32))] []) U619 (mkF m 22 #[.val (.int (-(Int32.ofNat (mg / 100)))), .val (.int (Int32.ofNat n)), .val (.ref bf), .val (.int (-(Int32.ofNat (mg / 100)))), .val (.int (Int32.ofNat (mg % 100))), .val (.int (Int32.ofNat (cp - 1 - 1))), .val (.int (0 : Int32))] []) := fun tg_ kk_ => S621 tg_ (by
        refine XS.goto Y619.here hx rfl (pc0 := 69) (pc' := 22) rfl (hb hby d35_69) (by decide) (by decide) ?_
        exact kk_)
      have ecp : cp - 1 - 1 = cp - 2 := by omega
      rw [ecp] at S622 V619
      have hmK2 : mg / 100 = K / 10 ^ (n - (cp - 2)) := by rw [own_k2 (by omega) h2, hmod]
      obtain ⟨T9, h9_, L9, i9, s39, s49, X9, e9, N9, K9, V9, g9⟩ := ih (mg / 100) (cp - 2) U619 _ _ (.val (.int (-(Int32.ofNat (mg / 100))))) (.val (.int (Int32.ofNat (mg % 100)))) (One.val rfl) (One.val rfl) (by omega) (by omega) (by omega) ha2 hb2 (by omega) hmK2 Y619 f619x O619 N619 K619 V619
      exact ⟨T9, h9_, L9, i9, s39, s49, X9, e9, N9, K9, V9, own_Go.trans S622 g9⟩
def Q35 (Z : State) (K : Nat) (n : Nat) (bf : Addr) (kb : ClassId) (h0 : Heap) (n0 : Nat) (v : Option Value) (h : Heap) (L : List Loc) : Prop := v = some (.int 0) ∧ Fr n0 L ∧ Keep h0 h [bf] ∧ Arv Z h bf kb .byte (Int32.ofNat n) (own_dv K n) (.int 0)
set_option maxRecDepth 65536 in
set_option maxHeartbeats 40000000 in
theorem rm35 (l : Launch) (Z : State) (a0 : Array Value) (hw : ∀ d ∈ tables_1, d.before a0 Z = true) (ws : List Jvm.Cond) (K : Nat) (n : Nat) (bf : Addr) (kb : ClassId) (h0 : Heap) (n0 : Nat) (Z0 : n0 ≤ h0.size) (hKk : 1 ≤ K ∧ K < 2 ^ 31) (hn : 1 ≤ n ∧ n ≤ 10) (hr : 10 ^ (n - 1) ≤ K ∧ K < 10 ^ n) (V : Arv Z h0 bf kb .byte (Int32.ofNat n) [] (.int 0)) (hbf : @LE.le Nat instLENat n0 bf) (O : Old Z n0 h0) (dO dT : Addr) (DO DT : Cell) (SO : Sta Z Z.heap "java/lang/Integer" "DigitOnes" "[B" (.ref dO)) (ST : Sta Z Z.heap "java/lang/Integer" "DigitTens" "[B" (.ref dT)) (AO : Arr Z Z.heap dO DO .byte) (AT : Arr Z Z.heap dT DT .byte) (SzO : DO.slots.size = 100) (SzT : DT.slots.size = 100) (HO : ∀ i, i < 100 → DO.slots[i]? = some (.int (Int32.ofNat (48 + i % 10)))) (HT : ∀ i, i < 100 → DT.slots[i]? = some (.int (Int32.ofNat (48 + i / 10)))) :
    MetFree l (⟨"java/lang/Integer", "getChars", "(II[B)I"⟩ : MethodName) (head1 (Jvm.Cond.code (⟨"java/lang/Integer", "getChars", "(II[B)I"⟩ : MethodName) jdk_33_method_12_code 7 (some .int) :: ws) ({ frames := 0, cells := 0, slots := 0, locals := 0 } : Room)) (fun aa_ U => aa_ = #[(.int (Int32.ofNat K)), (.int (Int32.ofNat n)), (.ref bf)] ∧ Z.Warmed39 U.vm ∧ U.heap = h0) (fun _ _ _ _ _ => True) (fun _ U o U' => ∃ v L, o = .returned v ∧ Q35 Z K n bf kb h0 n0 v U'.heap L ∧ FrameEnd U o U' L ({ frames := 0, cells := 0, slots := 0, locals := 0 } : Room).cells ({ frames := 0, cells := 0, slots := 0, locals := 0 } : Room).slots) := by
  refine MetFree.of_bodySF (plainFor_of_name pn2) hisR ?_
  intro p e s m args below meth c s₁ Bd hml0 hP hK
  obtain ⟨rfl, hZ, hh⟩ := hP
  have hx := Bd.exec
  have hby := Bd.bytes
  have hml : c.maxLocals = 7 := hml0
  have hown : s.vm.findClass "java/lang/Integer" = some m.cls := findClass_of_methodNamed Bd.named
  have hnm := (name_of_methodNamed Bd.named Bd.method).1
  have X0 : Stand p l e ({ frames := 0, cells := 0, slots := 0, locals := 0 } : Room) s m #[(.int (Int32.ofNat K)), (.int (Int32.ofNat n)), (.ref bf)] below meth c s₁ [] 0 0 := Stand.of_body Bd
  have e0 : s₁.heap = h0 := by rw [← hh, Bd.state]; rfl
  have N0 := Fr.nil n0
  obtain ⟨G, hG⟩ : ∃ G, G = entryFrame m #[(.int (Int32.ofNat K)), (.int (Int32.ofNat n)), (.ref bf)] 7 := ⟨_, rfl⟩
  have S0 : own_Go p e below s₁ G s₁ (mkF m 0 #[.val (.int (Int32.ofNat K)), .val (.int (Int32.ofNat n)), .val (.ref bf), .unset, .unset, .unset, .unset] []) := fun tg_ kk_ => castTop (by rw [hG]; first | rfl | simp [entryFrame, mkF, argsToLocals, Value.category, maxLocals]) kk_
  have S623 : own_Go p e below s₁ G s₁ (mkF m 22 #[.val (.int (-(Int32.ofNat K))), .val (.int (Int32.ofNat n)), .val (.ref bf), .unset, .unset, .val (.int (Int32.ofNat n)), .val (.int (0 : Int32))] []) := fun tg_ kk_ => S0 tg_ (by
    refine XS.iloadN X0.here hx rfl (hb hby d35_0) rfl ?_
    show Steps p.tables e below (s₁.setTop (mkF m 1 #[.val (.int (Int32.ofNat K)), .val (.int (Int32.ofNat n)), .val (.ref bf), .unset, .unset, .unset, .unset] [(.int (Int32.ofNat n))])) _
    refine XS.istore X0.here hx rfl (hb hby d35_1) rfl (l' := #[.val (.int (Int32.ofNat K)), .val (.int (Int32.ofNat n)), .val (.ref bf), .unset, .unset, .val (.int (Int32.ofNat n)), .unset]) rfl ?_
    show Steps p.tables e below (s₁.setTop (mkF m 3 #[.val (.int (Int32.ofNat K)), .val (.int (Int32.ofNat n)), .val (.ref bf), .unset, .unset, .val (.int (Int32.ofNat n)), .unset] [])) _
    refine XS.iloadN X0.here hx rfl (hb hby d35_3) rfl ?_
    show Steps p.tables e below (s₁.setTop (mkF m 4 #[.val (.int (Int32.ofNat K)), .val (.int (Int32.ofNat n)), .val (.ref bf), .unset, .unset, .val (.int (Int32.ofNat n)), .unset] [(.int (Int32.ofNat K))])) _
    refine XS.ifYes X0.here hx rfl (pc0 := 4) (pc' := 11) rfl (hb hby d35_4) rfl (XT.i0_ge_t (own_nn32 (by omega))) (by decide) (by decide) ?_
    show Steps p.tables e below (s₁.setTop (mkF m 11 #[.val (.int (Int32.ofNat K)), .val (.int (Int32.ofNat n)), .val (.ref bf), .unset, .unset, .val (.int (Int32.ofNat n)), .unset] [])) _
    refine XS.iconst X0.here hx rfl (hb hby d35_11) ?_
    show Steps p.tables e below (s₁.setTop (mkF m 12 #[.val (.int (Int32.ofNat K)), .val (.int (Int32.ofNat n)), .val (.ref bf), .unset, .unset, .val (.int (Int32.ofNat n)), .unset] [(.int (0 : Int32))])) _
    refine XS.istore X0.here hx rfl (hb hby d35_12) rfl (l' := #[.val (.int (Int32.ofNat K)), .val (.int (Int32.ofNat n)), .val (.ref bf), .unset, .unset, .val (.int (Int32.ofNat n)), .val (.int (0 : Int32))]) rfl ?_
    show Steps p.tables e below (s₁.setTop (mkF m 14 #[.val (.int (Int32.ofNat K)), .val (.int (Int32.ofNat n)), .val (.ref bf), .unset, .unset, .val (.int (Int32.ofNat n)), .val (.int (0 : Int32))] [])) _
    refine XS.iload X0.here hx rfl (hb hby d35_14) rfl ?_
    show Steps p.tables e below (s₁.setTop (mkF m 16 #[.val (.int (Int32.ofNat K)), .val (.int (Int32.ofNat n)), .val (.ref bf), .unset, .unset, .val (.int (Int32.ofNat n)), .val (.int (0 : Int32))] [(.int (0 : Int32))])) _
    refine XS.ifNo X0.here hx rfl (hb hby d35_16) rfl (XT.i0_ne_f (by decide)) ?_
    show Steps p.tables e below (s₁.setTop (mkF m 19 #[.val (.int (Int32.ofNat K)), .val (.int (Int32.ofNat n)), .val (.ref bf), .unset, .unset, .val (.int (Int32.ofNat n)), .val (.int (0 : Int32))] [])) _
    refine XS.iloadN X0.here hx rfl (hb hby d35_19) rfl ?_
    show Steps p.tables e below (s₁.setTop (mkF m 20 #[.val (.int (Int32.ofNat K)), .val (.int (Int32.ofNat n)), .val (.ref bf), .unset, .unset, .val (.int (Int32.ofNat n)), .val (.int (0 : Int32))] [(.int (Int32.ofNat K))])) _
    refine XS.ineg X0.here hx rfl (hb hby d35_20) rfl ?_
    show Steps p.tables e below (s₁.setTop (mkF m 21 #[.val (.int (Int32.ofNat K)), .val (.int (Int32.ofNat n)), .val (.ref bf), .unset, .unset, .val (.int (Int32.ofNat n)), .val (.int (0 : Int32))] [(.int (-(Int32.ofNat K)))])) _
    refine XS.istoreN X0.here hx rfl (hb hby d35_21) rfl (l' := #[.val (.int (-(Int32.ofNat K))), .val (.int (Int32.ofNat n)), .val (.ref bf), .unset, .unset, .val (.int (Int32.ofNat n)), .val (.int (0 : Int32))]) rfl ?_
    exact kk_)
  have V1 := V.pad (pad_rep [] (.int 0) n)
  rw [List.nil_append, ← own_buf_start K n] at V1
  obtain ⟨T9, h9, L9, i9, s39, s49, X9, e9, N9, K9, V9, g9⟩ := own_gc (h0 := h0) bf kb K n hn.2 hbf dO dT DO DT SO ST AO AT SzO SzT HO HT hx hZ hw hby hml hown 5 K n s₁ h0 _ _ _ One.u One.u (by omega) hn.1 (Nat.le_refl _) hr.1 hr.2 hKk.2 (by rw [Nat.sub_self]; simp) X0 e0 O N0 (Keep.refl _ _) V1
  have SL := own_Go.trans S623 g9
  obtain ⟨fs, hr, hrun, hended, hW, hsame⟩ := X9.leave (v := some (.int (0 : Int32))) (fun h => by rw [Bd.returns] at h; cases h)
  refine ⟨_, _, ?_, hrun, hended, _, _, rfl, ?_, ⟨_, rfl⟩, hW, hsame.mono (by decide) (by decide)⟩
  · rw [← hG]; exact SL _ (retI X9 hx Bd.returns (hb hby d35_120) hr)
  · show Q35 Z K n bf kb h0 n0 _ T9.heap _
    rw [e9]
    exact ⟨rfl, N9, K9, V9⟩
/-- the statics of StringUTF16 that its bodies read -/
def own_A16 (Z : State) : Prop := Sta Z Z.heap "java/lang/StringUTF16" "$assertionsDisabled" "Z" (.int 1) ∧ Sta Z Z.heap "java/lang/StringUTF16" "HI_BYTE_SHIFT" "I" (.int 0) ∧ Sta Z Z.heap "java/lang/StringUTF16" "LO_BYTE_SHIFT" "I" (.int 8)
theorem pn13 : plainName "java/lang/String" = true := by first | (simp [plainName, overriddenIn]; done) | decide +kernel
def Q39 (Z : State) (x : Addr) (cd : Int32) (h0 : Heap) (n0 : Nat) (v : Option Value) (h : Heap) (L : List Loc) : Prop := v = some (.int cd) ∧ Fr n0 L ∧ h0 = h
set_option maxRecDepth 65536 in
set_option maxHeartbeats 40000000 in
theorem rm39 (l : Launch) (Z : State) (a0 : Array Value) (hw : ∀ d ∈ tables_1, d.before a0 Z = true) (ws : List Jvm.Cond) (x : Addr) (cd : Int32) (h0 : Heap) (n0 : Nat) (Z0 : n0 ≤ h0.size) (z : Int32) (O : Old Z n0 h0) (O2 : Sta Z Z.heap "java/lang/String" "COMPACT_STRINGS" "Z" (.int z)) (P5 : ¬ z = 0) (Fc : Fld Z h0 x "java/lang/String" "coder" "B" (.int cd)) (hcd : cd = 0 ∨ cd = 1) :
    MetFree l (⟨"java/lang/String", "coder", "()B"⟩ : MethodName) (head1 (Jvm.Cond.code (⟨"java/lang/String", "coder", "()B"⟩ : MethodName) jdk_42_method_152_code 1 (some .byte) :: ws) ({ frames := 0, cells := 0, slots := 0, locals := 0 } : Room)) (fun aa_ U => aa_ = #[(.ref x)] ∧ Z.Warmed39 U.vm ∧ U.heap = h0) (fun _ _ _ _ _ => True) (fun _ U o U' => ∃ v L, o = .returned v ∧ Q39 Z x cd h0 n0 v U'.heap L ∧ FrameEnd U o U' L ({ frames := 0, cells := 0, slots := 0, locals := 0 } : Room).cells ({ frames := 0, cells := 0, slots := 0, locals := 0 } : Room).slots) := by
  refine MetFree.of_bodySF (plainFor_of_name pn13) hisR ?_
  intro p e s m args below meth c s₁ Bd hml0 hP hK
  obtain ⟨rfl, hZ, hh⟩ := hP
  have hx := Bd.exec
  have hby := Bd.bytes
  have hml : c.maxLocals = 1 := hml0
  have hown : s.vm.findClass "java/lang/String" = some m.cls := findClass_of_methodNamed Bd.named
  have hnm := (name_of_methodNamed Bd.named Bd.method).1
  have X0 : Stand p l e ({ frames := 0, cells := 0, slots := 0, locals := 0 } : Room) s m #[(.ref x)] below meth c s₁ [] 0 0 := Stand.of_body Bd
  have e0 : s₁.heap = h0 := by rw [← hh, Bd.state]; rfl
  have N0 := Fr.nil n0
  obtain ⟨G, hG⟩ : ∃ G, G = entryFrame m #[(.ref x)] 1 := ⟨_, rfl⟩
  have S0 : own_Go p e below s₁ G s₁ (mkF m 0 #[.val (.ref x)] []) := fun tg_ kk_ => castTop (by rw [hG]; first | rfl | simp [entryFrame, mkF, argsToLocals, Value.category, maxLocals]) kk_
  obtain ⟨T624, X624, e624, st624⟩ := getS X0 hx hZ (host := "") hown (hw _ (List.mem_of_getElem? (i := 269) rfl)) Via.refl e0 (O2.ext O.2) (g := (mkF m 0 #[.val (.ref x)] [])) rfl (hb hby d39_0)
  have S625 : own_Go p e below s₁ G T624 (mkF m 3 #[.val (.ref x)] [(.int z)]) := fun tg_ kk_ => S0 tg_ (st624 tg_ kk_)
  have S626 : own_Go p e below s₁ G T624 (mkF m 7 #[.val (.ref x)] [(.ref x)]) := fun tg_ kk_ => S625 tg_ (by
    refine XS.ifNo X624.here hx rfl (hb hby d39_3) rfl (XT.i0_eq_f P5) ?_
    show Steps p.tables e below (T624.setTop (mkF m 6 #[.val (.ref x)] [])) _
    refine XS.aloadN X624.here hx rfl (hb hby d39_6) rfl rfl ?_
    exact kk_)
  obtain ⟨T627, X627, e627, st627⟩ := getF X624 hx hZ hown (host := "") (Or.inl (hw _ (List.mem_of_getElem? (i := 253) rfl))) Via.refl e624 Fc (g := (mkF m 7 #[.val (.ref x)] [(.ref x)])) rfl rfl (hb hby d39_7)
  have S628 : own_Go p e below s₁ G T627 (mkF m 10 #[.val (.ref x)] [(.int cd)]) := fun tg_ kk_ => S626 tg_ (st627 tg_ kk_)
  have S629 : own_Go p e below s₁ G T627 (mkF m 14 #[.val (.ref x)] [(.int cd)]) := fun tg_ kk_ => S628 tg_ (by
    refine XS.goto X627.here hx rfl (pc0 := 10) (pc' := 14) rfl (hb hby d39_10) (by decide) (by decide) ?_
    exact kk_)
  rcases hcd with rfl | rfl
  · have _ := N0
    obtain ⟨fs, hr, hrun, hended, hW, hsame⟩ := X627.leave (v := some (.int (0 : Int32))) (fun h => by rw [Bd.returns] at h; cases h)
    refine ⟨_, _, ?_, hrun, hended, _, _, rfl, ?_, ⟨_, rfl⟩, hW, hsame.mono (by decide) (by decide)⟩
    · rw [← hG]; exact S629 _ (retN X627 hx (t := .byte) Bd.returns (by simp) (hb hby d39_14) hr)
    · show Q39 Z x (0 : Int32) h0 n0 _ T627.heap _
      rw [e627]
      exact ⟨rfl, N0, rfl⟩
  · have _ := N0
    obtain ⟨fs, hr, hrun, hended, hW, hsame⟩ := X627.leave (v := some (.int (1 : Int32))) (fun h => by rw [Bd.returns] at h; cases h)
    refine ⟨_, _, ?_, hrun, hended, _, _, rfl, ?_, ⟨_, rfl⟩, hW, hsame.mono (by decide) (by decide)⟩
    · rw [← hG]; exact S629 _ (retN X627 hx (t := .byte) Bd.returns (by simp) (hb hby d39_14) hr)
    · show Q39 Z x (1 : Int32) h0 n0 _ T627.heap _
      rw [e627]
      exact ⟨rfl, N0, rfl⟩
def Q41 (Z : State) (x : Addr) (cd : Int32) (h0 : Heap) (n0 : Nat) (v : Option Value) (h : Heap) (L : List Loc) : Prop := v = some (.int (1 - cd)) ∧ Fr n0 L ∧ h0 = h
set_option maxRecDepth 65536 in
set_option maxHeartbeats 40000000 in
theorem rm41 (l : Launch) (Z : State) (a0 : Array Value) (hw : ∀ d ∈ tables_1, d.before a0 Z = true) (ws : List Jvm.Cond) (x : Addr) (cd : Int32) (h0 : Heap) (n0 : Nat) (Z0 : n0 ≤ h0.size) (z : Int32) (O : Old Z n0 h0) (O2 : Sta Z Z.heap "java/lang/String" "COMPACT_STRINGS" "Z" (.int z)) (P5 : ¬ z = 0) (Fc : Fld Z h0 x "java/lang/String" "coder" "B" (.int cd)) (hcd : cd = 0 ∨ cd = 1) :
    MetFree l (⟨"java/lang/String", "isLatin1", "()Z"⟩ : MethodName) (head1 (Jvm.Cond.code (⟨"java/lang/String", "isLatin1", "()Z"⟩ : MethodName) jdk_42_method_154_code 1 (some .boolean) :: ws) ({ frames := 0, cells := 0, slots := 0, locals := 0 } : Room)) (fun aa_ U => aa_ = #[(.ref x)] ∧ Z.Warmed39 U.vm ∧ U.heap = h0) (fun _ _ _ _ _ => True) (fun _ U o U' => ∃ v L, o = .returned v ∧ Q41 Z x cd h0 n0 v U'.heap L ∧ FrameEnd U o U' L ({ frames := 0, cells := 0, slots := 0, locals := 0 } : Room).cells ({ frames := 0, cells := 0, slots := 0, locals := 0 } : Room).slots) := by
  refine MetFree.of_bodySF (plainFor_of_name pn13) hisR ?_
  intro p e s m args below meth c s₁ Bd hml0 hP hK
  obtain ⟨rfl, hZ, hh⟩ := hP
  have hx := Bd.exec
  have hby := Bd.bytes
  have hml : c.maxLocals = 1 := hml0
  have hown : s.vm.findClass "java/lang/String" = some m.cls := findClass_of_methodNamed Bd.named
  have hnm := (name_of_methodNamed Bd.named Bd.method).1
  have X0 : Stand p l e ({ frames := 0, cells := 0, slots := 0, locals := 0 } : Room) s m #[(.ref x)] below meth c s₁ [] 0 0 := Stand.of_body Bd
  have e0 : s₁.heap = h0 := by rw [← hh, Bd.state]; rfl
  have N0 := Fr.nil n0
  obtain ⟨G, hG⟩ : ∃ G, G = entryFrame m #[(.ref x)] 1 := ⟨_, rfl⟩
  have S0 : own_Go p e below s₁ G s₁ (mkF m 0 #[.val (.ref x)] []) := fun tg_ kk_ => castTop (by rw [hG]; first | rfl | simp [entryFrame, mkF, argsToLocals, Value.category, maxLocals]) kk_
  obtain ⟨T630, X630, e630, st630⟩ := getS X0 hx hZ (host := "") hown (hw _ (List.mem_of_getElem? (i := 269) rfl)) Via.refl e0 (O2.ext O.2) (g := (mkF m 0 #[.val (.ref x)] [])) rfl (hb hby d41_0)
  have S631 : own_Go p e below s₁ G T630 (mkF m 3 #[.val (.ref x)] [(.int z)]) := fun tg_ kk_ => S0 tg_ (st630 tg_ kk_)
  have S632 : own_Go p e below s₁ G T630 (mkF m 7 #[.val (.ref x)] [(.ref x)]) := fun tg_ kk_ => S631 tg_ (by
    refine XS.ifNo X630.here hx rfl (hb hby d41_3) rfl (XT.i0_eq_f P5) ?_
    show Steps p.tables e below (T630.setTop (mkF m 6 #[.val (.ref x)] [])) _
    refine XS.aloadN X630.here hx rfl (hb hby d41_6) rfl rfl ?_
    exact kk_)
  obtain ⟨T633, X633, e633, st633⟩ := getF X630 hx hZ hown (host := "") (Or.inl (hw _ (List.mem_of_getElem? (i := 253) rfl))) Via.refl e630 Fc (g := (mkF m 7 #[.val (.ref x)] [(.ref x)])) rfl rfl (hb hby d41_7)
  have S634 : own_Go p e below s₁ G T633 (mkF m 10 #[.val (.ref x)] [(.int cd)]) := fun tg_ kk_ => S632 tg_ (st633 tg_ kk_)
  rcases hcd with rfl | rfl
  · have _ := N0
    have S635 : own_Go p e below s₁ G T633 (mkF m 18 #[.val (.ref x)] [(.int (1 : Int32))]) := fun tg_ kk_ => S634 tg_ (by
      refine XS.ifNo X633.here hx rfl (hb hby d41_10) rfl (XT.i0_ne_f (by decide)) ?_
      show Steps p.tables e below (T633.setTop (mkF m 13 #[.val (.ref x)] [])) _
      refine XS.iconst X633.here hx rfl (hb hby d41_13) ?_
      show Steps p.tables e below (T633.setTop (mkF m 14 #[.val (.ref x)] [(.int (1 : Int32))])) _
      refine XS.goto X633.here hx rfl (pc0 := 14) (pc' := 18) rfl (hb hby d41_14) (by decide) (by decide) ?_
      exact kk_)
    obtain ⟨fs, hr, hrun, hended, hW, hsame⟩ := X633.leave (v := some (.int (1 : Int32))) (fun h => by rw [Bd.returns] at h; cases h)
    refine ⟨_, _, ?_, hrun, hended, _, _, rfl, ?_, ⟨_, rfl⟩, hW, hsame.mono (by decide) (by decide)⟩
    · rw [← hG]; exact S635 _ (retN X633 hx (t := .boolean) Bd.returns (by simp) (hb hby d41_18) hr)
    · show Q41 Z x (0 : Int32) h0 n0 _ T633.heap _
      rw [e633]
      exact ⟨rfl, N0, rfl⟩
  · have _ := N0
    have S636 : own_Go p e below s₁ G T633 (mkF m 18 #[.val (.ref x)] [(.int (0 : Int32))]) := fun tg_ kk_ => S634 tg_ (by
      refine XS.ifYes X633.here hx rfl (pc0 := 10) (pc' := 17) rfl (hb hby d41_10) rfl (XT.i0_ne_t (by decide)) (by decide) (by decide) ?_
      show Steps p.tables e below (T633.setTop (mkF m 17 #[.val (.ref x)] [])) _
      refine XS.iconst X633.here hx rfl (hb hby d41_17) ?_
      exact kk_)
    obtain ⟨fs, hr, hrun, hended, hW, hsame⟩ := X633.leave (v := some (.int (0 : Int32))) (fun h => by rw [Bd.returns] at h; cases h)
    refine ⟨_, _, ?_, hrun, hended, _, _, rfl, ?_, ⟨_, rfl⟩, hW, hsame.mono (by decide) (by decide)⟩
    · rw [← hG]; exact S636 _ (retN X633 hx (t := .boolean) Bd.returns (by simp) (hb hby d41_18) hr)
    · show Q41 Z x (1 : Int32) h0 n0 _ T633.heap _
      rw [e633]
      exact ⟨rfl, N0, rfl⟩
def Q38 (Z : State) (x : Addr) (t : Addr) (cs : List Int32) (h0 : Heap) (n0 : Nat) (v : Option Value) (h : Heap) (L : List Loc) : Prop := v = some (.int (Int32.ofNat cs.length)) ∧ Fr n0 L ∧ h0 = h
set_option maxRecDepth 65536 in
set_option maxHeartbeats 40000000 in
theorem rm38 (l : Launch) (Z : State) (a0 : Array Value) (hw : ∀ d ∈ tables_1, d.before a0 Z = true) (ws : List Jvm.Cond) (x : Addr) (t : Addr) (cs : List Int32) (h0 : Heap) (n0 : Nat) (Z0 : n0 ≤ h0.size) (z : Int32) (O : Old Z n0 h0) (O2 : Sta Z Z.heap "java/lang/String" "COMPACT_STRINGS" "Z" (.int z)) (P5 : ¬ z = 0) (S : own_Str Z h0 x t cs) (hn : cs.length ≤ 1000) :
    MetFree l (⟨"java/lang/String", "length", "()I"⟩ : MethodName) (head1 (Jvm.Cond.code (⟨"java/lang/String", "length", "()I"⟩ : MethodName) jdk_42_method_54_code 1 (some .int) :: ws) ({ frames := 1, cells := 0, slots := 0, locals := 14 } : Room)) (fun aa_ U => aa_ = #[(.ref x)] ∧ Z.Warmed39 U.vm ∧ U.heap = h0) (fun _ _ _ _ _ => True) (fun _ U o U' => ∃ v L, o = .returned v ∧ Q38 Z x t cs h0 n0 v U'.heap L ∧ FrameEnd U o U' L ({ frames := 1, cells := 0, slots := 0, locals := 14 } : Room).cells ({ frames := 1, cells := 0, slots := 0, locals := 14 } : Room).slots) := by
  refine MetFree.of_bodySF (plainFor_of_name pn13) hisR ?_
  intro p e s m args below meth c s₁ Bd hml0 hP hK
  obtain ⟨rfl, hZ, hh⟩ := hP
  have hx := Bd.exec
  have hby := Bd.bytes
  have hml : c.maxLocals = 1 := hml0
  have hown : s.vm.findClass "java/lang/String" = some m.cls := findClass_of_methodNamed Bd.named
  have hnm := (name_of_methodNamed Bd.named Bd.method).1
  have X0 : Stand p l e ({ frames := 1, cells := 0, slots := 0, locals := 14 } : Room) s m #[(.ref x)] below meth c s₁ [] 0 0 := Stand.of_body Bd
  have e0 : s₁.heap = h0 := by rw [← hh, Bd.state]; rfl
  have N0 := Fr.nil n0
  obtain ⟨G, hG⟩ : ∃ G, G = entryFrame m #[(.ref x)] 1 := ⟨_, rfl⟩
  have S0 : own_Go p e below s₁ G s₁ (mkF m 0 #[.val (.ref x)] []) := fun tg_ kk_ => castTop (by rw [hG]; first | rfl | simp [entryFrame, mkF, argsToLocals, Value.category, maxLocals]) kk_
  rcases S.2.2 with ⟨Fc, ⟨kt, V⟩, -⟩ | ⟨Fc, ⟨kt, V⟩, -⟩
  · obtain ⟨cl, Ar, -, Sz, Mn, -, -⟩ := V
    have S637 : own_Go p e below s₁ G s₁ (mkF m 1 #[.val (.ref x)] [(.ref x)]) := fun tg_ kk_ => S0 tg_ (by
      refine XS.aloadN X0.here hx rfl (hb hby d38_0) rfl rfl ?_
      exact kk_)
    obtain ⟨T638, X638, e638, st638⟩ := getF X0 hx hZ hown (host := "") (Or.inl (hw _ (List.mem_of_getElem? (i := 251) rfl))) Via.refl e0 S.2.1 (g := (mkF m 1 #[.val (.ref x)] [(.ref x)])) rfl rfl (hb hby d38_1)
    have S639 : own_Go p e below s₁ G T638 (mkF m 4 #[.val (.ref x)] [(.ref t)]) := fun tg_ kk_ => S637 tg_ (st638 tg_ kk_)
    have S640 : own_Go p e below s₁ G T638 (mkF m 6 #[.val (.ref x)] [(.ref x), (.int (Int32.ofNat cs.length))]) := fun tg_ kk_ => S639 tg_ (by
      refine X638.arraylength hx (cell := cl) (by rw [e638]; exact Ar.1) (State.isArrayOf_alike hZ.alike Ar.2.1) (g := (mkF m 4 #[.val (.ref x)] [(.ref t)])) rfl (rest := []) rfl (hb hby d38_4) _ ?_
      rw [len_of Sz Mn]
      show Steps p.tables e below (T638.setTop (mkF m 5 #[.val (.ref x)] [(.int (Int32.ofNat cs.length))])) _
      refine XS.aloadN X638.here hx rfl (hb hby d38_5) rfl rfl ?_
      exact kk_)
    obtain ⟨_, T641, h641, L641, X641, e641, hQ641, st641⟩ := own_callV X638 hx hZ (y := (⟨"java/lang/String", "coder", "()B"⟩ : MethodName)) hown (hw _ (List.mem_of_getElem? (i := 264) rfl)) (hw _ (List.mem_of_getElem? (i := 265) rfl)) (hw _ (List.mem_of_getElem? (i := 267) rfl)) (hw _ (List.mem_of_getElem? (i := 266) rfl)) (hw _ (List.mem_of_getElem? (i := 224) rfl)) (hw _ (List.mem_of_getElem? (i := 268) rfl)) (by decide) 1 (g := (mkF m 6 #[.val (.ref x)] [(.ref x), (.int (Int32.ofNat cs.length))])) rfl (by rw [hml]; rfl) x S.1 [] [(.int (Int32.ofNat cs.length))] (rm39 l Z a0 hw [] x (0 : Int32) h0 n0 Z0 z O O2 P5 Fc (Or.inl rfl)) (lenOf pd26 rfl) rfl (by show 2 * 0 + _ ≤ _; exact Nat.le_of_eq rfl) (hb hby d38_6) (by decide) (by decide) e638 (by decide) (by decide)
    obtain ⟨rfl, N641, rfl⟩ := hQ641
    have S642 : own_Go p e below s₁ G T641 (mkF m 9 #[.val (.ref x)] [(.int (0 : Int32)), (.int (Int32.ofNat cs.length))]) := fun tg_ kk_ => S640 tg_ (st641 tg_ kk_)
    have M1 := Fr.app N0 N641
    have S643 : own_Go p e below s₁ G T641 (mkF m 10 #[.val (.ref x)] [(.int ((Int32.ofNat cs.length) >>> ((0 : Int32) &&& 31)))]) := fun tg_ kk_ => S642 tg_ (by
      refine XT.ishr X641.here hx rfl (hb hby d38_9) rfl ?_
      exact kk_)
    rw [own_shr0] at S643
    obtain ⟨fs, hr, hrun, hended, hW, hsame⟩ := X641.leave (v := some (.int (Int32.ofNat cs.length))) (fun h => by rw [Bd.returns] at h; cases h)
    refine ⟨_, _, ?_, hrun, hended, _, _, rfl, ?_, ⟨_, rfl⟩, hW, hsame.mono (by decide) (by decide)⟩
    · rw [← hG]; exact S643 _ (retI X641 hx Bd.returns (hb hby d38_10) hr)
    · show Q38 Z x t cs h0 n0 _ T641.heap _
      rw [e641]
      exact ⟨rfl, M1, rfl⟩
  · obtain ⟨cl, Ar, -, Sz, Mn, -, -⟩ := V
    have S644 : own_Go p e below s₁ G s₁ (mkF m 1 #[.val (.ref x)] [(.ref x)]) := fun tg_ kk_ => S0 tg_ (by
      refine XS.aloadN X0.here hx rfl (hb hby d38_0) rfl rfl ?_
      exact kk_)
    obtain ⟨T645, X645, e645, st645⟩ := getF X0 hx hZ hown (host := "") (Or.inl (hw _ (List.mem_of_getElem? (i := 251) rfl))) Via.refl e0 S.2.1 (g := (mkF m 1 #[.val (.ref x)] [(.ref x)])) rfl rfl (hb hby d38_1)
    have S646 : own_Go p e below s₁ G T645 (mkF m 4 #[.val (.ref x)] [(.ref t)]) := fun tg_ kk_ => S644 tg_ (st645 tg_ kk_)
    have S647 : own_Go p e below s₁ G T645 (mkF m 6 #[.val (.ref x)] [(.ref x), (.int (Int32.ofNat (2 * cs.length)))]) := fun tg_ kk_ => S646 tg_ (by
      refine X645.arraylength hx (cell := cl) (by rw [e645]; exact Ar.1) (State.isArrayOf_alike hZ.alike Ar.2.1) (g := (mkF m 4 #[.val (.ref x)] [(.ref t)])) rfl (rest := []) rfl (hb hby d38_4) _ ?_
      rw [len_of Sz Mn]
      show Steps p.tables e below (T645.setTop (mkF m 5 #[.val (.ref x)] [(.int (Int32.ofNat (2 * cs.length)))])) _
      refine XS.aloadN X645.here hx rfl (hb hby d38_5) rfl rfl ?_
      exact kk_)
    obtain ⟨_, T648, h648, L648, X648, e648, hQ648, st648⟩ := own_callV X645 hx hZ (y := (⟨"java/lang/String", "coder", "()B"⟩ : MethodName)) hown (hw _ (List.mem_of_getElem? (i := 264) rfl)) (hw _ (List.mem_of_getElem? (i := 265) rfl)) (hw _ (List.mem_of_getElem? (i := 267) rfl)) (hw _ (List.mem_of_getElem? (i := 266) rfl)) (hw _ (List.mem_of_getElem? (i := 224) rfl)) (hw _ (List.mem_of_getElem? (i := 268) rfl)) (by decide) 1 (g := (mkF m 6 #[.val (.ref x)] [(.ref x), (.int (Int32.ofNat (2 * cs.length)))])) rfl (by rw [hml]; rfl) x S.1 [] [(.int (Int32.ofNat (2 * cs.length)))] (rm39 l Z a0 hw [] x (1 : Int32) h0 n0 Z0 z O O2 P5 Fc (Or.inr rfl)) (lenOf pd26 rfl) rfl (by show 2 * 0 + _ ≤ _; exact Nat.le_of_eq rfl) (hb hby d38_6) (by decide) (by decide) e645 (by decide) (by decide)
    obtain ⟨rfl, N648, rfl⟩ := hQ648
    have S649 : own_Go p e below s₁ G T648 (mkF m 9 #[.val (.ref x)] [(.int (1 : Int32)), (.int (Int32.ofNat (2 * cs.length)))]) := fun tg_ kk_ => S647 tg_ (st648 tg_ kk_)
    have M1 := Fr.app N0 N648
    have S650 : own_Go p e below s₁ G T648 (mkF m 10 #[.val (.ref x)] [(.int ((Int32.ofNat (2 * cs.length)) >>> ((1 : Int32) &&& 31)))]) := fun tg_ kk_ => S649 tg_ (by
      refine XT.ishr X648.here hx rfl (hb hby d38_9) rfl ?_
      exact kk_)
    rw [own_shr1 (by omega)] at S650
    obtain ⟨fs, hr, hrun, hended, hW, hsame⟩ := X648.leave (v := some (.int (Int32.ofNat cs.length))) (fun h => by rw [Bd.returns] at h; cases h)
    refine ⟨_, _, ?_, hrun, hended, _, _, rfl, ?_, ⟨_, rfl⟩, hW, hsame.mono (by decide) (by decide)⟩
    · rw [← hG]; exact S650 _ (retI X648 hx Bd.returns (hb hby d38_10) hr)
    · show Q38 Z x t cs h0 n0 _ T648.heap _
      rw [e648]
      exact ⟨rfl, M1, rfl⟩
def own_B (c : Int32) : Prop := ¬ c < 0 ∧ ¬ (255 : Int32) < c
theorem own_B.ch {c : Int32} (h : own_B c) : own_Ch c := ⟨h.1, fun q => h.2 (by rw [Int32.lt_iff_toInt_lt] at *; have e1 : (255 : Int32).toInt = 255 := rfl; have e2 : (65535 : Int32).toInt = 65535 := rfl; omega)⟩
theorem own_Str.lat {Z : State} {h : Heap} {x t : Addr} {cs : List Int32} (S : own_Str Z h x t cs) (hc : ∀ j, j < cs.length → own_B (cs.getD j 0)) : Fld Z h x "java/lang/String" "coder" "B" (.int 0) ∧ ∃ kt, Arv Z h t kt .byte (Int32.ofNat cs.length) (cs.map own_vb) (.int 0) := by
  rcases S.2.2 with ⟨q1, q2, -⟩ | ⟨-, -, j, hj, q⟩
  · exact ⟨q1, q2⟩
  · exact absurd q (hc j hj).2
theorem pn14 : plainName "jdk/internal/util/Preconditions" = true := by first | (simp [plainName, overriddenIn]; done) | decide +kernel
def Q44n (Z : State) (i : Int32) (n : Int32) (h0 : Heap) (n0 : Nat) (v : Option Value) (h : Heap) (L : List Loc) : Prop := v = some (.int i) ∧ Fr n0 L ∧ h0 = h
set_option maxRecDepth 65536 in
set_option maxHeartbeats 40000000 in
theorem rm44n (l : Launch) (Z : State) (a0 : Array Value) (hw : ∀ d ∈ tables_1, d.before a0 Z = true) (ws : List Jvm.Cond) (i : Int32) (n : Int32) (h0 : Heap) (n0 : Nat) (Z0 : n0 ≤ h0.size) (h1 : ¬ i < 0) (h2 : i < n) :
    MetFree l (⟨"jdk/internal/util/Preconditions", "checkIndex", "(IILjava/util/function/BiFunction;)I"⟩ : MethodName) (head1 (Jvm.Cond.code (⟨"jdk/internal/util/Preconditions", "checkIndex", "(IILjava/util/function/BiFunction;)I"⟩ : MethodName) jdk_41_method_11_code 3 (some .int) :: ws) ({ frames := 0, cells := 0, slots := 0, locals := 0 } : Room)) (fun aa_ U => aa_ = #[(.int i), (.int n), .null] ∧ Z.Warmed39 U.vm ∧ U.heap = h0) (fun _ _ _ _ _ => True) (fun _ U o U' => ∃ v L, o = .returned v ∧ Q44n Z i n h0 n0 v U'.heap L ∧ FrameEnd U o U' L ({ frames := 0, cells := 0, slots := 0, locals := 0 } : Room).cells ({ frames := 0, cells := 0, slots := 0, locals := 0 } : Room).slots) := by
  refine MetFree.of_bodySF (plainFor_of_name pn14) hisR ?_
  intro p e s m args below meth c s₁ Bd hml0 hP hK
  obtain ⟨rfl, hZ, hh⟩ := hP
  have hx := Bd.exec
  have hby := Bd.bytes
  have hml : c.maxLocals = 3 := hml0
  have hown : s.vm.findClass "jdk/internal/util/Preconditions" = some m.cls := findClass_of_methodNamed Bd.named
  have hnm := (name_of_methodNamed Bd.named Bd.method).1
  have X0 : Stand p l e ({ frames := 0, cells := 0, slots := 0, locals := 0 } : Room) s m #[(.int i), (.int n), .null] below meth c s₁ [] 0 0 := Stand.of_body Bd
  have e0 : s₁.heap = h0 := by rw [← hh, Bd.state]; rfl
  have N0 := Fr.nil n0
  obtain ⟨G, hG⟩ : ∃ G, G = entryFrame m #[(.int i), (.int n), .null] 3 := ⟨_, rfl⟩
  have S0 : own_Go p e below s₁ G s₁ (mkF m 0 #[.val (.int i), .val (.int n), .val .null] []) := fun tg_ kk_ => castTop (by rw [hG]; first | rfl | simp [entryFrame, mkF, argsToLocals, Value.category, maxLocals]) kk_
  have S651 : own_Go p e below s₁ G s₁ (mkF m 17 #[.val (.int i), .val (.int n), .val .null] [(.int i)]) := fun tg_ kk_ => S0 tg_ (by
    refine XS.iloadN X0.here hx rfl (hb hby d44_0) rfl ?_
    show Steps p.tables e below (s₁.setTop (mkF m 1 #[.val (.int i), .val (.int n), .val .null] [(.int i)])) _
    refine XS.ifNo X0.here hx rfl (hb hby d44_1) rfl (XT.i0_lt_f h1) ?_
    show Steps p.tables e below (s₁.setTop (mkF m 4 #[.val (.int i), .val (.int n), .val .null] [])) _
    refine XS.iloadN X0.here hx rfl (hb hby d44_4) rfl ?_
    show Steps p.tables e below (s₁.setTop (mkF m 5 #[.val (.int i), .val (.int n), .val .null] [(.int i)])) _
    refine XS.iloadN X0.here hx rfl (hb hby d44_5) rfl ?_
    show Steps p.tables e below (s₁.setTop (mkF m 6 #[.val (.int i), .val (.int n), .val .null] [(.int n), (.int i)])) _
    refine XS.icmpYes X0.here hx rfl (pc0 := 6) (pc' := 16) rfl (hb hby d44_6) rfl (XT.ii_lt_t h2) (by decide) (by decide) ?_
    show Steps p.tables e below (s₁.setTop (mkF m 16 #[.val (.int i), .val (.int n), .val .null] [])) _
    refine XS.iloadN X0.here hx rfl (hb hby d44_16) rfl ?_
    exact kk_)
  obtain ⟨fs, hr, hrun, hended, hW, hsame⟩ := X0.leave (v := some (.int i)) (fun h => by rw [Bd.returns] at h; cases h)
  refine ⟨_, _, ?_, hrun, hended, _, _, rfl, ?_, ⟨_, rfl⟩, hW, hsame.mono (by decide) (by decide)⟩
  · rw [← hG]; exact S651 _ (retI X0 hx Bd.returns (hb hby d44_17) hr)
  · show Q44n Z i n h0 n0 _ s₁.heap _
    rw [e0]
    exact ⟨rfl, N0, rfl⟩
def Q44r (Z : State) (i : Int32) (n : Int32) (f : Addr) (h0 : Heap) (n0 : Nat) (v : Option Value) (h : Heap) (L : List Loc) : Prop := v = some (.int i) ∧ Fr n0 L ∧ h0 = h
set_option maxRecDepth 65536 in
set_option maxHeartbeats 40000000 in
theorem rm44r (l : Launch) (Z : State) (a0 : Array Value) (hw : ∀ d ∈ tables_1, d.before a0 Z = true) (ws : List Jvm.Cond) (i : Int32) (n : Int32) (f : Addr) (h0 : Heap) (n0 : Nat) (Z0 : n0 ≤ h0.size) (h1 : ¬ i < 0) (h2 : i < n) :
    MetFree l (⟨"jdk/internal/util/Preconditions", "checkIndex", "(IILjava/util/function/BiFunction;)I"⟩ : MethodName) (head1 (Jvm.Cond.code (⟨"jdk/internal/util/Preconditions", "checkIndex", "(IILjava/util/function/BiFunction;)I"⟩ : MethodName) jdk_41_method_11_code 3 (some .int) :: ws) ({ frames := 0, cells := 0, slots := 0, locals := 0 } : Room)) (fun aa_ U => aa_ = #[(.int i), (.int n), (.ref f)] ∧ Z.Warmed39 U.vm ∧ U.heap = h0) (fun _ _ _ _ _ => True) (fun _ U o U' => ∃ v L, o = .returned v ∧ Q44r Z i n f h0 n0 v U'.heap L ∧ FrameEnd U o U' L ({ frames := 0, cells := 0, slots := 0, locals := 0 } : Room).cells ({ frames := 0, cells := 0, slots := 0, locals := 0 } : Room).slots) := by
  refine MetFree.of_bodySF (plainFor_of_name pn14) hisR ?_
  intro p e s m args below meth c s₁ Bd hml0 hP hK
  obtain ⟨rfl, hZ, hh⟩ := hP
  have hx := Bd.exec
  have hby := Bd.bytes
  have hml : c.maxLocals = 3 := hml0
  have hown : s.vm.findClass "jdk/internal/util/Preconditions" = some m.cls := findClass_of_methodNamed Bd.named
  have hnm := (name_of_methodNamed Bd.named Bd.method).1
  have X0 : Stand p l e ({ frames := 0, cells := 0, slots := 0, locals := 0 } : Room) s m #[(.int i), (.int n), (.ref f)] below meth c s₁ [] 0 0 := Stand.of_body Bd
  have e0 : s₁.heap = h0 := by rw [← hh, Bd.state]; rfl
  have N0 := Fr.nil n0
  obtain ⟨G, hG⟩ : ∃ G, G = entryFrame m #[(.int i), (.int n), (.ref f)] 3 := ⟨_, rfl⟩
  have S0 : own_Go p e below s₁ G s₁ (mkF m 0 #[.val (.int i), .val (.int n), .val (.ref f)] []) := fun tg_ kk_ => castTop (by rw [hG]; first | rfl | simp [entryFrame, mkF, argsToLocals, Value.category, maxLocals]) kk_
  have S652 : own_Go p e below s₁ G s₁ (mkF m 17 #[.val (.int i), .val (.int n), .val (.ref f)] [(.int i)]) := fun tg_ kk_ => S0 tg_ (by
    refine XS.iloadN X0.here hx rfl (hb hby d44_0) rfl ?_
    show Steps p.tables e below (s₁.setTop (mkF m 1 #[.val (.int i), .val (.int n), .val (.ref f)] [(.int i)])) _
    refine XS.ifNo X0.here hx rfl (hb hby d44_1) rfl (XT.i0_lt_f h1) ?_
    show Steps p.tables e below (s₁.setTop (mkF m 4 #[.val (.int i), .val (.int n), .val (.ref f)] [])) _
    refine XS.iloadN X0.here hx rfl (hb hby d44_4) rfl ?_
    show Steps p.tables e below (s₁.setTop (mkF m 5 #[.val (.int i), .val (.int n), .val (.ref f)] [(.int i)])) _
    refine XS.iloadN X0.here hx rfl (hb hby d44_5) rfl ?_
    show Steps p.tables e below (s₁.setTop (mkF m 6 #[.val (.int i), .val (.int n), .val (.ref f)] [(.int n), (.int i)])) _
    refine XS.icmpYes X0.here hx rfl (pc0 := 6) (pc' := 16) rfl (hb hby d44_6) rfl (XT.ii_lt_t h2) (by decide) (by decide) ?_
    show Steps p.tables e below (s₁.setTop (mkF m 16 #[.val (.int i), .val (.int n), .val (.ref f)] [])) _
    refine XS.iloadN X0.here hx rfl (hb hby d44_16) rfl ?_
    exact kk_)
  obtain ⟨fs, hr, hrun, hended, hW, hsame⟩ := X0.leave (v := some (.int i)) (fun h => by rw [Bd.returns] at h; cases h)
  refine ⟨_, _, ?_, hrun, hended, _, _, rfl, ?_, ⟨_, rfl⟩, hW, hsame.mono (by decide) (by decide)⟩
  · rw [← hG]; exact S652 _ (retI X0 hx Bd.returns (hb hby d44_17) hr)
  · show Q44r Z i n f h0 n0 _ s₁.heap _
    rw [e0]
    exact ⟨rfl, N0, rfl⟩
def Q43 (Z : State) (i : Int32) (n : Int32) (h0 : Heap) (n0 : Nat) (v : Option Value) (h : Heap) (L : List Loc) : Prop := v = none ∧ Fr n0 L ∧ h0 = h
set_option maxRecDepth 65536 in
set_option maxHeartbeats 40000000 in
theorem rm43 (l : Launch) (Z : State) (a0 : Array Value) (hw : ∀ d ∈ tables_1, d.before a0 Z = true) (ws : List Jvm.Cond) (i : Int32) (n : Int32) (h0 : Heap) (n0 : Nat) (Z0 : n0 ≤ h0.size) (h1 : ¬ i < 0) (h2 : i < n) (fm : Value) (hfm : fm.isRef = true) (O : Old Z n0 h0) (SF : Sta Z Z.heap "jdk/internal/util/Preconditions" "SIOOBE_FORMATTER" "Ljava/util/function/BiFunction;" fm) :
    MetFree l (⟨"java/lang/String", "checkIndex", "(II)V"⟩ : MethodName) (head1 (Jvm.Cond.code (⟨"java/lang/String", "checkIndex", "(II)V"⟩ : MethodName) jdk_42_method_155_code 2 none :: ws) ({ frames := 1, cells := 0, slots := 0, locals := 14 } : Room)) (fun aa_ U => aa_ = #[(.int i), (.int n)] ∧ Z.Warmed39 U.vm ∧ U.heap = h0) (fun _ _ _ _ _ => True) (fun _ U o U' => ∃ v L, o = .returned v ∧ Q43 Z i n h0 n0 v U'.heap L ∧ FrameEnd U o U' L ({ frames := 1, cells := 0, slots := 0, locals := 14 } : Room).cells ({ frames := 1, cells := 0, slots := 0, locals := 14 } : Room).slots) := by
  refine MetFree.of_bodySF (plainFor_of_name pn13) hisR ?_
  intro p e s m args below meth c s₁ Bd hml0 hP hK
  obtain ⟨rfl, hZ, hh⟩ := hP
  have hx := Bd.exec
  have hby := Bd.bytes
  have hml : c.maxLocals = 2 := hml0
  have hown : s.vm.findClass "java/lang/String" = some m.cls := findClass_of_methodNamed Bd.named
  have hnm := (name_of_methodNamed Bd.named Bd.method).1
  have X0 : Stand p l e ({ frames := 1, cells := 0, slots := 0, locals := 14 } : Room) s m #[(.int i), (.int n)] below meth c s₁ [] 0 0 := Stand.of_body Bd
  have e0 : s₁.heap = h0 := by rw [← hh, Bd.state]; rfl
  have N0 := Fr.nil n0
  obtain ⟨G, hG⟩ : ∃ G, G = entryFrame m #[(.int i), (.int n)] 2 := ⟨_, rfl⟩
  have S0 : own_Go p e below s₁ G s₁ (mkF m 0 #[.val (.int i), .val (.int n)] []) := fun tg_ kk_ => castTop (by rw [hG]; first | rfl | simp [entryFrame, mkF, argsToLocals, Value.category, maxLocals]) kk_
  rcases ref_cases hfm with rfl | ⟨f, rfl⟩
  · have _ := N0
    have S653 : own_Go p e below s₁ G s₁ (mkF m 2 #[.val (.int i), .val (.int n)] [(.int n), (.int i)]) := fun tg_ kk_ => S0 tg_ (by
      refine XS.iloadN X0.here hx rfl (hb hby d43_0) rfl ?_
      show Steps p.tables e below (s₁.setTop (mkF m 1 #[.val (.int i), .val (.int n)] [(.int i)])) _
      refine XS.iloadN X0.here hx rfl (hb hby d43_1) rfl ?_
      exact kk_)
    obtain ⟨T654, X654, e654, st654⟩ := getS X0 hx hZ (host := "") hown (hw _ (List.mem_of_getElem? (i := 287) rfl)) Via.refl e0 (SF.ext O.2) (g := (mkF m 2 #[.val (.int i), .val (.int n)] [(.int n), (.int i)])) rfl (hb hby d43_2)
    have S655 : own_Go p e below s₁ G T654 (mkF m 5 #[.val (.int i), .val (.int n)] [.null, (.int n), (.int i)]) := fun tg_ kk_ => S653 tg_ (st654 tg_ kk_)
    obtain ⟨_, T656, h656, L656, X656, e656, hQ656, st656⟩ := own_callS X654 hx hZ (y := (⟨"jdk/internal/util/Preconditions", "checkIndex", "(IILjava/util/function/BiFunction;)I"⟩ : MethodName)) hown (hw _ (List.mem_of_getElem? (i := 289) rfl)) (hw _ (List.mem_of_getElem? (i := 290) rfl)) (hw _ (List.mem_of_getElem? (i := 288) rfl)) (hw _ (List.mem_of_getElem? (i := 291) rfl)) (by decide) 0 (g := (mkF m 5 #[.val (.int i), .val (.int n)] [.null, (.int n), (.int i)])) rfl (by rw [hml]; rfl) [(.int i), (.int n), .null] [] (rm44n l Z a0 hw [] i n h0 n0 Z0 h1 h2) (lenOf pd30 rfl) rfl (by show 2 * 0 + _ ≤ _; exact Nat.le_of_eq rfl) (hb hby d43_5) (by decide) (by decide) e654 (by decide) (by decide)
    obtain ⟨rfl, N656, rfl⟩ := hQ656
    have S657 : own_Go p e below s₁ G T656 (mkF m 8 #[.val (.int i), .val (.int n)] [(.int i)]) := fun tg_ kk_ => S655 tg_ (st656 tg_ kk_)
    have M656 := Fr.app N0 N656
    have S658 : own_Go p e below s₁ G T656 (mkF m 9 #[.val (.int i), .val (.int n)] []) := fun tg_ kk_ => S657 tg_ (by
      refine XT.pop X656.here hx rfl (hb hby d43_8) rfl rfl ?_
      exact kk_)
    obtain ⟨fs, hr, hrun, hended, hW, hsame⟩ := X656.leave (v := none) (fun _ => rfl)
    refine ⟨_, _, ?_, hrun, hended, _, _, rfl, ?_, ⟨_, rfl⟩, hW, hsame.mono (by decide) (by decide)⟩
    · rw [← hG]; exact S658 _ (X656.returnOut hx Bd.returns (hb hby d43_9) hr)
    · show Q43 Z i n h0 n0 _ T656.heap _
      rw [e656]
      exact ⟨rfl, M656, rfl⟩
  · have _ := N0
    have S659 : own_Go p e below s₁ G s₁ (mkF m 2 #[.val (.int i), .val (.int n)] [(.int n), (.int i)]) := fun tg_ kk_ => S0 tg_ (by
      refine XS.iloadN X0.here hx rfl (hb hby d43_0) rfl ?_
      show Steps p.tables e below (s₁.setTop (mkF m 1 #[.val (.int i), .val (.int n)] [(.int i)])) _
      refine XS.iloadN X0.here hx rfl (hb hby d43_1) rfl ?_
      exact kk_)
    obtain ⟨T660, X660, e660, st660⟩ := getS X0 hx hZ (host := "") hown (hw _ (List.mem_of_getElem? (i := 287) rfl)) Via.refl e0 (SF.ext O.2) (g := (mkF m 2 #[.val (.int i), .val (.int n)] [(.int n), (.int i)])) rfl (hb hby d43_2)
    have S661 : own_Go p e below s₁ G T660 (mkF m 5 #[.val (.int i), .val (.int n)] [(.ref f), (.int n), (.int i)]) := fun tg_ kk_ => S659 tg_ (st660 tg_ kk_)
    obtain ⟨_, T662, h662, L662, X662, e662, hQ662, st662⟩ := own_callS X660 hx hZ (y := (⟨"jdk/internal/util/Preconditions", "checkIndex", "(IILjava/util/function/BiFunction;)I"⟩ : MethodName)) hown (hw _ (List.mem_of_getElem? (i := 289) rfl)) (hw _ (List.mem_of_getElem? (i := 290) rfl)) (hw _ (List.mem_of_getElem? (i := 288) rfl)) (hw _ (List.mem_of_getElem? (i := 291) rfl)) (by decide) 0 (g := (mkF m 5 #[.val (.int i), .val (.int n)] [(.ref f), (.int n), (.int i)])) rfl (by rw [hml]; rfl) [(.int i), (.int n), (.ref f)] [] (rm44r l Z a0 hw [] i n f h0 n0 Z0 h1 h2) (lenOf pd30 rfl) rfl (by show 2 * 0 + _ ≤ _; exact Nat.le_of_eq rfl) (hb hby d43_5) (by decide) (by decide) e660 (by decide) (by decide)
    obtain ⟨rfl, N662, rfl⟩ := hQ662
    have S663 : own_Go p e below s₁ G T662 (mkF m 8 #[.val (.int i), .val (.int n)] [(.int i)]) := fun tg_ kk_ => S661 tg_ (st662 tg_ kk_)
    have M662 := Fr.app N0 N662
    have S664 : own_Go p e below s₁ G T662 (mkF m 9 #[.val (.int i), .val (.int n)] []) := fun tg_ kk_ => S663 tg_ (by
      refine XT.pop X662.here hx rfl (hb hby d43_8) rfl rfl ?_
      exact kk_)
    obtain ⟨fs, hr, hrun, hended, hW, hsame⟩ := X662.leave (v := none) (fun _ => rfl)
    refine ⟨_, _, ?_, hrun, hended, _, _, rfl, ?_, ⟨_, rfl⟩, hW, hsame.mono (by decide) (by decide)⟩
    · rw [← hG]; exact S664 _ (X662.returnOut hx Bd.returns (hb hby d43_9) hr)
    · show Q43 Z i n h0 n0 _ T662.heap _
      rw [e662]
      exact ⟨rfl, M662, rfl⟩
theorem pn15 : plainName "java/lang/StringLatin1" = true := by first | (simp [plainName, overriddenIn]; done) | decide +kernel
def Q42 (Z : State) (t : Addr) (i : Nat) (cs : List Int32) (h0 : Heap) (n0 : Nat) (v : Option Value) (h : Heap) (L : List Loc) : Prop := v = some (.int (cs.getD i 0)) ∧ Fr n0 L ∧ h0 = h
set_option maxRecDepth 65536 in
set_option maxHeartbeats 40000000 in
theorem rm42 (l : Launch) (Z : State) (a0 : Array Value) (hw : ∀ d ∈ tables_1, d.before a0 Z = true) (ws : List Jvm.Cond) (t : Addr) (i : Nat) (cs : List Int32) (h0 : Heap) (n0 : Nat) (Z0 : n0 ≤ h0.size) (kt : ClassId) (V : Arv Z h0 t kt .byte (Int32.ofNat cs.length) (cs.map own_vb) (.int 0)) (hi : i < cs.length) (hn : cs.length ≤ 1000) (hc : own_B (cs.getD i 0)) (fm : Value) (hfm : fm.isRef = true) (O : Old Z n0 h0) (SF : Sta Z Z.heap "jdk/internal/util/Preconditions" "SIOOBE_FORMATTER" "Ljava/util/function/BiFunction;" fm) :
    MetFree l (⟨"java/lang/StringLatin1", "charAt", "([BI)C"⟩ : MethodName) (head1 (Jvm.Cond.code (⟨"java/lang/StringLatin1", "charAt", "([BI)C"⟩ : MethodName) jdk_43_method_2_code 2 (some .char) :: ws) ({ frames := 2, cells := 0, slots := 0, locals := 28 } : Room)) (fun aa_ U => aa_ = #[(.ref t), (.int (Int32.ofNat i))] ∧ Z.Warmed39 U.vm ∧ U.heap = h0) (fun _ _ _ _ _ => True) (fun _ U o U' => ∃ v L, o = .returned v ∧ Q42 Z t i cs h0 n0 v U'.heap L ∧ FrameEnd U o U' L ({ frames := 2, cells := 0, slots := 0, locals := 28 } : Room).cells ({ frames := 2, cells := 0, slots := 0, locals := 28 } : Room).slots) := by
  refine MetFree.of_bodySF (plainFor_of_name pn15) hisR ?_
  intro p e s m args below meth c s₁ Bd hml0 hP hK
  obtain ⟨rfl, hZ, hh⟩ := hP
  have hx := Bd.exec
  have hby := Bd.bytes
  have hml : c.maxLocals = 2 := hml0
  have hown : s.vm.findClass "java/lang/StringLatin1" = some m.cls := findClass_of_methodNamed Bd.named
  have hnm := (name_of_methodNamed Bd.named Bd.method).1
  have X0 : Stand p l e ({ frames := 2, cells := 0, slots := 0, locals := 28 } : Room) s m #[(.ref t), (.int (Int32.ofNat i))] below meth c s₁ [] 0 0 := Stand.of_body Bd
  have e0 : s₁.heap = h0 := by rw [← hh, Bd.state]; rfl
  have N0 := Fr.nil n0
  obtain ⟨G, hG⟩ : ∃ G, G = entryFrame m #[(.ref t), (.int (Int32.ofNat i))] 2 := ⟨_, rfl⟩
  have S0 : own_Go p e below s₁ G s₁ (mkF m 0 #[.val (.ref t), .val (.int (Int32.ofNat i))] []) := fun tg_ kk_ => castTop (by rw [hG]; first | rfl | simp [entryFrame, mkF, argsToLocals, Value.category, maxLocals]) kk_
  obtain ⟨cl, Ar, -, Sz, Mn, H, -⟩ := V
  have at1 : cl.slots[(Int32.ofNat i).toNatClampNeg]? = some (.int (own_lo (cs.getD i 0))) := H.at (own_in32 Sz hi (by omega)) (by rw [own_n32 (by omega)]; exact own_getB cs i hi _)
  have S665 : own_Go p e below s₁ G s₁ (mkF m 3 #[.val (.ref t), .val (.int (Int32.ofNat i))] [(.int (Int32.ofNat cs.length)), (.int (Int32.ofNat i))]) := fun tg_ kk_ => S0 tg_ (by
    refine XS.iloadN X0.here hx rfl (hb hby d42_0) rfl ?_
    show Steps p.tables e below (s₁.setTop (mkF m 1 #[.val (.ref t), .val (.int (Int32.ofNat i))] [(.int (Int32.ofNat i))])) _
    refine XS.aloadN X0.here hx rfl (hb hby d42_1) rfl rfl ?_
    show Steps p.tables e below (s₁.setTop (mkF m 2 #[.val (.ref t), .val (.int (Int32.ofNat i))] [(.ref t), (.int (Int32.ofNat i))])) _
    refine X0.arraylength hx (cell := cl) (by rw [e0]; exact Ar.1) (State.isArrayOf_alike hZ.alike Ar.2.1) (g := (mkF m 2 #[.val (.ref t), .val (.int (Int32.ofNat i))] [(.ref t), (.int (Int32.ofNat i))])) rfl (rest := [(.int (Int32.ofNat i))]) rfl (hb hby d42_2) _ ?_
    rw [len_of Sz Mn]
    exact kk_)
  obtain ⟨_, T666, h666, L666, X666, e666, hQ666, st666⟩ := own_callS X0 hx hZ (y := (⟨"java/lang/String", "checkIndex", "(II)V"⟩ : MethodName)) hown (hw _ (List.mem_of_getElem? (i := 284) rfl)) (hw _ (List.mem_of_getElem? (i := 285) rfl)) (hw _ (List.mem_of_getElem? (i := 224) rfl)) (hw _ (List.mem_of_getElem? (i := 286) rfl)) (by decide) 0 (g := (mkF m 3 #[.val (.ref t), .val (.int (Int32.ofNat i))] [(.int (Int32.ofNat cs.length)), (.int (Int32.ofNat i))])) rfl (by rw [hml]; rfl) [(.int (Int32.ofNat i)), (.int (Int32.ofNat cs.length))] [] (rm43 l Z a0 hw [] (Int32.ofNat i) (Int32.ofNat cs.length) h0 n0 Z0 (own_nn32 (by omega)) (own_lt32 hi (by omega)) fm hfm O SF) (lenOf pd29 rfl) rfl (by show 2 * 0 + _ ≤ _; exact Nat.le_of_eq rfl) (hb hby d42_3) (by decide) (by decide) e0 (by decide) (by decide)
  obtain ⟨rfl, N666, rfl⟩ := hQ666
  have S667 : own_Go p e below s₁ G T666 (mkF m 6 #[.val (.ref t), .val (.int (Int32.ofNat i))] []) := fun tg_ kk_ => S665 tg_ (st666 tg_ kk_)
  have M666 := Fr.app N0 N666
  have S668 : own_Go p e below s₁ G T666 (mkF m 14 #[.val (.ref t), .val (.int (Int32.ofNat i))] [(.int (((own_lo (cs.getD i 0)) &&& (255 : Int32)).toUInt32.toUInt16.toUInt32.toInt32))]) := fun tg_ kk_ => S667 tg_ (by
    refine XS.aloadN X666.here hx rfl (hb hby d42_6) rfl rfl ?_
    show Steps p.tables e below (T666.setTop (mkF m 7 #[.val (.ref t), .val (.int (Int32.ofNat i))] [(.ref t)])) _
    refine XS.iloadN X666.here hx rfl (hb hby d42_7) rfl ?_
    show Steps p.tables e below (T666.setTop (mkF m 8 #[.val (.ref t), .val (.int (Int32.ofNat i))] [(.int (Int32.ofNat i)), (.ref t)])) _
    refine X666.baloadBytes hx (j := (Int32.ofNat i)) (v := (.int (own_lo (cs.getD i 0)))) (cell := cl) (by rw [e666]; exact Ar.1) (State.isArrayOf_alike hZ.alike Ar.2.1) Ar.2.2 (own_in32 Sz hi (by omega)) at1 (g := (mkF m 8 #[.val (.ref t), .val (.int (Int32.ofNat i))] [(.int (Int32.ofNat i)), (.ref t)])) rfl rfl (hb hby d42_8) _ ?_
    show Steps p.tables e below (T666.setTop (mkF m 9 #[.val (.ref t), .val (.int (Int32.ofNat i))] [(.int (own_lo (cs.getD i 0)))])) _
    refine XS.sipush X666.here hx rfl (hb hby d42_9) ?_
    show Steps p.tables e below (T666.setTop (mkF m 12 #[.val (.ref t), .val (.int (Int32.ofNat i))] [(.int (255 : Int32)), (.int (own_lo (cs.getD i 0)))])) _
    refine XS.iand X666.here hx rfl (hb hby d42_12) rfl ?_
    show Steps p.tables e below (T666.setTop (mkF m 13 #[.val (.ref t), .val (.int (Int32.ofNat i))] [(.int ((own_lo (cs.getD i 0)) &&& (255 : Int32)))])) _
    refine XT.i2c X666.here hx rfl (hb hby d42_13) rfl ?_
    exact kk_)
  have hq : (((own_lo (cs.getD i 0)) &&& (255 : Int32)).toUInt32.toUInt16.toUInt32.toInt32) = cs.getD i 0 := by rw [own_lo_mask hc.1 hc.2]; exact own_nar_char hc.ch
  rw [hq] at S668
  obtain ⟨fs, hr, hrun, hended, hW, hsame⟩ := X666.leave (v := some (.int (nar .char (cs.getD i 0)))) (fun h => by rw [Bd.returns] at h; cases h)
  refine ⟨_, _, ?_, hrun, hended, _, _, rfl, ?_, ⟨_, rfl⟩, hW, hsame.mono (by decide) (by decide)⟩
  · rw [← hG]; exact S668 _ (retN X666 hx (t := .char) Bd.returns (by simp) (hb hby d42_14) hr)
  · show Q42 Z t i cs h0 n0 _ T666.heap _
    rw [e666]
    exact ⟨by rw [own_nar_char hc.ch], M666, rfl⟩
def Q40 (Z : State) (x : Addr) (t : Addr) (i : Nat) (cs : List Int32) (h0 : Heap) (n0 : Nat) (v : Option Value) (h : Heap) (L : List Loc) : Prop := v = some (.int (cs.getD i 0)) ∧ Fr n0 L ∧ h0 = h
set_option maxRecDepth 65536 in
set_option maxHeartbeats 40000000 in
theorem rm40 (l : Launch) (Z : State) (a0 : Array Value) (hw : ∀ d ∈ tables_1, d.before a0 Z = true) (ws : List Jvm.Cond) (x : Addr) (t : Addr) (i : Nat) (cs : List Int32) (h0 : Heap) (n0 : Nat) (Z0 : n0 ≤ h0.size) (z : Int32) (O : Old Z n0 h0) (O2 : Sta Z Z.heap "java/lang/String" "COMPACT_STRINGS" "Z" (.int z)) (P5 : ¬ z = 0) (S : own_Str Z h0 x t cs) (hi : i < cs.length) (hn : cs.length ≤ 1000) (hc : ∀ j, j < cs.length → own_B (cs.getD j 0)) (fm : Value) (hfm : fm.isRef = true) (SF : Sta Z Z.heap "jdk/internal/util/Preconditions" "SIOOBE_FORMATTER" "Ljava/util/function/BiFunction;" fm) :
    MetFree l (⟨"java/lang/String", "charAt", "(I)C"⟩ : MethodName) (head1 (Jvm.Cond.code (⟨"java/lang/String", "charAt", "(I)C"⟩ : MethodName) jdk_42_method_56_code 2 (some .char) :: ws) ({ frames := 3, cells := 0, slots := 0, locals := 42 } : Room)) (fun aa_ U => aa_ = #[(.ref x), (.int (Int32.ofNat i))] ∧ Z.Warmed39 U.vm ∧ U.heap = h0) (fun _ _ _ _ _ => True) (fun _ U o U' => ∃ v L, o = .returned v ∧ Q40 Z x t i cs h0 n0 v U'.heap L ∧ FrameEnd U o U' L ({ frames := 3, cells := 0, slots := 0, locals := 42 } : Room).cells ({ frames := 3, cells := 0, slots := 0, locals := 42 } : Room).slots) := by
  refine MetFree.of_bodySF (plainFor_of_name pn13) hisR ?_
  intro p e s m args below meth c s₁ Bd hml0 hP hK
  obtain ⟨rfl, hZ, hh⟩ := hP
  have hx := Bd.exec
  have hby := Bd.bytes
  have hml : c.maxLocals = 2 := hml0
  have hown : s.vm.findClass "java/lang/String" = some m.cls := findClass_of_methodNamed Bd.named
  have hnm := (name_of_methodNamed Bd.named Bd.method).1
  have X0 : Stand p l e ({ frames := 3, cells := 0, slots := 0, locals := 42 } : Room) s m #[(.ref x), (.int (Int32.ofNat i))] below meth c s₁ [] 0 0 := Stand.of_body Bd
  have e0 : s₁.heap = h0 := by rw [← hh, Bd.state]; rfl
  have N0 := Fr.nil n0
  obtain ⟨G, hG⟩ : ∃ G, G = entryFrame m #[(.ref x), (.int (Int32.ofNat i))] 2 := ⟨_, rfl⟩
  have S0 : own_Go p e below s₁ G s₁ (mkF m 0 #[.val (.ref x), .val (.int (Int32.ofNat i))] []) := fun tg_ kk_ => castTop (by rw [hG]; first | rfl | simp [entryFrame, mkF, argsToLocals, Value.category, maxLocals]) kk_
  obtain ⟨Fc, kt, V⟩ := S.lat hc
  have S669 : own_Go p e below s₁ G s₁ (mkF m 1 #[.val (.ref x), .val (.int (Int32.ofNat i))] [(.ref x)]) := fun tg_ kk_ => S0 tg_ (by
    refine XS.aloadN X0.here hx rfl (hb hby d40_0) rfl rfl ?_
    exact kk_)
  obtain ⟨_, T670, h670, L670, X670, e670, hQ670, st670⟩ := own_callV X0 hx hZ (y := (⟨"java/lang/String", "isLatin1", "()Z"⟩ : MethodName)) hown (hw _ (List.mem_of_getElem? (i := 275) rfl)) (hw _ (List.mem_of_getElem? (i := 276) rfl)) (hw _ (List.mem_of_getElem? (i := 278) rfl)) (hw _ (List.mem_of_getElem? (i := 277) rfl)) (hw _ (List.mem_of_getElem? (i := 224) rfl)) (hw _ (List.mem_of_getElem? (i := 279) rfl)) (by decide) 0 (g := (mkF m 1 #[.val (.ref x), .val (.int (Int32.ofNat i))] [(.ref x)])) rfl (by rw [hml]; rfl) x S.1 [] [] (rm41 l Z a0 hw [] x 0 h0 n0 Z0 z O O2 P5 Fc (Or.inl rfl)) (lenOf pd17 rfl) rfl (by show 2 * 0 + _ ≤ _; exact Nat.le_of_eq rfl) (hb hby d40_1) (by decide) (by decide) e0 (by decide) (by decide)
  obtain ⟨rfl, N670, rfl⟩ := hQ670
  have S671 : own_Go p e below s₁ G T670 (mkF m 4 #[.val (.ref x), .val (.int (Int32.ofNat i))] [(.int (1 : Int32))]) := fun tg_ kk_ => S669 tg_ (st670 tg_ kk_)
  have M670 := Fr.app N0 N670
  have S672 : own_Go p e below s₁ G T670 (mkF m 8 #[.val (.ref x), .val (.int (Int32.ofNat i))] [(.ref x)]) := fun tg_ kk_ => S671 tg_ (by
    refine XS.ifNo X670.here hx rfl (hb hby d40_4) rfl (XT.i0_eq_f (by decide)) ?_
    show Steps p.tables e below (T670.setTop (mkF m 7 #[.val (.ref x), .val (.int (Int32.ofNat i))] [])) _
    refine XS.aloadN X670.here hx rfl (hb hby d40_7) rfl rfl ?_
    exact kk_)
  obtain ⟨T673, X673, e673, st673⟩ := getF X670 hx hZ hown (host := "") (Or.inl (hw _ (List.mem_of_getElem? (i := 251) rfl))) Via.refl e670 S.2.1 (g := (mkF m 8 #[.val (.ref x), .val (.int (Int32.ofNat i))] [(.ref x)])) rfl rfl (hb hby d40_8)
  have S674 : own_Go p e below s₁ G T673 (mkF m 11 #[.val (.ref x), .val (.int (Int32.ofNat i))] [(.ref t)]) := fun tg_ kk_ => S672 tg_ (st673 tg_ kk_)
  have S675 : own_Go p e below s₁ G T673 (mkF m 12 #[.val (.ref x), .val (.int (Int32.ofNat i))] [(.int (Int32.ofNat i)), (.ref t)]) := fun tg_ kk_ => S674 tg_ (by
    refine XS.iloadN X673.here hx rfl (hb hby d40_11) rfl ?_
    exact kk_)
  obtain ⟨_, T676, h676, L676, X676, e676, hQ676, st676⟩ := own_callS X673 hx hZ (y := (⟨"java/lang/StringLatin1", "charAt", "([BI)C"⟩ : MethodName)) hown (hw _ (List.mem_of_getElem? (i := 280) rfl)) (hw _ (List.mem_of_getElem? (i := 281) rfl)) (hw _ (List.mem_of_getElem? (i := 282) rfl)) (hw _ (List.mem_of_getElem? (i := 283) rfl)) (by decide) 0 (g := (mkF m 12 #[.val (.ref x), .val (.int (Int32.ofNat i))] [(.int (Int32.ofNat i)), (.ref t)])) rfl (by rw [hml]; rfl) [(.ref t), (.int (Int32.ofNat i))] [] (rm42 l Z a0 hw [] t i cs h0 n0 Z0 kt V hi hn (hc i hi) fm hfm O SF) (lenOf pd28 rfl) rfl (by show 2 * 0 + _ ≤ _; exact Nat.le_of_eq rfl) (hb hby d40_12) (by decide) (by decide) e673 (by decide) (by decide)
  obtain ⟨rfl, N676, rfl⟩ := hQ676
  have S677 : own_Go p e below s₁ G T676 (mkF m 15 #[.val (.ref x), .val (.int (Int32.ofNat i))] [(.int (cs.getD i 0))]) := fun tg_ kk_ => S675 tg_ (st676 tg_ kk_)
  have M676 := Fr.app M670 N676
  obtain ⟨fs, hr, hrun, hended, hW, hsame⟩ := X676.leave (v := some (.int (nar .char (cs.getD i 0)))) (fun h => by rw [Bd.returns] at h; cases h)
  refine ⟨_, _, ?_, hrun, hended, _, _, rfl, ?_, ⟨_, rfl⟩, hW, hsame.mono (by decide) (by decide)⟩
  · rw [← hG]; exact S677 _ (retN X676 hx (t := .char) Bd.returns (by simp) (hb hby d40_15) hr)
  · show Q40 Z x t i cs h0 n0 _ T676.heap _
    rw [e676]
    exact ⟨by rw [own_nar_char (hc i hi).ch], M676, rfl⟩
def Q36 (Z : State) (x : Addr) (bf : Addr) (h0 : Heap) (n0 : Nat) (v : Option Value) (h : Heap) (L : List Loc) : Prop := v = none ∧ Fr n0 L ∧ Keep h0 h [x] ∧ Fld Z h x "java/lang/String" "value" "[B" (.ref bf) ∧ Fld Z h x "java/lang/String" "coder" "B" (.int 0)
set_option maxRecDepth 65536 in
set_option maxHeartbeats 40000000 in
theorem rm36 (l : Launch) (Z : State) (a0 : Array Value) (hw : ∀ d ∈ tables_1, d.before a0 Z = true) (ws : List Jvm.Cond) (x : Addr) (bf : Addr) (h0 : Heap) (n0 : Nat) (Z0 : n0 ≤ h0.size) (Ex : Exa Z h0 x "java/lang/String") (hx0 : @LE.le Nat instLENat (n0) x) (Fv : Fld Z h0 x "java/lang/String" "value" "[B" .null) (Fc : Fld Z h0 x "java/lang/String" "coder" "B" (.int 0)) :
    MetFree l (⟨"java/lang/String", "<init>", "([BB)V"⟩ : MethodName) (head1 (Jvm.Cond.code (⟨"java/lang/String", "<init>", "([BB)V"⟩ : MethodName) jdk_42_method_151_code 3 none :: ws) ({ frames := 1, cells := 0, slots := 0, locals := 15 } : Room)) (fun aa_ U => aa_ = #[(.ref x), (.ref bf), (.int (0 : Int32))] ∧ Z.Warmed39 U.vm ∧ U.heap = h0) (fun _ _ _ _ _ => True) (fun _ U o U' => ∃ v L, o = .returned v ∧ Q36 Z x bf h0 n0 v U'.heap L ∧ FrameEnd U o U' L ({ frames := 1, cells := 0, slots := 0, locals := 15 } : Room).cells ({ frames := 1, cells := 0, slots := 0, locals := 15 } : Room).slots) := by
  refine MetFree.of_bodySF (plainFor_of_name pn13) hisR ?_
  intro p e s m args below meth c s₁ Bd hml0 hP hK
  obtain ⟨rfl, hZ, hh⟩ := hP
  have hx := Bd.exec
  have hby := Bd.bytes
  have hml : c.maxLocals = 3 := hml0
  have hown : s.vm.findClass "java/lang/String" = some m.cls := findClass_of_methodNamed Bd.named
  have hnm := (name_of_methodNamed Bd.named Bd.method).1
  have X0 : Stand p l e ({ frames := 1, cells := 0, slots := 0, locals := 15 } : Room) s m #[(.ref x), (.ref bf), (.int (0 : Int32))] below meth c s₁ [] 0 0 := Stand.of_body Bd
  have e0 : s₁.heap = h0 := by rw [← hh, Bd.state]; rfl
  have N0 := Fr.nil n0
  obtain ⟨G, hG⟩ : ∃ G, G = entryFrame m #[(.ref x), (.ref bf), (.int (0 : Int32))] 3 := ⟨_, rfl⟩
  have S0 : own_Go p e below s₁ G s₁ (mkF m 0 #[.val (.ref x), .val (.ref bf), .val (.int (0 : Int32))] []) := fun tg_ kk_ => castTop (by rw [hG]; first | rfl | simp [entryFrame, mkF, argsToLocals, Value.category, maxLocals]) kk_
  have S678 : own_Go p e below s₁ G s₁ (mkF m 1 #[.val (.ref x), .val (.ref bf), .val (.int (0 : Int32))] [(.ref x)]) := fun tg_ kk_ => S0 tg_ (by
    refine XS.aloadN X0.here hx rfl (hb hby d36_0) rfl rfl ?_
    exact kk_)
  obtain ⟨T679, X679, e679, st679⟩ := initO X0 hx hZ hown (hw _ (List.mem_of_getElem? (i := 250) rfl)) (hw _ (List.mem_of_getElem? (i := 51) rfl)) (hw _ (List.mem_of_getElem? (i := 52) rfl)) e0 (g := (mkF m 1 #[.val (.ref x), .val (.ref bf), .val (.int (0 : Int32))] [(.ref x)])) rfl (by rw [hml]; rfl) rfl (hb hby d36_1) (by decide) (W := 0) (by show 2 * 0 + _ ≤ _; exact Nat.le_of_eq rfl) (by decide)
  have S680 : own_Go p e below s₁ G T679 (mkF m 4 #[.val (.ref x), .val (.ref bf), .val (.int (0 : Int32))] []) := fun tg_ kk_ => S678 tg_ (st679 tg_ kk_)
  have S681 : own_Go p e below s₁ G T679 (mkF m 6 #[.val (.ref x), .val (.ref bf), .val (.int (0 : Int32))] [(.ref bf), (.ref x)]) := fun tg_ kk_ => S680 tg_ (by
    refine XS.aloadN X679.here hx rfl (hb hby d36_4) rfl rfl ?_
    show Steps p.tables e below (T679.setTop (mkF m 5 #[.val (.ref x), .val (.ref bf), .val (.int (0 : Int32))] [(.ref x)])) _
    refine XS.aloadN X679.here hx rfl (hb hby d36_5) rfl rfl ?_
    exact kk_)
  obtain ⟨T682, h682, X682, e682, W682, st682⟩ := putF X679 hx hZ hown (host := "") (Or.inl (hw _ (List.mem_of_getElem? (i := 251) rfl))) Via.refl e679 Fv Ex (Or.inr ⟨(hw _ (List.mem_of_getElem? (i := 252) rfl)), rfl, hnm⟩) (hw _ (List.mem_of_getElem? (i := 245) rfl)) (ty := (.array .byte)) (by decide) rfl rfl (g := (mkF m 6 #[.val (.ref x), .val (.ref bf), .val (.int (0 : Int32))] [(.ref bf), (.ref x)])) rfl rfl (hb hby d36_6)
  have S683 : own_Go p e below s₁ G T682 (mkF m 9 #[.val (.ref x), .val (.ref bf), .val (.int (0 : Int32))] []) := fun tg_ kk_ => S681 tg_ (st682 tg_ kk_)
  have f684 := Fr.snoc X682 N0 (by omega)
  have f685 := Ex.wr W682
  have f686 := Fv.same W682
  have f687 := Fc.other W682 (Or.inr (slot_ne (C := "java/lang/String") (a0 := a0) (Or.inr (hw _ (List.mem_of_getElem? (i := 254) rfl))) (Or.inr (hw _ (List.mem_of_getElem? (i := 252) rfl))) (by decide) (t := .byte) (by decide) (t' := (.array .byte)) (by decide)))
  have f688 := Keep.wr (Keep.refl h0 [x]) W682 (Or.inl (by simp))
  have S689 : own_Go p e below s₁ G T682 (mkF m 11 #[.val (.ref x), .val (.ref bf), .val (.int (0 : Int32))] [(.int (0 : Int32)), (.ref x)]) := fun tg_ kk_ => S683 tg_ (by
    refine XS.aloadN X682.here hx rfl (hb hby d36_9) rfl rfl ?_
    show Steps p.tables e below (T682.setTop (mkF m 10 #[.val (.ref x), .val (.ref bf), .val (.int (0 : Int32))] [(.ref x)])) _
    refine XS.iloadN X682.here hx rfl (hb hby d36_10) rfl ?_
    exact kk_)
  obtain ⟨T690, h690, X690, e690, W690, st690⟩ := putF X682 hx hZ hown (host := "") (Or.inl (hw _ (List.mem_of_getElem? (i := 253) rfl))) Via.refl e682 f687 f685 (Or.inr ⟨(hw _ (List.mem_of_getElem? (i := 254) rfl)), rfl, hnm⟩) (hw _ (List.mem_of_getElem? (i := 245) rfl)) (ty := .byte) (by decide) rfl rfl (g := (mkF m 11 #[.val (.ref x), .val (.ref bf), .val (.int (0 : Int32))] [(.int (0 : Int32)), (.ref x)])) rfl rfl (hb hby d36_11)
  have S691 : own_Go p e below s₁ G T690 (mkF m 14 #[.val (.ref x), .val (.ref bf), .val (.int (0 : Int32))] []) := fun tg_ kk_ => S689 tg_ (st690 tg_ kk_)
  have f692 := Fr.snoc X690 f684 (by omega)
  have f693 := f685.wr W690
  have f694 := f686.other W690 (Or.inr (slot_ne (C := "java/lang/String") (a0 := a0) (Or.inr (hw _ (List.mem_of_getElem? (i := 252) rfl))) (Or.inr (hw _ (List.mem_of_getElem? (i := 254) rfl))) (by decide) (t := (.array .byte)) (by decide) (t' := .byte) (by decide)))
  have f695 := f687.same W690
  have f696 := Keep.wr f688 W690 (Or.inl (by simp))
  obtain ⟨fs, hr, hrun, hended, hW, hsame⟩ := X690.leave (v := none) (fun _ => rfl)
  refine ⟨_, _, ?_, hrun, hended, _, _, rfl, ?_, ⟨_, rfl⟩, hW, hsame.mono (by decide) (by decide)⟩
  · rw [← hG]; exact S691 _ (X690.returnOut hx Bd.returns (hb hby d36_14) hr)
  · show Q36 Z x bf h0 n0 _ T690.heap _
    rw [e690]
    exact ⟨rfl, f692, f696, f694, f695⟩
theorem own_48lat (K n : Nat) : ∀ j, j < (own_cs K n).length → own_B ((own_cs K n).getD j 0) := fun j hj => by
  rw [own_cs_len] at hj
  rw [own_cs_at hj]
  have h : (K / 10 ^ (n - 1 - j)) % 10 < 10 := Nat.mod_lt _ (by decide)
  generalize (K / 10 ^ (n - 1 - j)) % 10 = d at *
  constructor
  · exact own_nn32 (by omega)
  · rw [Int32.lt_iff_toInt_lt, Int32.toInt_ofNat_of_lt (by omega)]; have e : (255 : Int32).toInt = 255 := rfl; omega
def Q33 (Z : State) (K : Nat) (n : Nat) (h0 : Heap) (n0 : Nat) (v : Option Value) (h : Heap) (L : List Loc) : Prop := ∃ x t, v = some (.ref x) ∧ Fr n0 L ∧ Keep h0 h [] ∧ own_Str Z h x t (own_cs K n)
set_option maxRecDepth 65536 in
set_option maxHeartbeats 40000000 in
theorem rm33 (l : Launch) (Z : State) (a0 : Array Value) (hw : ∀ d ∈ tables_1, d.before a0 Z = true) (ws : List Jvm.Cond) (K : Nat) (n : Nat) (h0 : Heap) (n0 : Nat) (Z0 : n0 ≤ h0.size) (hKk : 1 ≤ K ∧ K < 2 ^ 31) (hn : 1 ≤ n ∧ n ≤ 10) (hr : 10 ^ (n - 1) ≤ K ∧ K < 10 ^ n) (hdig : own_dig (Int32.ofNat K) = Int32.ofNat n) (O : Old Z n0 h0) (z : Int32) (O2 : Sta Z Z.heap "java/lang/String" "COMPACT_STRINGS" "Z" (.int z)) (P5 : ¬ z = 0) (dO dT : Addr) (DO DT : Cell) (SO : Sta Z Z.heap "java/lang/Integer" "DigitOnes" "[B" (.ref dO)) (ST : Sta Z Z.heap "java/lang/Integer" "DigitTens" "[B" (.ref dT)) (AO : Arr Z Z.heap dO DO .byte) (AT : Arr Z Z.heap dT DT .byte) (SzO : DO.slots.size = 100) (SzT : DT.slots.size = 100) (HO : ∀ i, i < 100 → DO.slots[i]? = some (.int (Int32.ofNat (48 + i % 10)))) (HT : ∀ i, i < 100 → DT.slots[i]? = some (.int (Int32.ofNat (48 + i / 10)))) :
    MetFree l (⟨"java/lang/Integer", "toString", "(I)Ljava/lang/String;"⟩ : MethodName) (head1 (Jvm.Cond.code (⟨"java/lang/Integer", "toString", "(I)Ljava/lang/String;"⟩ : MethodName) jdk_33_method_10_code 3 (some (.object "java/lang/String")) :: ws) ({ frames := 2, cells := 2, slots := 14, locals := 40 } : Room)) (fun aa_ U => aa_ = #[(.int (Int32.ofNat K))] ∧ Z.Warmed39 U.vm ∧ U.heap = h0) (fun _ _ _ _ _ => True) (fun _ U o U' => ∃ v L, o = .returned v ∧ Q33 Z K n h0 n0 v U'.heap L ∧ FrameEnd U o U' L ({ frames := 2, cells := 2, slots := 14, locals := 40 } : Room).cells ({ frames := 2, cells := 2, slots := 14, locals := 40 } : Room).slots) := by
  refine MetFree.of_bodySF (plainFor_of_name pn2) hisR ?_
  intro p e s m args below meth c s₁ Bd hml0 hP hK
  obtain ⟨rfl, hZ, hh⟩ := hP
  have hx := Bd.exec
  have hby := Bd.bytes
  have hml : c.maxLocals = 3 := hml0
  have hown : s.vm.findClass "java/lang/Integer" = some m.cls := findClass_of_methodNamed Bd.named
  have hnm := (name_of_methodNamed Bd.named Bd.method).1
  have X0 : Stand p l e ({ frames := 2, cells := 2, slots := 14, locals := 40 } : Room) s m #[(.int (Int32.ofNat K))] below meth c s₁ [] 0 0 := Stand.of_body Bd
  have e0 : s₁.heap = h0 := by rw [← hh, Bd.state]; rfl
  have N0 := Fr.nil n0
  obtain ⟨G, hG⟩ : ∃ G, G = entryFrame m #[(.int (Int32.ofNat K))] 3 := ⟨_, rfl⟩
  have S0 : own_Go p e below s₁ G s₁ (mkF m 0 #[.val (.int (Int32.ofNat K)), .unset, .unset] []) := fun tg_ kk_ => castTop (by rw [hG]; first | rfl | simp [entryFrame, mkF, argsToLocals, Value.category, maxLocals]) kk_
  have S697 : own_Go p e below s₁ G s₁ (mkF m 1 #[.val (.int (Int32.ofNat K)), .unset, .unset] [(.int (Int32.ofNat K))]) := fun tg_ kk_ => S0 tg_ (by
    refine XS.iloadN X0.here hx rfl (hb hby d33_0) rfl ?_
    exact kk_)
  obtain ⟨_, T698, h698, L698, X698, e698, hQ698, st698⟩ := own_callS X0 hx hZ (y := (⟨"java/lang/Integer", "stringSize", "(I)I"⟩ : MethodName)) hown (hw _ (List.mem_of_getElem? (i := 235) rfl)) (hw _ (List.mem_of_getElem? (i := 236) rfl)) (hw _ (List.mem_of_getElem? (i := 16) rfl)) (hw _ (List.mem_of_getElem? (i := 237) rfl)) (by decide) 0 (g := (mkF m 1 #[.val (.int (Int32.ofNat K)), .unset, .unset] [(.int (Int32.ofNat K))])) rfl (by rw [hml]; rfl) [(.int (Int32.ofNat K))] [] (rm34 l Z a0 hw [] (Int32.ofNat K) h0 n0 Z0 (own_nn32 (by omega))) (lenOf pd4 rfl) rfl (by show 2 * 0 + _ ≤ _; exact Nat.le_of_eq rfl) (hb hby d33_1) (by decide) (by decide) e0 (by decide) (by decide)
  obtain ⟨rfl, N698, rfl⟩ := hQ698
  have S699 : own_Go p e below s₁ G T698 (mkF m 4 #[.val (.int (Int32.ofNat K)), .unset, .unset] [(.int (own_dig (Int32.ofNat K)))]) := fun tg_ kk_ => S697 tg_ (st698 tg_ kk_)
  have M698 := Fr.app N0 N698
  rw [hdig] at S699
  have S700 : own_Go p e below s₁ G T698 (mkF m 5 #[.val (.int (Int32.ofNat K)), .val (.int (Int32.ofNat n)), .unset] []) := fun tg_ kk_ => S699 tg_ (by
    refine XS.istoreN X698.here hx rfl (hb hby d33_4) rfl (l' := #[.val (.int (Int32.ofNat K)), .val (.int (Int32.ofNat n)), .unset]) rfl ?_
    exact kk_)
  obtain ⟨T701, X701, e701, st701⟩ := getS2 X698 hx hZ (host := "") hown (Or.inl (hw _ (List.mem_of_getElem? (i := 238) rfl))) Via.refl e698 (O2.ext O.2) (g := (mkF m 5 #[.val (.int (Int32.ofNat K)), .val (.int (Int32.ofNat n)), .unset] [])) rfl (hb hby d33_5)
  have S702 : own_Go p e below s₁ G T701 (mkF m 8 #[.val (.int (Int32.ofNat K)), .val (.int (Int32.ofNat n)), .unset] [(.int z)]) := fun tg_ kk_ => S700 tg_ (st701 tg_ kk_)
  have S703 : own_Go p e below s₁ G T701 (mkF m 12 #[.val (.int (Int32.ofNat K)), .val (.int (Int32.ofNat n)), .unset] [(.int (Int32.ofNat n))]) := fun tg_ kk_ => S702 tg_ (by
    refine XS.ifNo X701.here hx rfl (hb hby d33_8) rfl (XT.i0_eq_f P5) ?_
    show Steps p.tables e below (T701.setTop (mkF m 11 #[.val (.int (Int32.ofNat K)), .val (.int (Int32.ofNat n)), .unset] [])) _
    refine XS.iloadN X701.here hx rfl (hb hby d33_11) rfl ?_
    exact kk_)
  obtain ⟨Tp1, hp1, kp1, Xp1, ep1, Ep1, Ap1, stp1⟩ := newP X701 hx hZ (hw _ (List.mem_of_getElem? (i := 239) rfl)) e701 (g := (mkF m 12 #[.val (.int (Int32.ofNat K)), .val (.int (Int32.ofNat n)), .unset] [(.int (Int32.ofNat n))])) rfl (hb hby d33_12) rfl (own_nn32 (by omega)) (cap := 10) (by rw [own_n32 (by omega)]; omega) (by decide) (by decide) (by decide)
  have S704 : own_Go p e below s₁ G Tp1 (mkF m 14 #[.val (.int (Int32.ofNat K)), .val (.int (Int32.ofNat n)), .unset] [(.ref h0.size)]) := fun tg_ kk_ => S703 tg_ (stp1 tg_ kk_)
  obtain ⟨bf, gb⟩ : ∃ z, z = h0.size := ⟨_, rfl⟩
  rw [← gb] at S704
  rw [← gb] at Ap1
  have o705 : @LE.le Nat instLENat (n0) bf := Nat.le_trans Z0 (Nat.le_of_eq gb.symm)
  have o706 : @LE.le Nat instLENat (h0.size) bf := Nat.le_trans (Keep.refl h0 []).1 (Nat.le_of_eq gb.symm)
  have f707 := O.ext Ep1
  have f708 := own_sub Z0 Ep1
  have f709 := Keep.ext (Keep.refl h0 []) Ep1
  have vb : Arv Z hp1 bf kp1 .byte (Int32.ofNat n) [] (.int 0) := Arv.new Ap1 (own_nn32 (by omega))
  have S710 : own_Go p e below s₁ G Tp1 (mkF m 18 #[.val (.int (Int32.ofNat K)), .val (.int (Int32.ofNat n)), .val (.ref bf)] [(.ref bf), (.int (Int32.ofNat n)), (.int (Int32.ofNat K))]) := fun tg_ kk_ => S704 tg_ (by
    refine XS.astoreN Xp1.here hx rfl (hb hby d33_14) rfl rfl (l' := #[.val (.int (Int32.ofNat K)), .val (.int (Int32.ofNat n)), .val (.ref bf)]) rfl ?_
    show Steps p.tables e below (Tp1.setTop (mkF m 15 #[.val (.int (Int32.ofNat K)), .val (.int (Int32.ofNat n)), .val (.ref bf)] [])) _
    refine XS.iloadN Xp1.here hx rfl (hb hby d33_15) rfl ?_
    show Steps p.tables e below (Tp1.setTop (mkF m 16 #[.val (.int (Int32.ofNat K)), .val (.int (Int32.ofNat n)), .val (.ref bf)] [(.int (Int32.ofNat K))])) _
    refine XS.iloadN Xp1.here hx rfl (hb hby d33_16) rfl ?_
    show Steps p.tables e below (Tp1.setTop (mkF m 17 #[.val (.int (Int32.ofNat K)), .val (.int (Int32.ofNat n)), .val (.ref bf)] [(.int (Int32.ofNat n)), (.int (Int32.ofNat K))])) _
    refine XS.aloadN Xp1.here hx rfl (hb hby d33_17) rfl rfl ?_
    exact kk_)
  obtain ⟨_, T711, h711, L711, X711, e711, hQ711, st711⟩ := own_callS Xp1 hx hZ (y := (⟨"java/lang/Integer", "getChars", "(II[B)I"⟩ : MethodName)) hown (hw _ (List.mem_of_getElem? (i := 240) rfl)) (hw _ (List.mem_of_getElem? (i := 241) rfl)) (hw _ (List.mem_of_getElem? (i := 16) rfl)) (hw _ (List.mem_of_getElem? (i := 242) rfl)) (by decide) 0 (g := (mkF m 18 #[.val (.int (Int32.ofNat K)), .val (.int (Int32.ofNat n)), .val (.ref bf)] [(.ref bf), (.int (Int32.ofNat n)), (.int (Int32.ofNat K))])) rfl (by rw [hml]; rfl) [(.int (Int32.ofNat K)), (.int (Int32.ofNat n)), (.ref bf)] [] (rm35 l Z a0 hw [] K n bf kp1 hp1 n0 f708 hKk hn hr vb (by omega) f707 dO dT DO DT SO ST AO AT SzO SzT HO HT) (lenOf pd24 rfl) rfl (by show 2 * 0 + _ ≤ _; exact Nat.le_of_eq rfl) (hb hby d33_18) (by decide) (by decide) ep1 (by decide) (by decide)
  obtain ⟨rfl, N711, K711, V711⟩ := hQ711
  have S712 : own_Go p e below s₁ G T711 (mkF m 21 #[.val (.int (Int32.ofNat K)), .val (.int (Int32.ofNat n)), .val (.ref bf)] [(.int (0 : Int32))]) := fun tg_ kk_ => S710 tg_ (st711 tg_ kk_)
  have f713 := Fr.app M698 N711
  have f714 := f707.keep K711 (allS (by omega) all0)
  have f715 := Nat.le_trans f708 K711.1
  have f716 := Keep.trans f709 K711 (allS (Or.inr (by omega)) all0)
  have S717 : own_Go p e below s₁ G T711 (mkF m 22 #[.val (.int (Int32.ofNat K)), .val (.int (Int32.ofNat n)), .val (.ref bf)] []) := fun tg_ kk_ => S712 tg_ (by
    refine XT.pop X711.here hx rfl (hb hby d33_21) rfl rfl ?_
    exact kk_)
  obtain ⟨T718, h718, X718, e718, E718, A718, D718, -, st718⟩ := newO X711 hx hZ hown (hw _ (List.mem_of_getElem? (i := 244) rfl)) (hw _ (List.mem_of_getElem? (i := 245) rfl)) (hw _ (List.mem_of_getElem? (i := 224) rfl)) e711 (g := (mkF m 22 #[.val (.int (Int32.ofNat K)), .val (.int (Int32.ofNat n)), .val (.ref bf)] [])) rfl (hb hby d33_22) (by decide) (by decide)
  obtain ⟨a718, g718⟩ : ∃ z, z = h711.size := ⟨_, rfl⟩
  rw [← g718] at A718 D718 st718
  have S719 : own_Go p e below s₁ G T718 (mkF m 25 #[.val (.int (Int32.ofNat K)), .val (.int (Int32.ofNat n)), .val (.ref bf)] [(.ref a718)]) := fun tg_ kk_ => S717 tg_ (st718 tg_ kk_)
  have o720 : @LT.lt Nat instLTNat bf a718 := Nat.lt_of_lt_of_le V711.lt (Nat.le_of_eq g718.symm)
  have o721 : @LE.le Nat instLENat (n0) a718 := Nat.le_trans f715 (Nat.le_of_eq g718.symm)
  have o722 : @LE.le Nat instLENat (h0.size) a718 := Nat.le_trans f716.1 (Nat.le_of_eq g718.symm)
  have f723 := f714.ext E718
  have f724 := own_sub f715 E718
  have f725 := V711.ext E718
  have f726 := Keep.ext f716 E718
  have f727 : Fld Z h718 a718 "java/lang/String" "value" "[B" .null := D718 (Or.inr (hw _ (List.mem_of_getElem? (i := 252) rfl))) (ty := (.array .byte)) (by decide)
  have f728 : Fld Z h718 a718 "java/lang/String" "coder" "B" (.int 0) := D718 (Or.inr (hw _ (List.mem_of_getElem? (i := 254) rfl))) (ty := .byte) (by decide)
  have S729 : own_Go p e below s₁ G T718 (mkF m 28 #[.val (.int (Int32.ofNat K)), .val (.int (Int32.ofNat n)), .val (.ref bf)] [(.int (0 : Int32)), (.ref bf), (.ref a718), (.ref a718)]) := fun tg_ kk_ => S719 tg_ (by
    refine XS.dup X718.here hx rfl (hb hby d33_25) rfl rfl ?_
    show Steps p.tables e below (T718.setTop (mkF m 26 #[.val (.int (Int32.ofNat K)), .val (.int (Int32.ofNat n)), .val (.ref bf)] [(.ref a718), (.ref a718)])) _
    refine XS.aloadN X718.here hx rfl (hb hby d33_26) rfl rfl ?_
    show Steps p.tables e below (T718.setTop (mkF m 27 #[.val (.int (Int32.ofNat K)), .val (.int (Int32.ofNat n)), .val (.ref bf)] [(.ref bf), (.ref a718), (.ref a718)])) _
    refine XS.iconst X718.here hx rfl (hb hby d33_27) ?_
    exact kk_)
  obtain ⟨_, T730, h730, L730, X730, e730, hQ730, st730⟩ := own_callI X718 hx hZ (y := (⟨"java/lang/String", "<init>", "([BB)V"⟩ : MethodName)) rfl hown (hw _ (List.mem_of_getElem? (i := 246) rfl)) (hw _ (List.mem_of_getElem? (i := 247) rfl)) (hw _ (List.mem_of_getElem? (i := 224) rfl)) (hw _ (List.mem_of_getElem? (i := 249) rfl)) (by decide) 1 (g := (mkF m 28 #[.val (.int (Int32.ofNat K)), .val (.int (Int32.ofNat n)), .val (.ref bf)] [(.int (0 : Int32)), (.ref bf), (.ref a718), (.ref a718)])) rfl (by rw [hml]; rfl) a718 [(.ref bf), (.int (0 : Int32))] [(.ref a718)] (rm36 l Z a0 hw [] a718 bf h718 n0 f724 A718 (by omega) f727 f728) (lenOf pd25 rfl) rfl (by show 2 * 0 + _ ≤ _; exact Nat.le_of_eq rfl) (hb hby d33_28) (by decide) (by decide) e718 (by decide) (by decide)
  obtain ⟨rfl, N730, K730, Fv730, Fc730⟩ := hQ730
  have S731 : own_Go p e below s₁ G T730 (mkF m 31 #[.val (.int (Int32.ofNat K)), .val (.int (Int32.ofNat n)), .val (.ref bf)] [(.ref a718)]) := fun tg_ kk_ => S729 tg_ (st730 tg_ kk_)
  have f732 := Fr.app f713 N730
  have f733 := f723.keep K730 (allS (by omega) all0)
  have f734 := Nat.le_trans f724 K730.1
  have f735 := f725.keep K730 (ninS (own_nelt (by omega)) nin0)
  have f736 := A718.keep K730
  have f737 := Keep.trans f726 K730 (allS (Or.inr (by omega)) all0)
  have SS : own_Str Z h730 a718 bf (own_cs K n) := ⟨f736, Fv730, Or.inl ⟨Fc730, ⟨kp1, by rw [own_cs_len, own_cs_vb]; exact f735⟩, fun j hj => (own_48lat K n j hj).2⟩⟩
  obtain ⟨fs, hr, hrun, hended, hW, hsame⟩ := X730.leave (v := some (.ref a718)) (fun h => by rw [Bd.returns] at h; cases h)
  refine ⟨_, _, ?_, hrun, hended, _, _, rfl, ?_, ⟨_, rfl⟩, hW, hsame.mono (by decide) (by decide)⟩
  · rw [← hG]; exact S731 _ (retOut X730 hx Bd.returns (by first | rfl | cases (.ref a718) <;> rfl) (Or.inr (Or.inr (Or.inr (Or.inr ⟨rfl, rfl, rfl⟩)))) (hb hby d33_31) hr)
  · show Q33 Z K n h0 n0 _ T730.heap _
    rw [e730]
    exact ⟨a718, bf, rfl, f732, f737, SS⟩
def Q32 (Z : State) (y : Addr) (K : Nat) (n : Nat) (h0 : Heap) (n0 : Nat) (v : Option Value) (h : Heap) (L : List Loc) : Prop := ∃ x t, v = some (.ref x) ∧ Fr n0 L ∧ Keep h0 h [] ∧ own_Str Z h x t (own_cs K n)
set_option maxRecDepth 65536 in
set_option maxHeartbeats 40000000 in
theorem rm32 (l : Launch) (Z : State) (a0 : Array Value) (hw : ∀ d ∈ tables_1, d.before a0 Z = true) (ws : List Jvm.Cond) (y : Addr) (K : Nat) (n : Nat) (h0 : Heap) (n0 : Nat) (Z0 : n0 ≤ h0.size) (Fy : Fld Z h0 y "java/lang/Integer" "value" "I" (.int (Int32.ofNat K))) (hKk : 1 ≤ K ∧ K < 2 ^ 31) (hn : 1 ≤ n ∧ n ≤ 10) (hr : 10 ^ (n - 1) ≤ K ∧ K < 10 ^ n) (hdig : own_dig (Int32.ofNat K) = Int32.ofNat n) (O : Old Z n0 h0) (z : Int32) (O2 : Sta Z Z.heap "java/lang/String" "COMPACT_STRINGS" "Z" (.int z)) (P5 : ¬ z = 0) (dO dT : Addr) (DO DT : Cell) (SO : Sta Z Z.heap "java/lang/Integer" "DigitOnes" "[B" (.ref dO)) (ST : Sta Z Z.heap "java/lang/Integer" "DigitTens" "[B" (.ref dT)) (AO : Arr Z Z.heap dO DO .byte) (AT : Arr Z Z.heap dT DT .byte) (SzO : DO.slots.size = 100) (SzT : DT.slots.size = 100) (HO : ∀ i, i < 100 → DO.slots[i]? = some (.int (Int32.ofNat (48 + i % 10)))) (HT : ∀ i, i < 100 → DT.slots[i]? = some (.int (Int32.ofNat (48 + i / 10)))) :
    MetFree l (⟨"java/lang/Integer", "toString", "()Ljava/lang/String;"⟩ : MethodName) (head1 (Jvm.Cond.code (⟨"java/lang/Integer", "toString", "()Ljava/lang/String;"⟩ : MethodName) jdk_33_method_31_code 1 (some (.object "java/lang/String")) :: ws) ({ frames := 3, cells := 2, slots := 14, locals := 56 } : Room)) (fun aa_ U => aa_ = #[(.ref y)] ∧ Z.Warmed39 U.vm ∧ U.heap = h0) (fun _ _ _ _ _ => True) (fun _ U o U' => ∃ v L, o = .returned v ∧ Q32 Z y K n h0 n0 v U'.heap L ∧ FrameEnd U o U' L ({ frames := 3, cells := 2, slots := 14, locals := 56 } : Room).cells ({ frames := 3, cells := 2, slots := 14, locals := 56 } : Room).slots) := by
  refine MetFree.of_bodySF (plainFor_of_name pn2) hisR ?_
  intro p e s m args below meth c s₁ Bd hml0 hP hK
  obtain ⟨rfl, hZ, hh⟩ := hP
  have hx := Bd.exec
  have hby := Bd.bytes
  have hml : c.maxLocals = 1 := hml0
  have hown : s.vm.findClass "java/lang/Integer" = some m.cls := findClass_of_methodNamed Bd.named
  have hnm := (name_of_methodNamed Bd.named Bd.method).1
  have X0 : Stand p l e ({ frames := 3, cells := 2, slots := 14, locals := 56 } : Room) s m #[(.ref y)] below meth c s₁ [] 0 0 := Stand.of_body Bd
  have e0 : s₁.heap = h0 := by rw [← hh, Bd.state]; rfl
  have N0 := Fr.nil n0
  obtain ⟨G, hG⟩ : ∃ G, G = entryFrame m #[(.ref y)] 1 := ⟨_, rfl⟩
  have S0 : own_Go p e below s₁ G s₁ (mkF m 0 #[.val (.ref y)] []) := fun tg_ kk_ => castTop (by rw [hG]; first | rfl | simp [entryFrame, mkF, argsToLocals, Value.category, maxLocals]) kk_
  have S738 : own_Go p e below s₁ G s₁ (mkF m 1 #[.val (.ref y)] [(.ref y)]) := fun tg_ kk_ => S0 tg_ (by
    refine XS.aloadN X0.here hx rfl (hb hby d32_0) rfl rfl ?_
    exact kk_)
  obtain ⟨T739, X739, e739, st739⟩ := getF X0 hx hZ hown (host := "") (Or.inl (hw _ (List.mem_of_getElem? (i := 196) rfl))) Via.refl e0 Fy (g := (mkF m 1 #[.val (.ref y)] [(.ref y)])) rfl rfl (hb hby d32_1)
  have S740 : own_Go p e below s₁ G T739 (mkF m 4 #[.val (.ref y)] [(.int (Int32.ofNat K))]) := fun tg_ kk_ => S738 tg_ (st739 tg_ kk_)
  obtain ⟨_, T741, h741, L741, X741, e741, hQ741, st741⟩ := own_callS X739 hx hZ (y := (⟨"java/lang/Integer", "toString", "(I)Ljava/lang/String;"⟩ : MethodName)) hown (hw _ (List.mem_of_getElem? (i := 232) rfl)) (hw _ (List.mem_of_getElem? (i := 233) rfl)) (hw _ (List.mem_of_getElem? (i := 16) rfl)) (hw _ (List.mem_of_getElem? (i := 234) rfl)) (by decide) 0 (g := (mkF m 4 #[.val (.ref y)] [(.int (Int32.ofNat K))])) rfl (by rw [hml]; rfl) [(.int (Int32.ofNat K))] [] (rm33 l Z a0 hw [] K n h0 n0 Z0 hKk hn hr hdig O z O2 P5 dO dT DO DT SO ST AO AT SzO SzT HO HT) (lenOf pd23 rfl) rfl (by show 2 * 0 + _ ≤ _; exact Nat.le_of_eq rfl) (hb hby d32_4) (by decide) (by decide) e739 (by decide) (by decide)
  obtain ⟨x, t, rfl, N741, K741, SS⟩ := hQ741
  have S742 : own_Go p e below s₁ G T741 (mkF m 7 #[.val (.ref y)] [(.ref x)]) := fun tg_ kk_ => S740 tg_ (st741 tg_ kk_)
  have M1 := Fr.app N0 N741
  obtain ⟨fs, hr, hrun, hended, hW, hsame⟩ := X741.leave (v := some (.ref x)) (fun h => by rw [Bd.returns] at h; cases h)
  refine ⟨_, _, ?_, hrun, hended, _, _, rfl, ?_, ⟨_, rfl⟩, hW, hsame.mono (by decide) (by decide)⟩
  · rw [← hG]; exact S742 _ (retOut X741 hx Bd.returns (by first | rfl | cases (.ref x) <;> rfl) (Or.inr (Or.inr (Or.inr (Or.inr ⟨rfl, rfl, rfl⟩)))) (hb hby d32_7) hr)
  · show Q32 Z y K n h0 n0 _ T741.heap _
    rw [e741]
    exact ⟨x, t, rfl, M1, K741, SS⟩
def Q31 (Z : State) (y : Addr) (K : Nat) (n : Nat) (h0 : Heap) (n0 : Nat) (v : Option Value) (h : Heap) (L : List Loc) : Prop := ∃ x t, v = some (.ref x) ∧ Fr n0 L ∧ Keep h0 h [] ∧ own_Str Z h x t (own_cs K n)
set_option maxRecDepth 65536 in
set_option maxHeartbeats 40000000 in
theorem rm31 (l : Launch) (Z : State) (a0 : Array Value) (hw : ∀ d ∈ tables_1, d.before a0 Z = true) (ws : List Jvm.Cond) (y : Addr) (K : Nat) (n : Nat) (h0 : Heap) (n0 : Nat) (Z0 : n0 ≤ h0.size) (Ey : Exa Z h0 y "java/lang/Integer") (Fy : Fld Z h0 y "java/lang/Integer" "value" "I" (.int (Int32.ofNat K))) (hKk : 1 ≤ K ∧ K < 2 ^ 31) (hn : 1 ≤ n ∧ n ≤ 10) (hr : 10 ^ (n - 1) ≤ K ∧ K < 10 ^ n) (hdig : own_dig (Int32.ofNat K) = Int32.ofNat n) (O : Old Z n0 h0) (z : Int32) (O2 : Sta Z Z.heap "java/lang/String" "COMPACT_STRINGS" "Z" (.int z)) (P5 : ¬ z = 0) (dO dT : Addr) (DO DT : Cell) (SO : Sta Z Z.heap "java/lang/Integer" "DigitOnes" "[B" (.ref dO)) (ST : Sta Z Z.heap "java/lang/Integer" "DigitTens" "[B" (.ref dT)) (AO : Arr Z Z.heap dO DO .byte) (AT : Arr Z Z.heap dT DT .byte) (SzO : DO.slots.size = 100) (SzT : DT.slots.size = 100) (HO : ∀ i, i < 100 → DO.slots[i]? = some (.int (Int32.ofNat (48 + i % 10)))) (HT : ∀ i, i < 100 → DT.slots[i]? = some (.int (Int32.ofNat (48 + i / 10)))) :
    MetFree l (⟨"java/lang/String", "valueOf", "(Ljava/lang/Object;)Ljava/lang/String;"⟩ : MethodName) (head1 (Jvm.Cond.code (⟨"java/lang/String", "valueOf", "(Ljava/lang/Object;)Ljava/lang/String;"⟩ : MethodName) jdk_42_method_133_code 1 (some (.object "java/lang/String")) :: ws) ({ frames := 4, cells := 2, slots := 14, locals := 70 } : Room)) (fun aa_ U => aa_ = #[(.ref y)] ∧ Z.Warmed39 U.vm ∧ U.heap = h0) (fun _ _ _ _ _ => True) (fun _ U o U' => ∃ v L, o = .returned v ∧ Q31 Z y K n h0 n0 v U'.heap L ∧ FrameEnd U o U' L ({ frames := 4, cells := 2, slots := 14, locals := 70 } : Room).cells ({ frames := 4, cells := 2, slots := 14, locals := 70 } : Room).slots) := by
  refine MetFree.of_bodySF (plainFor_of_name pn13) hisR ?_
  intro p e s m args below meth c s₁ Bd hml0 hP hK
  obtain ⟨rfl, hZ, hh⟩ := hP
  have hx := Bd.exec
  have hby := Bd.bytes
  have hml : c.maxLocals = 1 := hml0
  have hown : s.vm.findClass "java/lang/String" = some m.cls := findClass_of_methodNamed Bd.named
  have hnm := (name_of_methodNamed Bd.named Bd.method).1
  have X0 : Stand p l e ({ frames := 4, cells := 2, slots := 14, locals := 70 } : Room) s m #[(.ref y)] below meth c s₁ [] 0 0 := Stand.of_body Bd
  have e0 : s₁.heap = h0 := by rw [← hh, Bd.state]; rfl
  have N0 := Fr.nil n0
  obtain ⟨G, hG⟩ : ∃ G, G = entryFrame m #[(.ref y)] 1 := ⟨_, rfl⟩
  have S0 : own_Go p e below s₁ G s₁ (mkF m 0 #[.val (.ref y)] []) := fun tg_ kk_ => castTop (by rw [hG]; first | rfl | simp [entryFrame, mkF, argsToLocals, Value.category, maxLocals]) kk_
  have S743 : own_Go p e below s₁ G s₁ (mkF m 11 #[.val (.ref y)] [(.ref y)]) := fun tg_ kk_ => S0 tg_ (by
    refine XS.aloadN X0.here hx rfl (hb hby d31_0) rfl rfl ?_
    show Steps p.tables e below (s₁.setTop (mkF m 1 #[.val (.ref y)] [(.ref y)])) _
    refine XT.ifnonnullYes X0.here hx rfl (pc0 := 1) (pc' := 10) rfl (hb hby d31_1) rfl (by decide) (by decide) ?_
    show Steps p.tables e below (s₁.setTop (mkF m 10 #[.val (.ref y)] [])) _
    refine XS.aloadN X0.here hx rfl (hb hby d31_10) rfl rfl ?_
    exact kk_)
  obtain ⟨_, T744, h744, L744, X744, e744, hQ744, st744⟩ := own_callW X0 hx hZ (y := (⟨"java/lang/Object", "toString", "()Ljava/lang/String;"⟩ : MethodName)) (z := (⟨"java/lang/Integer", "toString", "()Ljava/lang/String;"⟩ : MethodName)) hown (hw _ (List.mem_of_getElem? (i := 226) rfl)) (hw _ (List.mem_of_getElem? (i := 227) rfl)) (hw _ (List.mem_of_getElem? (i := 229) rfl)) (hw _ (List.mem_of_getElem? (i := 321) rfl)) rfl (hw _ (List.mem_of_getElem? (i := 230) rfl)) (hw _ (List.mem_of_getElem? (i := 16) rfl)) (hw _ (List.mem_of_getElem? (i := 231) rfl)) (by decide) 0 (g := (mkF m 11 #[.val (.ref y)] [(.ref y)])) rfl (by rw [hml]; rfl) y Ey [] [] (rm32 l Z a0 hw [] y K n h0 n0 Z0 Fy hKk hn hr hdig O z O2 P5 dO dT DO DT SO ST AO AT SzO SzT HO HT) (lenOf pd21 rfl) rfl (by show 2 * 0 + _ ≤ _; exact Nat.le_of_eq rfl) (hb hby d31_11) (by decide) (by decide) e0 (by decide) (by decide)
  obtain ⟨x, t, rfl, N744, K744, SS⟩ := hQ744
  have S745 : own_Go p e below s₁ G T744 (mkF m 14 #[.val (.ref y)] [(.ref x)]) := fun tg_ kk_ => S743 tg_ (st744 tg_ kk_)
  have M1 := Fr.app N0 N744
  obtain ⟨fs, hr, hrun, hended, hW, hsame⟩ := X744.leave (v := some (.ref x)) (fun h => by rw [Bd.returns] at h; cases h)
  refine ⟨_, _, ?_, hrun, hended, _, _, rfl, ?_, ⟨_, rfl⟩, hW, hsame.mono (by decide) (by decide)⟩
  · rw [← hG]; exact S745 _ (retOut X744 hx Bd.returns (by first | rfl | cases (.ref x) <;> rfl) (Or.inr (Or.inr (Or.inr (Or.inr ⟨rfl, rfl, rfl⟩)))) (hb hby d31_14) hr)
  · show Q31 Z y K n h0 n0 _ T744.heap _
    rw [e744]
    exact ⟨x, t, rfl, M1, K744, SS⟩
def Q30 (Z : State) (u : Addr) (em : Addr) (x : Addr) (d : Addr) (y : Addr) (k : Int32) (K : Nat) (n : Nat) (h0 : Heap) (n0 : Nat) (v : Option Value) (h : Heap) (L : List Loc) : Prop := ∃ xs t, v = some (.ref xs) ∧ Fr n0 L ∧ Keep h0 h [] ∧ own_Str Z h xs t (own_cs K n)
set_option maxRecDepth 65536 in
set_option maxHeartbeats 40000000 in
theorem rm30 (l : Launch) (Z : State) (a0 : Array Value) (hw : ∀ d ∈ tables_1, d.before a0 Z = true) (ws : List Jvm.Cond) (u : Addr) (em : Addr) (x : Addr) (d : Addr) (y : Addr) (k : Int32) (K : Nat) (n : Nat) (h0 : Heap) (n0 : Nat) (Z0 : n0 ≤ h0.size) (N : own_Not Z h0 u em x d y k) (hkK : k = Int32.ofNat K) (hKk : 1 ≤ K ∧ K < 2 ^ 31) (hn : 1 ≤ n ∧ n ≤ 10) (hr : 10 ^ (n - 1) ≤ K ∧ K < 10 ^ n) (hdig : own_dig (Int32.ofNat K) = Int32.ofNat n) (O : Old Z n0 h0) (z : Int32) (O2 : Sta Z Z.heap "java/lang/String" "COMPACT_STRINGS" "Z" (.int z)) (P5 : ¬ z = 0) (dO dT : Addr) (DO DT : Cell) (SO : Sta Z Z.heap "java/lang/Integer" "DigitOnes" "[B" (.ref dO)) (ST : Sta Z Z.heap "java/lang/Integer" "DigitTens" "[B" (.ref dT)) (AO : Arr Z Z.heap dO DO .byte) (AT : Arr Z Z.heap dT DT .byte) (SzO : DO.slots.size = 100) (SzT : DT.slots.size = 100) (HO : ∀ i, i < 100 → DO.slots[i]? = some (.int (Int32.ofNat (48 + i % 10)))) (HT : ∀ i, i < 100 → DT.slots[i]? = some (.int (Int32.ofNat (48 + i / 10)))) (SE : Sta Z Z.heap "java/util/ImmutableCollections" "EMPTY" "Ljava/lang/Object;" (.ref em)) (SU : Sta Z Z.heap "com/example/provenans/provenans/model/Notation$Level" "UNIT" "Lcom/example/provenans/provenans/model/Notation$Level;" (.ref u)) (EU : Exa Z Z.heap u "com/example/provenans/provenans/model/Notation$Level") (FU : Fld Z Z.heap u "java/lang/Enum" "ordinal" "I" (.int 0)) :
    MetFree l (⟨"com/example/provenans/provenans/model/Notation", "step", "()Ljava/lang/String;"⟩ : MethodName) (head1 (Jvm.Cond.code (⟨"com/example/provenans/provenans/model/Notation", "step", "()Ljava/lang/String;"⟩ : MethodName) prog_57_method_9_code 1 (some (.object "java/lang/String")) :: ws) ({ frames := 5, cells := 2, slots := 14, locals := 90 } : Room)) (fun aa_ U => aa_ = #[(.ref x)] ∧ Z.Warmed39 U.vm ∧ U.heap = h0) (fun _ _ _ _ _ => True) (fun _ U o U' => ∃ v L, o = .returned v ∧ Q30 Z u em x d y k K n h0 n0 v U'.heap L ∧ FrameEnd U o U' L ({ frames := 5, cells := 2, slots := 14, locals := 90 } : Room).cells ({ frames := 5, cells := 2, slots := 14, locals := 90 } : Room).slots) := by
  refine MetFree.of_bodySF (plainFor_of_name pn1) hisR ?_
  intro p e s m args below meth c s₁ Bd hml0 hP hK
  obtain ⟨rfl, hZ, hh⟩ := hP
  have hx := Bd.exec
  have hby := Bd.bytes
  have hml : c.maxLocals = 1 := hml0
  have hown : s.vm.findClass "com/example/provenans/provenans/model/Notation" = some m.cls := findClass_of_methodNamed Bd.named
  have hnm := (name_of_methodNamed Bd.named Bd.method).1
  have X0 : Stand p l e ({ frames := 5, cells := 2, slots := 14, locals := 90 } : Room) s m #[(.ref x)] below meth c s₁ [] 0 0 := Stand.of_body Bd
  have e0 : s₁.heap = h0 := by rw [← hh, Bd.state]; rfl
  have N0 := Fr.nil n0
  obtain ⟨G, hG⟩ : ∃ G, G = entryFrame m #[(.ref x)] 1 := ⟨_, rfl⟩
  have S0 : own_Go p e below s₁ G s₁ (mkF m 0 #[.val (.ref x)] []) := fun tg_ kk_ => castTop (by rw [hG]; first | rfl | simp [entryFrame, mkF, argsToLocals, Value.category, maxLocals]) kk_
  obtain ⟨Ex, Fs, Fl, Fq, Ed, F0, F1, Ey, Fy⟩ := id N
  rw [hkK] at Fy
  have S746 : own_Go p e below s₁ G s₁ (mkF m 1 #[.val (.ref x)] [(.ref x)]) := fun tg_ kk_ => S0 tg_ (by
    refine XS.aloadN X0.here hx rfl (hb hby d30_0) rfl rfl ?_
    exact kk_)
  obtain ⟨T747, X747, e747, st747⟩ := getF X0 hx hZ hown (host := "") (Or.inl (hw _ (List.mem_of_getElem? (i := 72) rfl))) Via.refl e0 Fl (g := (mkF m 1 #[.val (.ref x)] [(.ref x)])) rfl rfl (hb hby d30_1)
  have S748 : own_Go p e below s₁ G T747 (mkF m 4 #[.val (.ref x)] [(.ref u)]) := fun tg_ kk_ => S746 tg_ (st747 tg_ kk_)
  obtain ⟨_, T749, h749, L749, X749, e749, hQ749, st749⟩ := own_callU X747 hx hZ (y := (⟨"com/example/provenans/provenans/model/Notation$Level", "ordinal", "()I"⟩ : MethodName)) (z := (⟨"java/lang/Enum", "ordinal", "()I"⟩ : MethodName)) hown (hw _ (List.mem_of_getElem? (i := 96) rfl)) (hw _ (List.mem_of_getElem? (i := 97) rfl)) (hw _ (List.mem_of_getElem? (i := 98) rfl)) (hw _ (List.mem_of_getElem? (i := 100) rfl)) (hw _ (List.mem_of_getElem? (i := 99) rfl)) (hw _ (List.mem_of_getElem? (i := 101) rfl)) (hw _ (List.mem_of_getElem? (i := 102) rfl)) (by decide) 0 (g := (mkF m 4 #[.val (.ref x)] [(.ref u)])) rfl (by rw [hml]; rfl) u (EU.ext O.2) [] [] (rm16 l Z a0 hw [] u h0 n0 Z0 (FU.ext O.2)) (lenOf pd12 rfl) rfl (by show 2 * 0 + _ ≤ _; exact Nat.le_of_eq rfl) (hb hby d30_4) (by decide) (by decide) e747 (by decide) (by decide)
  obtain ⟨rfl, N749, rfl⟩ := hQ749
  have S750 : own_Go p e below s₁ G T749 (mkF m 7 #[.val (.ref x)] [(.int (0 : Int32))]) := fun tg_ kk_ => S748 tg_ (st749 tg_ kk_)
  have M749 := Fr.app N0 N749
  have S751 : own_Go p e below s₁ G T749 (mkF m 43 #[.val (.ref x)] [(.ref x)]) := fun tg_ kk_ => S750 tg_ (by
    refine XS.tswIn X749.here hx rfl (pc0 := 7) (pc' := 42) (o := 35) rfl (hb hby d30_7) rfl (by decide) rfl (by decide) (by decide) ?_
    show Steps p.tables e below (T749.setTop (mkF m 42 #[.val (.ref x)] [])) _
    refine XS.aloadN X749.here hx rfl (hb hby d30_42) rfl rfl ?_
    exact kk_)
  obtain ⟨T752, X752, e752, st752⟩ := getF X749 hx hZ hown (host := "") (Or.inl (hw _ (List.mem_of_getElem? (i := 70) rfl))) Via.refl e749 Fs (g := (mkF m 43 #[.val (.ref x)] [(.ref x)])) rfl rfl (hb hby d30_43)
  have S753 : own_Go p e below s₁ G T752 (mkF m 46 #[.val (.ref x)] [(.ref d)]) := fun tg_ kk_ => S751 tg_ (st752 tg_ kk_)
  have S754 : own_Go p e below s₁ G T752 (mkF m 47 #[.val (.ref x)] [(.ref x), (.ref d)]) := fun tg_ kk_ => S753 tg_ (by
    refine XS.aloadN X752.here hx rfl (hb hby d30_46) rfl rfl ?_
    exact kk_)
  obtain ⟨T755, X755, e755, st755⟩ := getF X752 hx hZ hown (host := "") (Or.inl (hw _ (List.mem_of_getElem? (i := 70) rfl))) Via.refl e752 Fs (g := (mkF m 47 #[.val (.ref x)] [(.ref x), (.ref d)])) rfl rfl (hb hby d30_47)
  have S756 : own_Go p e below s₁ G T755 (mkF m 50 #[.val (.ref x)] [(.ref d), (.ref d)]) := fun tg_ kk_ => S754 tg_ (st755 tg_ kk_)
  obtain ⟨_, T757, h757, L757, X757, e757, hQ757, st757⟩ := own_callF X755 hx hZ (y := (⟨"java/util/List", "size", "()I"⟩ : MethodName)) (z := (⟨"java/util/ImmutableCollections$List12", "size", "()I"⟩ : MethodName)) hown (hw _ (List.mem_of_getElem? (i := 87) rfl)) (hw _ (List.mem_of_getElem? (i := 88) rfl)) (mvT hZ (hw _ (List.mem_of_getElem? (i := 89) rfl))) (hw _ (List.mem_of_getElem? (i := 90) rfl)) (hw _ (List.mem_of_getElem? (i := 91) rfl)) (hw _ (List.mem_of_getElem? (i := 92) rfl)) (hw _ (List.mem_of_getElem? (i := 93) rfl)) (hw _ (List.mem_of_getElem? (i := 94) rfl)) (hw _ (List.mem_of_getElem? (i := 27) rfl)) (hw _ (List.mem_of_getElem? (i := 95) rfl)) (by decide) 1 (g := (mkF m 50 #[.val (.ref x)] [(.ref d), (.ref d)])) rfl (by rw [hml]; rfl) d Ed [] [(.ref d)] (rm15 l Z a0 hw [] d em h0 n0 Z0 F1 O SE) (lenOf pd12 rfl) rfl (by show 2 * 0 + _ ≤ _; exact Nat.le_of_eq rfl) (hb hby d30_50) (by decide) (by decide) e755 (by decide) (by decide)
  obtain ⟨rfl, N757, rfl⟩ := hQ757
  have S758 : own_Go p e below s₁ G T757 (mkF m 55 #[.val (.ref x)] [(.int (1 : Int32)), (.ref d)]) := fun tg_ kk_ => S756 tg_ (st757 tg_ kk_)
  have M757 := Fr.app M749 N757
  have S759 : own_Go p e below s₁ G T757 (mkF m 57 #[.val (.ref x)] [(.int ((1 : Int32) - (1 : Int32))), (.ref d)]) := fun tg_ kk_ => S758 tg_ (by
    refine XS.iconst X757.here hx rfl (hb hby d30_55) ?_
    show Steps p.tables e below (T757.setTop (mkF m 56 #[.val (.ref x)] [(.int (1 : Int32)), (.int (1 : Int32)), (.ref d)])) _
    refine XS.isub X757.here hx rfl (hb hby d30_56) rfl ?_
    exact kk_)
  rw [show ((1 : Int32) - (1 : Int32)) = (0 : Int32) from by decide +kernel] at S759
  obtain ⟨_, T760, h760, L760, X760, e760, hQ760, st760⟩ := own_callF X757 hx hZ (y := (⟨"java/util/List", "get", "(I)Ljava/lang/Object;"⟩ : MethodName)) (z := (⟨"java/util/ImmutableCollections$List12", "get", "(I)Ljava/lang/Object;"⟩ : MethodName)) hown (hw _ (List.mem_of_getElem? (i := 211) rfl)) (hw _ (List.mem_of_getElem? (i := 168) rfl)) (mvT hZ (hw _ (List.mem_of_getElem? (i := 181) rfl))) (hw _ (List.mem_of_getElem? (i := 182) rfl)) (hw _ (List.mem_of_getElem? (i := 170) rfl)) (hw _ (List.mem_of_getElem? (i := 183) rfl)) (hw _ (List.mem_of_getElem? (i := 184) rfl)) (hw _ (List.mem_of_getElem? (i := 94) rfl)) (hw _ (List.mem_of_getElem? (i := 27) rfl)) (hw _ (List.mem_of_getElem? (i := 171) rfl)) (by decide) 0 (g := (mkF m 57 #[.val (.ref x)] [(.int (0 : Int32)), (.ref d)])) rfl (by rw [hml]; rfl) d Ed [(.int (0 : Int32))] [] (rm23 l Z a0 hw [] d y h0 n0 Z0 F0) (lenOf pd18 rfl) rfl (by show 2 * 0 + _ ≤ _; exact Nat.le_of_eq rfl) (hb hby d30_57) (by decide) (by decide) e757 (by decide) (by decide)
  obtain ⟨rfl, N760, rfl⟩ := hQ760
  have S761 : own_Go p e below s₁ G T760 (mkF m 62 #[.val (.ref x)] [(.ref y)]) := fun tg_ kk_ => S759 tg_ (st760 tg_ kk_)
  have M760 := Fr.app M757 N760
  obtain ⟨_, T762, h762, L762, X762, e762, hQ762, st762⟩ := own_callS X760 hx hZ (y := (⟨"java/lang/String", "valueOf", "(Ljava/lang/Object;)Ljava/lang/String;"⟩ : MethodName)) hown (hw _ (List.mem_of_getElem? (i := 222) rfl)) (hw _ (List.mem_of_getElem? (i := 223) rfl)) (hw _ (List.mem_of_getElem? (i := 224) rfl)) (hw _ (List.mem_of_getElem? (i := 225) rfl)) (by decide) 0 (g := (mkF m 62 #[.val (.ref x)] [(.ref y)])) rfl (by rw [hml]; rfl) [(.ref y)] [] (rm31 l Z a0 hw [] y K n h0 n0 Z0 Ey Fy hKk hn hr hdig O z O2 P5 dO dT DO DT SO ST AO AT SzO SzT HO HT) (lenOf pd22 rfl) rfl (by show 2 * 0 + _ ≤ _; exact Nat.le_of_eq rfl) (hb hby d30_62) (by decide) (by decide) e760 (by decide) (by decide)
  obtain ⟨xs, t, rfl, N762, K762, SS⟩ := hQ762
  have S763 : own_Go p e below s₁ G T762 (mkF m 65 #[.val (.ref x)] [(.ref xs)]) := fun tg_ kk_ => S761 tg_ (st762 tg_ kk_)
  have f764 := Fr.app M760 N762
  have S765 : own_Go p e below s₁ G T762 (mkF m 82 #[.val (.ref x)] [(.ref xs)]) := fun tg_ kk_ => S763 tg_ (by
    refine XS.goto X762.here hx rfl (pc0 := 65) (pc' := 82) rfl (hb hby d30_65) (by decide) (by decide) ?_
    exact kk_)
  obtain ⟨fs, hr, hrun, hended, hW, hsame⟩ := X762.leave (v := some (.ref xs)) (fun h => by rw [Bd.returns] at h; cases h)
  refine ⟨_, _, ?_, hrun, hended, _, _, rfl, ?_, ⟨_, rfl⟩, hW, hsame.mono (by decide) (by decide)⟩
  · rw [← hG]; exact S765 _ (retOut X762 hx Bd.returns (by first | rfl | cases (.ref xs) <;> rfl) (Or.inr (Or.inr (Or.inr (Or.inr ⟨rfl, rfl, rfl⟩)))) (hb hby d30_82) hr)
  · show Q30 Z u em x d y k K n h0 n0 _ T762.heap _
    rw [e762]
    exact ⟨xs, t, rfl, f764, K762, SS⟩
theorem own_nat {k : Int32} (h : ¬ k < 1) : ∃ K, k = Int32.ofNat K ∧ 1 ≤ K ∧ K < 2 ^ 31 := by
  rw [Int32.lt_iff_toInt_lt] at h
  have e : (1 : Int32).toInt = 1 := rfl
  have r := rng32 k
  refine ⟨k.toInt.toNat, Int32.toInt_inj.mp ?_, by omega, by omega⟩
  rw [Int32.toInt_ofNat_of_lt (by omega)]; omega
theorem own_pred {k : Nat} (h : 1 ≤ k) (h2 : k ≤ 1000) : Int32.ofNat k - 1 = Int32.ofNat (k - 1) := by
  have q := c_isub (Int32.ofNat k) 1
  have r := rng32 (Int32.ofNat k - 1)
  refine Int32.toInt_inj.mp ?_
  have e1 : (1 : Int32).toInt = 1 := rfl
  rw [Int32.toInt_ofNat_of_lt (by omega)] at *
  omega
theorem own_cmp_lt {a b : Int32} (h : a < b) : own_cmp a b = -1 := if_pos h
theorem own_cmp_eq {a b : Int32} (h : b = a) : own_cmp a b = 0 := by subst h; unfold own_cmp; rw [if_neg Int32.lt_irrefl, if_pos rfl]
theorem own_cmp_gt {a b : Int32} (h : ¬ b = a) (h2 : ¬ a < b) : own_cmp a b = 1 := by unfold own_cmp; rw [if_neg h2, if_neg (fun q => h q.symm)]
theorem own_gt_of {a b : Int32} (h : ¬ b = a) (h2 : ¬ a < b) : b < a := by
  rw [Int32.lt_iff_toInt_lt] at *
  have q : b.toInt ≠ a.toInt := fun e => h (Int32.toInt_inj.mp e)
  omega
def Q0 (Z : State) (p0 : Int32) (p1 : Int32) (h0 : Heap) (n0 : Nat) (v : Option Value) (h : Heap) (L : List Loc) : Prop := v = some (.int 1) ∧ Fr n0 L
set_option maxRecDepth 65536 in
set_option maxHeartbeats 40000000 in
theorem rm0 (l : Launch) (Z : State) (a0 : Array Value) (hw : ∀ d ∈ tables_1, d.before a0 Z = true) (ws : List Jvm.Cond) (p0 : Int32) (p1 : Int32) (h0 : Heap) (n0 : Nat) (Z0 : n0 ≤ h0.size) (u em : Addr) (O : Old Z n0 h0) (SE : Sta Z Z.heap "java/util/ImmutableCollections" "EMPTY" "Ljava/lang/Object;" (.ref em)) (SU : Sta Z Z.heap "com/example/provenans/provenans/model/Notation$Level" "UNIT" "Lcom/example/provenans/provenans/model/Notation$Level;" (.ref u)) (EU : Exa Z Z.heap u "com/example/provenans/provenans/model/Notation$Level") (FU : Fld Z Z.heap u "java/lang/Enum" "ordinal" "I" (.int 0)) (rt rg : Addr) (SRT : Sta Z Z.heap "com/example/provenans/provenans/model/Notation$Level" "RECORD_TYPE" "Lcom/example/provenans/provenans/model/Notation$Level;" (.ref rt)) (SRG : Sta Z Z.heap "com/example/provenans/provenans/model/Notation$Level" "RECORD_GROUP" "Lcom/example/provenans/provenans/model/Notation$Level;" (.ref rg)) (hrt : u ≠ rt) (hrg : u ≠ rg) (cL : ClassId) (kk : Class) (mm : Addr) (m1 : Z.vm.findClass "com/example/provenans/provenans/model/Notation$Level" = some cL) (m2 : Z.vm.classes[cL]? = some kk) (m3 : kk.mirror = some mm) (ca : Addr) (cc : Cell) (SH : Sta Z Z.heap "java/lang/Integer$IntegerCache" "high" "I" (.int 127)) (SC : Sta Z Z.heap "java/lang/Integer$IntegerCache" "cache" "[Ljava/lang/Integer;" (.ref ca)) (AC : Arr Z Z.heap ca cc (.object "java/lang/Integer")) (CS : cc.slots.size = 256) (HC : ∀ x : Int32, ¬ x < 1 → ¬ (127 : Int32) < x → ∃ y, cc.slots[(x + 128).toNatClampNeg]? = some (.ref y) ∧ Exa Z Z.heap y "java/lang/Integer" ∧ Fld Z Z.heap y "java/lang/Integer" "value" "I" (.int x)) (z : Int32) (O2 : Sta Z Z.heap "java/lang/String" "COMPACT_STRINGS" "Z" (.int z)) (P5 : ¬ z = 0) (dO dT : Addr) (DO DT : Cell) (SO : Sta Z Z.heap "java/lang/Integer" "DigitOnes" "[B" (.ref dO)) (ST : Sta Z Z.heap "java/lang/Integer" "DigitTens" "[B" (.ref dT)) (AO : Arr Z Z.heap dO DO .byte) (AT : Arr Z Z.heap dT DT .byte) (SzO : DO.slots.size = 100) (SzT : DT.slots.size = 100) (HO : ∀ i, i < 100 → DO.slots[i]? = some (.int (Int32.ofNat (48 + i % 10)))) (HT : ∀ i, i < 100 → DT.slots[i]? = some (.int (Int32.ofNat (48 + i / 10)))) (fm : Value) (hfm : fm.isRef = true) (SF : Sta Z Z.heap "jdk/internal/util/Preconditions" "SIOOBE_FORMATTER" "Ljava/util/function/BiFunction;" fm) :
    MetFree l x (head1 (Jvm.Cond.code x code maxLocals ret :: ws) room_1) (fun aa_ U => aa_ = #[(.int p0), (.int p1)] ∧ Z.Warmed39 U.vm ∧ U.heap = h0) (fun _ _ _ _ _ => True) (fun _ U o U' => ∃ v L, o = .returned v ∧ Q0 Z p0 p1 h0 n0 v U'.heap L ∧ FrameEnd U o U' L 32 128) := by
  refine MetFree.of_bodySF (plainFor_of_name pn12) hisR ?_
  intro p e s m args below meth c s₁ Bd hml0 hP hK
  obtain ⟨rfl, hZ, hh⟩ := hP
  have hx := Bd.exec
  have hby := Bd.bytes
  have hml : c.maxLocals = 9 := hml0
  have hown : s.vm.findClass "com/example/provenans/provenans/model/NotationOfPinLaw" = some m.cls := findClass_of_methodNamed Bd.named
  have hnm := (name_of_methodNamed Bd.named Bd.method).1
  have X0 : Stand p l e room_1 s m #[(.int p0), (.int p1)] below meth c s₁ [] 0 0 := Stand.of_body Bd
  have e0 : s₁.heap = h0 := by rw [← hh, Bd.state]; rfl
  have N0 := Fr.nil n0
  obtain ⟨G, hG⟩ : ∃ G, G = entryFrame m #[(.int p0), (.int p1)] maxLocals := ⟨_, rfl⟩
  have S0 : own_Go p e below s₁ G s₁ (mkF m 0 #[.val (.int p0), .val (.int p1), .unset, .unset, .unset, .unset, .unset, .unset, .unset] []) := fun tg_ kk_ => castTop (by rw [hG]; first | rfl | simp [entryFrame, mkF, argsToLocals, Value.category, maxLocals]) kk_
  have S766 : own_Go p e below s₁ G s₁ (mkF m 5 #[.val (.int p0), .val (.int p1), .unset, .unset, .unset, .unset, .unset, .unset, .unset] [(.int (p0 &&& (2147483647 : Int32))), (.int (1 : Int32))]) := fun tg_ kk_ => S0 tg_ (by
    refine XS.iconst X0.here hx rfl (hb hby at_0) ?_
    show Steps p.tables e below (s₁.setTop (mkF m 1 #[.val (.int p0), .val (.int p1), .unset, .unset, .unset, .unset, .unset, .unset, .unset] [(.int (1 : Int32))])) _
    refine XS.iloadN X0.here hx rfl (hb hby at_1) rfl ?_
    show Steps p.tables e below (s₁.setTop (mkF m 2 #[.val (.int p0), .val (.int p1), .unset, .unset, .unset, .unset, .unset, .unset, .unset] [(.int p0), (.int (1 : Int32))])) _
    refine X0.ldcInt hx hown (mvT hZ (hw _ (List.mem_of_getElem? (i := 0) rfl))) (g := (mkF m 2 #[.val (.int p0), .val (.int p1), .unset, .unset, .unset, .unset, .unset, .unset, .unset] [(.int p0), (.int (1 : Int32))])) rfl (hb hby at_2) _ ?_
    show Steps p.tables e below (s₁.setTop (mkF m 4 #[.val (.int p0), .val (.int p1), .unset, .unset, .unset, .unset, .unset, .unset, .unset] [(.int (2147483647 : Int32)), (.int p0), (.int (1 : Int32))])) _
    refine XS.iand X0.here hx rfl (hb hby at_4) rfl ?_
    exact kk_)
  obtain ⟨_, T767, h767, L767, X767, e767, hQ767, st767⟩ := own_callS X0 hx hZ (y := (⟨"java/lang/Math", "max", "(II)I"⟩ : MethodName)) hown (hw _ (List.mem_of_getElem? (i := 1) rfl)) (hw _ (List.mem_of_getElem? (i := 2) rfl)) (hw _ (List.mem_of_getElem? (i := 3) rfl)) (hw _ (List.mem_of_getElem? (i := 4) rfl)) (by decide) 0 (g := (mkF m 5 #[.val (.int p0), .val (.int p1), .unset, .unset, .unset, .unset, .unset, .unset, .unset] [(.int (p0 &&& (2147483647 : Int32))), (.int (1 : Int32))])) rfl (by rw [hml]; rfl) [(.int (1 : Int32)), (.int (p0 &&& (2147483647 : Int32)))] [] (rm1 l Z a0 hw [] (p0 &&& (2147483647 : Int32)) h0 n0 Z0) (lenOf pd2 rfl) rfl (by show 2 * 0 + _ ≤ _; exact Nat.le_of_eq rfl) (hb hby at_5) (by decide) (by decide) e0 (by decide) (by decide)
  obtain ⟨⟨s1, hs1, rfl⟩, N767, rfl⟩ := hQ767
  have S768 : own_Go p e below s₁ G T767 (mkF m 8 #[.val (.int p0), .val (.int p1), .unset, .unset, .unset, .unset, .unset, .unset, .unset] [(.int s1)]) := fun tg_ kk_ => S766 tg_ (st767 tg_ kk_)
  have M767 := Fr.app N0 N767
  have S769 : own_Go p e below s₁ G T767 (mkF m 14 #[.val (.int p0), .val (.int p1), .val (.int s1), .unset, .unset, .unset, .unset, .unset, .unset] [(.int (p1 &&& (2147483647 : Int32))), (.int (1 : Int32))]) := fun tg_ kk_ => S768 tg_ (by
    refine XS.istoreN X767.here hx rfl (hb hby at_8) rfl (l' := #[.val (.int p0), .val (.int p1), .val (.int s1), .unset, .unset, .unset, .unset, .unset, .unset]) rfl ?_
    show Steps p.tables e below (T767.setTop (mkF m 9 #[.val (.int p0), .val (.int p1), .val (.int s1), .unset, .unset, .unset, .unset, .unset, .unset] [])) _
    refine XS.iconst X767.here hx rfl (hb hby at_9) ?_
    show Steps p.tables e below (T767.setTop (mkF m 10 #[.val (.int p0), .val (.int p1), .val (.int s1), .unset, .unset, .unset, .unset, .unset, .unset] [(.int (1 : Int32))])) _
    refine XS.iloadN X767.here hx rfl (hb hby at_10) rfl ?_
    show Steps p.tables e below (T767.setTop (mkF m 11 #[.val (.int p0), .val (.int p1), .val (.int s1), .unset, .unset, .unset, .unset, .unset, .unset] [(.int p1), (.int (1 : Int32))])) _
    refine X767.ldcInt hx hown (mvT hZ (hw _ (List.mem_of_getElem? (i := 0) rfl))) (g := (mkF m 11 #[.val (.int p0), .val (.int p1), .val (.int s1), .unset, .unset, .unset, .unset, .unset, .unset] [(.int p1), (.int (1 : Int32))])) rfl (hb hby at_11) _ ?_
    show Steps p.tables e below (T767.setTop (mkF m 13 #[.val (.int p0), .val (.int p1), .val (.int s1), .unset, .unset, .unset, .unset, .unset, .unset] [(.int (2147483647 : Int32)), (.int p1), (.int (1 : Int32))])) _
    refine XS.iand X767.here hx rfl (hb hby at_13) rfl ?_
    exact kk_)
  obtain ⟨_, T770, h770, L770, X770, e770, hQ770, st770⟩ := own_callS X767 hx hZ (y := (⟨"java/lang/Math", "max", "(II)I"⟩ : MethodName)) hown (hw _ (List.mem_of_getElem? (i := 1) rfl)) (hw _ (List.mem_of_getElem? (i := 2) rfl)) (hw _ (List.mem_of_getElem? (i := 3) rfl)) (hw _ (List.mem_of_getElem? (i := 4) rfl)) (by decide) 0 (g := (mkF m 14 #[.val (.int p0), .val (.int p1), .val (.int s1), .unset, .unset, .unset, .unset, .unset, .unset] [(.int (p1 &&& (2147483647 : Int32))), (.int (1 : Int32))])) rfl (by rw [hml]; rfl) [(.int (1 : Int32)), (.int (p1 &&& (2147483647 : Int32)))] [] (rm1 l Z a0 hw [] (p1 &&& (2147483647 : Int32)) h0 n0 Z0) (lenOf pd2 rfl) rfl (by show 2 * 0 + _ ≤ _; exact Nat.le_of_eq rfl) (hb hby at_14) (by decide) (by decide) e767 (by decide) (by decide)
  obtain ⟨⟨s2, hs2, rfl⟩, N770, rfl⟩ := hQ770
  have S771 : own_Go p e below s₁ G T770 (mkF m 17 #[.val (.int p0), .val (.int p1), .val (.int s1), .unset, .unset, .unset, .unset, .unset, .unset] [(.int s2)]) := fun tg_ kk_ => S769 tg_ (st770 tg_ kk_)
  have M770 := Fr.app M767 N770
  have S772 : own_Go p e below s₁ G T770 (mkF m 19 #[.val (.int p0), .val (.int p1), .val (.int s1), .val (.int s2), .unset, .unset, .unset, .unset, .unset] [(.int s1)]) := fun tg_ kk_ => S771 tg_ (by
    refine XS.istoreN X770.here hx rfl (hb hby at_17) rfl (l' := #[.val (.int p0), .val (.int p1), .val (.int s1), .val (.int s2), .unset, .unset, .unset, .unset, .unset]) rfl ?_
    show Steps p.tables e below (T770.setTop (mkF m 18 #[.val (.int p0), .val (.int p1), .val (.int s1), .val (.int s2), .unset, .unset, .unset, .unset, .unset] [])) _
    refine XS.iloadN X770.here hx rfl (hb hby at_18) rfl ?_
    exact kk_)
  obtain ⟨_, T773, h773, L773, X773, e773, hQ773, st773⟩ := own_callS X770 hx hZ (y := (⟨"com/example/provenans/provenans/model/Notation", "of", "(I)Lcom/example/provenans/provenans/model/Notation;"⟩ : MethodName)) hown (hw _ (List.mem_of_getElem? (i := 5) rfl)) (hw _ (List.mem_of_getElem? (i := 6) rfl)) (hw _ (List.mem_of_getElem? (i := 7) rfl)) (hw _ (List.mem_of_getElem? (i := 8) rfl)) (by decide) 0 (g := (mkF m 19 #[.val (.int p0), .val (.int p1), .val (.int s1), .val (.int s2), .unset, .unset, .unset, .unset, .unset] [(.int s1)])) rfl (by rw [hml]; rfl) [(.int s1)] [] (rm2 l Z a0 hw [] s1 u em h0 n0 Z0 hs1 O SE SU ca cc SH SC AC CS HC) (lenOf pd3 rfl) rfl (by show 2 * 0 + _ ≤ _; exact Nat.le_of_eq rfl) (hb hby at_19) (by decide) (by decide) e770 (by decide) (by decide)
  obtain ⟨x1, d1, y1, rfl, N773, K773, hd1, NN1⟩ := hQ773
  have S774 : own_Go p e below s₁ G T773 (mkF m 22 #[.val (.int p0), .val (.int p1), .val (.int s1), .val (.int s2), .unset, .unset, .unset, .unset, .unset] [(.ref x1)]) := fun tg_ kk_ => S772 tg_ (st773 tg_ kk_)
  have f775 := Fr.app M770 N773
  have f776 := O.keep K773 all0
  have f777 := Nat.le_trans Z0 K773.1
  have f778 := Keep.trans (Keep.refl h0 []) K773 all0
  have S779 : own_Go p e below s₁ G T773 (mkF m 25 #[.val (.int p0), .val (.int p1), .val (.int s1), .val (.int s2), .val (.ref x1), .unset, .unset, .unset, .unset] [(.int s2)]) := fun tg_ kk_ => S774 tg_ (by
    refine XS.astore X773.here hx rfl (hb hby at_22) rfl rfl (l' := #[.val (.int p0), .val (.int p1), .val (.int s1), .val (.int s2), .val (.ref x1), .unset, .unset, .unset, .unset]) rfl ?_
    show Steps p.tables e below (T773.setTop (mkF m 24 #[.val (.int p0), .val (.int p1), .val (.int s1), .val (.int s2), .val (.ref x1), .unset, .unset, .unset, .unset] [])) _
    refine XS.iloadN X773.here hx rfl (hb hby at_24) rfl ?_
    exact kk_)
  obtain ⟨_, T780, h780, L780, X780, e780, hQ780, st780⟩ := own_callS X773 hx hZ (y := (⟨"com/example/provenans/provenans/model/Notation", "of", "(I)Lcom/example/provenans/provenans/model/Notation;"⟩ : MethodName)) hown (hw _ (List.mem_of_getElem? (i := 5) rfl)) (hw _ (List.mem_of_getElem? (i := 6) rfl)) (hw _ (List.mem_of_getElem? (i := 7) rfl)) (hw _ (List.mem_of_getElem? (i := 8) rfl)) (by decide) 0 (g := (mkF m 25 #[.val (.int p0), .val (.int p1), .val (.int s1), .val (.int s2), .val (.ref x1), .unset, .unset, .unset, .unset] [(.int s2)])) rfl (by rw [hml]; rfl) [(.int s2)] [] (rm2 l Z a0 hw [] s2 u em h773 n0 f777 hs2 f776 SE SU ca cc SH SC AC CS HC) (lenOf pd3 rfl) rfl (by show 2 * 0 + _ ≤ _; exact Nat.le_of_eq rfl) (hb hby at_25) (by decide) (by decide) e773 (by decide) (by decide)
  obtain ⟨x2, d2, y2, rfl, N780, K780, hd2, NN2⟩ := hQ780
  have S781 : own_Go p e below s₁ G T780 (mkF m 28 #[.val (.int p0), .val (.int p1), .val (.int s1), .val (.int s2), .val (.ref x1), .unset, .unset, .unset, .unset] [(.ref x2)]) := fun tg_ kk_ => S779 tg_ (st780 tg_ kk_)
  have f782 := Fr.app f775 N780
  have f783 := f776.keep K780 all0
  have f784 := Nat.le_trans f777 K780.1
  have f785 := Keep.trans f778 K780 all0
  have hdd : d1 ≠ d2 := Nat.ne_of_lt (Nat.lt_of_lt_of_le NN1.2.2.2.2.1.lt hd2)
  have NA := NN1.keep K780
  have S786 : own_Go p e below s₁ G T780 (mkF m 32 #[.val (.int p0), .val (.int p1), .val (.int s1), .val (.int s2), .val (.ref x1), .val (.ref x2), .unset, .unset, .unset] [(.ref x1)]) := fun tg_ kk_ => S781 tg_ (by
    refine XS.astore X780.here hx rfl (hb hby at_28) rfl rfl (l' := #[.val (.int p0), .val (.int p1), .val (.int s1), .val (.int s2), .val (.ref x1), .val (.ref x2), .unset, .unset, .unset]) rfl ?_
    show Steps p.tables e below (T780.setTop (mkF m 30 #[.val (.int p0), .val (.int p1), .val (.int s1), .val (.int s2), .val (.ref x1), .val (.ref x2), .unset, .unset, .unset] [])) _
    refine XS.aload X780.here hx rfl (hb hby at_30) rfl rfl ?_
    exact kk_)
  obtain ⟨_, T787, h787, L787, X787, e787, hQ787, st787⟩ := own_callV X780 hx hZ (y := (⟨"com/example/provenans/provenans/model/Notation", "level", "()Lcom/example/provenans/provenans/model/Notation$Level;"⟩ : MethodName)) hown (hw _ (List.mem_of_getElem? (i := 76) rfl)) (hw _ (List.mem_of_getElem? (i := 77) rfl)) (hw _ (List.mem_of_getElem? (i := 79) rfl)) (hw _ (List.mem_of_getElem? (i := 78) rfl)) (hw _ (List.mem_of_getElem? (i := 7) rfl)) (hw _ (List.mem_of_getElem? (i := 80) rfl)) (by decide) 0 (g := (mkF m 32 #[.val (.int p0), .val (.int p1), .val (.int s1), .val (.int s2), .val (.ref x1), .val (.ref x2), .unset, .unset, .unset] [(.ref x1)])) rfl (by rw [hml]; rfl) x1 NA.1 [] [] (rm13 l Z a0 hw [] u em x1 d1 y1 s1 h780 n0 f784 NA) (lenOf pd11 rfl) rfl (by show 2 * 0 + _ ≤ _; exact Nat.le_of_eq rfl) (hb hby at_32) (by decide) (by decide) e780 (by decide) (by decide)
  obtain ⟨rfl, N787, rfl⟩ := hQ787
  have S788 : own_Go p e below s₁ G T787 (mkF m 35 #[.val (.int p0), .val (.int p1), .val (.int s1), .val (.int s2), .val (.ref x1), .val (.ref x2), .unset, .unset, .unset] [(.ref u)]) := fun tg_ kk_ => S786 tg_ (st787 tg_ kk_)
  have M787 := Fr.app f782 N787
  obtain ⟨T789, X789, e789, st789⟩ := getS2 X787 hx hZ (host := "") hown (Or.inl (hw _ (List.mem_of_getElem? (i := 81) rfl))) Via.refl e787 (SU.ext f783.2) (g := (mkF m 35 #[.val (.int p0), .val (.int p1), .val (.int s1), .val (.int s2), .val (.ref x1), .val (.ref x2), .unset, .unset, .unset] [(.ref u)])) rfl (hb hby at_35)
  have S790 : own_Go p e below s₁ G T789 (mkF m 38 #[.val (.int p0), .val (.int p1), .val (.int s1), .val (.int s2), .val (.ref x1), .val (.ref x2), .unset, .unset, .unset] [(.ref u), (.ref u)]) := fun tg_ kk_ => S788 tg_ (st789 tg_ kk_)
  have S791 : own_Go p e below s₁ G T789 (mkF m 45 #[.val (.int p0), .val (.int p1), .val (.int s1), .val (.int s2), .val (.ref x1), .val (.ref x2), .unset, .unset, .unset] [(.ref x1)]) := fun tg_ kk_ => S790 tg_ (by
    refine XT.acmpYes X789.here hx rfl (pc0 := 38) (pc' := 43) rfl (hb hby at_38) rfl (rfl) (rfl) (XT.aa_eq_t rfl) (by decide) (by decide) ?_
    show Steps p.tables e below (T789.setTop (mkF m 43 #[.val (.int p0), .val (.int p1), .val (.int s1), .val (.int s2), .val (.ref x1), .val (.ref x2), .unset, .unset, .unset] [])) _
    refine XS.aload X789.here hx rfl (hb hby at_43) rfl rfl ?_
    exact kk_)
  obtain ⟨_, T792, h792, L792, X792, e792, hQ792, st792⟩ := own_callV X789 hx hZ (y := (⟨"com/example/provenans/provenans/model/Notation", "depth", "()I"⟩ : MethodName)) hown (hw _ (List.mem_of_getElem? (i := 82) rfl)) (hw _ (List.mem_of_getElem? (i := 83) rfl)) (hw _ (List.mem_of_getElem? (i := 85) rfl)) (hw _ (List.mem_of_getElem? (i := 84) rfl)) (hw _ (List.mem_of_getElem? (i := 7) rfl)) (hw _ (List.mem_of_getElem? (i := 86) rfl)) (by decide) 0 (g := (mkF m 45 #[.val (.int p0), .val (.int p1), .val (.int s1), .val (.int s2), .val (.ref x1), .val (.ref x2), .unset, .unset, .unset] [(.ref x1)])) rfl (by rw [hml]; rfl) x1 NA.1 [] [] (rm14 l Z a0 hw [] u em x1 d1 y1 s1 h780 n0 f784 NA f783 SE SU EU FU) (lenOf pd12 rfl) rfl (by show 2 * 0 + _ ≤ _; exact Nat.le_of_eq rfl) (hb hby at_45) (by decide) (by decide) e789 (by decide) (by decide)
  obtain ⟨rfl, N792, rfl⟩ := hQ792
  have S793 : own_Go p e below s₁ G T792 (mkF m 48 #[.val (.int p0), .val (.int p1), .val (.int s1), .val (.int s2), .val (.ref x1), .val (.ref x2), .unset, .unset, .unset] [(.int (0 : Int32))]) := fun tg_ kk_ => S791 tg_ (st792 tg_ kk_)
  have M792 := Fr.app M787 N792
  have S794 : own_Go p e below s₁ G T792 (mkF m 55 #[.val (.int p0), .val (.int p1), .val (.int s1), .val (.int s2), .val (.ref x1), .val (.ref x2), .unset, .unset, .unset] [(.ref x1)]) := fun tg_ kk_ => S793 tg_ (by
    refine XS.ifYes X792.here hx rfl (pc0 := 48) (pc' := 53) rfl (hb hby at_48) rfl (XT.i0_eq_t (by decide)) (by decide) (by decide) ?_
    show Steps p.tables e below (T792.setTop (mkF m 53 #[.val (.int p0), .val (.int p1), .val (.int s1), .val (.int s2), .val (.ref x1), .val (.ref x2), .unset, .unset, .unset] [])) _
    refine XS.aload X792.here hx rfl (hb hby at_53) rfl rfl ?_
    exact kk_)
  obtain ⟨_, T795, h795, L795, X795, e795, hQ795, st795⟩ := own_callV X792 hx hZ (y := (⟨"com/example/provenans/provenans/model/Notation", "above", "()Lcom/example/provenans/provenans/model/Notation;"⟩ : MethodName)) hown (hw _ (List.mem_of_getElem? (i := 105) rfl)) (hw _ (List.mem_of_getElem? (i := 106) rfl)) (hw _ (List.mem_of_getElem? (i := 108) rfl)) (hw _ (List.mem_of_getElem? (i := 107) rfl)) (hw _ (List.mem_of_getElem? (i := 7) rfl)) (hw _ (List.mem_of_getElem? (i := 109) rfl)) (by decide) 0 (g := (mkF m 55 #[.val (.int p0), .val (.int p1), .val (.int s1), .val (.int s2), .val (.ref x1), .val (.ref x2), .unset, .unset, .unset] [(.ref x1)])) rfl (by rw [hml]; rfl) x1 NA.1 [] [] (rm17 l Z a0 hw [] u em x1 d1 y1 s1 h780 n0 f784 NA f783 SE SU EU FU rt rg SRT SRG hrt hrg) (lenOf pd13 rfl) rfl (by show 2 * 0 + _ ≤ _; exact Nat.le_of_eq rfl) (hb hby at_55) (by decide) (by decide) e792 (by decide) (by decide)
  obtain ⟨rfl, N795, rfl⟩ := hQ795
  have S796 : own_Go p e below s₁ G T795 (mkF m 58 #[.val (.int p0), .val (.int p1), .val (.int s1), .val (.int s2), .val (.ref x1), .val (.ref x2), .unset, .unset, .unset] [.null]) := fun tg_ kk_ => S794 tg_ (st795 tg_ kk_)
  have M795 := Fr.app M792 N795
  have S797 : own_Go p e below s₁ G T795 (mkF m 67 #[.val (.int p0), .val (.int p1), .val (.int s1), .val (.int s2), .val (.ref x1), .val (.ref x2), .unset, .unset, .unset] [(.ref x2), (.ref x1)]) := fun tg_ kk_ => S796 tg_ (by
    refine XS.ifnullYes X795.here hx rfl (pc0 := 58) (pc' := 63) rfl (hb hby at_58) rfl (by decide) (by decide) ?_
    show Steps p.tables e below (T795.setTop (mkF m 63 #[.val (.int p0), .val (.int p1), .val (.int s1), .val (.int s2), .val (.ref x1), .val (.ref x2), .unset, .unset, .unset] [])) _
    refine XS.aload X795.here hx rfl (hb hby at_63) rfl rfl ?_
    show Steps p.tables e below (T795.setTop (mkF m 65 #[.val (.int p0), .val (.int p1), .val (.int s1), .val (.int s2), .val (.ref x1), .val (.ref x2), .unset, .unset, .unset] [(.ref x1)])) _
    refine XS.aload X795.here hx rfl (hb hby at_65) rfl rfl ?_
    exact kk_)
  obtain ⟨_, T798, h798, L798, X798, e798, hQ798, st798⟩ := own_callV X795 hx hZ (y := (⟨"com/example/provenans/provenans/model/Notation", "equals", "(Ljava/lang/Object;)Z"⟩ : MethodName)) hown (hw _ (List.mem_of_getElem? (i := 114) rfl)) (hw _ (List.mem_of_getElem? (i := 115) rfl)) (hw _ (List.mem_of_getElem? (i := 117) rfl)) (hw _ (List.mem_of_getElem? (i := 116) rfl)) (hw _ (List.mem_of_getElem? (i := 7) rfl)) (hw _ (List.mem_of_getElem? (i := 118) rfl)) (by decide) 0 (g := (mkF m 67 #[.val (.int p0), .val (.int p1), .val (.int s1), .val (.int s2), .val (.ref x1), .val (.ref x2), .unset, .unset, .unset] [(.ref x2), (.ref x1)])) rfl (by rw [hml]; rfl) x1 NA.1 [(.ref x2)] [] (rm18 l Z a0 hw [] u em x1 d1 y1 s1 x2 d2 y2 s2 h780 n0 f784 NA NN2 hdd f783 SE SU EU FU) (lenOf pd14 rfl) rfl (by show 2 * 0 + _ ≤ _; exact Nat.le_of_eq rfl) (hb hby at_67) (by decide) (by decide) e795 (by decide) (by decide)
  rcases hQ798 with ⟨⟨hk, rfl⟩ | ⟨hk, rfl⟩, N798, K798⟩
  · have _ := e798
    have S799 : own_Go p e below s₁ G T798 (mkF m 70 #[.val (.int p0), .val (.int p1), .val (.int s1), .val (.int s2), .val (.ref x1), .val (.ref x2), .unset, .unset, .unset] [(.int (1 : Int32))]) := fun tg_ kk_ => S797 tg_ (st798 tg_ kk_)
    have f800 := Fr.app M795 N798
    have f801 := f783.keep K798 all0
    have f802 := Nat.le_trans f784 K798.1
    have f803 := Keep.trans f785 K798 all0
    have NB := NA.keep K798
    have NC := NN2.keep K798
    have hcmp := own_cmp_eq hk
    have hlt : ¬ s1 < s2 := by rw [hk]; exact Int32.lt_irrefl
    have hgt : ¬ s2 < s1 := by rw [hk]; exact Int32.lt_irrefl
    have S804 : own_Go p e below s₁ G T798 (mkF m 89 #[.val (.int p0), .val (.int p1), .val (.int s1), .val (.int s2), .val (.ref x1), .val (.ref x2), .unset, .unset, .unset] [(.ref x2), (.ref x1)]) := fun tg_ kk_ => S799 tg_ (by
      refine XS.iloadN X798.here hx rfl (hb hby at_70) rfl ?_
      show Steps p.tables e below (T798.setTop (mkF m 71 #[.val (.int p0), .val (.int p1), .val (.int s1), .val (.int s2), .val (.ref x1), .val (.ref x2), .unset, .unset, .unset] [(.int s1), (.int (1 : Int32))])) _
      refine XS.iloadN X798.here hx rfl (hb hby at_71) rfl ?_
      show Steps p.tables e below (T798.setTop (mkF m 72 #[.val (.int p0), .val (.int p1), .val (.int s1), .val (.int s2), .val (.ref x1), .val (.ref x2), .unset, .unset, .unset] [(.int s2), (.int s1), (.int (1 : Int32))])) _
      refine XS.icmpNo X798.here hx rfl (hb hby at_72) rfl (XT.ii_ne_f hk.symm) ?_
      show Steps p.tables e below (T798.setTop (mkF m 75 #[.val (.int p0), .val (.int p1), .val (.int s1), .val (.int s2), .val (.ref x1), .val (.ref x2), .unset, .unset, .unset] [(.int (1 : Int32))])) _
      refine XS.iconst X798.here hx rfl (hb hby at_75) ?_
      show Steps p.tables e below (T798.setTop (mkF m 76 #[.val (.int p0), .val (.int p1), .val (.int s1), .val (.int s2), .val (.ref x1), .val (.ref x2), .unset, .unset, .unset] [(.int (1 : Int32)), (.int (1 : Int32))])) _
      refine XS.goto X798.here hx rfl (pc0 := 76) (pc' := 80) rfl (hb hby at_76) (by decide) (by decide) ?_
      show Steps p.tables e below (T798.setTop (mkF m 80 #[.val (.int p0), .val (.int p1), .val (.int s1), .val (.int s2), .val (.ref x1), .val (.ref x2), .unset, .unset, .unset] [(.int (1 : Int32)), (.int (1 : Int32))])) _
      refine XS.icmpYes X798.here hx rfl (pc0 := 80) (pc' := 85) rfl (hb hby at_80) rfl (XT.ii_eq_t (by decide)) (by decide) (by decide) ?_
      show Steps p.tables e below (T798.setTop (mkF m 85 #[.val (.int p0), .val (.int p1), .val (.int s1), .val (.int s2), .val (.ref x1), .val (.ref x2), .unset, .unset, .unset] [])) _
      refine XS.aload X798.here hx rfl (hb hby at_85) rfl rfl ?_
      show Steps p.tables e below (T798.setTop (mkF m 87 #[.val (.int p0), .val (.int p1), .val (.int s1), .val (.int s2), .val (.ref x1), .val (.ref x2), .unset, .unset, .unset] [(.ref x1)])) _
      refine XS.aload X798.here hx rfl (hb hby at_87) rfl rfl ?_
      exact kk_)
    obtain ⟨_, T805, h805, L805, X805, e805, hQ805, st805⟩ := own_callV X798 hx hZ (y := (⟨"com/example/provenans/provenans/model/Notation", "compareTo", "(Lcom/example/provenans/provenans/model/Notation;)I"⟩ : MethodName)) hown (hw _ (List.mem_of_getElem? (i := 203) rfl)) (hw _ (List.mem_of_getElem? (i := 204) rfl)) (hw _ (List.mem_of_getElem? (i := 206) rfl)) (hw _ (List.mem_of_getElem? (i := 205) rfl)) (hw _ (List.mem_of_getElem? (i := 7) rfl)) (hw _ (List.mem_of_getElem? (i := 207) rfl)) (by decide) 0 (g := (mkF m 89 #[.val (.int p0), .val (.int p1), .val (.int s1), .val (.int s2), .val (.ref x1), .val (.ref x2), .unset, .unset, .unset] [(.ref x2), (.ref x1)])) rfl (by rw [hml]; rfl) x1 NB.1 [(.ref x2)] [] (rm27 l Z a0 hw [] u em x1 d1 y1 s1 x2 d2 y2 s2 h798 n0 f802 NB NC hdd f801 SE SU EU FU cL kk mm m1 m2 m3) (lenOf pd20 rfl) rfl (by show 2 * 0 + _ ≤ _; exact Nat.le_of_eq rfl) (hb hby at_89) (by decide) (by decide) e798 (by decide) (by decide)
    obtain ⟨rfl, N805, rfl⟩ := hQ805
    have S806 : own_Go p e below s₁ G T805 (mkF m 92 #[.val (.int p0), .val (.int p1), .val (.int s1), .val (.int s2), .val (.ref x1), .val (.ref x2), .unset, .unset, .unset] [(.int (own_cmp s1 s2))]) := fun tg_ kk_ => S804 tg_ (st805 tg_ kk_)
    have M805 := Fr.app f800 N805
    rw [hcmp] at S806
    obtain ⟨K, hsK, hK1, hK2⟩ := own_nat hs1
    obtain ⟨q, hq1, hq2, hq3, hq4, hq5, hq6⟩ := own_dig_n hK1 hK2
    have S807 : own_Go p e below s₁ G T805 (mkF m 146 #[.val (.int p0), .val (.int p1), .val (.int s1), .val (.int s2), .val (.ref x1), .val (.ref x2), .val (.int (0 : Int32)), .unset, .unset] [(.ref x1)]) := fun tg_ kk_ => S806 tg_ (by
      refine XS.istore X805.here hx rfl (hb hby at_92) rfl (l' := #[.val (.int p0), .val (.int p1), .val (.int s1), .val (.int s2), .val (.ref x1), .val (.ref x2), .val (.int (0 : Int32)), .unset, .unset]) rfl ?_
      show Steps p.tables e below (T805.setTop (mkF m 94 #[.val (.int p0), .val (.int p1), .val (.int s1), .val (.int s2), .val (.ref x1), .val (.ref x2), .val (.int (0 : Int32)), .unset, .unset] [])) _
      refine XS.iload X805.here hx rfl (hb hby at_94) rfl ?_
      show Steps p.tables e below (T805.setTop (mkF m 96 #[.val (.int p0), .val (.int p1), .val (.int s1), .val (.int s2), .val (.ref x1), .val (.ref x2), .val (.int (0 : Int32)), .unset, .unset] [(.int (0 : Int32))])) _
      refine XS.ifYes X805.here hx rfl (pc0 := 96) (pc' := 103) rfl (hb hby at_96) rfl (XT.i0_ge_t (by decide)) (by decide) (by decide) ?_
      show Steps p.tables e below (T805.setTop (mkF m 103 #[.val (.int p0), .val (.int p1), .val (.int s1), .val (.int s2), .val (.ref x1), .val (.ref x2), .val (.int (0 : Int32)), .unset, .unset] [])) _
      refine XS.iconst X805.here hx rfl (hb hby at_103) ?_
      show Steps p.tables e below (T805.setTop (mkF m 104 #[.val (.int p0), .val (.int p1), .val (.int s1), .val (.int s2), .val (.ref x1), .val (.ref x2), .val (.int (0 : Int32)), .unset, .unset] [(.int (0 : Int32))])) _
      refine XS.iloadN X805.here hx rfl (hb hby at_104) rfl ?_
      show Steps p.tables e below (T805.setTop (mkF m 105 #[.val (.int p0), .val (.int p1), .val (.int s1), .val (.int s2), .val (.ref x1), .val (.ref x2), .val (.int (0 : Int32)), .unset, .unset] [(.int s1), (.int (0 : Int32))])) _
      refine XS.iloadN X805.here hx rfl (hb hby at_105) rfl ?_
      show Steps p.tables e below (T805.setTop (mkF m 106 #[.val (.int p0), .val (.int p1), .val (.int s1), .val (.int s2), .val (.ref x1), .val (.ref x2), .val (.int (0 : Int32)), .unset, .unset] [(.int s2), (.int s1), (.int (0 : Int32))])) _
      refine XS.icmpYes X805.here hx rfl (pc0 := 106) (pc' := 113) rfl (hb hby at_106) rfl (XT.ii_ge_t hlt) (by decide) (by decide) ?_
      show Steps p.tables e below (T805.setTop (mkF m 113 #[.val (.int p0), .val (.int p1), .val (.int s1), .val (.int s2), .val (.ref x1), .val (.ref x2), .val (.int (0 : Int32)), .unset, .unset] [(.int (0 : Int32))])) _
      refine XS.iconst X805.here hx rfl (hb hby at_113) ?_
      show Steps p.tables e below (T805.setTop (mkF m 114 #[.val (.int p0), .val (.int p1), .val (.int s1), .val (.int s2), .val (.ref x1), .val (.ref x2), .val (.int (0 : Int32)), .unset, .unset] [(.int (0 : Int32)), (.int (0 : Int32))])) _
      refine XS.icmpYes X805.here hx rfl (pc0 := 114) (pc' := 119) rfl (hb hby at_114) rfl (XT.ii_eq_t (by decide)) (by decide) (by decide) ?_
      show Steps p.tables e below (T805.setTop (mkF m 119 #[.val (.int p0), .val (.int p1), .val (.int s1), .val (.int s2), .val (.ref x1), .val (.ref x2), .val (.int (0 : Int32)), .unset, .unset] [])) _
      refine XS.iload X805.here hx rfl (hb hby at_119) rfl ?_
      show Steps p.tables e below (T805.setTop (mkF m 121 #[.val (.int p0), .val (.int p1), .val (.int s1), .val (.int s2), .val (.ref x1), .val (.ref x2), .val (.int (0 : Int32)), .unset, .unset] [(.int (0 : Int32))])) _
      refine XS.ifYes X805.here hx rfl (pc0 := 121) (pc' := 128) rfl (hb hby at_121) rfl (XT.i0_le_t (by decide)) (by decide) (by decide) ?_
      show Steps p.tables e below (T805.setTop (mkF m 128 #[.val (.int p0), .val (.int p1), .val (.int s1), .val (.int s2), .val (.ref x1), .val (.ref x2), .val (.int (0 : Int32)), .unset, .unset] [])) _
      refine XS.iconst X805.here hx rfl (hb hby at_128) ?_
      show Steps p.tables e below (T805.setTop (mkF m 129 #[.val (.int p0), .val (.int p1), .val (.int s1), .val (.int s2), .val (.ref x1), .val (.ref x2), .val (.int (0 : Int32)), .unset, .unset] [(.int (0 : Int32))])) _
      refine XS.iloadN X805.here hx rfl (hb hby at_129) rfl ?_
      show Steps p.tables e below (T805.setTop (mkF m 130 #[.val (.int p0), .val (.int p1), .val (.int s1), .val (.int s2), .val (.ref x1), .val (.ref x2), .val (.int (0 : Int32)), .unset, .unset] [(.int s1), (.int (0 : Int32))])) _
      refine XS.iloadN X805.here hx rfl (hb hby at_130) rfl ?_
      show Steps p.tables e below (T805.setTop (mkF m 131 #[.val (.int p0), .val (.int p1), .val (.int s1), .val (.int s2), .val (.ref x1), .val (.ref x2), .val (.int (0 : Int32)), .unset, .unset] [(.int s2), (.int s1), (.int (0 : Int32))])) _
      refine XS.icmpYes X805.here hx rfl (pc0 := 131) (pc' := 138) rfl (hb hby at_131) rfl (XT.ii_le_t hgt) (by decide) (by decide) ?_
      show Steps p.tables e below (T805.setTop (mkF m 138 #[.val (.int p0), .val (.int p1), .val (.int s1), .val (.int s2), .val (.ref x1), .val (.ref x2), .val (.int (0 : Int32)), .unset, .unset] [(.int (0 : Int32))])) _
      refine XS.iconst X805.here hx rfl (hb hby at_138) ?_
      show Steps p.tables e below (T805.setTop (mkF m 139 #[.val (.int p0), .val (.int p1), .val (.int s1), .val (.int s2), .val (.ref x1), .val (.ref x2), .val (.int (0 : Int32)), .unset, .unset] [(.int (0 : Int32)), (.int (0 : Int32))])) _
      refine XS.icmpYes X805.here hx rfl (pc0 := 139) (pc' := 144) rfl (hb hby at_139) rfl (XT.ii_eq_t (by decide)) (by decide) (by decide) ?_
      show Steps p.tables e below (T805.setTop (mkF m 144 #[.val (.int p0), .val (.int p1), .val (.int s1), .val (.int s2), .val (.ref x1), .val (.ref x2), .val (.int (0 : Int32)), .unset, .unset] [])) _
      refine XS.aload X805.here hx rfl (hb hby at_144) rfl rfl ?_
      exact kk_)
    obtain ⟨_, T808, h808, L808, X808, e808, hQ808, st808⟩ := own_callV X805 hx hZ (y := (⟨"com/example/provenans/provenans/model/Notation", "step", "()Ljava/lang/String;"⟩ : MethodName)) hown (hw _ (List.mem_of_getElem? (i := 217) rfl)) (hw _ (List.mem_of_getElem? (i := 218) rfl)) (hw _ (List.mem_of_getElem? (i := 220) rfl)) (hw _ (List.mem_of_getElem? (i := 219) rfl)) (hw _ (List.mem_of_getElem? (i := 7) rfl)) (hw _ (List.mem_of_getElem? (i := 221) rfl)) (by decide) 0 (g := (mkF m 146 #[.val (.int p0), .val (.int p1), .val (.int s1), .val (.int s2), .val (.ref x1), .val (.ref x2), .val (.int (0 : Int32)), .unset, .unset] [(.ref x1)])) rfl (by rw [hml]; rfl) x1 NB.1 [] [] (rm30 l Z a0 hw [] u em x1 d1 y1 s1 K q h798 n0 f802 NB hsK ⟨hK1, hK2⟩ ⟨hq1, hq2⟩ ⟨hq3, hq4⟩ hq5 f801 z O2 P5 dO dT DO DT SO ST AO AT SzO SzT HO HT SE SU EU FU) (lenOf pd21 rfl) rfl (by show 2 * 0 + _ ≤ _; exact Nat.le_of_eq rfl) (hb hby at_146) (by decide) (by decide) e805 (by decide) (by decide)
    obtain ⟨xs, t, rfl, N808, K808, SS⟩ := hQ808
    have S809 : own_Go p e below s₁ G T808 (mkF m 149 #[.val (.int p0), .val (.int p1), .val (.int s1), .val (.int s2), .val (.ref x1), .val (.ref x2), .val (.int (0 : Int32)), .unset, .unset] [(.ref xs)]) := fun tg_ kk_ => S807 tg_ (st808 tg_ kk_)
    have f810 := Fr.app M805 N808
    have f811 := f801.keep K808 all0
    have f812 := Nat.le_trans f802 K808.1
    have f813 := Keep.trans f803 K808 all0
    have S814 : own_Go p e below s₁ G T808 (mkF m 152 #[.val (.int p0), .val (.int p1), .val (.int s1), .val (.int s2), .val (.ref x1), .val (.ref x2), .val (.int (0 : Int32)), .val (.ref xs), .unset] [(.int s1)]) := fun tg_ kk_ => S809 tg_ (by
      refine XS.astore X808.here hx rfl (hb hby at_149) rfl rfl (l' := #[.val (.int p0), .val (.int p1), .val (.int s1), .val (.int s2), .val (.ref x1), .val (.ref x2), .val (.int (0 : Int32)), .val (.ref xs), .unset]) rfl ?_
      show Steps p.tables e below (T808.setTop (mkF m 151 #[.val (.int p0), .val (.int p1), .val (.int s1), .val (.int s2), .val (.ref x1), .val (.ref x2), .val (.int (0 : Int32)), .val (.ref xs), .unset] [])) _
      refine XS.iloadN X808.here hx rfl (hb hby at_151) rfl ?_
      exact kk_)
    obtain ⟨_, T815, h815, L815, X815, e815, hQ815, st815⟩ := own_callS X808 hx hZ (y := (⟨"com/example/provenans/provenans/model/NotationOfPinLaw", "digits", "(I)I"⟩ : MethodName)) hown (hw _ (List.mem_of_getElem? (i := 255) rfl)) (hw _ (List.mem_of_getElem? (i := 256) rfl)) (hw _ (List.mem_of_getElem? (i := 257) rfl)) (hw _ (List.mem_of_getElem? (i := 258) rfl)) (by decide) 0 (g := (mkF m 152 #[.val (.int p0), .val (.int p1), .val (.int s1), .val (.int s2), .val (.ref x1), .val (.ref x2), .val (.int (0 : Int32)), .val (.ref xs), .unset] [(.int s1)])) rfl (by rw [hml]; rfl) [(.int s1)] [] (rm37 l Z a0 hw [] s1 h808 n0 f812) (lenOf pd4 rfl) rfl (by show 2 * 0 + _ ≤ _; exact Nat.le_of_eq rfl) (hb hby at_152) (by decide) (by decide) e808 (by decide) (by decide)
    obtain ⟨rfl, N815, rfl⟩ := hQ815
    have S816 : own_Go p e below s₁ G T815 (mkF m 155 #[.val (.int p0), .val (.int p1), .val (.int s1), .val (.int s2), .val (.ref x1), .val (.ref x2), .val (.int (0 : Int32)), .val (.ref xs), .unset] [(.int (own_dig2 s1))]) := fun tg_ kk_ => S814 tg_ (st815 tg_ kk_)
    have M815 := Fr.app f810 N815
    have hdq : own_dig2 s1 = Int32.ofNat q := by rw [hsK]; exact hq6
    rw [hdq] at S816
    have hcl := own_cs_len K q
    have hcb := own_48lat K q
    have S817 : own_Go p e below s₁ G T815 (mkF m 159 #[.val (.int p0), .val (.int p1), .val (.int s1), .val (.int s2), .val (.ref x1), .val (.ref x2), .val (.int (0 : Int32)), .val (.ref xs), .val (.int (Int32.ofNat q))] [(.ref xs)]) := fun tg_ kk_ => S816 tg_ (by
      refine XS.istore X815.here hx rfl (hb hby at_155) rfl (l' := #[.val (.int p0), .val (.int p1), .val (.int s1), .val (.int s2), .val (.ref x1), .val (.ref x2), .val (.int (0 : Int32)), .val (.ref xs), .val (.int (Int32.ofNat q))]) rfl ?_
      show Steps p.tables e below (T815.setTop (mkF m 157 #[.val (.int p0), .val (.int p1), .val (.int s1), .val (.int s2), .val (.ref x1), .val (.ref x2), .val (.int (0 : Int32)), .val (.ref xs), .val (.int (Int32.ofNat q))] [])) _
      refine XS.aload X815.here hx rfl (hb hby at_157) rfl rfl ?_
      exact kk_)
    obtain ⟨_, T818, h818, L818, X818, e818, hQ818, st818⟩ := own_callV X815 hx hZ (y := (⟨"java/lang/String", "length", "()I"⟩ : MethodName)) hown (hw _ (List.mem_of_getElem? (i := 259) rfl)) (hw _ (List.mem_of_getElem? (i := 260) rfl)) (hw _ (List.mem_of_getElem? (i := 262) rfl)) (hw _ (List.mem_of_getElem? (i := 261) rfl)) (hw _ (List.mem_of_getElem? (i := 224) rfl)) (hw _ (List.mem_of_getElem? (i := 263) rfl)) (by decide) 0 (g := (mkF m 159 #[.val (.int p0), .val (.int p1), .val (.int s1), .val (.int s2), .val (.ref x1), .val (.ref x2), .val (.int (0 : Int32)), .val (.ref xs), .val (.int (Int32.ofNat q))] [(.ref xs)])) rfl (by rw [hml]; rfl) xs SS.1 [] [] (rm38 l Z a0 hw [] xs t (own_cs K q) h808 n0 f812 z f811 O2 P5 SS (by omega)) (lenOf pd12 rfl) rfl (by show 2 * 0 + _ ≤ _; exact Nat.le_of_eq rfl) (hb hby at_159) (by decide) (by decide) e815 (by decide) (by decide)
    obtain ⟨rfl, N818, rfl⟩ := hQ818
    have S819 : own_Go p e below s₁ G T818 (mkF m 162 #[.val (.int p0), .val (.int p1), .val (.int s1), .val (.int s2), .val (.ref x1), .val (.ref x2), .val (.int (0 : Int32)), .val (.ref xs), .val (.int (Int32.ofNat q))] [(.int (Int32.ofNat (own_cs K q).length))]) := fun tg_ kk_ => S817 tg_ (st818 tg_ kk_)
    have M818 := Fr.app M815 N818
    rw [hcl] at S819
    have S820 : own_Go p e below s₁ G T818 (mkF m 175 #[.val (.int p0), .val (.int p1), .val (.int s1), .val (.int s2), .val (.ref x1), .val (.ref x2), .val (.int (0 : Int32)), .val (.ref xs), .val (.int (Int32.ofNat q))] [(.int ((Int32.ofNat q) - (1 : Int32))), (.ref xs)]) := fun tg_ kk_ => S819 tg_ (by
      refine XS.iload X818.here hx rfl (hb hby at_162) rfl ?_
      show Steps p.tables e below (T818.setTop (mkF m 164 #[.val (.int p0), .val (.int p1), .val (.int s1), .val (.int s2), .val (.ref x1), .val (.ref x2), .val (.int (0 : Int32)), .val (.ref xs), .val (.int (Int32.ofNat q))] [(.int (Int32.ofNat q)), (.int (Int32.ofNat q))])) _
      refine XS.icmpYes X818.here hx rfl (pc0 := 164) (pc' := 169) rfl (hb hby at_164) rfl (XT.ii_eq_t rfl) (by decide) (by decide) ?_
      show Steps p.tables e below (T818.setTop (mkF m 169 #[.val (.int p0), .val (.int p1), .val (.int s1), .val (.int s2), .val (.ref x1), .val (.ref x2), .val (.int (0 : Int32)), .val (.ref xs), .val (.int (Int32.ofNat q))] [])) _
      refine XS.aload X818.here hx rfl (hb hby at_169) rfl rfl ?_
      show Steps p.tables e below (T818.setTop (mkF m 171 #[.val (.int p0), .val (.int p1), .val (.int s1), .val (.int s2), .val (.ref x1), .val (.ref x2), .val (.int (0 : Int32)), .val (.ref xs), .val (.int (Int32.ofNat q))] [(.ref xs)])) _
      refine XS.iload X818.here hx rfl (hb hby at_171) rfl ?_
      show Steps p.tables e below (T818.setTop (mkF m 173 #[.val (.int p0), .val (.int p1), .val (.int s1), .val (.int s2), .val (.ref x1), .val (.ref x2), .val (.int (0 : Int32)), .val (.ref xs), .val (.int (Int32.ofNat q))] [(.int (Int32.ofNat q)), (.ref xs)])) _
      refine XS.iconst X818.here hx rfl (hb hby at_173) ?_
      show Steps p.tables e below (T818.setTop (mkF m 174 #[.val (.int p0), .val (.int p1), .val (.int s1), .val (.int s2), .val (.ref x1), .val (.ref x2), .val (.int (0 : Int32)), .val (.ref xs), .val (.int (Int32.ofNat q))] [(.int (1 : Int32)), (.int (Int32.ofNat q)), (.ref xs)])) _
      refine XS.isub X818.here hx rfl (hb hby at_174) rfl ?_
      exact kk_)
    rw [own_pred hq1 (by omega)] at S820
    obtain ⟨_, T821, h821, L821, X821, e821, hQ821, st821⟩ := own_callV X818 hx hZ (y := (⟨"java/lang/String", "charAt", "(I)C"⟩ : MethodName)) hown (hw _ (List.mem_of_getElem? (i := 270) rfl)) (hw _ (List.mem_of_getElem? (i := 271) rfl)) (hw _ (List.mem_of_getElem? (i := 273) rfl)) (hw _ (List.mem_of_getElem? (i := 272) rfl)) (hw _ (List.mem_of_getElem? (i := 224) rfl)) (hw _ (List.mem_of_getElem? (i := 274) rfl)) (by decide) 0 (g := (mkF m 175 #[.val (.int p0), .val (.int p1), .val (.int s1), .val (.int s2), .val (.ref x1), .val (.ref x2), .val (.int (0 : Int32)), .val (.ref xs), .val (.int (Int32.ofNat q))] [(.int (Int32.ofNat (q - 1))), (.ref xs)])) rfl (by rw [hml]; rfl) xs SS.1 [(.int (Int32.ofNat (q - 1)))] [] (rm40 l Z a0 hw [] xs t (q - 1) (own_cs K q) h808 n0 f812 z f811 O2 P5 SS (by omega) (by omega) hcb fm hfm SF) (lenOf pd27 rfl) rfl (by show 2 * 0 + _ ≤ _; exact Nat.le_of_eq rfl) (hb hby at_175) (by decide) (by decide) e818 (by decide) (by decide)
    obtain ⟨rfl, N821, rfl⟩ := hQ821
    have S822 : own_Go p e below s₁ G T821 (mkF m 178 #[.val (.int p0), .val (.int p1), .val (.int s1), .val (.int s2), .val (.ref x1), .val (.ref x2), .val (.int (0 : Int32)), .val (.ref xs), .val (.int (Int32.ofNat q))] [(.int ((own_cs K q).getD (q - 1) 0))]) := fun tg_ kk_ => S820 tg_ (st821 tg_ kk_)
    have M821 := Fr.app M818 N821
    have S823 : own_Go p e below s₁ G T821 (mkF m 186 #[.val (.int p0), .val (.int p1), .val (.int s1), .val (.int s2), .val (.ref x1), .val (.ref x2), .val (.int (0 : Int32)), .val (.ref xs), .val (.int (Int32.ofNat q))] [(.int (((48 : Int32) + (s1 - (s1 / (10 : Int32)) * (10 : Int32))).toUInt32.toUInt16.toUInt32.toInt32)), (.int ((own_cs K q).getD (q - 1) 0))]) := fun tg_ kk_ => S822 tg_ (by
      refine XS.bipush X821.here hx rfl (hb hby at_178) ?_
      show Steps p.tables e below (T821.setTop (mkF m 180 #[.val (.int p0), .val (.int p1), .val (.int s1), .val (.int s2), .val (.ref x1), .val (.ref x2), .val (.int (0 : Int32)), .val (.ref xs), .val (.int (Int32.ofNat q))] [(.int (48 : Int32)), (.int ((own_cs K q).getD (q - 1) 0))])) _
      refine XS.iloadN X821.here hx rfl (hb hby at_180) rfl ?_
      show Steps p.tables e below (T821.setTop (mkF m 181 #[.val (.int p0), .val (.int p1), .val (.int s1), .val (.int s2), .val (.ref x1), .val (.ref x2), .val (.int (0 : Int32)), .val (.ref xs), .val (.int (Int32.ofNat q))] [(.int s1), (.int (48 : Int32)), (.int ((own_cs K q).getD (q - 1) 0))])) _
      refine XS.bipush X821.here hx rfl (hb hby at_181) ?_
      show Steps p.tables e below (T821.setTop (mkF m 183 #[.val (.int p0), .val (.int p1), .val (.int s1), .val (.int s2), .val (.ref x1), .val (.ref x2), .val (.int (0 : Int32)), .val (.ref xs), .val (.int (Int32.ofNat q))] [(.int (10 : Int32)), (.int s1), (.int (48 : Int32)), (.int ((own_cs K q).getD (q - 1) 0))])) _
      refine XS.irem X821.here hx rfl (hb hby at_183) rfl (by decide) ?_
      show Steps p.tables e below (T821.setTop (mkF m 184 #[.val (.int p0), .val (.int p1), .val (.int s1), .val (.int s2), .val (.ref x1), .val (.ref x2), .val (.int (0 : Int32)), .val (.ref xs), .val (.int (Int32.ofNat q))] [(.int (s1 - (s1 / (10 : Int32)) * (10 : Int32))), (.int (48 : Int32)), (.int ((own_cs K q).getD (q - 1) 0))])) _
      refine XS.iadd X821.here hx rfl (hb hby at_184) rfl ?_
      show Steps p.tables e below (T821.setTop (mkF m 185 #[.val (.int p0), .val (.int p1), .val (.int s1), .val (.int s2), .val (.ref x1), .val (.ref x2), .val (.int (0 : Int32)), .val (.ref xs), .val (.int (Int32.ofNat q))] [(.int ((48 : Int32) + (s1 - (s1 / (10 : Int32)) * (10 : Int32)))), (.int ((own_cs K q).getD (q - 1) 0))])) _
      refine XT.i2c X821.here hx rfl (hb hby at_185) rfl ?_
      exact kk_)
    have hl : ((own_cs K q).getD (q - 1) 0) = (((48 : Int32) + (s1 - (s1 / (10 : Int32)) * (10 : Int32))).toUInt32.toUInt16.toUInt32.toInt32) := by
      rw [own_cs_at (by omega), hsK]; exact (own_last hK2 hq1).symm
    have S824 : own_Go p e below s₁ G T821 (mkF m 194 #[.val (.int p0), .val (.int p1), .val (.int s1), .val (.int s2), .val (.ref x1), .val (.ref x2), .val (.int (0 : Int32)), .val (.ref xs), .val (.int (Int32.ofNat q))] [(.int (0 : Int32)), (.ref xs)]) := fun tg_ kk_ => S823 tg_ (by
      refine XS.icmpYes X821.here hx rfl (pc0 := 186) (pc' := 191) rfl (hb hby at_186) rfl (XT.ii_eq_t hl) (by decide) (by decide) ?_
      show Steps p.tables e below (T821.setTop (mkF m 191 #[.val (.int p0), .val (.int p1), .val (.int s1), .val (.int s2), .val (.ref x1), .val (.ref x2), .val (.int (0 : Int32)), .val (.ref xs), .val (.int (Int32.ofNat q))] [])) _
      refine XS.aload X821.here hx rfl (hb hby at_191) rfl rfl ?_
      show Steps p.tables e below (T821.setTop (mkF m 193 #[.val (.int p0), .val (.int p1), .val (.int s1), .val (.int s2), .val (.ref x1), .val (.ref x2), .val (.int (0 : Int32)), .val (.ref xs), .val (.int (Int32.ofNat q))] [(.ref xs)])) _
      refine XS.iconst X821.here hx rfl (hb hby at_193) ?_
      exact kk_)
    obtain ⟨_, T825, h825, L825, X825, e825, hQ825, st825⟩ := own_callV X821 hx hZ (y := (⟨"java/lang/String", "charAt", "(I)C"⟩ : MethodName)) hown (hw _ (List.mem_of_getElem? (i := 270) rfl)) (hw _ (List.mem_of_getElem? (i := 271) rfl)) (hw _ (List.mem_of_getElem? (i := 273) rfl)) (hw _ (List.mem_of_getElem? (i := 272) rfl)) (hw _ (List.mem_of_getElem? (i := 224) rfl)) (hw _ (List.mem_of_getElem? (i := 274) rfl)) (by decide) 0 (g := (mkF m 194 #[.val (.int p0), .val (.int p1), .val (.int s1), .val (.int s2), .val (.ref x1), .val (.ref x2), .val (.int (0 : Int32)), .val (.ref xs), .val (.int (Int32.ofNat q))] [(.int (0 : Int32)), (.ref xs)])) rfl (by rw [hml]; rfl) xs SS.1 [(.int (0 : Int32))] [] (rm40 l Z a0 hw [] xs t 0 (own_cs K q) h808 n0 f812 z f811 O2 P5 SS (by omega) (by omega) hcb fm hfm SF) (lenOf pd27 rfl) rfl (by show 2 * 0 + _ ≤ _; exact Nat.le_of_eq rfl) (hb hby at_194) (by decide) (by decide) e821 (by decide) (by decide)
    obtain ⟨rfl, N825, rfl⟩ := hQ825
    have S826 : own_Go p e below s₁ G T825 (mkF m 197 #[.val (.int p0), .val (.int p1), .val (.int s1), .val (.int s2), .val (.ref x1), .val (.ref x2), .val (.int (0 : Int32)), .val (.ref xs), .val (.int (Int32.ofNat q))] [(.int ((own_cs K q).getD 0 0))]) := fun tg_ kk_ => S824 tg_ (st825 tg_ kk_)
    have M825 := Fr.app M821 N825
    have S827 : own_Go p e below s₁ G T825 (mkF m 202 #[.val (.int p0), .val (.int p1), .val (.int s1), .val (.int s2), .val (.ref x1), .val (.ref x2), .val (.int (0 : Int32)), .val (.ref xs), .val (.int (Int32.ofNat q))] [(.int (Int32.ofNat q)), (.int s1), (.int (48 : Int32)), (.int ((own_cs K q).getD 0 0))]) := fun tg_ kk_ => S826 tg_ (by
      refine XS.bipush X825.here hx rfl (hb hby at_197) ?_
      show Steps p.tables e below (T825.setTop (mkF m 199 #[.val (.int p0), .val (.int p1), .val (.int s1), .val (.int s2), .val (.ref x1), .val (.ref x2), .val (.int (0 : Int32)), .val (.ref xs), .val (.int (Int32.ofNat q))] [(.int (48 : Int32)), (.int ((own_cs K q).getD 0 0))])) _
      refine XS.iloadN X825.here hx rfl (hb hby at_199) rfl ?_
      show Steps p.tables e below (T825.setTop (mkF m 200 #[.val (.int p0), .val (.int p1), .val (.int s1), .val (.int s2), .val (.ref x1), .val (.ref x2), .val (.int (0 : Int32)), .val (.ref xs), .val (.int (Int32.ofNat q))] [(.int s1), (.int (48 : Int32)), (.int ((own_cs K q).getD 0 0))])) _
      refine XS.iload X825.here hx rfl (hb hby at_200) rfl ?_
      exact kk_)
    obtain ⟨_, T828, h828, L828, X828, e828, hQ828, st828⟩ := own_callS X825 hx hZ (y := (⟨"com/example/provenans/provenans/model/NotationOfPinLaw", "pow10", "(I)I"⟩ : MethodName)) hown (hw _ (List.mem_of_getElem? (i := 292) rfl)) (hw _ (List.mem_of_getElem? (i := 293) rfl)) (hw _ (List.mem_of_getElem? (i := 257) rfl)) (hw _ (List.mem_of_getElem? (i := 294) rfl)) (by decide) 3 (g := (mkF m 202 #[.val (.int p0), .val (.int p1), .val (.int s1), .val (.int s2), .val (.ref x1), .val (.ref x2), .val (.int (0 : Int32)), .val (.ref xs), .val (.int (Int32.ofNat q))] [(.int (Int32.ofNat q)), (.int s1), (.int (48 : Int32)), (.int ((own_cs K q).getD 0 0))])) rfl (by rw [hml]; rfl) [(.int (Int32.ofNat q))] [(.int s1), (.int (48 : Int32)), (.int ((own_cs K q).getD 0 0))] (rm45 l Z a0 hw [] q h808 n0 f812 ⟨hq1, hq2⟩) (lenOf pd4 rfl) rfl (by show 2 * 0 + _ ≤ _; exact Nat.le_of_eq rfl) (hb hby at_202) (by decide) (by decide) e825 (by decide) (by decide)
    obtain ⟨rfl, N828, rfl⟩ := hQ828
    have S829 : own_Go p e below s₁ G T828 (mkF m 205 #[.val (.int p0), .val (.int p1), .val (.int s1), .val (.int s2), .val (.ref x1), .val (.ref x2), .val (.int (0 : Int32)), .val (.ref xs), .val (.int (Int32.ofNat q))] [(.int (Int32.ofNat (10 ^ (q - 1)))), (.int s1), (.int (48 : Int32)), (.int ((own_cs K q).getD 0 0))]) := fun tg_ kk_ => S827 tg_ (st828 tg_ kk_)
    have M828 := Fr.app M825 N828
    have S830 : own_Go p e below s₁ G T828 (mkF m 208 #[.val (.int p0), .val (.int p1), .val (.int s1), .val (.int s2), .val (.ref x1), .val (.ref x2), .val (.int (0 : Int32)), .val (.ref xs), .val (.int (Int32.ofNat q))] [(.int (((48 : Int32) + (s1 / (Int32.ofNat (10 ^ (q - 1))))).toUInt32.toUInt16.toUInt32.toInt32)), (.int ((own_cs K q).getD 0 0))]) := fun tg_ kk_ => S829 tg_ (by
      refine XS.idiv X828.here hx rfl (hb hby at_205) rfl (own_p10ne hq1 hq2) ?_
      show Steps p.tables e below (T828.setTop (mkF m 206 #[.val (.int p0), .val (.int p1), .val (.int s1), .val (.int s2), .val (.ref x1), .val (.ref x2), .val (.int (0 : Int32)), .val (.ref xs), .val (.int (Int32.ofNat q))] [(.int (s1 / (Int32.ofNat (10 ^ (q - 1))))), (.int (48 : Int32)), (.int ((own_cs K q).getD 0 0))])) _
      refine XS.iadd X828.here hx rfl (hb hby at_206) rfl ?_
      show Steps p.tables e below (T828.setTop (mkF m 207 #[.val (.int p0), .val (.int p1), .val (.int s1), .val (.int s2), .val (.ref x1), .val (.ref x2), .val (.int (0 : Int32)), .val (.ref xs), .val (.int (Int32.ofNat q))] [(.int ((48 : Int32) + (s1 / (Int32.ofNat (10 ^ (q - 1)))))), (.int ((own_cs K q).getD 0 0))])) _
      refine XT.i2c X828.here hx rfl (hb hby at_207) rfl ?_
      exact kk_)
    have hf : ((own_cs K q).getD 0 0) = (((48 : Int32) + (s1 / (Int32.ofNat (10 ^ (q - 1))))).toUInt32.toUInt16.toUInt32.toInt32) := by
      rw [own_cs_at (by omega), hsK]; exact (own_first hK2 hq1 hq2 hq3 hq4).symm
    have S831 : own_Go p e below s₁ G T828 (mkF m 214 #[.val (.int p0), .val (.int p1), .val (.int s1), .val (.int s2), .val (.ref x1), .val (.ref x2), .val (.int (0 : Int32)), .val (.ref xs), .val (.int (Int32.ofNat q))] [(.int (1 : Int32))]) := fun tg_ kk_ => S830 tg_ (by
      refine XS.icmpYes X828.here hx rfl (pc0 := 208) (pc' := 213) rfl (hb hby at_208) rfl (XT.ii_eq_t hf) (by decide) (by decide) ?_
      show Steps p.tables e below (T828.setTop (mkF m 213 #[.val (.int p0), .val (.int p1), .val (.int s1), .val (.int s2), .val (.ref x1), .val (.ref x2), .val (.int (0 : Int32)), .val (.ref xs), .val (.int (Int32.ofNat q))] [])) _
      refine XS.iconst X828.here hx rfl (hb hby at_213) ?_
      exact kk_)
    obtain ⟨fs, hr, hrun, hended, hW, hsame⟩ := X828.leave (v := some (.int (1 : Int32))) (fun h => by rw [Bd.returns] at h; cases h)
    refine ⟨_, _, ?_, hrun, hended, _, _, rfl, ?_, ⟨_, rfl⟩, hW, hsame.mono (by decide) (by decide)⟩
    · rw [← hG]; exact S831 _ (retN X828 hx (t := .boolean) Bd.returns (by simp) (hb hby at_214) hr)
    · show Q0 Z p0 p1 h0 n0 _ T828.heap _
      rw [e828]
      exact ⟨rfl, M828⟩
  · have _ := e798
    have S832 : own_Go p e below s₁ G T798 (mkF m 70 #[.val (.int p0), .val (.int p1), .val (.int s1), .val (.int s2), .val (.ref x1), .val (.ref x2), .unset, .unset, .unset] [(.int (0 : Int32))]) := fun tg_ kk_ => S797 tg_ (st798 tg_ kk_)
    have f833 := Fr.app M795 N798
    have f834 := f783.keep K798 all0
    have f835 := Nat.le_trans f784 K798.1
    have f836 := Keep.trans f785 K798 all0
    have NB := NA.keep K798
    have NC := NN2.keep K798
    have S837 : own_Go p e below s₁ G T798 (mkF m 89 #[.val (.int p0), .val (.int p1), .val (.int s1), .val (.int s2), .val (.ref x1), .val (.ref x2), .unset, .unset, .unset] [(.ref x2), (.ref x1)]) := fun tg_ kk_ => S832 tg_ (by
      refine XS.iloadN X798.here hx rfl (hb hby at_70) rfl ?_
      show Steps p.tables e below (T798.setTop (mkF m 71 #[.val (.int p0), .val (.int p1), .val (.int s1), .val (.int s2), .val (.ref x1), .val (.ref x2), .unset, .unset, .unset] [(.int s1), (.int (0 : Int32))])) _
      refine XS.iloadN X798.here hx rfl (hb hby at_71) rfl ?_
      show Steps p.tables e below (T798.setTop (mkF m 72 #[.val (.int p0), .val (.int p1), .val (.int s1), .val (.int s2), .val (.ref x1), .val (.ref x2), .unset, .unset, .unset] [(.int s2), (.int s1), (.int (0 : Int32))])) _
      refine XS.icmpYes X798.here hx rfl (pc0 := 72) (pc' := 79) rfl (hb hby at_72) rfl (XT.ii_ne_t (fun q => hk q.symm)) (by decide) (by decide) ?_
      show Steps p.tables e below (T798.setTop (mkF m 79 #[.val (.int p0), .val (.int p1), .val (.int s1), .val (.int s2), .val (.ref x1), .val (.ref x2), .unset, .unset, .unset] [(.int (0 : Int32))])) _
      refine XS.iconst X798.here hx rfl (hb hby at_79) ?_
      show Steps p.tables e below (T798.setTop (mkF m 80 #[.val (.int p0), .val (.int p1), .val (.int s1), .val (.int s2), .val (.ref x1), .val (.ref x2), .unset, .unset, .unset] [(.int (0 : Int32)), (.int (0 : Int32))])) _
      refine XS.icmpYes X798.here hx rfl (pc0 := 80) (pc' := 85) rfl (hb hby at_80) rfl (XT.ii_eq_t (by decide)) (by decide) (by decide) ?_
      show Steps p.tables e below (T798.setTop (mkF m 85 #[.val (.int p0), .val (.int p1), .val (.int s1), .val (.int s2), .val (.ref x1), .val (.ref x2), .unset, .unset, .unset] [])) _
      refine XS.aload X798.here hx rfl (hb hby at_85) rfl rfl ?_
      show Steps p.tables e below (T798.setTop (mkF m 87 #[.val (.int p0), .val (.int p1), .val (.int s1), .val (.int s2), .val (.ref x1), .val (.ref x2), .unset, .unset, .unset] [(.ref x1)])) _
      refine XS.aload X798.here hx rfl (hb hby at_87) rfl rfl ?_
      exact kk_)
    by_cases hlt : s1 < s2
    · have hcmp := own_cmp_lt hlt
      have hgt := own_lt_asymm hlt
      obtain ⟨_, T838, h838, L838, X838, e838, hQ838, st838⟩ := own_callV X798 hx hZ (y := (⟨"com/example/provenans/provenans/model/Notation", "compareTo", "(Lcom/example/provenans/provenans/model/Notation;)I"⟩ : MethodName)) hown (hw _ (List.mem_of_getElem? (i := 203) rfl)) (hw _ (List.mem_of_getElem? (i := 204) rfl)) (hw _ (List.mem_of_getElem? (i := 206) rfl)) (hw _ (List.mem_of_getElem? (i := 205) rfl)) (hw _ (List.mem_of_getElem? (i := 7) rfl)) (hw _ (List.mem_of_getElem? (i := 207) rfl)) (by decide) 0 (g := (mkF m 89 #[.val (.int p0), .val (.int p1), .val (.int s1), .val (.int s2), .val (.ref x1), .val (.ref x2), .unset, .unset, .unset] [(.ref x2), (.ref x1)])) rfl (by rw [hml]; rfl) x1 NB.1 [(.ref x2)] [] (rm27 l Z a0 hw [] u em x1 d1 y1 s1 x2 d2 y2 s2 h798 n0 f835 NB NC hdd f834 SE SU EU FU cL kk mm m1 m2 m3) (lenOf pd20 rfl) rfl (by show 2 * 0 + _ ≤ _; exact Nat.le_of_eq rfl) (hb hby at_89) (by decide) (by decide) e798 (by decide) (by decide)
      obtain ⟨rfl, N838, rfl⟩ := hQ838
      have S839 : own_Go p e below s₁ G T838 (mkF m 92 #[.val (.int p0), .val (.int p1), .val (.int s1), .val (.int s2), .val (.ref x1), .val (.ref x2), .unset, .unset, .unset] [(.int (own_cmp s1 s2))]) := fun tg_ kk_ => S837 tg_ (st838 tg_ kk_)
      have M838 := Fr.app f833 N838
      rw [hcmp] at S839
      obtain ⟨K, hsK, hK1, hK2⟩ := own_nat hs1
      obtain ⟨q, hq1, hq2, hq3, hq4, hq5, hq6⟩ := own_dig_n hK1 hK2
      have S840 : own_Go p e below s₁ G T838 (mkF m 146 #[.val (.int p0), .val (.int p1), .val (.int s1), .val (.int s2), .val (.ref x1), .val (.ref x2), .val (.int (-1 : Int32)), .unset, .unset] [(.ref x1)]) := fun tg_ kk_ => S839 tg_ (by
        refine XS.istore X838.here hx rfl (hb hby at_92) rfl (l' := #[.val (.int p0), .val (.int p1), .val (.int s1), .val (.int s2), .val (.ref x1), .val (.ref x2), .val (.int (-1 : Int32)), .unset, .unset]) rfl ?_
        show Steps p.tables e below (T838.setTop (mkF m 94 #[.val (.int p0), .val (.int p1), .val (.int s1), .val (.int s2), .val (.ref x1), .val (.ref x2), .val (.int (-1 : Int32)), .unset, .unset] [])) _
        refine XS.iload X838.here hx rfl (hb hby at_94) rfl ?_
        show Steps p.tables e below (T838.setTop (mkF m 96 #[.val (.int p0), .val (.int p1), .val (.int s1), .val (.int s2), .val (.ref x1), .val (.ref x2), .val (.int (-1 : Int32)), .unset, .unset] [(.int (-1 : Int32))])) _
        refine XS.ifNo X838.here hx rfl (hb hby at_96) rfl (XT.i0_ge_f (by decide)) ?_
        show Steps p.tables e below (T838.setTop (mkF m 99 #[.val (.int p0), .val (.int p1), .val (.int s1), .val (.int s2), .val (.ref x1), .val (.ref x2), .val (.int (-1 : Int32)), .unset, .unset] [])) _
        refine XS.iconst X838.here hx rfl (hb hby at_99) ?_
        show Steps p.tables e below (T838.setTop (mkF m 100 #[.val (.int p0), .val (.int p1), .val (.int s1), .val (.int s2), .val (.ref x1), .val (.ref x2), .val (.int (-1 : Int32)), .unset, .unset] [(.int (1 : Int32))])) _
        refine XS.goto X838.here hx rfl (pc0 := 100) (pc' := 104) rfl (hb hby at_100) (by decide) (by decide) ?_
        show Steps p.tables e below (T838.setTop (mkF m 104 #[.val (.int p0), .val (.int p1), .val (.int s1), .val (.int s2), .val (.ref x1), .val (.ref x2), .val (.int (-1 : Int32)), .unset, .unset] [(.int (1 : Int32))])) _
        refine XS.iloadN X838.here hx rfl (hb hby at_104) rfl ?_
        show Steps p.tables e below (T838.setTop (mkF m 105 #[.val (.int p0), .val (.int p1), .val (.int s1), .val (.int s2), .val (.ref x1), .val (.ref x2), .val (.int (-1 : Int32)), .unset, .unset] [(.int s1), (.int (1 : Int32))])) _
        refine XS.iloadN X838.here hx rfl (hb hby at_105) rfl ?_
        show Steps p.tables e below (T838.setTop (mkF m 106 #[.val (.int p0), .val (.int p1), .val (.int s1), .val (.int s2), .val (.ref x1), .val (.ref x2), .val (.int (-1 : Int32)), .unset, .unset] [(.int s2), (.int s1), (.int (1 : Int32))])) _
        refine XS.icmpNo X838.here hx rfl (hb hby at_106) rfl (XT.ii_ge_f hlt) ?_
        show Steps p.tables e below (T838.setTop (mkF m 109 #[.val (.int p0), .val (.int p1), .val (.int s1), .val (.int s2), .val (.ref x1), .val (.ref x2), .val (.int (-1 : Int32)), .unset, .unset] [(.int (1 : Int32))])) _
        refine XS.iconst X838.here hx rfl (hb hby at_109) ?_
        show Steps p.tables e below (T838.setTop (mkF m 110 #[.val (.int p0), .val (.int p1), .val (.int s1), .val (.int s2), .val (.ref x1), .val (.ref x2), .val (.int (-1 : Int32)), .unset, .unset] [(.int (1 : Int32)), (.int (1 : Int32))])) _
        refine XS.goto X838.here hx rfl (pc0 := 110) (pc' := 114) rfl (hb hby at_110) (by decide) (by decide) ?_
        show Steps p.tables e below (T838.setTop (mkF m 114 #[.val (.int p0), .val (.int p1), .val (.int s1), .val (.int s2), .val (.ref x1), .val (.ref x2), .val (.int (-1 : Int32)), .unset, .unset] [(.int (1 : Int32)), (.int (1 : Int32))])) _
        refine XS.icmpYes X838.here hx rfl (pc0 := 114) (pc' := 119) rfl (hb hby at_114) rfl (XT.ii_eq_t (by decide)) (by decide) (by decide) ?_
        show Steps p.tables e below (T838.setTop (mkF m 119 #[.val (.int p0), .val (.int p1), .val (.int s1), .val (.int s2), .val (.ref x1), .val (.ref x2), .val (.int (-1 : Int32)), .unset, .unset] [])) _
        refine XS.iload X838.here hx rfl (hb hby at_119) rfl ?_
        show Steps p.tables e below (T838.setTop (mkF m 121 #[.val (.int p0), .val (.int p1), .val (.int s1), .val (.int s2), .val (.ref x1), .val (.ref x2), .val (.int (-1 : Int32)), .unset, .unset] [(.int (-1 : Int32))])) _
        refine XS.ifYes X838.here hx rfl (pc0 := 121) (pc' := 128) rfl (hb hby at_121) rfl (XT.i0_le_t (by decide)) (by decide) (by decide) ?_
        show Steps p.tables e below (T838.setTop (mkF m 128 #[.val (.int p0), .val (.int p1), .val (.int s1), .val (.int s2), .val (.ref x1), .val (.ref x2), .val (.int (-1 : Int32)), .unset, .unset] [])) _
        refine XS.iconst X838.here hx rfl (hb hby at_128) ?_
        show Steps p.tables e below (T838.setTop (mkF m 129 #[.val (.int p0), .val (.int p1), .val (.int s1), .val (.int s2), .val (.ref x1), .val (.ref x2), .val (.int (-1 : Int32)), .unset, .unset] [(.int (0 : Int32))])) _
        refine XS.iloadN X838.here hx rfl (hb hby at_129) rfl ?_
        show Steps p.tables e below (T838.setTop (mkF m 130 #[.val (.int p0), .val (.int p1), .val (.int s1), .val (.int s2), .val (.ref x1), .val (.ref x2), .val (.int (-1 : Int32)), .unset, .unset] [(.int s1), (.int (0 : Int32))])) _
        refine XS.iloadN X838.here hx rfl (hb hby at_130) rfl ?_
        show Steps p.tables e below (T838.setTop (mkF m 131 #[.val (.int p0), .val (.int p1), .val (.int s1), .val (.int s2), .val (.ref x1), .val (.ref x2), .val (.int (-1 : Int32)), .unset, .unset] [(.int s2), (.int s1), (.int (0 : Int32))])) _
        refine XS.icmpYes X838.here hx rfl (pc0 := 131) (pc' := 138) rfl (hb hby at_131) rfl (XT.ii_le_t hgt) (by decide) (by decide) ?_
        show Steps p.tables e below (T838.setTop (mkF m 138 #[.val (.int p0), .val (.int p1), .val (.int s1), .val (.int s2), .val (.ref x1), .val (.ref x2), .val (.int (-1 : Int32)), .unset, .unset] [(.int (0 : Int32))])) _
        refine XS.iconst X838.here hx rfl (hb hby at_138) ?_
        show Steps p.tables e below (T838.setTop (mkF m 139 #[.val (.int p0), .val (.int p1), .val (.int s1), .val (.int s2), .val (.ref x1), .val (.ref x2), .val (.int (-1 : Int32)), .unset, .unset] [(.int (0 : Int32)), (.int (0 : Int32))])) _
        refine XS.icmpYes X838.here hx rfl (pc0 := 139) (pc' := 144) rfl (hb hby at_139) rfl (XT.ii_eq_t (by decide)) (by decide) (by decide) ?_
        show Steps p.tables e below (T838.setTop (mkF m 144 #[.val (.int p0), .val (.int p1), .val (.int s1), .val (.int s2), .val (.ref x1), .val (.ref x2), .val (.int (-1 : Int32)), .unset, .unset] [])) _
        refine XS.aload X838.here hx rfl (hb hby at_144) rfl rfl ?_
        exact kk_)
      obtain ⟨_, T841, h841, L841, X841, e841, hQ841, st841⟩ := own_callV X838 hx hZ (y := (⟨"com/example/provenans/provenans/model/Notation", "step", "()Ljava/lang/String;"⟩ : MethodName)) hown (hw _ (List.mem_of_getElem? (i := 217) rfl)) (hw _ (List.mem_of_getElem? (i := 218) rfl)) (hw _ (List.mem_of_getElem? (i := 220) rfl)) (hw _ (List.mem_of_getElem? (i := 219) rfl)) (hw _ (List.mem_of_getElem? (i := 7) rfl)) (hw _ (List.mem_of_getElem? (i := 221) rfl)) (by decide) 0 (g := (mkF m 146 #[.val (.int p0), .val (.int p1), .val (.int s1), .val (.int s2), .val (.ref x1), .val (.ref x2), .val (.int (-1 : Int32)), .unset, .unset] [(.ref x1)])) rfl (by rw [hml]; rfl) x1 NB.1 [] [] (rm30 l Z a0 hw [] u em x1 d1 y1 s1 K q h798 n0 f835 NB hsK ⟨hK1, hK2⟩ ⟨hq1, hq2⟩ ⟨hq3, hq4⟩ hq5 f834 z O2 P5 dO dT DO DT SO ST AO AT SzO SzT HO HT SE SU EU FU) (lenOf pd21 rfl) rfl (by show 2 * 0 + _ ≤ _; exact Nat.le_of_eq rfl) (hb hby at_146) (by decide) (by decide) e838 (by decide) (by decide)
      obtain ⟨xs, t, rfl, N841, K841, SS⟩ := hQ841
      have S842 : own_Go p e below s₁ G T841 (mkF m 149 #[.val (.int p0), .val (.int p1), .val (.int s1), .val (.int s2), .val (.ref x1), .val (.ref x2), .val (.int (-1 : Int32)), .unset, .unset] [(.ref xs)]) := fun tg_ kk_ => S840 tg_ (st841 tg_ kk_)
      have f843 := Fr.app M838 N841
      have f844 := f834.keep K841 all0
      have f845 := Nat.le_trans f835 K841.1
      have f846 := Keep.trans f836 K841 all0
      have S847 : own_Go p e below s₁ G T841 (mkF m 152 #[.val (.int p0), .val (.int p1), .val (.int s1), .val (.int s2), .val (.ref x1), .val (.ref x2), .val (.int (-1 : Int32)), .val (.ref xs), .unset] [(.int s1)]) := fun tg_ kk_ => S842 tg_ (by
        refine XS.astore X841.here hx rfl (hb hby at_149) rfl rfl (l' := #[.val (.int p0), .val (.int p1), .val (.int s1), .val (.int s2), .val (.ref x1), .val (.ref x2), .val (.int (-1 : Int32)), .val (.ref xs), .unset]) rfl ?_
        show Steps p.tables e below (T841.setTop (mkF m 151 #[.val (.int p0), .val (.int p1), .val (.int s1), .val (.int s2), .val (.ref x1), .val (.ref x2), .val (.int (-1 : Int32)), .val (.ref xs), .unset] [])) _
        refine XS.iloadN X841.here hx rfl (hb hby at_151) rfl ?_
        exact kk_)
      obtain ⟨_, T848, h848, L848, X848, e848, hQ848, st848⟩ := own_callS X841 hx hZ (y := (⟨"com/example/provenans/provenans/model/NotationOfPinLaw", "digits", "(I)I"⟩ : MethodName)) hown (hw _ (List.mem_of_getElem? (i := 255) rfl)) (hw _ (List.mem_of_getElem? (i := 256) rfl)) (hw _ (List.mem_of_getElem? (i := 257) rfl)) (hw _ (List.mem_of_getElem? (i := 258) rfl)) (by decide) 0 (g := (mkF m 152 #[.val (.int p0), .val (.int p1), .val (.int s1), .val (.int s2), .val (.ref x1), .val (.ref x2), .val (.int (-1 : Int32)), .val (.ref xs), .unset] [(.int s1)])) rfl (by rw [hml]; rfl) [(.int s1)] [] (rm37 l Z a0 hw [] s1 h841 n0 f845) (lenOf pd4 rfl) rfl (by show 2 * 0 + _ ≤ _; exact Nat.le_of_eq rfl) (hb hby at_152) (by decide) (by decide) e841 (by decide) (by decide)
      obtain ⟨rfl, N848, rfl⟩ := hQ848
      have S849 : own_Go p e below s₁ G T848 (mkF m 155 #[.val (.int p0), .val (.int p1), .val (.int s1), .val (.int s2), .val (.ref x1), .val (.ref x2), .val (.int (-1 : Int32)), .val (.ref xs), .unset] [(.int (own_dig2 s1))]) := fun tg_ kk_ => S847 tg_ (st848 tg_ kk_)
      have M848 := Fr.app f843 N848
      have hdq : own_dig2 s1 = Int32.ofNat q := by rw [hsK]; exact hq6
      rw [hdq] at S849
      have hcl := own_cs_len K q
      have hcb := own_48lat K q
      have S850 : own_Go p e below s₁ G T848 (mkF m 159 #[.val (.int p0), .val (.int p1), .val (.int s1), .val (.int s2), .val (.ref x1), .val (.ref x2), .val (.int (-1 : Int32)), .val (.ref xs), .val (.int (Int32.ofNat q))] [(.ref xs)]) := fun tg_ kk_ => S849 tg_ (by
        refine XS.istore X848.here hx rfl (hb hby at_155) rfl (l' := #[.val (.int p0), .val (.int p1), .val (.int s1), .val (.int s2), .val (.ref x1), .val (.ref x2), .val (.int (-1 : Int32)), .val (.ref xs), .val (.int (Int32.ofNat q))]) rfl ?_
        show Steps p.tables e below (T848.setTop (mkF m 157 #[.val (.int p0), .val (.int p1), .val (.int s1), .val (.int s2), .val (.ref x1), .val (.ref x2), .val (.int (-1 : Int32)), .val (.ref xs), .val (.int (Int32.ofNat q))] [])) _
        refine XS.aload X848.here hx rfl (hb hby at_157) rfl rfl ?_
        exact kk_)
      obtain ⟨_, T851, h851, L851, X851, e851, hQ851, st851⟩ := own_callV X848 hx hZ (y := (⟨"java/lang/String", "length", "()I"⟩ : MethodName)) hown (hw _ (List.mem_of_getElem? (i := 259) rfl)) (hw _ (List.mem_of_getElem? (i := 260) rfl)) (hw _ (List.mem_of_getElem? (i := 262) rfl)) (hw _ (List.mem_of_getElem? (i := 261) rfl)) (hw _ (List.mem_of_getElem? (i := 224) rfl)) (hw _ (List.mem_of_getElem? (i := 263) rfl)) (by decide) 0 (g := (mkF m 159 #[.val (.int p0), .val (.int p1), .val (.int s1), .val (.int s2), .val (.ref x1), .val (.ref x2), .val (.int (-1 : Int32)), .val (.ref xs), .val (.int (Int32.ofNat q))] [(.ref xs)])) rfl (by rw [hml]; rfl) xs SS.1 [] [] (rm38 l Z a0 hw [] xs t (own_cs K q) h841 n0 f845 z f844 O2 P5 SS (by omega)) (lenOf pd12 rfl) rfl (by show 2 * 0 + _ ≤ _; exact Nat.le_of_eq rfl) (hb hby at_159) (by decide) (by decide) e848 (by decide) (by decide)
      obtain ⟨rfl, N851, rfl⟩ := hQ851
      have S852 : own_Go p e below s₁ G T851 (mkF m 162 #[.val (.int p0), .val (.int p1), .val (.int s1), .val (.int s2), .val (.ref x1), .val (.ref x2), .val (.int (-1 : Int32)), .val (.ref xs), .val (.int (Int32.ofNat q))] [(.int (Int32.ofNat (own_cs K q).length))]) := fun tg_ kk_ => S850 tg_ (st851 tg_ kk_)
      have M851 := Fr.app M848 N851
      rw [hcl] at S852
      have S853 : own_Go p e below s₁ G T851 (mkF m 175 #[.val (.int p0), .val (.int p1), .val (.int s1), .val (.int s2), .val (.ref x1), .val (.ref x2), .val (.int (-1 : Int32)), .val (.ref xs), .val (.int (Int32.ofNat q))] [(.int ((Int32.ofNat q) - (1 : Int32))), (.ref xs)]) := fun tg_ kk_ => S852 tg_ (by
        refine XS.iload X851.here hx rfl (hb hby at_162) rfl ?_
        show Steps p.tables e below (T851.setTop (mkF m 164 #[.val (.int p0), .val (.int p1), .val (.int s1), .val (.int s2), .val (.ref x1), .val (.ref x2), .val (.int (-1 : Int32)), .val (.ref xs), .val (.int (Int32.ofNat q))] [(.int (Int32.ofNat q)), (.int (Int32.ofNat q))])) _
        refine XS.icmpYes X851.here hx rfl (pc0 := 164) (pc' := 169) rfl (hb hby at_164) rfl (XT.ii_eq_t rfl) (by decide) (by decide) ?_
        show Steps p.tables e below (T851.setTop (mkF m 169 #[.val (.int p0), .val (.int p1), .val (.int s1), .val (.int s2), .val (.ref x1), .val (.ref x2), .val (.int (-1 : Int32)), .val (.ref xs), .val (.int (Int32.ofNat q))] [])) _
        refine XS.aload X851.here hx rfl (hb hby at_169) rfl rfl ?_
        show Steps p.tables e below (T851.setTop (mkF m 171 #[.val (.int p0), .val (.int p1), .val (.int s1), .val (.int s2), .val (.ref x1), .val (.ref x2), .val (.int (-1 : Int32)), .val (.ref xs), .val (.int (Int32.ofNat q))] [(.ref xs)])) _
        refine XS.iload X851.here hx rfl (hb hby at_171) rfl ?_
        show Steps p.tables e below (T851.setTop (mkF m 173 #[.val (.int p0), .val (.int p1), .val (.int s1), .val (.int s2), .val (.ref x1), .val (.ref x2), .val (.int (-1 : Int32)), .val (.ref xs), .val (.int (Int32.ofNat q))] [(.int (Int32.ofNat q)), (.ref xs)])) _
        refine XS.iconst X851.here hx rfl (hb hby at_173) ?_
        show Steps p.tables e below (T851.setTop (mkF m 174 #[.val (.int p0), .val (.int p1), .val (.int s1), .val (.int s2), .val (.ref x1), .val (.ref x2), .val (.int (-1 : Int32)), .val (.ref xs), .val (.int (Int32.ofNat q))] [(.int (1 : Int32)), (.int (Int32.ofNat q)), (.ref xs)])) _
        refine XS.isub X851.here hx rfl (hb hby at_174) rfl ?_
        exact kk_)
      rw [own_pred hq1 (by omega)] at S853
      obtain ⟨_, T854, h854, L854, X854, e854, hQ854, st854⟩ := own_callV X851 hx hZ (y := (⟨"java/lang/String", "charAt", "(I)C"⟩ : MethodName)) hown (hw _ (List.mem_of_getElem? (i := 270) rfl)) (hw _ (List.mem_of_getElem? (i := 271) rfl)) (hw _ (List.mem_of_getElem? (i := 273) rfl)) (hw _ (List.mem_of_getElem? (i := 272) rfl)) (hw _ (List.mem_of_getElem? (i := 224) rfl)) (hw _ (List.mem_of_getElem? (i := 274) rfl)) (by decide) 0 (g := (mkF m 175 #[.val (.int p0), .val (.int p1), .val (.int s1), .val (.int s2), .val (.ref x1), .val (.ref x2), .val (.int (-1 : Int32)), .val (.ref xs), .val (.int (Int32.ofNat q))] [(.int (Int32.ofNat (q - 1))), (.ref xs)])) rfl (by rw [hml]; rfl) xs SS.1 [(.int (Int32.ofNat (q - 1)))] [] (rm40 l Z a0 hw [] xs t (q - 1) (own_cs K q) h841 n0 f845 z f844 O2 P5 SS (by omega) (by omega) hcb fm hfm SF) (lenOf pd27 rfl) rfl (by show 2 * 0 + _ ≤ _; exact Nat.le_of_eq rfl) (hb hby at_175) (by decide) (by decide) e851 (by decide) (by decide)
      obtain ⟨rfl, N854, rfl⟩ := hQ854
      have S855 : own_Go p e below s₁ G T854 (mkF m 178 #[.val (.int p0), .val (.int p1), .val (.int s1), .val (.int s2), .val (.ref x1), .val (.ref x2), .val (.int (-1 : Int32)), .val (.ref xs), .val (.int (Int32.ofNat q))] [(.int ((own_cs K q).getD (q - 1) 0))]) := fun tg_ kk_ => S853 tg_ (st854 tg_ kk_)
      have M854 := Fr.app M851 N854
      have S856 : own_Go p e below s₁ G T854 (mkF m 186 #[.val (.int p0), .val (.int p1), .val (.int s1), .val (.int s2), .val (.ref x1), .val (.ref x2), .val (.int (-1 : Int32)), .val (.ref xs), .val (.int (Int32.ofNat q))] [(.int (((48 : Int32) + (s1 - (s1 / (10 : Int32)) * (10 : Int32))).toUInt32.toUInt16.toUInt32.toInt32)), (.int ((own_cs K q).getD (q - 1) 0))]) := fun tg_ kk_ => S855 tg_ (by
        refine XS.bipush X854.here hx rfl (hb hby at_178) ?_
        show Steps p.tables e below (T854.setTop (mkF m 180 #[.val (.int p0), .val (.int p1), .val (.int s1), .val (.int s2), .val (.ref x1), .val (.ref x2), .val (.int (-1 : Int32)), .val (.ref xs), .val (.int (Int32.ofNat q))] [(.int (48 : Int32)), (.int ((own_cs K q).getD (q - 1) 0))])) _
        refine XS.iloadN X854.here hx rfl (hb hby at_180) rfl ?_
        show Steps p.tables e below (T854.setTop (mkF m 181 #[.val (.int p0), .val (.int p1), .val (.int s1), .val (.int s2), .val (.ref x1), .val (.ref x2), .val (.int (-1 : Int32)), .val (.ref xs), .val (.int (Int32.ofNat q))] [(.int s1), (.int (48 : Int32)), (.int ((own_cs K q).getD (q - 1) 0))])) _
        refine XS.bipush X854.here hx rfl (hb hby at_181) ?_
        show Steps p.tables e below (T854.setTop (mkF m 183 #[.val (.int p0), .val (.int p1), .val (.int s1), .val (.int s2), .val (.ref x1), .val (.ref x2), .val (.int (-1 : Int32)), .val (.ref xs), .val (.int (Int32.ofNat q))] [(.int (10 : Int32)), (.int s1), (.int (48 : Int32)), (.int ((own_cs K q).getD (q - 1) 0))])) _
        refine XS.irem X854.here hx rfl (hb hby at_183) rfl (by decide) ?_
        show Steps p.tables e below (T854.setTop (mkF m 184 #[.val (.int p0), .val (.int p1), .val (.int s1), .val (.int s2), .val (.ref x1), .val (.ref x2), .val (.int (-1 : Int32)), .val (.ref xs), .val (.int (Int32.ofNat q))] [(.int (s1 - (s1 / (10 : Int32)) * (10 : Int32))), (.int (48 : Int32)), (.int ((own_cs K q).getD (q - 1) 0))])) _
        refine XS.iadd X854.here hx rfl (hb hby at_184) rfl ?_
        show Steps p.tables e below (T854.setTop (mkF m 185 #[.val (.int p0), .val (.int p1), .val (.int s1), .val (.int s2), .val (.ref x1), .val (.ref x2), .val (.int (-1 : Int32)), .val (.ref xs), .val (.int (Int32.ofNat q))] [(.int ((48 : Int32) + (s1 - (s1 / (10 : Int32)) * (10 : Int32)))), (.int ((own_cs K q).getD (q - 1) 0))])) _
        refine XT.i2c X854.here hx rfl (hb hby at_185) rfl ?_
        exact kk_)
      have hl : ((own_cs K q).getD (q - 1) 0) = (((48 : Int32) + (s1 - (s1 / (10 : Int32)) * (10 : Int32))).toUInt32.toUInt16.toUInt32.toInt32) := by
        rw [own_cs_at (by omega), hsK]; exact (own_last hK2 hq1).symm
      have S857 : own_Go p e below s₁ G T854 (mkF m 194 #[.val (.int p0), .val (.int p1), .val (.int s1), .val (.int s2), .val (.ref x1), .val (.ref x2), .val (.int (-1 : Int32)), .val (.ref xs), .val (.int (Int32.ofNat q))] [(.int (0 : Int32)), (.ref xs)]) := fun tg_ kk_ => S856 tg_ (by
        refine XS.icmpYes X854.here hx rfl (pc0 := 186) (pc' := 191) rfl (hb hby at_186) rfl (XT.ii_eq_t hl) (by decide) (by decide) ?_
        show Steps p.tables e below (T854.setTop (mkF m 191 #[.val (.int p0), .val (.int p1), .val (.int s1), .val (.int s2), .val (.ref x1), .val (.ref x2), .val (.int (-1 : Int32)), .val (.ref xs), .val (.int (Int32.ofNat q))] [])) _
        refine XS.aload X854.here hx rfl (hb hby at_191) rfl rfl ?_
        show Steps p.tables e below (T854.setTop (mkF m 193 #[.val (.int p0), .val (.int p1), .val (.int s1), .val (.int s2), .val (.ref x1), .val (.ref x2), .val (.int (-1 : Int32)), .val (.ref xs), .val (.int (Int32.ofNat q))] [(.ref xs)])) _
        refine XS.iconst X854.here hx rfl (hb hby at_193) ?_
        exact kk_)
      obtain ⟨_, T858, h858, L858, X858, e858, hQ858, st858⟩ := own_callV X854 hx hZ (y := (⟨"java/lang/String", "charAt", "(I)C"⟩ : MethodName)) hown (hw _ (List.mem_of_getElem? (i := 270) rfl)) (hw _ (List.mem_of_getElem? (i := 271) rfl)) (hw _ (List.mem_of_getElem? (i := 273) rfl)) (hw _ (List.mem_of_getElem? (i := 272) rfl)) (hw _ (List.mem_of_getElem? (i := 224) rfl)) (hw _ (List.mem_of_getElem? (i := 274) rfl)) (by decide) 0 (g := (mkF m 194 #[.val (.int p0), .val (.int p1), .val (.int s1), .val (.int s2), .val (.ref x1), .val (.ref x2), .val (.int (-1 : Int32)), .val (.ref xs), .val (.int (Int32.ofNat q))] [(.int (0 : Int32)), (.ref xs)])) rfl (by rw [hml]; rfl) xs SS.1 [(.int (0 : Int32))] [] (rm40 l Z a0 hw [] xs t 0 (own_cs K q) h841 n0 f845 z f844 O2 P5 SS (by omega) (by omega) hcb fm hfm SF) (lenOf pd27 rfl) rfl (by show 2 * 0 + _ ≤ _; exact Nat.le_of_eq rfl) (hb hby at_194) (by decide) (by decide) e854 (by decide) (by decide)
      obtain ⟨rfl, N858, rfl⟩ := hQ858
      have S859 : own_Go p e below s₁ G T858 (mkF m 197 #[.val (.int p0), .val (.int p1), .val (.int s1), .val (.int s2), .val (.ref x1), .val (.ref x2), .val (.int (-1 : Int32)), .val (.ref xs), .val (.int (Int32.ofNat q))] [(.int ((own_cs K q).getD 0 0))]) := fun tg_ kk_ => S857 tg_ (st858 tg_ kk_)
      have M858 := Fr.app M854 N858
      have S860 : own_Go p e below s₁ G T858 (mkF m 202 #[.val (.int p0), .val (.int p1), .val (.int s1), .val (.int s2), .val (.ref x1), .val (.ref x2), .val (.int (-1 : Int32)), .val (.ref xs), .val (.int (Int32.ofNat q))] [(.int (Int32.ofNat q)), (.int s1), (.int (48 : Int32)), (.int ((own_cs K q).getD 0 0))]) := fun tg_ kk_ => S859 tg_ (by
        refine XS.bipush X858.here hx rfl (hb hby at_197) ?_
        show Steps p.tables e below (T858.setTop (mkF m 199 #[.val (.int p0), .val (.int p1), .val (.int s1), .val (.int s2), .val (.ref x1), .val (.ref x2), .val (.int (-1 : Int32)), .val (.ref xs), .val (.int (Int32.ofNat q))] [(.int (48 : Int32)), (.int ((own_cs K q).getD 0 0))])) _
        refine XS.iloadN X858.here hx rfl (hb hby at_199) rfl ?_
        show Steps p.tables e below (T858.setTop (mkF m 200 #[.val (.int p0), .val (.int p1), .val (.int s1), .val (.int s2), .val (.ref x1), .val (.ref x2), .val (.int (-1 : Int32)), .val (.ref xs), .val (.int (Int32.ofNat q))] [(.int s1), (.int (48 : Int32)), (.int ((own_cs K q).getD 0 0))])) _
        refine XS.iload X858.here hx rfl (hb hby at_200) rfl ?_
        exact kk_)
      obtain ⟨_, T861, h861, L861, X861, e861, hQ861, st861⟩ := own_callS X858 hx hZ (y := (⟨"com/example/provenans/provenans/model/NotationOfPinLaw", "pow10", "(I)I"⟩ : MethodName)) hown (hw _ (List.mem_of_getElem? (i := 292) rfl)) (hw _ (List.mem_of_getElem? (i := 293) rfl)) (hw _ (List.mem_of_getElem? (i := 257) rfl)) (hw _ (List.mem_of_getElem? (i := 294) rfl)) (by decide) 3 (g := (mkF m 202 #[.val (.int p0), .val (.int p1), .val (.int s1), .val (.int s2), .val (.ref x1), .val (.ref x2), .val (.int (-1 : Int32)), .val (.ref xs), .val (.int (Int32.ofNat q))] [(.int (Int32.ofNat q)), (.int s1), (.int (48 : Int32)), (.int ((own_cs K q).getD 0 0))])) rfl (by rw [hml]; rfl) [(.int (Int32.ofNat q))] [(.int s1), (.int (48 : Int32)), (.int ((own_cs K q).getD 0 0))] (rm45 l Z a0 hw [] q h841 n0 f845 ⟨hq1, hq2⟩) (lenOf pd4 rfl) rfl (by show 2 * 0 + _ ≤ _; exact Nat.le_of_eq rfl) (hb hby at_202) (by decide) (by decide) e858 (by decide) (by decide)
      obtain ⟨rfl, N861, rfl⟩ := hQ861
      have S862 : own_Go p e below s₁ G T861 (mkF m 205 #[.val (.int p0), .val (.int p1), .val (.int s1), .val (.int s2), .val (.ref x1), .val (.ref x2), .val (.int (-1 : Int32)), .val (.ref xs), .val (.int (Int32.ofNat q))] [(.int (Int32.ofNat (10 ^ (q - 1)))), (.int s1), (.int (48 : Int32)), (.int ((own_cs K q).getD 0 0))]) := fun tg_ kk_ => S860 tg_ (st861 tg_ kk_)
      have M861 := Fr.app M858 N861
      have S863 : own_Go p e below s₁ G T861 (mkF m 208 #[.val (.int p0), .val (.int p1), .val (.int s1), .val (.int s2), .val (.ref x1), .val (.ref x2), .val (.int (-1 : Int32)), .val (.ref xs), .val (.int (Int32.ofNat q))] [(.int (((48 : Int32) + (s1 / (Int32.ofNat (10 ^ (q - 1))))).toUInt32.toUInt16.toUInt32.toInt32)), (.int ((own_cs K q).getD 0 0))]) := fun tg_ kk_ => S862 tg_ (by
        refine XS.idiv X861.here hx rfl (hb hby at_205) rfl (own_p10ne hq1 hq2) ?_
        show Steps p.tables e below (T861.setTop (mkF m 206 #[.val (.int p0), .val (.int p1), .val (.int s1), .val (.int s2), .val (.ref x1), .val (.ref x2), .val (.int (-1 : Int32)), .val (.ref xs), .val (.int (Int32.ofNat q))] [(.int (s1 / (Int32.ofNat (10 ^ (q - 1))))), (.int (48 : Int32)), (.int ((own_cs K q).getD 0 0))])) _
        refine XS.iadd X861.here hx rfl (hb hby at_206) rfl ?_
        show Steps p.tables e below (T861.setTop (mkF m 207 #[.val (.int p0), .val (.int p1), .val (.int s1), .val (.int s2), .val (.ref x1), .val (.ref x2), .val (.int (-1 : Int32)), .val (.ref xs), .val (.int (Int32.ofNat q))] [(.int ((48 : Int32) + (s1 / (Int32.ofNat (10 ^ (q - 1)))))), (.int ((own_cs K q).getD 0 0))])) _
        refine XT.i2c X861.here hx rfl (hb hby at_207) rfl ?_
        exact kk_)
      have hf : ((own_cs K q).getD 0 0) = (((48 : Int32) + (s1 / (Int32.ofNat (10 ^ (q - 1))))).toUInt32.toUInt16.toUInt32.toInt32) := by
        rw [own_cs_at (by omega), hsK]; exact (own_first hK2 hq1 hq2 hq3 hq4).symm
      have S864 : own_Go p e below s₁ G T861 (mkF m 214 #[.val (.int p0), .val (.int p1), .val (.int s1), .val (.int s2), .val (.ref x1), .val (.ref x2), .val (.int (-1 : Int32)), .val (.ref xs), .val (.int (Int32.ofNat q))] [(.int (1 : Int32))]) := fun tg_ kk_ => S863 tg_ (by
        refine XS.icmpYes X861.here hx rfl (pc0 := 208) (pc' := 213) rfl (hb hby at_208) rfl (XT.ii_eq_t hf) (by decide) (by decide) ?_
        show Steps p.tables e below (T861.setTop (mkF m 213 #[.val (.int p0), .val (.int p1), .val (.int s1), .val (.int s2), .val (.ref x1), .val (.ref x2), .val (.int (-1 : Int32)), .val (.ref xs), .val (.int (Int32.ofNat q))] [])) _
        refine XS.iconst X861.here hx rfl (hb hby at_213) ?_
        exact kk_)
      obtain ⟨fs, hr, hrun, hended, hW, hsame⟩ := X861.leave (v := some (.int (1 : Int32))) (fun h => by rw [Bd.returns] at h; cases h)
      refine ⟨_, _, ?_, hrun, hended, _, _, rfl, ?_, ⟨_, rfl⟩, hW, hsame.mono (by decide) (by decide)⟩
      · rw [← hG]; exact S864 _ (retN X861 hx (t := .boolean) Bd.returns (by simp) (hb hby at_214) hr)
      · show Q0 Z p0 p1 h0 n0 _ T861.heap _
        rw [e861]
        exact ⟨rfl, M861⟩
    · have hcmp := own_cmp_gt hk hlt
      have hgt := own_gt_of hk hlt
      obtain ⟨_, T865, h865, L865, X865, e865, hQ865, st865⟩ := own_callV X798 hx hZ (y := (⟨"com/example/provenans/provenans/model/Notation", "compareTo", "(Lcom/example/provenans/provenans/model/Notation;)I"⟩ : MethodName)) hown (hw _ (List.mem_of_getElem? (i := 203) rfl)) (hw _ (List.mem_of_getElem? (i := 204) rfl)) (hw _ (List.mem_of_getElem? (i := 206) rfl)) (hw _ (List.mem_of_getElem? (i := 205) rfl)) (hw _ (List.mem_of_getElem? (i := 7) rfl)) (hw _ (List.mem_of_getElem? (i := 207) rfl)) (by decide) 0 (g := (mkF m 89 #[.val (.int p0), .val (.int p1), .val (.int s1), .val (.int s2), .val (.ref x1), .val (.ref x2), .unset, .unset, .unset] [(.ref x2), (.ref x1)])) rfl (by rw [hml]; rfl) x1 NB.1 [(.ref x2)] [] (rm27 l Z a0 hw [] u em x1 d1 y1 s1 x2 d2 y2 s2 h798 n0 f835 NB NC hdd f834 SE SU EU FU cL kk mm m1 m2 m3) (lenOf pd20 rfl) rfl (by show 2 * 0 + _ ≤ _; exact Nat.le_of_eq rfl) (hb hby at_89) (by decide) (by decide) e798 (by decide) (by decide)
      obtain ⟨rfl, N865, rfl⟩ := hQ865
      have S866 : own_Go p e below s₁ G T865 (mkF m 92 #[.val (.int p0), .val (.int p1), .val (.int s1), .val (.int s2), .val (.ref x1), .val (.ref x2), .unset, .unset, .unset] [(.int (own_cmp s1 s2))]) := fun tg_ kk_ => S837 tg_ (st865 tg_ kk_)
      have M865 := Fr.app f833 N865
      rw [hcmp] at S866
      obtain ⟨K, hsK, hK1, hK2⟩ := own_nat hs1
      obtain ⟨q, hq1, hq2, hq3, hq4, hq5, hq6⟩ := own_dig_n hK1 hK2
      have S867 : own_Go p e below s₁ G T865 (mkF m 146 #[.val (.int p0), .val (.int p1), .val (.int s1), .val (.int s2), .val (.ref x1), .val (.ref x2), .val (.int (1 : Int32)), .unset, .unset] [(.ref x1)]) := fun tg_ kk_ => S866 tg_ (by
        refine XS.istore X865.here hx rfl (hb hby at_92) rfl (l' := #[.val (.int p0), .val (.int p1), .val (.int s1), .val (.int s2), .val (.ref x1), .val (.ref x2), .val (.int (1 : Int32)), .unset, .unset]) rfl ?_
        show Steps p.tables e below (T865.setTop (mkF m 94 #[.val (.int p0), .val (.int p1), .val (.int s1), .val (.int s2), .val (.ref x1), .val (.ref x2), .val (.int (1 : Int32)), .unset, .unset] [])) _
        refine XS.iload X865.here hx rfl (hb hby at_94) rfl ?_
        show Steps p.tables e below (T865.setTop (mkF m 96 #[.val (.int p0), .val (.int p1), .val (.int s1), .val (.int s2), .val (.ref x1), .val (.ref x2), .val (.int (1 : Int32)), .unset, .unset] [(.int (1 : Int32))])) _
        refine XS.ifYes X865.here hx rfl (pc0 := 96) (pc' := 103) rfl (hb hby at_96) rfl (XT.i0_ge_t (by decide)) (by decide) (by decide) ?_
        show Steps p.tables e below (T865.setTop (mkF m 103 #[.val (.int p0), .val (.int p1), .val (.int s1), .val (.int s2), .val (.ref x1), .val (.ref x2), .val (.int (1 : Int32)), .unset, .unset] [])) _
        refine XS.iconst X865.here hx rfl (hb hby at_103) ?_
        show Steps p.tables e below (T865.setTop (mkF m 104 #[.val (.int p0), .val (.int p1), .val (.int s1), .val (.int s2), .val (.ref x1), .val (.ref x2), .val (.int (1 : Int32)), .unset, .unset] [(.int (0 : Int32))])) _
        refine XS.iloadN X865.here hx rfl (hb hby at_104) rfl ?_
        show Steps p.tables e below (T865.setTop (mkF m 105 #[.val (.int p0), .val (.int p1), .val (.int s1), .val (.int s2), .val (.ref x1), .val (.ref x2), .val (.int (1 : Int32)), .unset, .unset] [(.int s1), (.int (0 : Int32))])) _
        refine XS.iloadN X865.here hx rfl (hb hby at_105) rfl ?_
        show Steps p.tables e below (T865.setTop (mkF m 106 #[.val (.int p0), .val (.int p1), .val (.int s1), .val (.int s2), .val (.ref x1), .val (.ref x2), .val (.int (1 : Int32)), .unset, .unset] [(.int s2), (.int s1), (.int (0 : Int32))])) _
        refine XS.icmpYes X865.here hx rfl (pc0 := 106) (pc' := 113) rfl (hb hby at_106) rfl (XT.ii_ge_t hlt) (by decide) (by decide) ?_
        show Steps p.tables e below (T865.setTop (mkF m 113 #[.val (.int p0), .val (.int p1), .val (.int s1), .val (.int s2), .val (.ref x1), .val (.ref x2), .val (.int (1 : Int32)), .unset, .unset] [(.int (0 : Int32))])) _
        refine XS.iconst X865.here hx rfl (hb hby at_113) ?_
        show Steps p.tables e below (T865.setTop (mkF m 114 #[.val (.int p0), .val (.int p1), .val (.int s1), .val (.int s2), .val (.ref x1), .val (.ref x2), .val (.int (1 : Int32)), .unset, .unset] [(.int (0 : Int32)), (.int (0 : Int32))])) _
        refine XS.icmpYes X865.here hx rfl (pc0 := 114) (pc' := 119) rfl (hb hby at_114) rfl (XT.ii_eq_t (by decide)) (by decide) (by decide) ?_
        show Steps p.tables e below (T865.setTop (mkF m 119 #[.val (.int p0), .val (.int p1), .val (.int s1), .val (.int s2), .val (.ref x1), .val (.ref x2), .val (.int (1 : Int32)), .unset, .unset] [])) _
        refine XS.iload X865.here hx rfl (hb hby at_119) rfl ?_
        show Steps p.tables e below (T865.setTop (mkF m 121 #[.val (.int p0), .val (.int p1), .val (.int s1), .val (.int s2), .val (.ref x1), .val (.ref x2), .val (.int (1 : Int32)), .unset, .unset] [(.int (1 : Int32))])) _
        refine XS.ifNo X865.here hx rfl (hb hby at_121) rfl (XT.i0_le_f (by decide)) ?_
        show Steps p.tables e below (T865.setTop (mkF m 124 #[.val (.int p0), .val (.int p1), .val (.int s1), .val (.int s2), .val (.ref x1), .val (.ref x2), .val (.int (1 : Int32)), .unset, .unset] [])) _
        refine XS.iconst X865.here hx rfl (hb hby at_124) ?_
        show Steps p.tables e below (T865.setTop (mkF m 125 #[.val (.int p0), .val (.int p1), .val (.int s1), .val (.int s2), .val (.ref x1), .val (.ref x2), .val (.int (1 : Int32)), .unset, .unset] [(.int (1 : Int32))])) _
        refine XS.goto X865.here hx rfl (pc0 := 125) (pc' := 129) rfl (hb hby at_125) (by decide) (by decide) ?_
        show Steps p.tables e below (T865.setTop (mkF m 129 #[.val (.int p0), .val (.int p1), .val (.int s1), .val (.int s2), .val (.ref x1), .val (.ref x2), .val (.int (1 : Int32)), .unset, .unset] [(.int (1 : Int32))])) _
        refine XS.iloadN X865.here hx rfl (hb hby at_129) rfl ?_
        show Steps p.tables e below (T865.setTop (mkF m 130 #[.val (.int p0), .val (.int p1), .val (.int s1), .val (.int s2), .val (.ref x1), .val (.ref x2), .val (.int (1 : Int32)), .unset, .unset] [(.int s1), (.int (1 : Int32))])) _
        refine XS.iloadN X865.here hx rfl (hb hby at_130) rfl ?_
        show Steps p.tables e below (T865.setTop (mkF m 131 #[.val (.int p0), .val (.int p1), .val (.int s1), .val (.int s2), .val (.ref x1), .val (.ref x2), .val (.int (1 : Int32)), .unset, .unset] [(.int s2), (.int s1), (.int (1 : Int32))])) _
        refine XS.icmpNo X865.here hx rfl (hb hby at_131) rfl (XT.ii_le_f hgt) ?_
        show Steps p.tables e below (T865.setTop (mkF m 134 #[.val (.int p0), .val (.int p1), .val (.int s1), .val (.int s2), .val (.ref x1), .val (.ref x2), .val (.int (1 : Int32)), .unset, .unset] [(.int (1 : Int32))])) _
        refine XS.iconst X865.here hx rfl (hb hby at_134) ?_
        show Steps p.tables e below (T865.setTop (mkF m 135 #[.val (.int p0), .val (.int p1), .val (.int s1), .val (.int s2), .val (.ref x1), .val (.ref x2), .val (.int (1 : Int32)), .unset, .unset] [(.int (1 : Int32)), (.int (1 : Int32))])) _
        refine XS.goto X865.here hx rfl (pc0 := 135) (pc' := 139) rfl (hb hby at_135) (by decide) (by decide) ?_
        show Steps p.tables e below (T865.setTop (mkF m 139 #[.val (.int p0), .val (.int p1), .val (.int s1), .val (.int s2), .val (.ref x1), .val (.ref x2), .val (.int (1 : Int32)), .unset, .unset] [(.int (1 : Int32)), (.int (1 : Int32))])) _
        refine XS.icmpYes X865.here hx rfl (pc0 := 139) (pc' := 144) rfl (hb hby at_139) rfl (XT.ii_eq_t (by decide)) (by decide) (by decide) ?_
        show Steps p.tables e below (T865.setTop (mkF m 144 #[.val (.int p0), .val (.int p1), .val (.int s1), .val (.int s2), .val (.ref x1), .val (.ref x2), .val (.int (1 : Int32)), .unset, .unset] [])) _
        refine XS.aload X865.here hx rfl (hb hby at_144) rfl rfl ?_
        exact kk_)
      obtain ⟨_, T868, h868, L868, X868, e868, hQ868, st868⟩ := own_callV X865 hx hZ (y := (⟨"com/example/provenans/provenans/model/Notation", "step", "()Ljava/lang/String;"⟩ : MethodName)) hown (hw _ (List.mem_of_getElem? (i := 217) rfl)) (hw _ (List.mem_of_getElem? (i := 218) rfl)) (hw _ (List.mem_of_getElem? (i := 220) rfl)) (hw _ (List.mem_of_getElem? (i := 219) rfl)) (hw _ (List.mem_of_getElem? (i := 7) rfl)) (hw _ (List.mem_of_getElem? (i := 221) rfl)) (by decide) 0 (g := (mkF m 146 #[.val (.int p0), .val (.int p1), .val (.int s1), .val (.int s2), .val (.ref x1), .val (.ref x2), .val (.int (1 : Int32)), .unset, .unset] [(.ref x1)])) rfl (by rw [hml]; rfl) x1 NB.1 [] [] (rm30 l Z a0 hw [] u em x1 d1 y1 s1 K q h798 n0 f835 NB hsK ⟨hK1, hK2⟩ ⟨hq1, hq2⟩ ⟨hq3, hq4⟩ hq5 f834 z O2 P5 dO dT DO DT SO ST AO AT SzO SzT HO HT SE SU EU FU) (lenOf pd21 rfl) rfl (by show 2 * 0 + _ ≤ _; exact Nat.le_of_eq rfl) (hb hby at_146) (by decide) (by decide) e865 (by decide) (by decide)
      obtain ⟨xs, t, rfl, N868, K868, SS⟩ := hQ868
      have S869 : own_Go p e below s₁ G T868 (mkF m 149 #[.val (.int p0), .val (.int p1), .val (.int s1), .val (.int s2), .val (.ref x1), .val (.ref x2), .val (.int (1 : Int32)), .unset, .unset] [(.ref xs)]) := fun tg_ kk_ => S867 tg_ (st868 tg_ kk_)
      have f870 := Fr.app M865 N868
      have f871 := f834.keep K868 all0
      have f872 := Nat.le_trans f835 K868.1
      have f873 := Keep.trans f836 K868 all0
      have S874 : own_Go p e below s₁ G T868 (mkF m 152 #[.val (.int p0), .val (.int p1), .val (.int s1), .val (.int s2), .val (.ref x1), .val (.ref x2), .val (.int (1 : Int32)), .val (.ref xs), .unset] [(.int s1)]) := fun tg_ kk_ => S869 tg_ (by
        refine XS.astore X868.here hx rfl (hb hby at_149) rfl rfl (l' := #[.val (.int p0), .val (.int p1), .val (.int s1), .val (.int s2), .val (.ref x1), .val (.ref x2), .val (.int (1 : Int32)), .val (.ref xs), .unset]) rfl ?_
        show Steps p.tables e below (T868.setTop (mkF m 151 #[.val (.int p0), .val (.int p1), .val (.int s1), .val (.int s2), .val (.ref x1), .val (.ref x2), .val (.int (1 : Int32)), .val (.ref xs), .unset] [])) _
        refine XS.iloadN X868.here hx rfl (hb hby at_151) rfl ?_
        exact kk_)
      obtain ⟨_, T875, h875, L875, X875, e875, hQ875, st875⟩ := own_callS X868 hx hZ (y := (⟨"com/example/provenans/provenans/model/NotationOfPinLaw", "digits", "(I)I"⟩ : MethodName)) hown (hw _ (List.mem_of_getElem? (i := 255) rfl)) (hw _ (List.mem_of_getElem? (i := 256) rfl)) (hw _ (List.mem_of_getElem? (i := 257) rfl)) (hw _ (List.mem_of_getElem? (i := 258) rfl)) (by decide) 0 (g := (mkF m 152 #[.val (.int p0), .val (.int p1), .val (.int s1), .val (.int s2), .val (.ref x1), .val (.ref x2), .val (.int (1 : Int32)), .val (.ref xs), .unset] [(.int s1)])) rfl (by rw [hml]; rfl) [(.int s1)] [] (rm37 l Z a0 hw [] s1 h868 n0 f872) (lenOf pd4 rfl) rfl (by show 2 * 0 + _ ≤ _; exact Nat.le_of_eq rfl) (hb hby at_152) (by decide) (by decide) e868 (by decide) (by decide)
      obtain ⟨rfl, N875, rfl⟩ := hQ875
      have S876 : own_Go p e below s₁ G T875 (mkF m 155 #[.val (.int p0), .val (.int p1), .val (.int s1), .val (.int s2), .val (.ref x1), .val (.ref x2), .val (.int (1 : Int32)), .val (.ref xs), .unset] [(.int (own_dig2 s1))]) := fun tg_ kk_ => S874 tg_ (st875 tg_ kk_)
      have M875 := Fr.app f870 N875
      have hdq : own_dig2 s1 = Int32.ofNat q := by rw [hsK]; exact hq6
      rw [hdq] at S876
      have hcl := own_cs_len K q
      have hcb := own_48lat K q
      have S877 : own_Go p e below s₁ G T875 (mkF m 159 #[.val (.int p0), .val (.int p1), .val (.int s1), .val (.int s2), .val (.ref x1), .val (.ref x2), .val (.int (1 : Int32)), .val (.ref xs), .val (.int (Int32.ofNat q))] [(.ref xs)]) := fun tg_ kk_ => S876 tg_ (by
        refine XS.istore X875.here hx rfl (hb hby at_155) rfl (l' := #[.val (.int p0), .val (.int p1), .val (.int s1), .val (.int s2), .val (.ref x1), .val (.ref x2), .val (.int (1 : Int32)), .val (.ref xs), .val (.int (Int32.ofNat q))]) rfl ?_
        show Steps p.tables e below (T875.setTop (mkF m 157 #[.val (.int p0), .val (.int p1), .val (.int s1), .val (.int s2), .val (.ref x1), .val (.ref x2), .val (.int (1 : Int32)), .val (.ref xs), .val (.int (Int32.ofNat q))] [])) _
        refine XS.aload X875.here hx rfl (hb hby at_157) rfl rfl ?_
        exact kk_)
      obtain ⟨_, T878, h878, L878, X878, e878, hQ878, st878⟩ := own_callV X875 hx hZ (y := (⟨"java/lang/String", "length", "()I"⟩ : MethodName)) hown (hw _ (List.mem_of_getElem? (i := 259) rfl)) (hw _ (List.mem_of_getElem? (i := 260) rfl)) (hw _ (List.mem_of_getElem? (i := 262) rfl)) (hw _ (List.mem_of_getElem? (i := 261) rfl)) (hw _ (List.mem_of_getElem? (i := 224) rfl)) (hw _ (List.mem_of_getElem? (i := 263) rfl)) (by decide) 0 (g := (mkF m 159 #[.val (.int p0), .val (.int p1), .val (.int s1), .val (.int s2), .val (.ref x1), .val (.ref x2), .val (.int (1 : Int32)), .val (.ref xs), .val (.int (Int32.ofNat q))] [(.ref xs)])) rfl (by rw [hml]; rfl) xs SS.1 [] [] (rm38 l Z a0 hw [] xs t (own_cs K q) h868 n0 f872 z f871 O2 P5 SS (by omega)) (lenOf pd12 rfl) rfl (by show 2 * 0 + _ ≤ _; exact Nat.le_of_eq rfl) (hb hby at_159) (by decide) (by decide) e875 (by decide) (by decide)
      obtain ⟨rfl, N878, rfl⟩ := hQ878
      have S879 : own_Go p e below s₁ G T878 (mkF m 162 #[.val (.int p0), .val (.int p1), .val (.int s1), .val (.int s2), .val (.ref x1), .val (.ref x2), .val (.int (1 : Int32)), .val (.ref xs), .val (.int (Int32.ofNat q))] [(.int (Int32.ofNat (own_cs K q).length))]) := fun tg_ kk_ => S877 tg_ (st878 tg_ kk_)
      have M878 := Fr.app M875 N878
      rw [hcl] at S879
      have S880 : own_Go p e below s₁ G T878 (mkF m 175 #[.val (.int p0), .val (.int p1), .val (.int s1), .val (.int s2), .val (.ref x1), .val (.ref x2), .val (.int (1 : Int32)), .val (.ref xs), .val (.int (Int32.ofNat q))] [(.int ((Int32.ofNat q) - (1 : Int32))), (.ref xs)]) := fun tg_ kk_ => S879 tg_ (by
        refine XS.iload X878.here hx rfl (hb hby at_162) rfl ?_
        show Steps p.tables e below (T878.setTop (mkF m 164 #[.val (.int p0), .val (.int p1), .val (.int s1), .val (.int s2), .val (.ref x1), .val (.ref x2), .val (.int (1 : Int32)), .val (.ref xs), .val (.int (Int32.ofNat q))] [(.int (Int32.ofNat q)), (.int (Int32.ofNat q))])) _
        refine XS.icmpYes X878.here hx rfl (pc0 := 164) (pc' := 169) rfl (hb hby at_164) rfl (XT.ii_eq_t rfl) (by decide) (by decide) ?_
        show Steps p.tables e below (T878.setTop (mkF m 169 #[.val (.int p0), .val (.int p1), .val (.int s1), .val (.int s2), .val (.ref x1), .val (.ref x2), .val (.int (1 : Int32)), .val (.ref xs), .val (.int (Int32.ofNat q))] [])) _
        refine XS.aload X878.here hx rfl (hb hby at_169) rfl rfl ?_
        show Steps p.tables e below (T878.setTop (mkF m 171 #[.val (.int p0), .val (.int p1), .val (.int s1), .val (.int s2), .val (.ref x1), .val (.ref x2), .val (.int (1 : Int32)), .val (.ref xs), .val (.int (Int32.ofNat q))] [(.ref xs)])) _
        refine XS.iload X878.here hx rfl (hb hby at_171) rfl ?_
        show Steps p.tables e below (T878.setTop (mkF m 173 #[.val (.int p0), .val (.int p1), .val (.int s1), .val (.int s2), .val (.ref x1), .val (.ref x2), .val (.int (1 : Int32)), .val (.ref xs), .val (.int (Int32.ofNat q))] [(.int (Int32.ofNat q)), (.ref xs)])) _
        refine XS.iconst X878.here hx rfl (hb hby at_173) ?_
        show Steps p.tables e below (T878.setTop (mkF m 174 #[.val (.int p0), .val (.int p1), .val (.int s1), .val (.int s2), .val (.ref x1), .val (.ref x2), .val (.int (1 : Int32)), .val (.ref xs), .val (.int (Int32.ofNat q))] [(.int (1 : Int32)), (.int (Int32.ofNat q)), (.ref xs)])) _
        refine XS.isub X878.here hx rfl (hb hby at_174) rfl ?_
        exact kk_)
      rw [own_pred hq1 (by omega)] at S880
      obtain ⟨_, T881, h881, L881, X881, e881, hQ881, st881⟩ := own_callV X878 hx hZ (y := (⟨"java/lang/String", "charAt", "(I)C"⟩ : MethodName)) hown (hw _ (List.mem_of_getElem? (i := 270) rfl)) (hw _ (List.mem_of_getElem? (i := 271) rfl)) (hw _ (List.mem_of_getElem? (i := 273) rfl)) (hw _ (List.mem_of_getElem? (i := 272) rfl)) (hw _ (List.mem_of_getElem? (i := 224) rfl)) (hw _ (List.mem_of_getElem? (i := 274) rfl)) (by decide) 0 (g := (mkF m 175 #[.val (.int p0), .val (.int p1), .val (.int s1), .val (.int s2), .val (.ref x1), .val (.ref x2), .val (.int (1 : Int32)), .val (.ref xs), .val (.int (Int32.ofNat q))] [(.int (Int32.ofNat (q - 1))), (.ref xs)])) rfl (by rw [hml]; rfl) xs SS.1 [(.int (Int32.ofNat (q - 1)))] [] (rm40 l Z a0 hw [] xs t (q - 1) (own_cs K q) h868 n0 f872 z f871 O2 P5 SS (by omega) (by omega) hcb fm hfm SF) (lenOf pd27 rfl) rfl (by show 2 * 0 + _ ≤ _; exact Nat.le_of_eq rfl) (hb hby at_175) (by decide) (by decide) e878 (by decide) (by decide)
      obtain ⟨rfl, N881, rfl⟩ := hQ881
      have S882 : own_Go p e below s₁ G T881 (mkF m 178 #[.val (.int p0), .val (.int p1), .val (.int s1), .val (.int s2), .val (.ref x1), .val (.ref x2), .val (.int (1 : Int32)), .val (.ref xs), .val (.int (Int32.ofNat q))] [(.int ((own_cs K q).getD (q - 1) 0))]) := fun tg_ kk_ => S880 tg_ (st881 tg_ kk_)
      have M881 := Fr.app M878 N881
      have S883 : own_Go p e below s₁ G T881 (mkF m 186 #[.val (.int p0), .val (.int p1), .val (.int s1), .val (.int s2), .val (.ref x1), .val (.ref x2), .val (.int (1 : Int32)), .val (.ref xs), .val (.int (Int32.ofNat q))] [(.int (((48 : Int32) + (s1 - (s1 / (10 : Int32)) * (10 : Int32))).toUInt32.toUInt16.toUInt32.toInt32)), (.int ((own_cs K q).getD (q - 1) 0))]) := fun tg_ kk_ => S882 tg_ (by
        refine XS.bipush X881.here hx rfl (hb hby at_178) ?_
        show Steps p.tables e below (T881.setTop (mkF m 180 #[.val (.int p0), .val (.int p1), .val (.int s1), .val (.int s2), .val (.ref x1), .val (.ref x2), .val (.int (1 : Int32)), .val (.ref xs), .val (.int (Int32.ofNat q))] [(.int (48 : Int32)), (.int ((own_cs K q).getD (q - 1) 0))])) _
        refine XS.iloadN X881.here hx rfl (hb hby at_180) rfl ?_
        show Steps p.tables e below (T881.setTop (mkF m 181 #[.val (.int p0), .val (.int p1), .val (.int s1), .val (.int s2), .val (.ref x1), .val (.ref x2), .val (.int (1 : Int32)), .val (.ref xs), .val (.int (Int32.ofNat q))] [(.int s1), (.int (48 : Int32)), (.int ((own_cs K q).getD (q - 1) 0))])) _
        refine XS.bipush X881.here hx rfl (hb hby at_181) ?_
        show Steps p.tables e below (T881.setTop (mkF m 183 #[.val (.int p0), .val (.int p1), .val (.int s1), .val (.int s2), .val (.ref x1), .val (.ref x2), .val (.int (1 : Int32)), .val (.ref xs), .val (.int (Int32.ofNat q))] [(.int (10 : Int32)), (.int s1), (.int (48 : Int32)), (.int ((own_cs K q).getD (q - 1) 0))])) _
        refine XS.irem X881.here hx rfl (hb hby at_183) rfl (by decide) ?_
        show Steps p.tables e below (T881.setTop (mkF m 184 #[.val (.int p0), .val (.int p1), .val (.int s1), .val (.int s2), .val (.ref x1), .val (.ref x2), .val (.int (1 : Int32)), .val (.ref xs), .val (.int (Int32.ofNat q))] [(.int (s1 - (s1 / (10 : Int32)) * (10 : Int32))), (.int (48 : Int32)), (.int ((own_cs K q).getD (q - 1) 0))])) _
        refine XS.iadd X881.here hx rfl (hb hby at_184) rfl ?_
        show Steps p.tables e below (T881.setTop (mkF m 185 #[.val (.int p0), .val (.int p1), .val (.int s1), .val (.int s2), .val (.ref x1), .val (.ref x2), .val (.int (1 : Int32)), .val (.ref xs), .val (.int (Int32.ofNat q))] [(.int ((48 : Int32) + (s1 - (s1 / (10 : Int32)) * (10 : Int32)))), (.int ((own_cs K q).getD (q - 1) 0))])) _
        refine XT.i2c X881.here hx rfl (hb hby at_185) rfl ?_
        exact kk_)
      have hl : ((own_cs K q).getD (q - 1) 0) = (((48 : Int32) + (s1 - (s1 / (10 : Int32)) * (10 : Int32))).toUInt32.toUInt16.toUInt32.toInt32) := by
        rw [own_cs_at (by omega), hsK]; exact (own_last hK2 hq1).symm
      have S884 : own_Go p e below s₁ G T881 (mkF m 194 #[.val (.int p0), .val (.int p1), .val (.int s1), .val (.int s2), .val (.ref x1), .val (.ref x2), .val (.int (1 : Int32)), .val (.ref xs), .val (.int (Int32.ofNat q))] [(.int (0 : Int32)), (.ref xs)]) := fun tg_ kk_ => S883 tg_ (by
        refine XS.icmpYes X881.here hx rfl (pc0 := 186) (pc' := 191) rfl (hb hby at_186) rfl (XT.ii_eq_t hl) (by decide) (by decide) ?_
        show Steps p.tables e below (T881.setTop (mkF m 191 #[.val (.int p0), .val (.int p1), .val (.int s1), .val (.int s2), .val (.ref x1), .val (.ref x2), .val (.int (1 : Int32)), .val (.ref xs), .val (.int (Int32.ofNat q))] [])) _
        refine XS.aload X881.here hx rfl (hb hby at_191) rfl rfl ?_
        show Steps p.tables e below (T881.setTop (mkF m 193 #[.val (.int p0), .val (.int p1), .val (.int s1), .val (.int s2), .val (.ref x1), .val (.ref x2), .val (.int (1 : Int32)), .val (.ref xs), .val (.int (Int32.ofNat q))] [(.ref xs)])) _
        refine XS.iconst X881.here hx rfl (hb hby at_193) ?_
        exact kk_)
      obtain ⟨_, T885, h885, L885, X885, e885, hQ885, st885⟩ := own_callV X881 hx hZ (y := (⟨"java/lang/String", "charAt", "(I)C"⟩ : MethodName)) hown (hw _ (List.mem_of_getElem? (i := 270) rfl)) (hw _ (List.mem_of_getElem? (i := 271) rfl)) (hw _ (List.mem_of_getElem? (i := 273) rfl)) (hw _ (List.mem_of_getElem? (i := 272) rfl)) (hw _ (List.mem_of_getElem? (i := 224) rfl)) (hw _ (List.mem_of_getElem? (i := 274) rfl)) (by decide) 0 (g := (mkF m 194 #[.val (.int p0), .val (.int p1), .val (.int s1), .val (.int s2), .val (.ref x1), .val (.ref x2), .val (.int (1 : Int32)), .val (.ref xs), .val (.int (Int32.ofNat q))] [(.int (0 : Int32)), (.ref xs)])) rfl (by rw [hml]; rfl) xs SS.1 [(.int (0 : Int32))] [] (rm40 l Z a0 hw [] xs t 0 (own_cs K q) h868 n0 f872 z f871 O2 P5 SS (by omega) (by omega) hcb fm hfm SF) (lenOf pd27 rfl) rfl (by show 2 * 0 + _ ≤ _; exact Nat.le_of_eq rfl) (hb hby at_194) (by decide) (by decide) e881 (by decide) (by decide)
      obtain ⟨rfl, N885, rfl⟩ := hQ885
      have S886 : own_Go p e below s₁ G T885 (mkF m 197 #[.val (.int p0), .val (.int p1), .val (.int s1), .val (.int s2), .val (.ref x1), .val (.ref x2), .val (.int (1 : Int32)), .val (.ref xs), .val (.int (Int32.ofNat q))] [(.int ((own_cs K q).getD 0 0))]) := fun tg_ kk_ => S884 tg_ (st885 tg_ kk_)
      have M885 := Fr.app M881 N885
      have S887 : own_Go p e below s₁ G T885 (mkF m 202 #[.val (.int p0), .val (.int p1), .val (.int s1), .val (.int s2), .val (.ref x1), .val (.ref x2), .val (.int (1 : Int32)), .val (.ref xs), .val (.int (Int32.ofNat q))] [(.int (Int32.ofNat q)), (.int s1), (.int (48 : Int32)), (.int ((own_cs K q).getD 0 0))]) := fun tg_ kk_ => S886 tg_ (by
        refine XS.bipush X885.here hx rfl (hb hby at_197) ?_
        show Steps p.tables e below (T885.setTop (mkF m 199 #[.val (.int p0), .val (.int p1), .val (.int s1), .val (.int s2), .val (.ref x1), .val (.ref x2), .val (.int (1 : Int32)), .val (.ref xs), .val (.int (Int32.ofNat q))] [(.int (48 : Int32)), (.int ((own_cs K q).getD 0 0))])) _
        refine XS.iloadN X885.here hx rfl (hb hby at_199) rfl ?_
        show Steps p.tables e below (T885.setTop (mkF m 200 #[.val (.int p0), .val (.int p1), .val (.int s1), .val (.int s2), .val (.ref x1), .val (.ref x2), .val (.int (1 : Int32)), .val (.ref xs), .val (.int (Int32.ofNat q))] [(.int s1), (.int (48 : Int32)), (.int ((own_cs K q).getD 0 0))])) _
        refine XS.iload X885.here hx rfl (hb hby at_200) rfl ?_
        exact kk_)
      obtain ⟨_, T888, h888, L888, X888, e888, hQ888, st888⟩ := own_callS X885 hx hZ (y := (⟨"com/example/provenans/provenans/model/NotationOfPinLaw", "pow10", "(I)I"⟩ : MethodName)) hown (hw _ (List.mem_of_getElem? (i := 292) rfl)) (hw _ (List.mem_of_getElem? (i := 293) rfl)) (hw _ (List.mem_of_getElem? (i := 257) rfl)) (hw _ (List.mem_of_getElem? (i := 294) rfl)) (by decide) 3 (g := (mkF m 202 #[.val (.int p0), .val (.int p1), .val (.int s1), .val (.int s2), .val (.ref x1), .val (.ref x2), .val (.int (1 : Int32)), .val (.ref xs), .val (.int (Int32.ofNat q))] [(.int (Int32.ofNat q)), (.int s1), (.int (48 : Int32)), (.int ((own_cs K q).getD 0 0))])) rfl (by rw [hml]; rfl) [(.int (Int32.ofNat q))] [(.int s1), (.int (48 : Int32)), (.int ((own_cs K q).getD 0 0))] (rm45 l Z a0 hw [] q h868 n0 f872 ⟨hq1, hq2⟩) (lenOf pd4 rfl) rfl (by show 2 * 0 + _ ≤ _; exact Nat.le_of_eq rfl) (hb hby at_202) (by decide) (by decide) e885 (by decide) (by decide)
      obtain ⟨rfl, N888, rfl⟩ := hQ888
      have S889 : own_Go p e below s₁ G T888 (mkF m 205 #[.val (.int p0), .val (.int p1), .val (.int s1), .val (.int s2), .val (.ref x1), .val (.ref x2), .val (.int (1 : Int32)), .val (.ref xs), .val (.int (Int32.ofNat q))] [(.int (Int32.ofNat (10 ^ (q - 1)))), (.int s1), (.int (48 : Int32)), (.int ((own_cs K q).getD 0 0))]) := fun tg_ kk_ => S887 tg_ (st888 tg_ kk_)
      have M888 := Fr.app M885 N888
      have S890 : own_Go p e below s₁ G T888 (mkF m 208 #[.val (.int p0), .val (.int p1), .val (.int s1), .val (.int s2), .val (.ref x1), .val (.ref x2), .val (.int (1 : Int32)), .val (.ref xs), .val (.int (Int32.ofNat q))] [(.int (((48 : Int32) + (s1 / (Int32.ofNat (10 ^ (q - 1))))).toUInt32.toUInt16.toUInt32.toInt32)), (.int ((own_cs K q).getD 0 0))]) := fun tg_ kk_ => S889 tg_ (by
        refine XS.idiv X888.here hx rfl (hb hby at_205) rfl (own_p10ne hq1 hq2) ?_
        show Steps p.tables e below (T888.setTop (mkF m 206 #[.val (.int p0), .val (.int p1), .val (.int s1), .val (.int s2), .val (.ref x1), .val (.ref x2), .val (.int (1 : Int32)), .val (.ref xs), .val (.int (Int32.ofNat q))] [(.int (s1 / (Int32.ofNat (10 ^ (q - 1))))), (.int (48 : Int32)), (.int ((own_cs K q).getD 0 0))])) _
        refine XS.iadd X888.here hx rfl (hb hby at_206) rfl ?_
        show Steps p.tables e below (T888.setTop (mkF m 207 #[.val (.int p0), .val (.int p1), .val (.int s1), .val (.int s2), .val (.ref x1), .val (.ref x2), .val (.int (1 : Int32)), .val (.ref xs), .val (.int (Int32.ofNat q))] [(.int ((48 : Int32) + (s1 / (Int32.ofNat (10 ^ (q - 1)))))), (.int ((own_cs K q).getD 0 0))])) _
        refine XT.i2c X888.here hx rfl (hb hby at_207) rfl ?_
        exact kk_)
      have hf : ((own_cs K q).getD 0 0) = (((48 : Int32) + (s1 / (Int32.ofNat (10 ^ (q - 1))))).toUInt32.toUInt16.toUInt32.toInt32) := by
        rw [own_cs_at (by omega), hsK]; exact (own_first hK2 hq1 hq2 hq3 hq4).symm
      have S891 : own_Go p e below s₁ G T888 (mkF m 214 #[.val (.int p0), .val (.int p1), .val (.int s1), .val (.int s2), .val (.ref x1), .val (.ref x2), .val (.int (1 : Int32)), .val (.ref xs), .val (.int (Int32.ofNat q))] [(.int (1 : Int32))]) := fun tg_ kk_ => S890 tg_ (by
        refine XS.icmpYes X888.here hx rfl (pc0 := 208) (pc' := 213) rfl (hb hby at_208) rfl (XT.ii_eq_t hf) (by decide) (by decide) ?_
        show Steps p.tables e below (T888.setTop (mkF m 213 #[.val (.int p0), .val (.int p1), .val (.int s1), .val (.int s2), .val (.ref x1), .val (.ref x2), .val (.int (1 : Int32)), .val (.ref xs), .val (.int (Int32.ofNat q))] [])) _
        refine XS.iconst X888.here hx rfl (hb hby at_213) ?_
        exact kk_)
      obtain ⟨fs, hr, hrun, hended, hW, hsame⟩ := X888.leave (v := some (.int (1 : Int32))) (fun h => by rw [Bd.returns] at h; cases h)
      refine ⟨_, _, ?_, hrun, hended, _, _, rfl, ?_, ⟨_, rfl⟩, hW, hsame.mono (by decide) (by decide)⟩
      · rw [← hG]; exact S891 _ (retN X888 hx (t := .boolean) Bd.returns (by simp) (hb hby at_214) hr)
      · show Q0 Z p0 p1 h0 n0 _ T888.heap _
        rw [e888]
        exact ⟨rfl, M888⟩
theorem own_not0 {s : State} {a : Array Value} {t : Term} {z : Int32} (ev : t.eval a s none [] s = some (.int z)) (h : (Jvm.Cond.not (Jvm.Cond.eq t (Jvm.Term.int 0))).before a s = true) : ¬ z = 0 :=
  gotF (Cond.eq_ints ev (Term.int_eval 0)) (not_v (Cond.before_iff.mp h))
theorem own_sta {s : State} {a : Array Value} {C n d : String} {k : Int32} (h : (Jvm.Cond.eq (Jvm.Term.static C n d) (Jvm.Term.int k)).before a s = true) (hi : (Jvm.Cond.initializedFor C n d).before a s = true) : Sta s s.heap C n d (.int k) := by
  have hv := Cond.before_iff.mp h
  obtain ⟨x, y, e1, e2, k1, -⟩ := cmp_v (Or.inl hv)
  have e3 := (Term.int_eval (args := a) (first := s) (o := none) (idx := []) (s := s) k).symm.trans e2
  obtain rfl := Option.some.inj e3
  cases x with
  | int z =>
    have q : z = k := gotT (Cond.eq_ints e1 (Term.int_eval k)) hv
    subst q
    exact Sta.start e1 (Or.inl hi)
  | _ => first | (obtain ⟨z, hz⟩ := k1; cases hz) | (exact absurd k1.2 (by decide))
theorem own_foldl {f : Nat → Option Bool} : ∀ (l : List Nat) (acc : Option Bool), l.foldl (fun acc i => match acc with | some true => f i | x => x) acc = some true → acc = some true ∧ ∀ i ∈ l, f i = some true
  | [], acc, h => ⟨h, fun _ q => nomatch q⟩
  | i :: l, acc, h => by
    have q := own_foldl l _ h
    match acc, q with
    | some true, q => exact ⟨rfl, fun j hj => (List.mem_cons.mp hj).elim (fun e => e ▸ q.1) (q.2 j)⟩
    | some false, q => exact absurd q.1 (by simp)
    | none, q => exact absurd q.1 (by simp)
theorem own_all {args : Array Value} {first s : State} {o : Option Outcome} {idx : List Nat} {t : Term} {c : Cond} {a : Addr} {cell : Cell} (h : (Cond.all t c).value args first o s idx = some true) (ht : t.eval args first o idx s = some (.ref a)) (ha : s.arrayAt? a = some cell) : ∀ i, i < cell.slots.size → c.value args first o s (i :: idx) = some true := by
  simp only [Cond.value, ht, ha] at h
  exact fun i hi => (own_foldl _ _ h).2 i (List.mem_range.mpr hi)
theorem own_exa_at {args : Array Value} {Z : State} {t : Term} {C : String} {idx : List Nat} (h : (Cond.exactly t C).value args Z none Z idx = some true) : ∃ a, t.eval args Z none idx Z = some (.ref a) ∧ Exa Z Z.heap a C := by
  obtain ⟨a, c, cell, k, e1, e2, e3, e4, e5, rfl, e7⟩ := Cond.exactly_spec (beq_iff_eq.mpr h : (Cond.exactly t C).holds args Z none Z idx = true)
  exact ⟨a, e1, cell, k, e3, e2, e4, e5, e7⟩
theorem own_arrB {Z : State} {a0 : Array Value} {d : Addr} {D : Cell} (E : Exa Z Z.heap d "[B") (ha : Z.arrayAt? d = some D) (wa : (Cond.arrayClass .byte).before a0 Z = true) : Arr Z Z.heap d D .byte := by
  obtain ⟨h1, h2, h3, k, comp, ty, h4, h5⟩ := State.arrayAt?_spec ha
  obtain ⟨cell, k2, e1, e2, e3, e4, -⟩ := E
  cases h1.symm.trans e1
  obtain ⟨c, k3, comp3, q1, q2, q3⟩ := Cond.arrayClass_spec wa
  have hc : c = D.cls := Option.some.inj (q1.symm.trans e2)
  subst hc
  refine ⟨h1, ⟨?_, k3, q2, comp3, q3⟩, h2⟩
  first | exact h3 | (intro q hq; rw [hq] at h3; cases h3)
theorem own_len {s : State} {a : Array Value} {t : Term} {m0 : Addr} {k : Int32} (ht : t.eval a s none [] s = some (.ref m0)) (h : (Cond.eq (Term.length t) (Term.int k)).value a s none s [] = some true) : ∃ cm, s.arrayAt? m0 = some cm ∧ cm.slots.size < 2 ^ 31 ∧ cm.slots.size.toInt32 = k := by
  obtain ⟨v, w, e1, e2, k1, k2⟩ := cmp_v (Or.inl h)
  obtain ⟨b, cm, q1, q2, q3⟩ := Term.length_spec e1
  cases ht.symm.trans q1
  by_cases hl : cm.slots.size < 2 ^ 31
  · refine ⟨cm, q2, hl, ?_⟩
    have e3 := len_f (args := a) (first := s) (o := none) (idx := []) (s := s) ht q2 hl
    exact gotT (Cond.eq_ints e3 (Term.int_eval k)) h
  · exfalso
    simp [Term.eval, ht, q2, hl] at e1
theorem own_sz {n k : Nat} (h : n < 2 ^ 31) (hk : k < 2 ^ 31) (e : n.toInt32 = Int32.ofNat k) : n = k := by
  have q := congrArg Int32.toInt e
  rw [len_toInt h, Int32.toInt_ofNat_of_lt hk] at q
  exact Int.ofNat.inj q
/-- a digit table's entry -/
theorem own_tab {s : State} {a : Array Value} {t : Term} {f : Term → Term} {d : Addr} {D : Cell} {i : Nat} {v : Int32} (ht : ∀ idx, t.eval a s none idx s = some (.ref d)) (hc : s.heap[d]? = some D) (hi : i < 2 ^ 31) (hv : ∀ x : Int32, x = i.toInt32 → (f (Term.index 0)).eval a s none [i] s = some (.int v)) (h : (Cond.eq (Term.elem t (Term.index 0)) (f (Term.index 0))).value a s none s [i] = some true) : D.slots[i]? = some (.int v) := by
  obtain ⟨x, y, e1, e2, k1, k2⟩ := cmp_v (Or.inl h)
  have e3 := hv _ rfl
  cases e2.symm.trans e3
  have hx : x = .int v := by
    obtain ⟨z, rfl⟩ : ∃ z, x = .int z := k2
    have q := gotT (Cond.eq_ints e1 e3) h
    rw [q]
  subst hx
  have hidx : (Term.index 0).eval a s none [i] s = some (.int i.toInt32) := rfl
  have q := (elem_in e1 (ht [i]) hidx hc).2
  have e4 : i.toInt32.toNatClampNeg = i := by
    rw [Int32.toNatClampNeg, len_toInt hi]; rfl
  rw [e4] at q
  exact q
theorem own_fldi {s : State} {a : Array Value} {idx : List Nat} {t u : Term} {C n d : String} {x : Addr} {k : Int32} (ht : t.eval a s none idx s = some (.ref x)) (hu : u.eval a s none idx s = some (.int k)) (h : (Cond.eq (Term.field t C n d) u).value a s none s idx = some true) : Fld s s.heap x C n d (.int k) := by
  obtain ⟨v, w, e1, e2, k1, k2⟩ := cmp_v (Or.inl h)
  cases e2.symm.trans hu
  have hx : v = .int k := by
    obtain ⟨z, rfl⟩ : ∃ z, v = .int z := k2
    have q := gotT (Cond.eq_ints e1 hu) h
    rw [q]
  subst hx
  exact Fld.start ((fld_at ht).symm.trans e1)
theorem own_subf {s : State} {args : Array Value} {idx : List Nat} {a b : Term} {x y : Int32} (ha : a.eval args s none idx s = some (.int x)) (hb : b.eval args s none idx s = some (.int y)) : (Term.sub a b).eval args s none idx s = some (.int (x - y)) := by simp [Term.eval, ha, hb]
theorem own_cache {s : State} {a : Array Value} {t : Term} {ca : Addr} {cc : Cell} (ht : ∀ idx, t.eval a s none idx s = some (.ref ca)) (ha : s.arrayAt? ca = some cc) (hs : cc.slots.size = 256)
    (h : (Cond.all t (Cond.and (Cond.exactly (Term.elem t (Term.index 0)) "java/lang/Integer") (Cond.eq (Term.field (Term.elem t (Term.index 0)) "java/lang/Integer" "value" "I") (Term.sub (Term.index 0) (Term.int 128))))).value a s none s [] = some true) :
    ∀ x : Int32, ¬ x < 1 → ¬ (127 : Int32) < x → ∃ y, cc.slots[(x + 128).toNatClampNeg]? = some (.ref y) ∧ Exa s s.heap y "java/lang/Integer" ∧ Fld s s.heap y "java/lang/Integer" "value" "I" (.int x) := by
  intro x h1 h2
  rw [Int32.lt_iff_toInt_lt] at h1 h2
  have e1 : (1 : Int32).toInt = 1 := rfl
  have e2 : (127 : Int32).toInt = 127 := rfl
  have e3 : (128 : Int32).toInt = 128 := rfl
  have q := c_iadd x 128
  have r := rng32 (x + 128)
  have hi : (x + 128).toNatClampNeg < 256 := by rw [Int32.toNatClampNeg]; omega
  have hI : (x + 128).toNatClampNeg.toInt32 = x + 128 := by
    refine Int32.toInt_inj.mp ?_
    rw [len_toInt (by omega), Int32.toNatClampNeg]; omega
  have w := own_all h (ht []) ha (x + 128).toNatClampNeg (by omega)
  obtain ⟨w1, w2⟩ := and_e w
  obtain ⟨y, ey, Ey⟩ := own_exa_at w1
  have hidx : (Term.index 0).eval a s none [(x + 128).toNatClampNeg] s = some (.int (x + 128)) := by
    show some (Value.int (x + 128).toNatClampNeg.toInt32) = _
    rw [hI]
  have g := (elem_in ey (ht _) hidx (State.arrayAt?_spec ha).1).2
  have hsub : (Term.sub (Term.index 0) (Term.int 128)).eval a s none [(x + 128).toNatClampNeg] s = some (.int x) := by
    have z : x + 128 - 128 = x := by
      refine Int32.toInt_inj.mp ?_
      have q2 := c_isub (x + 128) 128
      have r2 := rng32 (x + 128 - 128)
      have r3 := rng32 x
      omega
    rw [own_subf hidx (Term.int_eval 128), z]
  exact ⟨y, g, Ey, own_fldi ey hsub w2⟩
theorem own_d1 {i : Nat} (h : i < 100) : (48 : Int32) + i.toInt32 % 10 = Int32.ofNat (48 + i % 10) := by
  have q : ∀ j : Fin 100, (48 : Int32) + j.1.toInt32 % 10 = Int32.ofNat (48 + j.1 % 10) := by decide +kernel
  exact q ⟨i, h⟩
theorem own_d2 {i : Nat} (h : i < 100) : (48 : Int32) + i.toInt32 / 10 = Int32.ofNat (48 + i / 10) := by
  have q : ∀ j : Fin 100, (48 : Int32) + j.1.toInt32 / 10 = Int32.ofNat (48 + j.1 / 10) := by decide +kernel
  exact q ⟨i, h⟩
theorem own_ones {s : State} {a : Array Value} {t : Term} {d : Addr} {D : Cell} (ht : ∀ idx, t.eval a s none idx s = some (.ref d)) (ha : s.arrayAt? d = some D) (hs : D.slots.size = 100)
    (h : (Cond.all t (Cond.eq (Term.elem t (Term.index 0)) (Term.add (Term.int 48) (Term.rem (Term.index 0) (Term.int 10))))).value a s none s [] = some true) : ∀ i, i < 100 → D.slots[i]? = some (.int (Int32.ofNat (48 + i % 10))) := fun i hi =>
  own_tab (f := fun ix => Term.add (Term.int 48) (Term.rem ix (Term.int 10))) ht (State.arrayAt?_spec ha).1 (by omega) (fun x hx => by rw [← own_d1 hi]; simp [Term.eval]) (own_all h (ht []) ha i (by omega))
theorem own_tens {s : State} {a : Array Value} {t : Term} {d : Addr} {D : Cell} (ht : ∀ idx, t.eval a s none idx s = some (.ref d)) (ha : s.arrayAt? d = some D) (hs : D.slots.size = 100)
    (h : (Cond.all t (Cond.eq (Term.elem t (Term.index 0)) (Term.add (Term.int 48) (Term.div (Term.index 0) (Term.int 10))))).value a s none s [] = some true) : ∀ i, i < 100 → D.slots[i]? = some (.int (Int32.ofNat (48 + i / 10))) := fun i hi =>
  own_tab (f := fun ix => Term.add (Term.int 48) (Term.div ix (Term.int 10))) ht (State.arrayAt?_spec ha).1 (by omega) (fun x hx => by rw [← own_d2 hi]; simp [Term.eval]) (own_all h (ht []) ha i (by omega))

set_option maxRecDepth 65536 in
set_option maxHeartbeats 40000000 in
theorem comes_1 {Post : Tables → Env → Array Value → State → Outcome → State → Prop} (hpost : ∀ tb e args s v u, (limb_1_1.after args s (.returned v) u = true ∧ limb_1_2.after args s (.returned v) u = true ∧ True) → FrameEnd s (.returned v) u (Jvm.fieldLocs frame_1_writes args s ++ Jvm.arrayLocs frame_1_arrays args s ++ Jvm.staticLocs frame_1_statics s) 32 128 → Post tb e args s (.returned v) u) :
    ArmFor flags0 classFile x code maxLocals ret World_1 tables_1 room_1 Calls_1 rest_1 Pre_1 Post := by
  intro l hfl _ _ p e ha hc hk s m args below hf hA hF happ hP
  obtain ⟨hcalls, hrest, hpre⟩ := hP
  obtain ⟨-, -, -, hnamed, -, -, -, hat⟩ := (Spec.applies_iff hf).mp happ
  obtain ⟨hg, hn⟩ := and_e (Cond.before_iff.mp (show (Jvm.Cond.and given_1 narrow_1).before args s = true from hpre))
  obtain ⟨gc, gg0⟩ := and_e hg
  obtain ⟨ga0, gg1⟩ := and_e gg0
  have ga1 := gg1
  obtain ⟨w0, w1, rfl⟩ : ∃ w0 w1 : Value, args = #[w0, w1] := by
    have hs : args.size = 2 := by simpa [Cond.value, given_1] using gc
    obtain ⟨L⟩ := args
    match L, hs with
    | [w0, w1], _ => exact ⟨w0, w1, rfl⟩
  have hw := fun d (hd : d ∈ tables_1) => atoms_spec (ws := Jvm.Cond.code x code maxLocals ret :: tables_1) hat d (List.mem_cons_of_mem _ hd)
  have hfit : Fit s := fun {y c} hc i hi => by
    obtain ⟨ha, rfl⟩ := Array.getElem?_eq_some_iff.mp hc
    have q := List.all_eq_true.mp ((Array.all_eq_true_iff_forall_mem.mp hF) _ (Array.getElem_mem ha)) i (List.mem_range.mpr hi)
    simpa [Array.getElem?_eq_getElem hi] using q
  obtain ⟨i0, ei0⟩ := is_v ga0
  obtain rfl : w0 = (.int i0) := Option.some.inj ei0
  obtain ⟨i1, ei1⟩ := is_v ga1
  obtain rfl : w1 = (.int i1) := Option.some.inj ei1
  have hsets := (atoms_of _ (rest_1_c_eq ▸ (show rest_1_c.before _ s = true from hrest))).1
  obtain ⟨nU, r0⟩ := and_e hn
  obtain ⟨oU, r1⟩ := and_e r0
  obtain ⟨nT, r2⟩ := and_e r1
  obtain ⟨oT, r3⟩ := and_e r2
  obtain ⟨nG, r4⟩ := and_e r3
  have oG := r4
  obtain ⟨uU, eU⟩ := exa_v nU
  have EU := Exa.start eU nU
  have SU := Sta.start eU (Or.inr ⟨(hw _ (List.mem_of_getElem? (i := 64) rfl)), (hw _ (List.mem_of_getElem? (i := 65) rfl))⟩)
  have FU := own_fldi eU (Term.int_eval 0) oU
  obtain ⟨uT, eT⟩ := exa_v nT
  have ET := Exa.start eT nT
  have ST := Sta.start eT (Or.inr ⟨(hw _ (List.mem_of_getElem? (i := 64) rfl)), (hw _ (List.mem_of_getElem? (i := 111) rfl))⟩)
  have FT := own_fldi eT (Term.int_eval 2) oT
  obtain ⟨uG, eG⟩ := exa_v nG
  have EG := Exa.start eG nG
  have SG := Sta.start eG (Or.inr ⟨(hw _ (List.mem_of_getElem? (i := 64) rfl)), (hw _ (List.mem_of_getElem? (i := 113) rfl))⟩)
  have FG := own_fldi eG (Term.int_eval 1) oG
  have hrt : uU ≠ uT := Fld.ne FU FT (by decide)
  have hrg : uU ≠ uG := Fld.ne FU FG (by decide)
  obtain ⟨em, eem⟩ := exa_v (Cond.before_iff.mp (hsets _ (List.mem_of_getElem? (i := 10) rfl)))
  have SE := Sta.start eem (Or.inl (hsets _ (List.mem_of_getElem? (i := 9) rfl)))
  have SH := own_sta (hsets _ (List.mem_of_getElem? (i := 3) rfl)) (hsets _ (List.mem_of_getElem? (i := 1) rfl))
  obtain ⟨ca, eca⟩ := arr_v (Cond.before_iff.mp (hsets _ (List.mem_of_getElem? (i := 4) rfl)))
  have SC := Sta.start eca (Or.inr ⟨(hw _ (List.mem_of_getElem? (i := 19) rfl)), (hsets _ (List.mem_of_getElem? (i := 2) rfl))⟩)
  obtain ⟨cc, hca, hc1, hc2⟩ := own_len eca (Cond.before_iff.mp (hsets _ (List.mem_of_getElem? (i := 6) rfl)))
  have CS := own_sz (k := 256) hc1 (by decide) hc2
  obtain ⟨cc2, AC2⟩ := Arr.start eca (Cond.before_iff.mp (hsets _ (List.mem_of_getElem? (i := 4) rfl)))
  obtain rfl : cc2 = cc := Option.some.inj (AC2.1.symm.trans (State.arrayAt?_spec hca).1)
  have HC := own_cache (fun _ => eca) hca CS (Cond.before_iff.mp (hsets _ (List.mem_of_getElem? (i := 7) rfl)))
  obtain ⟨zc, ezc⟩ := is_v (Cond.before_iff.mp (hsets _ (List.mem_of_getElem? (i := 18) rfl)))
  have hzc : ¬ zc = 0 := own_not0 ezc (hsets _ (List.mem_of_getElem? (i := 19) rfl))
  have Ocs := Sta.start ezc (Or.inl (hsets _ (List.mem_of_getElem? (i := 17) rfl)))
  obtain ⟨fm, efm, rfm⟩ := isR_v (Cond.before_iff.mp (hsets _ (List.mem_of_getElem? (i := 25) rfl)))
  have Sfm := Sta.start efm (Or.inl (hsets _ (List.mem_of_getElem? (i := 24) rfl)))
  obtain ⟨dO, edO⟩ := exa_v (Cond.before_iff.mp (hsets _ (List.mem_of_getElem? (i := 29) rfl)))
  have SdO := Sta.start edO (Or.inl (hsets _ (List.mem_of_getElem? (i := 28) rfl)))
  have EdO := Exa.start edO (Cond.before_iff.mp (hsets _ (List.mem_of_getElem? (i := 29) rfl)))
  obtain ⟨DO, hdO, hlO, hkO⟩ := own_len edO (Cond.before_iff.mp (hsets _ (List.mem_of_getElem? (i := 30) rfl)))
  have SzO := own_sz (k := 100) hlO (by decide) hkO
  have AO := own_arrB EdO hdO (hw _ (List.mem_of_getElem? (i := 239) rfl))
  have HO := own_ones (fun _ => edO) hdO SzO (Cond.before_iff.mp (hsets _ (List.mem_of_getElem? (i := 31) rfl)))
  obtain ⟨dT, edT⟩ := exa_v (Cond.before_iff.mp (hsets _ (List.mem_of_getElem? (i := 34) rfl)))
  have SdT := Sta.start edT (Or.inl (hsets _ (List.mem_of_getElem? (i := 33) rfl)))
  have EdT := Exa.start edT (Cond.before_iff.mp (hsets _ (List.mem_of_getElem? (i := 34) rfl)))
  obtain ⟨DT, hdT, hlT, hkT⟩ := own_len edT (Cond.before_iff.mp (hsets _ (List.mem_of_getElem? (i := 35) rfl)))
  have SzT := own_sz (k := 100) hlT (by decide) hkT
  have AT := own_arrB EdT hdT (hw _ (List.mem_of_getElem? (i := 239) rfl))
  have HT := own_tens (fun _ => edT) hdT SzT (Cond.before_iff.mp (hsets _ (List.mem_of_getElem? (i := 36) rfl)))
  obtain ⟨cL, kk, mm, m1, m2, m3w⟩ := hcalls.1
  have m3 : kk.mirror = some mm := by first | exact m3w | exact m3w.1
  obtain ⟨n, o, h1, h2, h3, _, L, rfl, ⟨rfl, N⟩, hq⟩ := rm0 l s _ hw tables_1 i0 i1 s.heap s.heap.size (Nat.le_refl _) uU em (Old.start s) SE SU EU FU uT uG ST SG hrt hrg cL kk mm m1 m2 m3 ca _ SH SC AC2 CS HC zc Ocs hzc dO dT DO DT SdO SdT AO AT SzO SzT HO HT fm rfm Sfm p e ha hc hk s m _ below hf ((Spec.applies_iff_loose hf).mp happ).1 ⟨rfl, State.Warmed39.refl s, rfl⟩ trivial
  refine ⟨n, _, h1, h2, h3, hpost _ _ _ _ _ _ ⟨Cond.after_iff.mpr rfl, Cond.after_iff.mpr (eq_i res_at (Term.int_eval (1)) rfl), trivial⟩ ⟨hq.1, hq.2.1, (hq.2.2.sift fun y hy => Or.inr (N y hy)).mono (by decide) (by decide)⟩⟩
theorem main_1_1 : Claimed_1_1 := comes_1 fun _ _ _ _ _ _ h hF => ⟨h.1, hF⟩
theorem main_1_2 : Claimed_1_2 := comes_1 fun _ _ _ _ _ _ h hF => ⟨h.2.1, hF⟩
end Jvm.Pilot.@@N@@
namespace Jvm.Pilot.@@N@@
open Jvm Jvm.ClassFile Sem Op Lib Jvm.Free Jvm.Stand Jvm.Pilot.@@N@@.Jvm.D
/-! MADE BY PROGRAM (witnessworld.py) out of the Statement's table words and the real class files: 38 classes; the members and pool entries that the words name. The judged class is class 1, her method 3. -/
namespace start1
open Jvm.ClassFile
def u (s : String) : CpInfo := .utf8 (stringToUtf16 s)
/-- a pool by its gaps: so many unusable entries, then the entry; so many at the end -/
def gap : Nat → List CpInfo → List CpInfo
  | 0, r => r
  | n + 1, r => .unusable :: gap n r
def poolList (es : List (Nat × CpInfo)) (last : Nat) : List CpInfo := es.foldr (fun e r => gap e.1 (e.2 :: r)) (gap last [])
def pool (es : List (Nat × CpInfo)) (last : Nat) : Array CpInfo := ⟨poolList es last⟩
def fileOf (pool : Array CpInfo) (this : Nat) (attrs : Array Attribute := #[]) (ms : Array MethodInfo := #[]) (fl : Nat := 33) (sup : Nat := 0) (ifs : Array Nat := #[]) (fds : Array FieldInfo := #[]) : ClassFile where
  minorVersion := 0
  majorVersion := 65
  constantPool := pool
  accessFlags := fl
  thisClass := this
  superClass := sup
  interfaces := ifs
  fields := fds
  methods := ms
  attributes := attrs
def plain (name : String) (sup : Option ClassId) : Class where
  name := name
  kind := .ordinary
  loader := none
  accessFlags := 33
  super := sup
  interfaces := #[]
  cf := none
  fields := #[]
  methods := #[]
  instanceTypes := #[]
  staticTypes := #[]
  resolved := #[]
  callSites := []
  init := .initialized
  statics := none
  mirror := none

def pool0 : Array CpInfo := pool [(5, u "<init>"), (0, u "()V"), (1, .class_ 10), (1, u "java/lang/Object"), (0, u "getClass"), (0, u "()Ljava/lang/Class;"), (5, u "()Ljava/lang/String;"), (18, u "toString"), (54, u "equals"), (0, u "(Ljava/lang/Object;)Z")] 30

def k0c0 : Code := { maxStack := 0, maxLocals := 1, code := object_method_1_code, exceptionTable := #[], attributes := #[] }
def k0m0 : Method := { name := "<init>", desc := "()V", sig := { parameters := [], returnType := none }, accessFlags := 1, code := some k0c0 }
def k0m1 : Method := { name := "getClass", desc := "()Ljava/lang/Class;", sig := { parameters := [], returnType := some (.object "java/lang/Class") }, accessFlags := 273, code := none }
def k0m2 : Method := { name := "equals", desc := "(Ljava/lang/Object;)Z", sig := { parameters := [(.object "java/lang/Object")], returnType := some .boolean }, accessFlags := 1, code := none }
def k0m3 : Method := { name := "toString", desc := "()Ljava/lang/String;", sig := { parameters := [], returnType := some (.object "java/lang/String") }, accessFlags := 1, code := none }
/-- java/lang/Object -/
def k0 : Class := { plain "java/lang/Object" none with
  accessFlags := 33
  interfaces := #[]
  cf := some (fileOf pool0 8 #[] #[{ accessFlags := 1, nameIndex := 5, descriptorIndex := 6, attributes := #[] }, { accessFlags := 273, nameIndex := 11, descriptorIndex := 12, attributes := #[] }, { accessFlags := 1, nameIndex := 92, descriptorIndex := 93, attributes := #[] }, { accessFlags := 1, nameIndex := 37, descriptorIndex := 18, attributes := #[] }] 33 0 #[] #[])
  fields := #[]
  methods := #[k0m0, k0m1, k0m2, k0m3]
  instanceTypes := #[]
  staticTypes := #[]
  resolved := Array.replicate 124 none
  statics := none }

def pool1 : Array CpInfo := pool [(2, .class_ 4), (1, u "java/lang/Object"), (0, u "<init>"), (0, u "()V"), (0, .integer 100000), (0, .integer 1000000), (0, .integer 10000000), (0, .integer 100000000), (0, .integer 1000000000), (0, .integer 2147483647), (0, .methodref 14 15), (0, .class_ 16), (0, .nameAndType 17 18), (0, u "java/lang/Math"), (0, u "max"), (0, u "(II)I"), (0, .methodref 20 21), (0, .class_ 22), (0, .nameAndType 23 24), (0, u "com/example/provenans/provenans/model/Notation"), (0, u "of"), (0, u "(I)Lcom/example/provenans/provenans/model/Notation;"), (0, .methodref 20 26), (0, .nameAndType 27 28), (0, u "level"), (0, u "()Lcom/example/provenans/provenans/model/Notation$Level;"), (0, .fieldref 30 31), (0, .class_ 32), (0, .nameAndType 33 34), (0, u "com/example/provenans/provenans/model/Notation$Level"), (0, u "UNIT"), (0, u "Lcom/example/provenans/provenans/model/Notation$Level;"), (0, .methodref 20 36), (0, .nameAndType 37 38), (0, u "depth"), (0, u "()I"), (0, .methodref 20 40), (0, .nameAndType 41 42), (0, u "above"), (0, u "()Lcom/example/provenans/provenans/model/Notation;"), (0, .methodref 20 44), (0, .nameAndType 45 46), (0, u "equals"), (0, u "(Ljava/lang/Object;)Z"), (0, .methodref 20 48), (0, .nameAndType 49 50), (0, u "compareTo"), (0, u "(Lcom/example/provenans/provenans/model/Notation;)I"), (0, .methodref 20 52), (0, .nameAndType 53 54), (0, u "step"), (0, u "()Ljava/lang/String;"), (0, .methodref 56 57), (0, .class_ 58), (0, .nameAndType 59 60), (0, u "com/example/provenans/provenans/model/NotationOfPinLaw"), (0, u "digits"), (0, u "(I)I"), (0, .methodref 62 63), (0, .class_ 64), (0, .nameAndType 65 38), (0, u "java/lang/String"), (0, u "length"), (0, .methodref 62 67), (0, .nameAndType 68 69), (0, u "charAt"), (0, u "(I)C"), (0, .methodref 56 71), (0, .nameAndType 72 60), (0, u "pow10"), (3, u "law"), (0, u "(II)Z")] 4

def k1m0 : Method := { name := "<init>", desc := "()V", sig := { parameters := [], returnType := none }, accessFlags := 1, code := none }
def k1c1 : Code := { maxStack := 2, maxLocals := 1, code := method_2_code, exceptionTable := #[], attributes := #[] }
def k1m1 : Method := { name := "digits", desc := "(I)I", sig := { parameters := [.int], returnType := some .int }, accessFlags := 10, code := some k1c1 }
def k1c2 : Code := { maxStack := 2, maxLocals := 1, code := method_3_code, exceptionTable := #[], attributes := #[] }
def k1m2 : Method := { name := "pow10", desc := "(I)I", sig := { parameters := [.int], returnType := some .int }, accessFlags := 10, code := some k1c2 }
def k1c3 : Code := { maxStack := 4, maxLocals := 9, code := code, exceptionTable := #[], attributes := #[] }
def k1m3 : Method := { name := "law", desc := "(II)Z", sig := { parameters := [.int, .int], returnType := some .boolean }, accessFlags := 9, code := some k1c3 }
/-- com/example/provenans/provenans/model/NotationOfPinLaw -/
def k1 : Class := { plain "com/example/provenans/provenans/model/NotationOfPinLaw" (some 0) with
  accessFlags := 49
  interfaces := #[]
  cf := some (fileOf pool1 56 #[] #[{ accessFlags := 1, nameIndex := 5, descriptorIndex := 6, attributes := #[] }, { accessFlags := 10, nameIndex := 59, descriptorIndex := 60, attributes := #[] }, { accessFlags := 10, nameIndex := 72, descriptorIndex := 60, attributes := #[] }, { accessFlags := 9, nameIndex := 76, descriptorIndex := 77, attributes := #[] }] 49 2 #[] #[])
  fields := #[]
  methods := #[k1m0, k1m1, k1m2, k1m3]
  instanceTypes := #[]
  staticTypes := #[]
  resolved := Array.replicate 82 none
  statics := none }

def pool2 : Array CpInfo := pool [(1, .class_ 2), (0, u "java/lang/Math"), (1, .class_ 6), (1, u "java/lang/Object"), (0, u "<init>"), (0, u "()V"), (89, .class_ 100), (1, u "java/lang/Math$RandomNumberGeneratorHolder"), (71, u "negativeZeroFloatBits"), (0, u "J"), (2, u "negativeZeroDoubleBits"), (21, u "max"), (2, u "min"), (43, u "$assertionsDisabled"), (0, u "Z"), (88, u "(II)I"), (2, u "twoToTheDoubleScaleDown"), (0, u "D"), (4, u "twoToTheDoubleScaleUp"), (9, u "E"), (3, u "PI"), (2, u "TAU"), (2, u "DEGREES_TO_RADIANS"), (0, u "RADIANS_TO_DEGREES")] 94

def k2m0 : Method := { name := "<init>", desc := "()V", sig := { parameters := [], returnType := none }, accessFlags := 2, code := none }
def k2c1 : Code := { maxStack := 2, maxLocals := 2, code := jdk_29_method_65_code, exceptionTable := #[], attributes := #[] }
def k2m1 : Method := { name := "max", desc := "(II)I", sig := { parameters := [.int, .int], returnType := some .int }, accessFlags := 9, code := some k2c1 }
def k2c2 : Code := { maxStack := 2, maxLocals := 2, code := jdk_29_method_69_code, exceptionTable := #[], attributes := #[] }
def k2m2 : Method := { name := "min", desc := "(II)I", sig := { parameters := [.int, .int], returnType := some .int }, accessFlags := 9, code := some k2c2 }
/-- java/lang/Math -/
def k2 : Class := { plain "java/lang/Math" (some 0) with
  accessFlags := 49
  interfaces := #[]
  cf := some (fileOf pool2 1 #[.nestMembers #[98]] #[{ accessFlags := 2, nameIndex := 7, descriptorIndex := 8, attributes := #[] }, { accessFlags := 9, nameIndex := 198, descriptorIndex := 335, attributes := #[] }, { accessFlags := 9, nameIndex := 201, descriptorIndex := 335, attributes := #[] }] 49 4 #[] #[{ accessFlags := 25, nameIndex := 354, descriptorIndex := 339, attributes := #[] }, { accessFlags := 25, nameIndex := 358, descriptorIndex := 339, attributes := #[] }, { accessFlags := 25, nameIndex := 361, descriptorIndex := 339, attributes := #[] }, { accessFlags := 26, nameIndex := 364, descriptorIndex := 339, attributes := #[] }, { accessFlags := 26, nameIndex := 365, descriptorIndex := 339, attributes := #[] }, { accessFlags := 26, nameIndex := 172, descriptorIndex := 173, attributes := #[] }, { accessFlags := 26, nameIndex := 176, descriptorIndex := 173, attributes := #[] }, { accessFlags := 8, nameIndex := 344, descriptorIndex := 339, attributes := #[] }, { accessFlags := 8, nameIndex := 338, descriptorIndex := 339, attributes := #[] }, { accessFlags := 4120, nameIndex := 245, descriptorIndex := 246, attributes := #[] }])
  fields := #[{ name := "E", type := .double, accessFlags := 25, slot := 0, constantValue := 0 }, { name := "PI", type := .double, accessFlags := 25, slot := 1, constantValue := 0 }, { name := "TAU", type := .double, accessFlags := 25, slot := 2, constantValue := 0 }, { name := "DEGREES_TO_RADIANS", type := .double, accessFlags := 26, slot := 3, constantValue := 0 }, { name := "RADIANS_TO_DEGREES", type := .double, accessFlags := 26, slot := 4, constantValue := 0 }, { name := "negativeZeroFloatBits", type := .long, accessFlags := 26, slot := 5, constantValue := 0 }, { name := "negativeZeroDoubleBits", type := .long, accessFlags := 26, slot := 6, constantValue := 0 }, { name := "twoToTheDoubleScaleUp", type := .double, accessFlags := 8, slot := 7, constantValue := 0 }, { name := "twoToTheDoubleScaleDown", type := .double, accessFlags := 8, slot := 8, constantValue := 0 }, { name := "$assertionsDisabled", type := .boolean, accessFlags := 4120, slot := 9, constantValue := 0 }]
  methods := #[k2m0, k2m1, k2m2]
  instanceTypes := #[]
  staticTypes := #[.double, .double, .double, .double, .double, .long, .long, .double, .double, .boolean]
  resolved := Array.replicate 460 none
  statics := none }

def pool3 : Array CpInfo := pool [(1, .class_ 2), (0, u "java/lang/Comparable"), (0, .class_ 4), (0, u "java/lang/Object")] 7

/-- java/lang/Comparable -/
def k3 : Class := { plain "java/lang/Comparable" (some 0) with
  accessFlags := 1537
  interfaces := #[]
  cf := some (fileOf pool3 1 #[] #[] 1537 3 #[] #[])
  fields := #[]
  methods := #[]
  instanceTypes := #[]
  staticTypes := #[]
  resolved := Array.replicate 12 none
  statics := none }

def pool4 : Array CpInfo := pool [(1, .methodref 2 3), (0, .class_ 4), (0, .nameAndType 5 6), (0, u "java/lang/Object"), (0, u "<init>"), (0, u "()V"), (0, .fieldref 8 9), (0, .class_ 10), (0, .nameAndType 11 12), (0, u "com/example/provenans/provenans/model/Notation"), (0, u "steps"), (0, u "Ljava/util/List;"), (0, .fieldref 8 14), (0, .nameAndType 15 16), (0, u "level"), (0, u "Lcom/example/provenans/provenans/model/Notation$Level;"), (0, .fieldref 8 18), (0, .nameAndType 19 20), (0, u "recordType"), (0, u "I"), (0, .methodref 8 22), (0, .nameAndType 23 24), (0, u "positive"), (0, u "(I)I"), (0, .methodref 26 27), (0, .class_ 28), (0, .nameAndType 29 30), (0, u "java/lang/Integer"), (0, u "valueOf"), (0, u "(I)Ljava/lang/Integer;"), (0, .interfaceMethodref 32 33), (0, .class_ 34), (0, .nameAndType 35 36), (0, u "java/util/List"), (0, u "of"), (0, u "(Ljava/lang/Object;)Ljava/util/List;"), (0, .fieldref 38 39), (0, .class_ 40), (0, .nameAndType 41 16), (0, u "com/example/provenans/provenans/model/Notation$Level"), (0, u "UNIT"), (0, .methodref 8 43), (0, .nameAndType 5 44), (0, u "(Ljava/util/List;Lcom/example/provenans/provenans/model/Notation$Level;I)V"), (12, u "(Ljava/lang/Object;)Z"), (4, .fieldref 38 63), (0, .nameAndType 64 16), (0, u "RECORD_GROUP"), (0, .fieldref 38 66), (0, .nameAndType 67 16), (0, u "RECORD_TYPE"), (0, .interfaceMethodref 32 69), (0, .nameAndType 70 71), (0, u "size"), (0, u "()I"), (4, .methodref 38 77), (0, .nameAndType 78 71), (0, u "ordinal"), (5, .interfaceMethodref 32 85), (0, .nameAndType 86 87), (0, u "get"), (0, u "(I)Ljava/lang/Object;"), (0, .methodref 89 90), (0, .class_ 91), (0, .nameAndType 29 92), (0, u "java/lang/String"), (0, u "(Ljava/lang/Object;)Ljava/lang/String;"), (11, u "()Ljava/lang/String;"), (24, .methodref 130 131), (0, .class_ 132), (0, .nameAndType 133 134), (0, u "java/lang/Math"), (0, u "min"), (0, u "(II)I"), (0, .methodref 26 136), (0, .nameAndType 137 71), (0, u "intValue"), (0, .methodref 26 139), (0, .nameAndType 140 134), (0, u "compare"), (0, .methodref 38 142), (0, .nameAndType 143 144), (0, u "compareTo"), (0, u "(Ljava/lang/Enum;)I"), (0, .interfaceMethodref 32 146), (0, .nameAndType 147 57), (0, u "equals"), (40, u "(Lcom/example/provenans/provenans/model/Notation;)I"), (0, .class_ 190), (0, u "java/lang/Comparable"), (0, u "Ljava/lang/String;"), (8, u "(I)Lcom/example/provenans/provenans/model/Notation;"), (2, u "()Lcom/example/provenans/provenans/model/Notation;"), (0, u "above"), (1, u "()Lcom/example/provenans/provenans/model/Notation$Level;"), (0, u "depth"), (0, u "step")] 44

def k4c0 : Code := { maxStack := 2, maxLocals := 4, code := prog_57_method_1_code, exceptionTable := #[], attributes := #[] }
def k4m0 : Method := { name := "<init>", desc := "(Ljava/util/List;Lcom/example/provenans/provenans/model/Notation$Level;I)V", sig := { parameters := [(.object "java/util/List"), (.object "com/example/provenans/provenans/model/Notation$Level"), .int], returnType := none }, accessFlags := 2, code := some k4c0 }
def k4c1 : Code := { maxStack := 5, maxLocals := 1, code := prog_57_method_2_code, exceptionTable := #[], attributes := #[] }
def k4m1 : Method := { name := "of", desc := "(I)Lcom/example/provenans/provenans/model/Notation;", sig := { parameters := [.int], returnType := some (.object "com/example/provenans/provenans/model/Notation") }, accessFlags := 9, code := some k4c1 }
def k4c2 : Code := { maxStack := 6, maxLocals := 2, code := prog_57_method_6_code, exceptionTable := #[], attributes := #[] }
def k4m2 : Method := { name := "above", desc := "()Lcom/example/provenans/provenans/model/Notation;", sig := { parameters := [], returnType := some (.object "com/example/provenans/provenans/model/Notation") }, accessFlags := 1, code := some k4c2 }
def k4c3 : Code := { maxStack := 1, maxLocals := 1, code := prog_57_method_7_code, exceptionTable := #[], attributes := #[] }
def k4m3 : Method := { name := "level", desc := "()Lcom/example/provenans/provenans/model/Notation$Level;", sig := { parameters := [], returnType := some (.object "com/example/provenans/provenans/model/Notation$Level") }, accessFlags := 1, code := some k4c3 }
def k4c4 : Code := { maxStack := 2, maxLocals := 1, code := prog_57_method_8_code, exceptionTable := #[], attributes := #[] }
def k4m4 : Method := { name := "depth", desc := "()I", sig := { parameters := [], returnType := some .int }, accessFlags := 1, code := some k4c4 }
def k4c5 : Code := { maxStack := 4, maxLocals := 1, code := prog_57_method_9_code, exceptionTable := #[], attributes := #[] }
def k4m5 : Method := { name := "step", desc := "()Ljava/lang/String;", sig := { parameters := [], returnType := some (.object "java/lang/String") }, accessFlags := 1, code := some k4c5 }
def k4c6 : Code := { maxStack := 3, maxLocals := 1, code := prog_57_method_11_code, exceptionTable := #[], attributes := #[] }
def k4m6 : Method := { name := "positive", desc := "(I)I", sig := { parameters := [.int], returnType := some .int }, accessFlags := 10, code := some k4c6 }
def k4c7 : Code := { maxStack := 3, maxLocals := 5, code := prog_57_method_12_code, exceptionTable := #[], attributes := #[] }
def k4m7 : Method := { name := "compareTo", desc := "(Lcom/example/provenans/provenans/model/Notation;)I", sig := { parameters := [(.object "com/example/provenans/provenans/model/Notation")], returnType := some .int }, accessFlags := 1, code := some k4c7 }
def k4c8 : Code := { maxStack := 2, maxLocals := 3, code := prog_57_method_13_code, exceptionTable := #[], attributes := #[] }
def k4m8 : Method := { name := "equals", desc := "(Ljava/lang/Object;)Z", sig := { parameters := [(.object "java/lang/Object")], returnType := some .boolean }, accessFlags := 1, code := some k4c8 }
/-- com/example/provenans/provenans/model/Notation -/
def k4 : Class := { plain "com/example/provenans/provenans/model/Notation" (some 0) with
  accessFlags := 49
  interfaces := #[3]
  cf := some (fileOf pool4 8 #[.nestMembers #[38]] #[{ accessFlags := 2, nameIndex := 5, descriptorIndex := 44, attributes := #[] }, { accessFlags := 9, nameIndex := 35, descriptorIndex := 200, attributes := #[] }, { accessFlags := 1, nameIndex := 204, descriptorIndex := 203, attributes := #[] }, { accessFlags := 1, nameIndex := 15, descriptorIndex := 206, attributes := #[] }, { accessFlags := 1, nameIndex := 207, descriptorIndex := 71, attributes := #[] }, { accessFlags := 1, nameIndex := 208, descriptorIndex := 104, attributes := #[] }, { accessFlags := 10, nameIndex := 23, descriptorIndex := 24, attributes := #[] }, { accessFlags := 1, nameIndex := 143, descriptorIndex := 188, attributes := #[] }, { accessFlags := 1, nameIndex := 147, descriptorIndex := 57, attributes := #[] }] 49 2 #[189] #[{ accessFlags := 26, nameIndex := 64, descriptorIndex := 191, attributes := #[] }, { accessFlags := 26, nameIndex := 67, descriptorIndex := 191, attributes := #[] }, { accessFlags := 18, nameIndex := 11, descriptorIndex := 12, attributes := #[] }, { accessFlags := 18, nameIndex := 15, descriptorIndex := 16, attributes := #[] }, { accessFlags := 18, nameIndex := 19, descriptorIndex := 20, attributes := #[] }])
  fields := #[{ name := "RECORD_GROUP", type := (.object "java/lang/String"), accessFlags := 26, slot := 0, constantValue := 0 }, { name := "RECORD_TYPE", type := (.object "java/lang/String"), accessFlags := 26, slot := 1, constantValue := 0 }, { name := "steps", type := (.object "java/util/List"), accessFlags := 18, slot := 0, constantValue := 0 }, { name := "level", type := (.object "com/example/provenans/provenans/model/Notation$Level"), accessFlags := 18, slot := 1, constantValue := 0 }, { name := "recordType", type := .int, accessFlags := 18, slot := 2, constantValue := 0 }]
  methods := #[k4m0, k4m1, k4m2, k4m3, k4m4, k4m5, k4m6, k4m7, k4m8]
  instanceTypes := #[(.object "java/util/List"), (.object "com/example/provenans/provenans/model/Notation$Level"), .int]
  staticTypes := #[(.object "java/lang/String"), (.object "java/lang/String")]
  resolved := Array.replicate 253 none
  statics := none }

def pool5 : Array CpInfo := pool [(1, .class_ 2), (0, u "java/io/Serializable"), (0, .class_ 4), (0, u "java/lang/Object")] 2

/-- java/io/Serializable -/
def k5 : Class := { plain "java/io/Serializable" (some 0) with
  accessFlags := 1537
  interfaces := #[]
  cf := some (fileOf pool5 1 #[] #[] 1537 3 #[] #[])
  fields := #[]
  methods := #[]
  instanceTypes := #[]
  staticTypes := #[]
  resolved := Array.replicate 7 none
  statics := none }

def pool6 : Array CpInfo := pool [(1, .methodref 2 3), (0, .class_ 4), (0, .nameAndType 5 6), (0, u "java/lang/Object"), (0, u "<init>"), (0, u "()V"), (1, .class_ 10), (1, u "java/lang/Number"), (2, .class_ 14), (0, u "java/io/Serializable"), (0, u "serialVersionUID"), (0, u "J")] 20

def k6c0 : Code := { maxStack := 1, maxLocals := 1, code := jdk_18_method_1_code, exceptionTable := #[], attributes := #[] }
def k6m0 : Method := { name := "<init>", desc := "()V", sig := { parameters := [], returnType := none }, accessFlags := 1, code := some k6c0 }
/-- java/lang/Number -/
def k6 : Class := { plain "java/lang/Number" (some 0) with
  accessFlags := 1057
  interfaces := #[5]
  cf := some (fileOf pool6 8 #[] #[{ accessFlags := 1, nameIndex := 5, descriptorIndex := 6, attributes := #[] }] 1057 2 #[13] #[{ accessFlags := 26, nameIndex := 15, descriptorIndex := 16, attributes := #[] }])
  fields := #[{ name := "serialVersionUID", type := .long, accessFlags := 26, slot := 0, constantValue := 0 }]
  methods := #[k6m0]
  instanceTypes := #[]
  staticTypes := #[.long]
  resolved := Array.replicate 37 none
  statics := none }

def pool7 : Array CpInfo := pool [(1, .class_ 2), (0, u "java/lang/constant/Constable"), (0, .class_ 4), (0, u "java/lang/Object")] 6

/-- java/lang/constant/Constable -/
def k7 : Class := { plain "java/lang/constant/Constable" (some 0) with
  accessFlags := 1537
  interfaces := #[]
  cf := some (fileOf pool7 1 #[] #[] 1537 3 #[] #[])
  fields := #[]
  methods := #[]
  instanceTypes := #[]
  staticTypes := #[]
  resolved := Array.replicate 11 none
  statics := none }

def pool8 : Array CpInfo := pool [(1, .class_ 2), (0, u "java/lang/constant/ConstantDesc"), (0, .class_ 4), (0, u "java/lang/Object")] 32

/-- java/lang/constant/ConstantDesc -/
def k8 : Class := { plain "java/lang/constant/ConstantDesc" (some 0) with
  accessFlags := 1537
  interfaces := #[]
  cf := some (fileOf pool8 1 #[] #[] 1537 3 #[] #[])
  fields := #[]
  methods := #[]
  instanceTypes := #[]
  staticTypes := #[]
  resolved := Array.replicate 37 none
  statics := none }

def pool9 : Array CpInfo := pool [(1, .class_ 2), (0, u "java/lang/Integer"), (2, .class_ 6), (0, u "java/lang/String"), (2, .methodref 1 10), (0, .nameAndType 11 12), (0, u "toString"), (0, u "(I)Ljava/lang/String;"), (0, .fieldref 5 14), (0, .nameAndType 15 16), (0, u "COMPACT_STRINGS"), (0, u "Z"), (2, u "digits"), (0, u "[C"), (33, u "(I)I"), (5, u "(II)I"), (4, .methodref 5 66), (0, .nameAndType 67 68), (0, u "<init>"), (0, u "([BB)V"), (3, .methodref 1 73), (0, .nameAndType 74 54), (0, u "stringSize"), (0, .methodref 1 76), (0, .nameAndType 77 78), (0, u "getChars"), (0, u "(II[B)I"), (4, .fieldref 1 84), (0, .nameAndType 85 86), (0, u "DigitOnes"), (0, u "[B"), (0, .fieldref 1 88), (0, .nameAndType 89 86), (0, u "DigitTens"), (10, .nameAndType 67 101), (0, u "()V"), (13, u "()Ljava/lang/String;"), (5, u "()I"), (65, u "valueOf"), (0, u "(I)Ljava/lang/Integer;"), (0, .class_ 190), (0, u "java/lang/Integer$IntegerCache"), (0, .fieldref 189 192), (0, .nameAndType 193 194), (0, u "high"), (0, u "I"), (0, .fieldref 189 196), (0, .nameAndType 197 198), (0, u "cache"), (0, u "[Ljava/lang/Integer;"), (0, .methodref 1 200), (0, .nameAndType 67 201), (0, u "(I)V"), (0, .methodref 203 100), (0, .class_ 204), (0, u "java/lang/Number"), (0, .fieldref 1 206), (0, .nameAndType 207 194), (0, u "value"), (3, .methodref 1 212), (0, .nameAndType 213 121), (0, u "intValue"), (47, u "compare"), (40, u "TYPE"), (0, u "Ljava/lang/Class;"), (0, .class_ 305), (0, u "java/lang/Comparable"), (0, .class_ 307), (0, u "java/lang/constant/Constable"), (0, .class_ 309), (0, u "java/lang/constant/ConstantDesc"), (0, u "MIN_VALUE"), (1, u "MAX_VALUE"), (3, u "SIZE"), (1, u "BYTES"), (1, u "serialVersionUID"), (0, u "J"), (63, u "equals"), (0, u "(Ljava/lang/Object;)Z")] 66

def k9c0 : Code := { maxStack := 4, maxLocals := 3, code := jdk_33_method_10_code, exceptionTable := #[], attributes := #[] }
def k9m0 : Method := { name := "toString", desc := "(I)Ljava/lang/String;", sig := { parameters := [.int], returnType := some (.object "java/lang/String") }, accessFlags := 9, code := some k9c0 }
def k9c1 : Code := { maxStack := 4, maxLocals := 7, code := jdk_33_method_12_code, exceptionTable := #[], attributes := #[] }
def k9m1 : Method := { name := "getChars", desc := "(II[B)I", sig := { parameters := [.int, .int, (.array .byte)], returnType := some .int }, accessFlags := 8, code := some k9c1 }
def k9c2 : Code := { maxStack := 2, maxLocals := 4, code := jdk_33_method_13_code, exceptionTable := #[], attributes := #[] }
def k9m2 : Method := { name := "stringSize", desc := "(I)I", sig := { parameters := [.int], returnType := some .int }, accessFlags := 8, code := some k9c2 }
def k9c3 : Code := { maxStack := 3, maxLocals := 1, code := jdk_33_method_22_code, exceptionTable := #[], attributes := #[] }
def k9m3 : Method := { name := "valueOf", desc := "(I)Ljava/lang/Integer;", sig := { parameters := [.int], returnType := some (.object "java/lang/Integer") }, accessFlags := 9, code := some k9c3 }
def k9c4 : Code := { maxStack := 2, maxLocals := 2, code := jdk_33_method_23_code, exceptionTable := #[], attributes := #[] }
def k9m4 : Method := { name := "<init>", desc := "(I)V", sig := { parameters := [.int], returnType := none }, accessFlags := 1, code := some k9c4 }
def k9c5 : Code := { maxStack := 1, maxLocals := 1, code := jdk_33_method_27_code, exceptionTable := #[], attributes := #[] }
def k9m5 : Method := { name := "intValue", desc := "()I", sig := { parameters := [], returnType := some .int }, accessFlags := 1, code := some k9c5 }
def k9c6 : Code := { maxStack := 1, maxLocals := 1, code := jdk_33_method_31_code, exceptionTable := #[], attributes := #[] }
def k9m6 : Method := { name := "toString", desc := "()Ljava/lang/String;", sig := { parameters := [], returnType := some (.object "java/lang/String") }, accessFlags := 1, code := some k9c6 }
def k9c7 : Code := { maxStack := 2, maxLocals := 2, code := jdk_33_method_34_code, exceptionTable := #[], attributes := #[] }
def k9m7 : Method := { name := "equals", desc := "(Ljava/lang/Object;)Z", sig := { parameters := [(.object "java/lang/Object")], returnType := some .boolean }, accessFlags := 1, code := some k9c7 }
def k9c8 : Code := { maxStack := 2, maxLocals := 2, code := jdk_33_method_40_code, exceptionTable := #[], attributes := #[] }
def k9m8 : Method := { name := "compare", desc := "(II)I", sig := { parameters := [.int, .int], returnType := some .int }, accessFlags := 9, code := some k9c8 }
/-- java/lang/Integer -/
def k9 : Class := { plain "java/lang/Integer" (some 6) with
  accessFlags := 49
  interfaces := #[3, 7, 8]
  cf := some (fileOf pool9 1 #[.nestMembers #[189]] #[{ accessFlags := 9, nameIndex := 11, descriptorIndex := 12, attributes := #[] }, { accessFlags := 8, nameIndex := 77, descriptorIndex := 78, attributes := #[] }, { accessFlags := 8, nameIndex := 74, descriptorIndex := 54, attributes := #[] }, { accessFlags := 9, nameIndex := 187, descriptorIndex := 188, attributes := #[] }, { accessFlags := 1, nameIndex := 67, descriptorIndex := 201, attributes := #[] }, { accessFlags := 1, nameIndex := 213, descriptorIndex := 121, attributes := #[] }, { accessFlags := 1, nameIndex := 11, descriptorIndex := 115, attributes := #[] }, { accessFlags := 1, nameIndex := 385, descriptorIndex := 386, attributes := #[] }, { accessFlags := 9, nameIndex := 261, descriptorIndex := 60, attributes := #[] }] 49 203 #[304, 306, 308] #[{ accessFlags := 25, nameIndex := 310, descriptorIndex := 194, attributes := #[] }, { accessFlags := 25, nameIndex := 312, descriptorIndex := 194, attributes := #[] }, { accessFlags := 25, nameIndex := 302, descriptorIndex := 303, attributes := #[] }, { accessFlags := 24, nameIndex := 19, descriptorIndex := 20, attributes := #[] }, { accessFlags := 24, nameIndex := 89, descriptorIndex := 86, attributes := #[] }, { accessFlags := 24, nameIndex := 85, descriptorIndex := 86, attributes := #[] }, { accessFlags := 18, nameIndex := 207, descriptorIndex := 194, attributes := #[] }, { accessFlags := 25, nameIndex := 316, descriptorIndex := 194, attributes := #[] }, { accessFlags := 25, nameIndex := 318, descriptorIndex := 194, attributes := #[] }, { accessFlags := 26, nameIndex := 320, descriptorIndex := 321, attributes := #[] }])
  fields := #[{ name := "MIN_VALUE", type := .int, accessFlags := 25, slot := 0, constantValue := 0 }, { name := "MAX_VALUE", type := .int, accessFlags := 25, slot := 1, constantValue := 0 }, { name := "TYPE", type := (.object "java/lang/Class"), accessFlags := 25, slot := 2, constantValue := 0 }, { name := "digits", type := (.array .char), accessFlags := 24, slot := 3, constantValue := 0 }, { name := "DigitTens", type := (.array .byte), accessFlags := 24, slot := 4, constantValue := 0 }, { name := "DigitOnes", type := (.array .byte), accessFlags := 24, slot := 5, constantValue := 0 }, { name := "value", type := .int, accessFlags := 18, slot := 0, constantValue := 0 }, { name := "SIZE", type := .int, accessFlags := 25, slot := 6, constantValue := 0 }, { name := "BYTES", type := .int, accessFlags := 25, slot := 7, constantValue := 0 }, { name := "serialVersionUID", type := .long, accessFlags := 26, slot := 8, constantValue := 0 }]
  methods := #[k9m0, k9m1, k9m2, k9m3, k9m4, k9m5, k9m6, k9m7, k9m8]
  instanceTypes := #[.int]
  staticTypes := #[.int, .int, (.object "java/lang/Class"), (.array .char), (.array .byte), (.array .byte), .int, .int, .long]
  resolved := Array.replicate 453 none
  statics := some 0 }

def pool10 : Array CpInfo := pool [(2, .class_ 4), (1, u "java/lang/Object"), (0, u "<init>"), (0, u "()V"), (0, .class_ 8), (0, u "java/lang/Integer"), (7, .class_ 18), (1, u "java/lang/Integer$IntegerCache"), (0, u "$assertionsDisabled"), (0, u "Z"), (26, u "high"), (0, u "I"), (8, u "archivedCache"), (0, u "[Ljava/lang/Integer;"), (12, u "cache"), (0, u "low")] 27

def k10m0 : Method := { name := "<init>", desc := "()V", sig := { parameters := [], returnType := none }, accessFlags := 2, code := none }
/-- java/lang/Integer$IntegerCache -/
def k10 : Class := { plain "java/lang/Integer$IntegerCache" (some 0) with
  accessFlags := 48
  interfaces := #[]
  cf := some (fileOf pool10 16 #[.nestHost 7] #[{ accessFlags := 2, nameIndex := 5, descriptorIndex := 6, attributes := #[] }] 48 2 #[] #[{ accessFlags := 24, nameIndex := 72, descriptorIndex := 48, attributes := #[] }, { accessFlags := 24, nameIndex := 47, descriptorIndex := 48, attributes := #[] }, { accessFlags := 24, nameIndex := 71, descriptorIndex := 58, attributes := #[] }, { accessFlags := 8, nameIndex := 57, descriptorIndex := 58, attributes := #[] }, { accessFlags := 4120, nameIndex := 19, descriptorIndex := 20, attributes := #[] }])
  fields := #[{ name := "low", type := .int, accessFlags := 24, slot := 0, constantValue := 0 }, { name := "high", type := .int, accessFlags := 24, slot := 1, constantValue := 0 }, { name := "cache", type := (.array (.object "java/lang/Integer")), accessFlags := 24, slot := 2, constantValue := 0 }, { name := "archivedCache", type := (.array (.object "java/lang/Integer")), accessFlags := 8, slot := 3, constantValue := 0 }, { name := "$assertionsDisabled", type := .boolean, accessFlags := 4120, slot := 4, constantValue := 0 }]
  methods := #[k10m0]
  instanceTypes := #[]
  staticTypes := #[.int, .int, (.array (.object "java/lang/Integer")), (.array (.object "java/lang/Integer")), .boolean]
  resolved := Array.replicate 100 none
  statics := some 1 }

def pool11 : Array CpInfo := pool [(8, .class_ 10), (1, u "java/lang/Iterable"), (24, .class_ 36), (0, u "java/lang/Object")] 25

/-- java/lang/Iterable -/
def k11 : Class := { plain "java/lang/Iterable" (some 0) with
  accessFlags := 1537
  interfaces := #[]
  cf := some (fileOf pool11 8 #[] #[] 1537 35 #[] #[])
  fields := #[]
  methods := #[]
  instanceTypes := #[]
  staticTypes := #[]
  resolved := Array.replicate 62 none
  statics := none }

def pool12 : Array CpInfo := pool [(10, .class_ 12), (1, u "java/util/Collection"), (47, .class_ 61), (0, u "java/lang/Object"), (0, .class_ 63), (0, u "java/lang/Iterable")] 51

/-- java/util/Collection -/
def k12 : Class := { plain "java/util/Collection" (some 0) with
  accessFlags := 1537
  interfaces := #[11]
  cf := some (fileOf pool12 10 #[] #[] 1537 60 #[62] #[])
  fields := #[]
  methods := #[]
  instanceTypes := #[]
  staticTypes := #[]
  resolved := Array.replicate 115 none
  statics := none }

def pool13 : Array CpInfo := pool [(8, .class_ 10), (1, u "java/util/SequencedCollection"), (15, .class_ 27), (0, u "java/lang/Object"), (0, .class_ 29), (0, u "java/util/Collection")] 27

/-- java/util/SequencedCollection -/
def k13 : Class := { plain "java/util/SequencedCollection" (some 0) with
  accessFlags := 1537
  interfaces := #[12]
  cf := some (fileOf pool13 8 #[] #[] 1537 26 #[28] #[])
  fields := #[]
  methods := #[]
  instanceTypes := #[]
  staticTypes := #[]
  resolved := Array.replicate 57 none
  statics := none }

def pool14 : Array CpInfo := pool [(8, .class_ 10), (1, u "java/util/List"), (20, u "(Ljava/lang/Object;)V"), (16, u "<init>"), (15, u "(Ljava/lang/Object;)Z"), (10, u "get"), (0, u "(I)Ljava/lang/Object;"), (2, u "size"), (0, u "()I"), (7, u "of"), (7, .class_ 97), (0, u "java/util/ImmutableCollections$List12"), (0, .methodref 96 99), (0, .nameAndType 48 31), (3, .class_ 104), (0, u "java/lang/Object"), (15, .class_ 121), (0, u "java/util/SequencedCollection"), (1, u "iterator"), (0, u "()Ljava/util/Iterator;"), (45, u "equals"), (27, u "(Ljava/lang/Object;)Ljava/util/List;")] 52

def k14m0 : Method := { name := "size", desc := "()I", sig := { parameters := [], returnType := some .int }, accessFlags := 1025, code := none }
def k14m1 : Method := { name := "iterator", desc := "()Ljava/util/Iterator;", sig := { parameters := [], returnType := some (.object "java/util/Iterator") }, accessFlags := 1025, code := none }
def k14m2 : Method := { name := "equals", desc := "(Ljava/lang/Object;)Z", sig := { parameters := [(.object "java/lang/Object")], returnType := some .boolean }, accessFlags := 1025, code := none }
def k14m3 : Method := { name := "get", desc := "(I)Ljava/lang/Object;", sig := { parameters := [.int], returnType := some (.object "java/lang/Object") }, accessFlags := 1025, code := none }
def k14c4 : Code := { maxStack := 3, maxLocals := 1, code := jdk_40_method_37_code, exceptionTable := #[], attributes := #[] }
def k14m4 : Method := { name := "of", desc := "(Ljava/lang/Object;)Ljava/util/List;", sig := { parameters := [(.object "java/lang/Object")], returnType := some (.object "java/util/List") }, accessFlags := 9, code := some k14c4 }
/-- java/util/List -/
def k14 : Class := { plain "java/util/List" (some 0) with
  accessFlags := 1537
  interfaces := #[13]
  cf := some (fileOf pool14 8 #[] #[{ accessFlags := 1025, nameIndex := 79, descriptorIndex := 80, attributes := #[] }, { accessFlags := 1025, nameIndex := 123, descriptorIndex := 124, attributes := #[] }, { accessFlags := 1025, nameIndex := 170, descriptorIndex := 64, attributes := #[] }, { accessFlags := 1025, nameIndex := 75, descriptorIndex := 76, attributes := #[] }, { accessFlags := 9, nameIndex := 88, descriptorIndex := 198, attributes := #[] }] 1537 103 #[120] #[])
  fields := #[]
  methods := #[k14m0, k14m1, k14m2, k14m3, k14m4]
  instanceTypes := #[]
  staticTypes := #[]
  resolved := Array.replicate 251 none
  statics := none }

def pool15 : Array CpInfo := pool [(1, .methodref 2 3), (0, .class_ 4), (0, .nameAndType 5 6), (0, u "java/lang/Object"), (0, u "<init>"), (0, u "()V"), (1, .class_ 10), (1, u "java/util/AbstractCollection"), (0, u "size"), (0, u "()I"), (64, .class_ 78), (0, u "java/util/Collection")] 81

def k15c0 : Code := { maxStack := 1, maxLocals := 1, code := jdk_22_method_1_code, exceptionTable := #[], attributes := #[] }
def k15m0 : Method := { name := "<init>", desc := "()V", sig := { parameters := [], returnType := none }, accessFlags := 4, code := some k15c0 }
def k15m1 : Method := { name := "size", desc := "()I", sig := { parameters := [], returnType := some .int }, accessFlags := 1025, code := none }
/-- java/util/AbstractCollection -/
def k15 : Class := { plain "java/util/AbstractCollection" (some 0) with
  accessFlags := 1057
  interfaces := #[12]
  cf := some (fileOf pool15 8 #[] #[{ accessFlags := 4, nameIndex := 5, descriptorIndex := 6, attributes := #[] }, { accessFlags := 1025, nameIndex := 11, descriptorIndex := 12, attributes := #[] }] 1057 2 #[77] #[])
  fields := #[]
  methods := #[k15m0, k15m1]
  instanceTypes := #[]
  staticTypes := #[]
  resolved := Array.replicate 160 none
  statics := none }

def pool16 : Array CpInfo := pool [(1, .methodref 2 3), (0, .class_ 4), (0, .nameAndType 5 6), (0, u "java/util/AbstractCollection"), (0, u "<init>"), (0, u "()V"), (1, .class_ 10), (1, u "java/util/ImmutableCollections"), (2, .class_ 14), (0, u "java/util/ImmutableCollections$AbstractImmutableCollection")] 41

def k16c0 : Code := { maxStack := 1, maxLocals := 1, code := jdk_47_method_1_code, exceptionTable := #[], attributes := #[] }
def k16m0 : Method := { name := "<init>", desc := "()V", sig := { parameters := [], returnType := none }, accessFlags := 0, code := some k16c0 }
/-- java/util/ImmutableCollections$AbstractImmutableCollection -/
def k16 : Class := { plain "java/util/ImmutableCollections$AbstractImmutableCollection" (some 15) with
  accessFlags := 1056
  interfaces := #[]
  cf := some (fileOf pool16 13 #[.nestHost 8] #[{ accessFlags := 0, nameIndex := 5, descriptorIndex := 6, attributes := #[] }] 1056 2 #[] #[])
  fields := #[]
  methods := #[k16m0]
  instanceTypes := #[]
  staticTypes := #[]
  resolved := Array.replicate 56 none
  statics := none }

def pool17 : Array CpInfo := pool [(1, .class_ 2), (0, u "java/util/RandomAccess"), (0, .class_ 4), (0, u "java/lang/Object")] 2

/-- java/util/RandomAccess -/
def k17 : Class := { plain "java/util/RandomAccess" (some 0) with
  accessFlags := 1537
  interfaces := #[]
  cf := some (fileOf pool17 1 #[] #[] 1537 3 #[] #[])
  fields := #[]
  methods := #[]
  instanceTypes := #[]
  staticTypes := #[]
  resolved := Array.replicate 7 none
  statics := none }

def pool18 : Array CpInfo := pool [(1, .methodref 2 3), (0, .class_ 4), (0, .nameAndType 5 6), (0, u "java/util/ImmutableCollections$AbstractImmutableCollection"), (0, u "<init>"), (0, u "()V"), (1, .class_ 10), (1, u "java/util/ImmutableCollections"), (2, .methodref 14 15), (0, .class_ 16), (0, .nameAndType 17 18), (0, u "java/util/ImmutableCollections$AbstractImmutableList"), (0, u "size"), (0, u "()I"), (42, .class_ 62), (0, u "java/util/ImmutableCollections$ListItr"), (0, .methodref 61 64), (0, .nameAndType 5 65), (0, u "(Ljava/util/List;I)V"), (11, .class_ 78), (0, u "java/util/List"), (0, .interfaceMethodref 77 80), (0, .nameAndType 81 82), (0, u "iterator"), (0, u "()Ljava/util/Iterator;"), (0, .interfaceMethodref 84 85), (0, .class_ 86), (0, .nameAndType 87 88), (0, u "java/util/Iterator"), (0, u "hasNext"), (0, u "()Z"), (0, .methodref 14 90), (0, .nameAndType 91 92), (0, u "get"), (0, u "(I)Ljava/lang/Object;"), (0, .interfaceMethodref 84 94), (0, .nameAndType 95 96), (0, u "next"), (0, u "()Ljava/lang/Object;"), (0, .methodref 98 99), (0, .class_ 100), (0, .nameAndType 101 102), (0, u "java/util/Objects"), (0, u "equals"), (0, u "(Ljava/lang/Object;Ljava/lang/Object;)Z"), (21, .class_ 125), (0, u "java/util/RandomAccess"), (48, u "(Ljava/lang/Object;)Z")] 21

def k18c0 : Code := { maxStack := 1, maxLocals := 1, code := jdk_46_method_1_code, exceptionTable := #[], attributes := #[] }
def k18m0 : Method := { name := "<init>", desc := "()V", sig := { parameters := [], returnType := none }, accessFlags := 0, code := some k18c0 }
def k18c1 : Code := { maxStack := 4, maxLocals := 1, code := jdk_46_method_10_code, exceptionTable := #[], attributes := #[] }
def k18m1 : Method := { name := "iterator", desc := "()Ljava/util/Iterator;", sig := { parameters := [], returnType := some (.object "java/util/Iterator") }, accessFlags := 1, code := some k18c1 }
def k18c2 : Code := { maxStack := 2, maxLocals := 5, code := jdk_46_method_13_code, exceptionTable := #[], attributes := #[] }
def k18m2 : Method := { name := "equals", desc := "(Ljava/lang/Object;)Z", sig := { parameters := [(.object "java/lang/Object")], returnType := some .boolean }, accessFlags := 1, code := some k18c2 }
/-- java/util/ImmutableCollections$AbstractImmutableList -/
def k18 : Class := { plain "java/util/ImmutableCollections$AbstractImmutableList" (some 16) with
  accessFlags := 1056
  interfaces := #[14, 17]
  cf := some (fileOf pool18 14 #[.nestHost 8] #[{ accessFlags := 0, nameIndex := 5, descriptorIndex := 6, attributes := #[] }, { accessFlags := 1, nameIndex := 81, descriptorIndex := 82, attributes := #[] }, { accessFlags := 1, nameIndex := 101, descriptorIndex := 174, attributes := #[] }] 1056 2 #[77, 124] #[])
  fields := #[]
  methods := #[k18m0, k18m1, k18m2]
  instanceTypes := #[]
  staticTypes := #[]
  resolved := Array.replicate 196 none
  statics := none }

def pool19 : Array CpInfo := pool [(1, .methodref 2 3), (0, .class_ 4), (0, .nameAndType 5 6), (0, u "java/util/ImmutableCollections$AbstractImmutableList"), (0, u "<init>"), (0, u "()V"), (0, .methodref 8 9), (0, .class_ 10), (0, .nameAndType 11 12), (0, u "java/util/Objects"), (0, u "requireNonNull"), (0, u "(Ljava/lang/Object;)Ljava/lang/Object;"), (0, .fieldref 14 15), (0, .class_ 16), (0, .nameAndType 17 18), (0, u "java/util/ImmutableCollections$List12"), (0, u "e0"), (0, u "Ljava/lang/Object;"), (0, .fieldref 20 21), (0, .class_ 22), (0, .nameAndType 23 18), (0, u "java/util/ImmutableCollections"), (0, u "EMPTY"), (0, .fieldref 14 25), (0, .nameAndType 26 18), (0, u "e1"), (24, u "size"), (0, u "()I"), (17, .class_ 71), (0, u "java/io/Serializable"), (4, u "(Ljava/lang/Object;)V"), (13, u "get"), (0, u "(I)Ljava/lang/Object;")] 33

def k19c0 : Code := { maxStack := 2, maxLocals := 2, code := jdk_44_method_1_code, exceptionTable := #[], attributes := #[] }
def k19m0 : Method := { name := "<init>", desc := "(Ljava/lang/Object;)V", sig := { parameters := [(.object "java/lang/Object")], returnType := none }, accessFlags := 0, code := some k19c0 }
def k19c1 : Code := { maxStack := 2, maxLocals := 1, code := jdk_44_method_3_code, exceptionTable := #[], attributes := #[] }
def k19m1 : Method := { name := "size", desc := "()I", sig := { parameters := [], returnType := some .int }, accessFlags := 1, code := some k19c1 }
def k19c2 : Code := { maxStack := 2, maxLocals := 2, code := jdk_44_method_5_code, exceptionTable := #[], attributes := #[] }
def k19m2 : Method := { name := "get", desc := "(I)Ljava/lang/Object;", sig := { parameters := [.int], returnType := some (.object "java/lang/Object") }, accessFlags := 1, code := some k19c2 }
/-- java/util/ImmutableCollections$List12 -/
def k19 : Class := { plain "java/util/ImmutableCollections$List12" (some 18) with
  accessFlags := 48
  interfaces := #[5]
  cf := some (fileOf pool19 14 #[.nestHost 20] #[{ accessFlags := 0, nameIndex := 5, descriptorIndex := 76, attributes := #[] }, { accessFlags := 1, nameIndex := 51, descriptorIndex := 52, attributes := #[] }, { accessFlags := 1, nameIndex := 90, descriptorIndex := 91, attributes := #[] }] 48 2 #[70] #[{ accessFlags := 18, nameIndex := 17, descriptorIndex := 18, attributes := #[] }, { accessFlags := 18, nameIndex := 26, descriptorIndex := 18, attributes := #[] }])
  fields := #[{ name := "e0", type := (.object "java/lang/Object"), accessFlags := 18, slot := 0, constantValue := 0 }, { name := "e1", type := (.object "java/lang/Object"), accessFlags := 18, slot := 1, constantValue := 0 }]
  methods := #[k19m0, k19m1, k19m2]
  instanceTypes := #[(.object "java/lang/Object"), (.object "java/lang/Object")]
  staticTypes := #[]
  resolved := Array.replicate 125 none
  statics := none }

def pool20 : Array CpInfo := pool [(2, .class_ 4), (1, u "java/lang/Object"), (0, u "<init>"), (0, u "()V"), (7, .methodref 2 15), (0, .nameAndType 16 17), (0, u "equals"), (0, u "(Ljava/lang/Object;)Z"), (5, u "(Ljava/lang/Object;Ljava/lang/Object;)Z"), (18, .class_ 44), (1, u "java/util/Objects"), (0, u "requireNonNull"), (0, u "(Ljava/lang/Object;)Ljava/lang/Object;")] 137

def k20m0 : Method := { name := "<init>", desc := "()V", sig := { parameters := [], returnType := none }, accessFlags := 2, code := none }
def k20c1 : Code := { maxStack := 2, maxLocals := 2, code := jdk_31_method_2_code, exceptionTable := #[], attributes := #[] }
def k20m1 : Method := { name := "equals", desc := "(Ljava/lang/Object;Ljava/lang/Object;)Z", sig := { parameters := [(.object "java/lang/Object"), (.object "java/lang/Object")], returnType := some .boolean }, accessFlags := 9, code := some k20c1 }
def k20c2 : Code := { maxStack := 2, maxLocals := 1, code := jdk_31_method_10_code, exceptionTable := #[], attributes := #[] }
def k20m2 : Method := { name := "requireNonNull", desc := "(Ljava/lang/Object;)Ljava/lang/Object;", sig := { parameters := [(.object "java/lang/Object")], returnType := some (.object "java/lang/Object") }, accessFlags := 9, code := some k20c2 }
/-- java/util/Objects -/
def k20 : Class := { plain "java/util/Objects" (some 0) with
  accessFlags := 49
  interfaces := #[]
  cf := some (fileOf pool20 42 #[] #[{ accessFlags := 2, nameIndex := 5, descriptorIndex := 6, attributes := #[] }, { accessFlags := 9, nameIndex := 16, descriptorIndex := 23, attributes := #[] }, { accessFlags := 9, nameIndex := 45, descriptorIndex := 46, attributes := #[] }] 49 2 #[] #[])
  fields := #[]
  methods := #[k20m0, k20m1, k20m2]
  instanceTypes := #[]
  staticTypes := #[]
  resolved := Array.replicate 184 none
  statics := none }

def pool21 : Array CpInfo := pool [(2, .class_ 4), (1, u "java/lang/Object"), (0, u "<init>"), (0, u "()V"), (3, .class_ 11), (0, u "java/util/ImmutableCollections$List12"), (0, .class_ 13), (0, u "java/util/ImmutableCollections$ListN"), (3, u "Z"), (29, .class_ 49), (1, u "java/util/ImmutableCollections"), (0, u "$assertionsDisabled"), (5, u "[Ljava/lang/Object;"), (5, u "EMPTY_LIST"), (0, u "Ljava/util/ImmutableCollections$ListN;"), (8, u "EMPTY_LIST_NULLS"), (22, u "SALT32L"), (0, u "J"), (2, u "REVERSE"), (6, u "archivedObjects"), (2, u "EMPTY"), (0, u "Ljava/lang/Object;"), (0, .class_ 112), (0, u "java/util/ImmutableCollections$SetN"), (5, u "EMPTY_SET"), (0, u "Ljava/util/ImmutableCollections$SetN;"), (0, .class_ 121), (0, u "java/util/ImmutableCollections$MapN"), (3, u "EMPTY_MAP"), (0, u "Ljava/util/ImmutableCollections$MapN;"), (4, u "EXPAND_FACTOR"), (0, u "I"), (36, .class_ 170), (0, u "java/util/ImmutableCollections$MapN$MapNIterator"), (0, .class_ 172), (0, u "java/util/ImmutableCollections$MapN$1"), (0, .class_ 174), (0, u "java/util/ImmutableCollections$Map1"), (0, .class_ 176), (0, u "java/util/ImmutableCollections$AbstractImmutableMap"), (0, .class_ 178), (0, u "java/util/ImmutableCollections$SetN$SetNIterator"), (0, .class_ 180), (0, u "java/util/ImmutableCollections$Set12"), (0, .class_ 182), (0, u "java/util/ImmutableCollections$Set12$1"), (0, .class_ 184), (0, u "java/util/ImmutableCollections$AbstractImmutableSet"), (0, .class_ 186), (0, u "java/util/ImmutableCollections$SubList"), (0, .class_ 188), (0, u "java/util/ImmutableCollections$ListItr"), (0, .class_ 190), (0, u "java/util/ImmutableCollections$AbstractImmutableList"), (0, .class_ 192), (0, u "java/util/ImmutableCollections$AbstractImmutableCollection"), (0, .class_ 194), (0, u "java/util/ImmutableCollections$Access"), (0, .class_ 196), (0, u "java/util/ImmutableCollections$Access$1")] 16

def k21m0 : Method := { name := "<init>", desc := "()V", sig := { parameters := [], returnType := none }, accessFlags := 2, code := none }
/-- java/util/ImmutableCollections -/
def k21 : Class := { plain "java/util/ImmutableCollections" (some 0) with
  accessFlags := 32
  interfaces := #[]
  cf := some (fileOf pool21 47 #[.nestMembers #[120, 169, 171, 173, 175, 111, 177, 179, 181, 183, 12, 10, 185, 187, 189, 191, 193, 195]] #[{ accessFlags := 2, nameIndex := 5, descriptorIndex := 6, attributes := #[] }] 32 2 #[] #[{ accessFlags := 26, nameIndex := 95, descriptorIndex := 96, attributes := #[] }, { accessFlags := 26, nameIndex := 99, descriptorIndex := 17, attributes := #[] }, { accessFlags := 10, nameIndex := 106, descriptorIndex := 56, attributes := #[] }, { accessFlags := 26, nameIndex := 109, descriptorIndex := 110, attributes := #[] }, { accessFlags := 24, nameIndex := 62, descriptorIndex := 63, attributes := #[] }, { accessFlags := 24, nameIndex := 72, descriptorIndex := 63, attributes := #[] }, { accessFlags := 24, nameIndex := 118, descriptorIndex := 119, attributes := #[] }, { accessFlags := 24, nameIndex := 125, descriptorIndex := 126, attributes := #[] }, { accessFlags := 24, nameIndex := 131, descriptorIndex := 132, attributes := #[] }, { accessFlags := 4120, nameIndex := 50, descriptorIndex := 17, attributes := #[] }])
  fields := #[{ name := "SALT32L", type := .long, accessFlags := 26, slot := 0, constantValue := 0 }, { name := "REVERSE", type := .boolean, accessFlags := 26, slot := 1, constantValue := 0 }, { name := "archivedObjects", type := (.array (.object "java/lang/Object")), accessFlags := 10, slot := 2, constantValue := 0 }, { name := "EMPTY", type := (.object "java/lang/Object"), accessFlags := 26, slot := 3, constantValue := 0 }, { name := "EMPTY_LIST", type := (.object "java/util/ImmutableCollections$ListN"), accessFlags := 24, slot := 4, constantValue := 0 }, { name := "EMPTY_LIST_NULLS", type := (.object "java/util/ImmutableCollections$ListN"), accessFlags := 24, slot := 5, constantValue := 0 }, { name := "EMPTY_SET", type := (.object "java/util/ImmutableCollections$SetN"), accessFlags := 24, slot := 6, constantValue := 0 }, { name := "EMPTY_MAP", type := (.object "java/util/ImmutableCollections$MapN"), accessFlags := 24, slot := 7, constantValue := 0 }, { name := "EXPAND_FACTOR", type := .int, accessFlags := 24, slot := 8, constantValue := 0 }, { name := "$assertionsDisabled", type := .boolean, accessFlags := 4120, slot := 9, constantValue := 0 }]
  methods := #[k21m0]
  instanceTypes := #[]
  staticTypes := #[.long, .boolean, (.array (.object "java/lang/Object")), (.object "java/lang/Object"), (.object "java/util/ImmutableCollections$ListN"), (.object "java/util/ImmutableCollections$ListN"), (.object "java/util/ImmutableCollections$SetN"), (.object "java/util/ImmutableCollections$MapN"), .int, .boolean]
  resolved := Array.replicate 213 none
  statics := some 2 }

def pool22 : Array CpInfo := pool [(2, .class_ 4), (1, u "java/lang/Enum"), (0, u "name"), (0, u "Ljava/lang/String;"), (0, .fieldref 2 8), (0, .nameAndType 9 10), (0, u "ordinal"), (0, u "I"), (1, .class_ 14), (1, u "java/lang/Object"), (4, u "hash"), (9, .methodref 12 30), (0, .nameAndType 31 32), (0, u "getClass"), (0, u "()Ljava/lang/Class;"), (70, u "compareTo"), (0, u "(Ljava/lang/Enum;)I"), (1, .class_ 108), (1, u "java/lang/Enum$EnumDesc"), (2, .class_ 112), (0, u "java/lang/constant/Constable"), (0, .class_ 114), (0, u "java/lang/Comparable"), (0, .class_ 116), (0, u "java/io/Serializable"), (9, u "()I")] 77

def k22c0 : Code := { maxStack := 1, maxLocals := 1, code := jdk_37_method_2_code, exceptionTable := #[], attributes := #[] }
def k22m0 : Method := { name := "ordinal", desc := "()I", sig := { parameters := [], returnType := some .int }, accessFlags := 17, code := some k22c0 }
def k22c1 : Code := { maxStack := 2, maxLocals := 4, code := jdk_37_method_8_code, exceptionTable := #[], attributes := #[] }
def k22m1 : Method := { name := "compareTo", desc := "(Ljava/lang/Enum;)I", sig := { parameters := [(.object "java/lang/Enum")], returnType := some .int }, accessFlags := 17, code := some k22c1 }
/-- java/lang/Enum -/
def k22 : Class := { plain "java/lang/Enum" (some 0) with
  accessFlags := 1057
  interfaces := #[7, 3, 5]
  cf := some (fileOf pool22 2 #[.nestMembers #[106]] #[{ accessFlags := 17, nameIndex := 9, descriptorIndex := 126, attributes := #[] }, { accessFlags := 17, nameIndex := 103, descriptorIndex := 104, attributes := #[] }] 1057 12 #[111, 113, 115] #[{ accessFlags := 18, nameIndex := 5, descriptorIndex := 6, attributes := #[] }, { accessFlags := 18, nameIndex := 9, descriptorIndex := 10, attributes := #[] }, { accessFlags := 2, nameIndex := 19, descriptorIndex := 10, attributes := #[] }])
  fields := #[{ name := "name", type := (.object "java/lang/String"), accessFlags := 18, slot := 0, constantValue := 0 }, { name := "ordinal", type := .int, accessFlags := 18, slot := 1, constantValue := 0 }, { name := "hash", type := .int, accessFlags := 2, slot := 2, constantValue := 0 }]
  methods := #[k22m0, k22m1]
  instanceTypes := #[(.object "java/lang/String"), .int, .int]
  staticTypes := #[]
  resolved := Array.replicate 204 none
  statics := none }

def pool23 : Array CpInfo := pool [(1, .class_ 2), (0, u "com/example/provenans/provenans/model/Notation$Level"), (2, u "UNIT"), (0, u "Lcom/example/provenans/provenans/model/Notation$Level;"), (2, u "RECORD_GROUP"), (2, u "RECORD_TYPE"), (2, u "$VALUES"), (0, u "[Lcom/example/provenans/provenans/model/Notation$Level;"), (6, .class_ 25), (1, u "java/lang/Enum"), (26, .class_ 53), (0, u "com/example/provenans/provenans/model/Notation")] 2

/-- com/example/provenans/provenans/model/Notation$Level -/
def k23 : Class := { plain "com/example/provenans/provenans/model/Notation$Level" (some 22) with
  accessFlags := 16433
  interfaces := #[]
  cf := some (fileOf pool23 1 #[.nestHost 52] #[] 16433 23 #[] #[{ accessFlags := 16409, nameIndex := 5, descriptorIndex := 6, attributes := #[] }, { accessFlags := 16409, nameIndex := 9, descriptorIndex := 6, attributes := #[] }, { accessFlags := 16409, nameIndex := 12, descriptorIndex := 6, attributes := #[] }, { accessFlags := 4122, nameIndex := 15, descriptorIndex := 16, attributes := #[] }])
  fields := #[{ name := "UNIT", type := (.object "com/example/provenans/provenans/model/Notation$Level"), accessFlags := 16409, slot := 0, constantValue := 0 }, { name := "RECORD_GROUP", type := (.object "com/example/provenans/provenans/model/Notation$Level"), accessFlags := 16409, slot := 1, constantValue := 0 }, { name := "RECORD_TYPE", type := (.object "com/example/provenans/provenans/model/Notation$Level"), accessFlags := 16409, slot := 2, constantValue := 0 }, { name := "$VALUES", type := (.array (.object "com/example/provenans/provenans/model/Notation$Level")), accessFlags := 4122, slot := 3, constantValue := 0 }]
  methods := #[]
  instanceTypes := #[(.object "java/lang/String"), .int, .int]
  staticTypes := #[(.object "com/example/provenans/provenans/model/Notation$Level"), (.object "com/example/provenans/provenans/model/Notation$Level"), (.object "com/example/provenans/provenans/model/Notation$Level"), (.array (.object "com/example/provenans/provenans/model/Notation$Level"))]
  resolved := Array.replicate 56 none
  mirror := some 6
  statics := some 3 }

def pool24 : Array CpInfo := pool [(16, .class_ 18), (1, u "java/util/Iterator"), (0, u "hasNext"), (0, u "()Z"), (2, u "next"), (0, u "()Ljava/lang/Object;"), (6, .class_ 32), (0, u "java/lang/Object")] 20

def k24m0 : Method := { name := "hasNext", desc := "()Z", sig := { parameters := [], returnType := some .boolean }, accessFlags := 1025, code := none }
def k24m1 : Method := { name := "next", desc := "()Ljava/lang/Object;", sig := { parameters := [], returnType := some (.object "java/lang/Object") }, accessFlags := 1025, code := none }
/-- java/util/Iterator -/
def k24 : Class := { plain "java/util/Iterator" (some 0) with
  accessFlags := 1537
  interfaces := #[]
  cf := some (fileOf pool24 16 #[] #[{ accessFlags := 1025, nameIndex := 19, descriptorIndex := 20, attributes := #[] }, { accessFlags := 1025, nameIndex := 23, descriptorIndex := 24, attributes := #[] }] 1537 31 #[] #[])
  fields := #[]
  methods := #[k24m0, k24m1]
  instanceTypes := #[]
  staticTypes := #[]
  resolved := Array.replicate 53 none
  statics := none }

def pool25 : Array CpInfo := pool [(1, .class_ 2), (0, u "java/util/ListIterator"), (0, .class_ 4), (0, u "java/lang/Object"), (0, .class_ 6), (0, u "java/util/Iterator")] 20

/-- java/util/ListIterator -/
def k25 : Class := { plain "java/util/ListIterator" (some 0) with
  accessFlags := 1537
  interfaces := #[24]
  cf := some (fileOf pool25 1 #[] #[] 1537 3 #[5] #[])
  fields := #[]
  methods := #[]
  instanceTypes := #[]
  staticTypes := #[]
  resolved := Array.replicate 27 none
  statics := none }

def pool26 : Array CpInfo := pool [(1, .methodref 2 3), (0, .class_ 4), (0, .nameAndType 5 6), (0, u "java/lang/Object"), (0, u "<init>"), (0, u "()V"), (0, .fieldref 8 9), (0, .class_ 10), (0, .nameAndType 11 12), (0, u "java/util/ImmutableCollections$ListItr"), (0, u "list"), (0, u "Ljava/util/List;"), (0, .fieldref 8 14), (0, .nameAndType 15 16), (0, u "size"), (0, u "I"), (0, .fieldref 8 18), (0, .nameAndType 19 16), (0, u "cursor"), (0, .fieldref 8 21), (0, .nameAndType 22 23), (0, u "isListIterator"), (0, u "Z"), (0, .interfaceMethodref 25 26), (0, .class_ 27), (0, .nameAndType 28 29), (0, u "java/util/List"), (0, u "get"), (0, u "(I)Ljava/lang/Object;"), (6, .class_ 38), (1, u "java/util/ImmutableCollections"), (2, .class_ 42), (0, u "java/util/ListIterator"), (4, u "(Ljava/util/List;I)V"), (11, u "hasNext"), (0, u "()Z"), (1, u "next"), (0, u "()Ljava/lang/Object;")] 22

def k26c0 : Code := { maxStack := 2, maxLocals := 3, code := jdk_53_method_1_code, exceptionTable := #[], attributes := #[] }
def k26m0 : Method := { name := "<init>", desc := "(Ljava/util/List;I)V", sig := { parameters := [(.object "java/util/List"), .int], returnType := none }, accessFlags := 0, code := some k26c0 }
def k26c1 : Code := { maxStack := 2, maxLocals := 1, code := jdk_53_method_3_code, exceptionTable := #[], attributes := #[] }
def k26m1 : Method := { name := "hasNext", desc := "()Z", sig := { parameters := [], returnType := some .boolean }, accessFlags := 1, code := some k26c1 }
def k26c2 : Code := { maxStack := 3, maxLocals := 3, code := jdk_53_method_4_code, exceptionTable := #[{ startPc := 0, endPc := 24, handlerPc := 25, catchType := 30 }], attributes := #[] }
def k26m2 : Method := { name := "next", desc := "()Ljava/lang/Object;", sig := { parameters := [], returnType := some (.object "java/lang/Object") }, accessFlags := 1, code := some k26c2 }
/-- java/util/ImmutableCollections$ListItr -/
def k26 : Class := { plain "java/util/ImmutableCollections$ListItr" (some 0) with
  accessFlags := 48
  interfaces := #[25]
  cf := some (fileOf pool26 8 #[.nestHost 36] #[{ accessFlags := 0, nameIndex := 5, descriptorIndex := 47, attributes := #[] }, { accessFlags := 1, nameIndex := 59, descriptorIndex := 60, attributes := #[] }, { accessFlags := 1, nameIndex := 62, descriptorIndex := 63, attributes := #[] }] 48 2 #[41] #[{ accessFlags := 18, nameIndex := 11, descriptorIndex := 12, attributes := #[] }, { accessFlags := 18, nameIndex := 15, descriptorIndex := 16, attributes := #[] }, { accessFlags := 18, nameIndex := 22, descriptorIndex := 23, attributes := #[] }, { accessFlags := 2, nameIndex := 19, descriptorIndex := 16, attributes := #[] }])
  fields := #[{ name := "list", type := (.object "java/util/List"), accessFlags := 18, slot := 0, constantValue := 0 }, { name := "size", type := .int, accessFlags := 18, slot := 1, constantValue := 0 }, { name := "isListIterator", type := .boolean, accessFlags := 18, slot := 2, constantValue := 0 }, { name := "cursor", type := .int, accessFlags := 2, slot := 3, constantValue := 0 }]
  methods := #[k26m0, k26m1, k26m2]
  instanceTypes := #[(.object "java/util/List"), .int, .boolean, .int]
  staticTypes := #[]
  resolved := Array.replicate 86 none
  statics := none }

def pool27 : Array CpInfo := pool [(2, .class_ 4), (1, u "java/lang/CharSequence"), (42, .class_ 48), (0, u "java/lang/CharSequence$1CodePointIterator"), (10, .class_ 60), (0, u "java/lang/CharSequence$1CharIterator"), (5, .class_ 67), (0, u "java/lang/Object")] 63

/-- java/lang/CharSequence -/
def k27 : Class := { plain "java/lang/CharSequence" (some 0) with
  accessFlags := 1537
  interfaces := #[]
  cf := some (fileOf pool27 2 #[.nestMembers #[47, 59]] #[] 1537 66 #[] #[])
  fields := #[]
  methods := #[]
  instanceTypes := #[]
  staticTypes := #[]
  resolved := Array.replicate 131 none
  statics := none }

def pool28 : Array CpInfo := pool [(1, .methodref 2 3), (0, .class_ 4), (0, .nameAndType 5 6), (0, u "java/lang/Object"), (0, u "<init>"), (0, u "()V"), (2, .fieldref 10 11), (0, .class_ 12), (0, .nameAndType 13 14), (0, u "java/lang/String"), (0, u "value"), (0, u "[B"), (0, .fieldref 10 16), (0, .nameAndType 17 18), (0, u "coder"), (0, u "B"), (2, u "hash"), (0, u "I"), (2, u "hashIsZero"), (0, u "Z"), (11, .fieldref 10 39), (0, .nameAndType 40 26), (0, u "COMPACT_STRINGS"), (66, .class_ 109), (1, u "java/lang/StringLatin1"), (32, u "()Z"), (68, u "([BB)V"), (122, u "()I"), (0, .methodref 10 336), (0, .nameAndType 17 337), (0, u "()B"), (25, u "([BI)C"), (27, u "(II)V"), (35, u "(I)C"), (34, .nameAndType 463 464), (0, u "toString"), (0, u "()Ljava/lang/String;"), (27, .methodref 10 493), (0, .nameAndType 494 142), (0, u "isLatin1"), (0, .methodref 107 496), (0, .nameAndType 497 363), (0, u "charAt"), (3, u "checkIndex"), (5, u "length"), (67, .class_ 576), (0, u "java/lang/CharSequence"), (22, u "CASE_INSENSITIVE_ORDER"), (0, u "Ljava/util/Comparator;"), (181, u "valueOf"), (25, u "(Ljava/lang/Object;)Ljava/lang/String;"), (198, .methodref 2 462), (45, .fieldref 1054 1055), (0, .class_ 1056), (0, .nameAndType 1057 1058), (0, u "jdk/internal/util/Preconditions"), (0, u "SIOOBE_FORMATTER"), (0, u "Ljava/util/function/BiFunction;"), (0, .methodref 1054 1060), (0, .nameAndType 501 1061), (0, u "(IILjava/util/function/BiFunction;)I"), (39, u "serialPersistentFields"), (0, u "[Ljava/io/ObjectStreamField;"), (0, .class_ 1104), (0, u "java/lang/String$CaseInsensitiveComparator"), (1, .class_ 1107), (0, u "java/io/Serializable"), (0, .class_ 1109), (0, u "java/lang/Comparable"), (0, .class_ 1111), (0, u "java/lang/constant/Constable"), (0, .class_ 1113), (0, u "java/lang/constant/ConstantDesc"), (2, u "serialVersionUID"), (0, u "J"), (3, u "REPL"), (0, u "C"), (2, u "LATIN1"), (1, u "UTF16")] 323

def k28m0 : Method := { name := "<init>", desc := "()V", sig := { parameters := [], returnType := none }, accessFlags := 1, code := none }
def k28c1 : Code := { maxStack := 2, maxLocals := 1, code := jdk_42_method_54_code, exceptionTable := #[], attributes := #[] }
def k28m1 : Method := { name := "length", desc := "()I", sig := { parameters := [], returnType := some .int }, accessFlags := 1, code := some k28c1 }
def k28c2 : Code := { maxStack := 2, maxLocals := 2, code := jdk_42_method_56_code, exceptionTable := #[], attributes := #[] }
def k28m2 : Method := { name := "charAt", desc := "(I)C", sig := { parameters := [.int], returnType := some .char }, accessFlags := 1, code := some k28c2 }
def k28c3 : Code := { maxStack := 1, maxLocals := 1, code := jdk_42_method_133_code, exceptionTable := #[], attributes := #[] }
def k28m3 : Method := { name := "valueOf", desc := "(Ljava/lang/Object;)Ljava/lang/String;", sig := { parameters := [(.object "java/lang/Object")], returnType := some (.object "java/lang/String") }, accessFlags := 9, code := some k28c3 }
def k28c4 : Code := { maxStack := 2, maxLocals := 3, code := jdk_42_method_151_code, exceptionTable := #[], attributes := #[] }
def k28m4 : Method := { name := "<init>", desc := "([BB)V", sig := { parameters := [(.array .byte), .byte], returnType := none }, accessFlags := 0, code := some k28c4 }
def k28c5 : Code := { maxStack := 1, maxLocals := 1, code := jdk_42_method_152_code, exceptionTable := #[], attributes := #[] }
def k28m5 : Method := { name := "coder", desc := "()B", sig := { parameters := [], returnType := some .byte }, accessFlags := 0, code := some k28c5 }
def k28c6 : Code := { maxStack := 1, maxLocals := 1, code := jdk_42_method_154_code, exceptionTable := #[], attributes := #[] }
def k28m6 : Method := { name := "isLatin1", desc := "()Z", sig := { parameters := [], returnType := some .boolean }, accessFlags := 0, code := some k28c6 }
def k28c7 : Code := { maxStack := 3, maxLocals := 2, code := jdk_42_method_155_code, exceptionTable := #[], attributes := #[] }
def k28m7 : Method := { name := "checkIndex", desc := "(II)V", sig := { parameters := [.int, .int], returnType := none }, accessFlags := 8, code := some k28c7 }
/-- java/lang/String -/
def k28 : Class := { plain "java/lang/String" (some 0) with
  accessFlags := 49
  interfaces := #[5, 3, 27, 7, 8]
  cf := some (fileOf pool28 10 #[.nestMembers #[1103]] #[{ accessFlags := 1, nameIndex := 5, descriptorIndex := 6, attributes := #[] }, { accessFlags := 1, nameIndex := 507, descriptorIndex := 334, attributes := #[] }, { accessFlags := 1, nameIndex := 497, descriptorIndex := 427, attributes := #[] }, { accessFlags := 9, nameIndex := 782, descriptorIndex := 808, attributes := #[] }, { accessFlags := 0, nameIndex := 5, descriptorIndex := 211, attributes := #[] }, { accessFlags := 0, nameIndex := 17, descriptorIndex := 337, attributes := #[] }, { accessFlags := 0, nameIndex := 494, descriptorIndex := 142, attributes := #[] }, { accessFlags := 8, nameIndex := 501, descriptorIndex := 391, attributes := #[] }] 49 2 #[1106, 1108, 575, 1110, 1112] #[{ accessFlags := 18, nameIndex := 13, descriptorIndex := 14, attributes := #[] }, { accessFlags := 18, nameIndex := 17, descriptorIndex := 18, attributes := #[] }, { accessFlags := 2, nameIndex := 21, descriptorIndex := 22, attributes := #[] }, { accessFlags := 2, nameIndex := 25, descriptorIndex := 26, attributes := #[] }, { accessFlags := 26, nameIndex := 1116, descriptorIndex := 1117, attributes := #[] }, { accessFlags := 24, nameIndex := 40, descriptorIndex := 26, attributes := #[] }, { accessFlags := 26, nameIndex := 1101, descriptorIndex := 1102, attributes := #[] }, { accessFlags := 26, nameIndex := 1121, descriptorIndex := 1122, attributes := #[] }, { accessFlags := 25, nameIndex := 599, descriptorIndex := 600, attributes := #[] }, { accessFlags := 24, nameIndex := 1125, descriptorIndex := 18, attributes := #[] }, { accessFlags := 24, nameIndex := 1127, descriptorIndex := 18, attributes := #[] }])
  fields := #[{ name := "value", type := (.array .byte), accessFlags := 18, slot := 0, constantValue := 0 }, { name := "coder", type := .byte, accessFlags := 18, slot := 1, constantValue := 0 }, { name := "hash", type := .int, accessFlags := 2, slot := 2, constantValue := 0 }, { name := "hashIsZero", type := .boolean, accessFlags := 2, slot := 3, constantValue := 0 }, { name := "serialVersionUID", type := .long, accessFlags := 26, slot := 0, constantValue := 0 }, { name := "COMPACT_STRINGS", type := .boolean, accessFlags := 24, slot := 1, constantValue := 0 }, { name := "serialPersistentFields", type := (.array (.object "java/io/ObjectStreamField")), accessFlags := 26, slot := 2, constantValue := 0 }, { name := "REPL", type := .char, accessFlags := 26, slot := 3, constantValue := 0 }, { name := "CASE_INSENSITIVE_ORDER", type := (.object "java/util/Comparator"), accessFlags := 25, slot := 4, constantValue := 0 }, { name := "LATIN1", type := .byte, accessFlags := 24, slot := 5, constantValue := 0 }, { name := "UTF16", type := .byte, accessFlags := 24, slot := 6, constantValue := 0 }]
  methods := #[k28m0, k28m1, k28m2, k28m3, k28m4, k28m5, k28m6, k28m7]
  instanceTypes := #[(.array .byte), .byte, .int, .boolean]
  staticTypes := #[.long, .boolean, (.array (.object "java/io/ObjectStreamField")), .char, (.object "java/util/Comparator"), .byte, .byte]
  resolved := Array.replicate 1451 none
  statics := some 4 }

def pool29 : Array CpInfo := pool [(1, .class_ 2), (0, u "java/lang/String"), (1, .class_ 6), (1, u "java/lang/Object"), (0, u "<init>"), (0, u "()V"), (0, .methodref 1 10), (0, .nameAndType 11 12), (0, u "checkIndex"), (0, u "(II)V"), (1, .class_ 16), (1, u "java/lang/StringLatin1"), (36, u "([BI)C"), (67, u "$assertionsDisabled"), (0, u "Z"), (98, .class_ 223), (1, u "java/lang/StringLatin1$LinesSpliterator"), (28, u "charAt"), (137, .class_ 391), (0, u "java/lang/StringLatin1$CharsSpliterator")] 3

def k29m0 : Method := { name := "<init>", desc := "()V", sig := { parameters := [], returnType := none }, accessFlags := 0, code := none }
def k29c1 : Code := { maxStack := 2, maxLocals := 2, code := jdk_43_method_2_code, exceptionTable := #[], attributes := #[] }
def k29m1 : Method := { name := "charAt", desc := "([BI)C", sig := { parameters := [(.array .byte), .int], returnType := some .char }, accessFlags := 9, code := some k29c1 }
/-- java/lang/StringLatin1 -/
def k29 : Class := { plain "java/lang/StringLatin1" (some 0) with
  accessFlags := 48
  interfaces := #[]
  cf := some (fileOf pool29 14 #[.nestMembers #[390, 221]] #[{ accessFlags := 0, nameIndex := 7, descriptorIndex := 8, attributes := #[] }, { accessFlags := 9, nameIndex := 252, descriptorIndex := 53, attributes := #[] }] 48 4 #[] #[{ accessFlags := 4120, nameIndex := 121, descriptorIndex := 122, attributes := #[] }])
  fields := #[{ name := "$assertionsDisabled", type := .boolean, accessFlags := 4120, slot := 0, constantValue := 0 }]
  methods := #[k29m0, k29m1]
  instanceTypes := #[]
  staticTypes := #[.boolean]
  resolved := Array.replicate 395 none
  statics := none }

def pool30 : Array CpInfo := pool [(2, .class_ 4), (1, u "java/lang/Object"), (0, u "<init>"), (0, u "()V"), (17, .class_ 26), (1, u "jdk/internal/util/Preconditions"), (6, u "checkIndex"), (21, .class_ 56), (0, u "jdk/internal/util/Preconditions$4"), (57, .class_ 115), (0, u "jdk/internal/util/Preconditions$1"), (7, u "SIOOBE_FORMATTER"), (0, u "Ljava/util/function/BiFunction;"), (0, .class_ 126), (0, u "jdk/internal/util/Preconditions$2"), (3, u "AIOOBE_FORMATTER"), (0, .class_ 132), (0, u "jdk/internal/util/Preconditions$3"), (3, u "IOOBE_FORMATTER"), (41, u "(IILjava/util/function/BiFunction;)I")] 15

def k30m0 : Method := { name := "<init>", desc := "()V", sig := { parameters := [], returnType := none }, accessFlags := 1, code := none }
def k30c1 : Code := { maxStack := 3, maxLocals := 3, code := jdk_41_method_11_code, exceptionTable := #[], attributes := #[] }
def k30m1 : Method := { name := "checkIndex", desc := "(IILjava/util/function/BiFunction;)I", sig := { parameters := [.int, .int, (.object "java/util/function/BiFunction")], returnType := some .int }, accessFlags := 9, code := some k30c1 }
/-- jdk/internal/util/Preconditions -/
def k30 : Class := { plain "jdk/internal/util/Preconditions" (some 0) with
  accessFlags := 33
  interfaces := #[]
  cf := some (fileOf pool30 24 #[.nestMembers #[55, 131, 125, 114]] #[{ accessFlags := 1, nameIndex := 5, descriptorIndex := 6, attributes := #[] }, { accessFlags := 9, nameIndex := 33, descriptorIndex := 178, attributes := #[] }] 33 2 #[] #[{ accessFlags := 25, nameIndex := 123, descriptorIndex := 124, attributes := #[] }, { accessFlags := 25, nameIndex := 130, descriptorIndex := 124, attributes := #[] }, { accessFlags := 25, nameIndex := 136, descriptorIndex := 124, attributes := #[] }])
  fields := #[{ name := "SIOOBE_FORMATTER", type := (.object "java/util/function/BiFunction"), accessFlags := 25, slot := 0, constantValue := 0 }, { name := "AIOOBE_FORMATTER", type := (.object "java/util/function/BiFunction"), accessFlags := 25, slot := 1, constantValue := 0 }, { name := "IOOBE_FORMATTER", type := (.object "java/util/function/BiFunction"), accessFlags := 25, slot := 2, constantValue := 0 }]
  methods := #[k30m0, k30m1]
  instanceTypes := #[]
  staticTypes := #[(.object "java/util/function/BiFunction"), (.object "java/util/function/BiFunction"), (.object "java/util/function/BiFunction")]
  resolved := Array.replicate 194 none
  statics := some 5 }

def pool31 : Array CpInfo := pool [(9, u "<init>"), (6, .class_ 18), (1, u "java/lang/Object"), (0, u "()V"), (1, .class_ 23), (1, u "jdk/internal/util/ArraysSupport"), (0, u "LOG2_ARRAY_LONG_INDEX_SCALE"), (0, u "I"), (2, u "U"), (0, u "Ljdk/internal/misc/Unsafe;"), (8, u "BIG_ENDIAN"), (0, u "Z"), (8, u "LOG2_BYTE_BIT_SIZE"), (4, u "LOG2_ARRAY_INT_INDEX_SCALE"), (54, u "JLA"), (0, u "Ljdk/internal/access/JavaLangAccess;"), (11, u "LOG2_ARRAY_BOOLEAN_INDEX_SCALE"), (9, u "LOG2_ARRAY_BYTE_INDEX_SCALE"), (5, u "LOG2_ARRAY_CHAR_INDEX_SCALE"), (5, u "LOG2_ARRAY_SHORT_INDEX_SCALE"), (18, u "LOG2_ARRAY_FLOAT_INDEX_SCALE"), (24, u "LOG2_ARRAY_DOUBLE_INDEX_SCALE"), (89, u "T_BOOLEAN"), (2, u "T_CHAR"), (1, u "T_FLOAT"), (1, u "T_DOUBLE"), (1, u "T_BYTE"), (1, u "T_SHORT"), (1, u "T_INT"), (1, u "T_LONG"), (1, u "SOFT_MAX_ARRAY_LENGTH")] 83

def k31m0 : Method := { name := "<init>", desc := "()V", sig := { parameters := [], returnType := none }, accessFlags := 2, code := none }
/-- jdk/internal/util/ArraysSupport -/
def k31 : Class := { plain "jdk/internal/util/ArraysSupport" (some 0) with
  accessFlags := 33
  interfaces := #[]
  cf := some (fileOf pool31 21 #[] #[{ accessFlags := 2, nameIndex := 9, descriptorIndex := 19, attributes := #[] }] 33 16 #[] #[{ accessFlags := 24, nameIndex := 28, descriptorIndex := 29, attributes := #[] }, { accessFlags := 26, nameIndex := 38, descriptorIndex := 39, attributes := #[] }, { accessFlags := 25, nameIndex := 121, descriptorIndex := 25, attributes := #[] }, { accessFlags := 25, nameIndex := 131, descriptorIndex := 25, attributes := #[] }, { accessFlags := 25, nameIndex := 137, descriptorIndex := 25, attributes := #[] }, { accessFlags := 25, nameIndex := 143, descriptorIndex := 25, attributes := #[] }, { accessFlags := 25, nameIndex := 53, descriptorIndex := 25, attributes := #[] }, { accessFlags := 25, nameIndex := 24, descriptorIndex := 25, attributes := #[] }, { accessFlags := 25, nameIndex := 162, descriptorIndex := 25, attributes := #[] }, { accessFlags := 25, nameIndex := 187, descriptorIndex := 25, attributes := #[] }, { accessFlags := 26, nameIndex := 48, descriptorIndex := 25, attributes := #[] }, { accessFlags := 25, nameIndex := 277, descriptorIndex := 25, attributes := #[] }, { accessFlags := 25, nameIndex := 280, descriptorIndex := 25, attributes := #[] }, { accessFlags := 25, nameIndex := 282, descriptorIndex := 25, attributes := #[] }, { accessFlags := 25, nameIndex := 284, descriptorIndex := 25, attributes := #[] }, { accessFlags := 25, nameIndex := 286, descriptorIndex := 25, attributes := #[] }, { accessFlags := 25, nameIndex := 288, descriptorIndex := 25, attributes := #[] }, { accessFlags := 25, nameIndex := 290, descriptorIndex := 25, attributes := #[] }, { accessFlags := 25, nameIndex := 292, descriptorIndex := 25, attributes := #[] }, { accessFlags := 26, nameIndex := 108, descriptorIndex := 109, attributes := #[] }, { accessFlags := 25, nameIndex := 294, descriptorIndex := 25, attributes := #[] }])
  fields := #[{ name := "U", type := (.object "jdk/internal/misc/Unsafe"), accessFlags := 24, slot := 0, constantValue := 0 }, { name := "BIG_ENDIAN", type := .boolean, accessFlags := 26, slot := 1, constantValue := 0 }, { name := "LOG2_ARRAY_BOOLEAN_INDEX_SCALE", type := .int, accessFlags := 25, slot := 2, constantValue := 0 }, { name := "LOG2_ARRAY_BYTE_INDEX_SCALE", type := .int, accessFlags := 25, slot := 3, constantValue := 0 }, { name := "LOG2_ARRAY_CHAR_INDEX_SCALE", type := .int, accessFlags := 25, slot := 4, constantValue := 0 }, { name := "LOG2_ARRAY_SHORT_INDEX_SCALE", type := .int, accessFlags := 25, slot := 5, constantValue := 0 }, { name := "LOG2_ARRAY_INT_INDEX_SCALE", type := .int, accessFlags := 25, slot := 6, constantValue := 0 }, { name := "LOG2_ARRAY_LONG_INDEX_SCALE", type := .int, accessFlags := 25, slot := 7, constantValue := 0 }, { name := "LOG2_ARRAY_FLOAT_INDEX_SCALE", type := .int, accessFlags := 25, slot := 8, constantValue := 0 }, { name := "LOG2_ARRAY_DOUBLE_INDEX_SCALE", type := .int, accessFlags := 25, slot := 9, constantValue := 0 }, { name := "LOG2_BYTE_BIT_SIZE", type := .int, accessFlags := 26, slot := 10, constantValue := 0 }, { name := "T_BOOLEAN", type := .int, accessFlags := 25, slot := 11, constantValue := 0 }, { name := "T_CHAR", type := .int, accessFlags := 25, slot := 12, constantValue := 0 }, { name := "T_FLOAT", type := .int, accessFlags := 25, slot := 13, constantValue := 0 }, { name := "T_DOUBLE", type := .int, accessFlags := 25, slot := 14, constantValue := 0 }, { name := "T_BYTE", type := .int, accessFlags := 25, slot := 15, constantValue := 0 }, { name := "T_SHORT", type := .int, accessFlags := 25, slot := 16, constantValue := 0 }, { name := "T_INT", type := .int, accessFlags := 25, slot := 17, constantValue := 0 }, { name := "T_LONG", type := .int, accessFlags := 25, slot := 18, constantValue := 0 }, { name := "JLA", type := (.object "jdk/internal/access/JavaLangAccess"), accessFlags := 26, slot := 19, constantValue := 0 }, { name := "SOFT_MAX_ARRAY_LENGTH", type := .int, accessFlags := 25, slot := 20, constantValue := 0 }]
  methods := #[k31m0]
  instanceTypes := #[]
  staticTypes := #[(.object "jdk/internal/misc/Unsafe"), .boolean, .int, .int, .int, .int, .int, .int, .int, .int, .int, .int, .int, .int, .int, .int, .int, .int, .int, (.object "jdk/internal/access/JavaLangAccess"), .int]
  resolved := Array.replicate 378 none
  statics := none }

def pool32 : Array CpInfo := pool [(2, .class_ 4), (1, u "java/util/ImmutableCollections$AbstractImmutableList"), (3, .class_ 10), (1, u "java/util/ImmutableCollections$ListN"), (0, u "elements"), (0, u "[Ljava/lang/Object;"), (2, u "allowNulls"), (0, u "Z"), (42, .class_ 60), (0, u "java/io/Serializable"), (53, .class_ 115), (0, u "java/util/ImmutableCollections")] 3

/-- java/util/ImmutableCollections$ListN -/
def k32 : Class := { plain "java/util/ImmutableCollections$ListN" (some 18) with
  accessFlags := 48
  interfaces := #[5]
  cf := some (fileOf pool32 8 #[.nestHost 114] #[] 48 2 #[59] #[{ accessFlags := 18, nameIndex := 11, descriptorIndex := 12, attributes := #[] }, { accessFlags := 18, nameIndex := 15, descriptorIndex := 16, attributes := #[] }])
  fields := #[{ name := "elements", type := (.array (.object "java/lang/Object")), accessFlags := 18, slot := 0, constantValue := 0 }, { name := "allowNulls", type := .boolean, accessFlags := 18, slot := 1, constantValue := 0 }]
  methods := #[]
  instanceTypes := #[(.array (.object "java/lang/Object")), .boolean]
  staticTypes := #[]
  resolved := Array.replicate 119 none
  statics := none }

def pool33 : Array CpInfo := pool [(1, u "java/lang/Class"), (0, .class_ 1), (0, u "java/lang/Object"), (0, .class_ 3)] 3

/-- java/lang/Class -/
def k33 : Class := { plain "java/lang/Class" (some 0) with
  accessFlags := 49
  interfaces := #[]
  cf := some (fileOf pool33 2 #[] #[] 49 4 #[] #[])
  fields := #[]
  methods := #[]
  instanceTypes := #[]
  staticTypes := #[]
  resolved := Array.replicate 8 none
  statics := none }

def pool34 : Array CpInfo := pool [(1, u "java/lang/Cloneable"), (0, .class_ 1), (0, u "java/lang/Object"), (0, .class_ 3)] 3

/-- java/lang/Cloneable -/
def k34 : Class := { plain "java/lang/Cloneable" (some 0) with
  accessFlags := 1537
  interfaces := #[]
  cf := some (fileOf pool34 2 #[] #[] 1537 4 #[] #[])
  fields := #[]
  methods := #[]
  instanceTypes := #[]
  staticTypes := #[]
  resolved := Array.replicate 8 none
  statics := none }

/-- the primitive byte -/
def k35 : Class := { plain "byte" none with kind := .primitive 'B', accessFlags := 0x411 }
/-- [B -/
def k36 : Class := { plain "[B" (some 0) with kind := .array 35 .byte, interfaces := #[34, 5], accessFlags := 1041 }

/-- [Ljava/lang/Integer; -/
def k37 : Class := { plain "[Ljava/lang/Integer;" (some 0) with kind := .array 9 (.object "java/lang/Integer"), interfaces := #[34, 5], accessFlags := 1041 }

def heap : Heap := #[{ cls := 9, slots := #[.int 0, .int 0, .null, .null, .ref 265, .ref 264, .int 0, .int 0, .long 0], vm := .statics 9 },
  { cls := 10, slots := #[.int 0, .int 127, .ref 7, .null, .int 0], vm := .statics 10 },
  { cls := 21, slots := #[.long 0, .int 0, .null, .ref 269, .ref 270, .null, .null, .null, .int 0, .int 1], vm := .statics 21 },
  { cls := 23, slots := #[.ref 266, .ref 268, .ref 267, .null], vm := .statics 23 },
  { cls := 28, slots := #[.long 0, .int 1, .null, .int 0, .null, .int 0, .int 0], vm := .statics 28 },
  { cls := 30, slots := #[.null, .null, .null], vm := .statics 30 },
  { cls := 33, slots := #[], vm := .mirror 23 },
  { cls := 37, slots := #[.ref 8, .ref 9, .ref 10, .ref 11, .ref 12, .ref 13, .ref 14, .ref 15, .ref 16, .ref 17, .ref 18, .ref 19, .ref 20, .ref 21, .ref 22, .ref 23, .ref 24, .ref 25, .ref 26, .ref 27, .ref 28, .ref 29, .ref 30, .ref 31, .ref 32, .ref 33, .ref 34, .ref 35, .ref 36, .ref 37, .ref 38, .ref 39, .ref 40, .ref 41, .ref 42, .ref 43, .ref 44, .ref 45, .ref 46, .ref 47, .ref 48, .ref 49, .ref 50, .ref 51, .ref 52, .ref 53, .ref 54, .ref 55, .ref 56, .ref 57, .ref 58, .ref 59, .ref 60, .ref 61, .ref 62, .ref 63, .ref 64, .ref 65, .ref 66, .ref 67, .ref 68, .ref 69, .ref 70, .ref 71, .ref 72, .ref 73, .ref 74, .ref 75, .ref 76, .ref 77, .ref 78, .ref 79, .ref 80, .ref 81, .ref 82, .ref 83, .ref 84, .ref 85, .ref 86, .ref 87, .ref 88, .ref 89, .ref 90, .ref 91, .ref 92, .ref 93, .ref 94, .ref 95, .ref 96, .ref 97, .ref 98, .ref 99, .ref 100, .ref 101, .ref 102, .ref 103, .ref 104, .ref 105, .ref 106, .ref 107, .ref 108, .ref 109, .ref 110, .ref 111, .ref 112, .ref 113, .ref 114, .ref 115, .ref 116, .ref 117, .ref 118, .ref 119, .ref 120, .ref 121, .ref 122, .ref 123, .ref 124, .ref 125, .ref 126, .ref 127, .ref 128, .ref 129, .ref 130, .ref 131, .ref 132, .ref 133, .ref 134, .ref 135, .ref 136, .ref 137, .ref 138, .ref 139, .ref 140, .ref 141, .ref 142, .ref 143, .ref 144, .ref 145, .ref 146, .ref 147, .ref 148, .ref 149, .ref 150, .ref 151, .ref 152, .ref 153, .ref 154, .ref 155, .ref 156, .ref 157, .ref 158, .ref 159, .ref 160, .ref 161, .ref 162, .ref 163, .ref 164, .ref 165, .ref 166, .ref 167, .ref 168, .ref 169, .ref 170, .ref 171, .ref 172, .ref 173, .ref 174, .ref 175, .ref 176, .ref 177, .ref 178, .ref 179, .ref 180, .ref 181, .ref 182, .ref 183, .ref 184, .ref 185, .ref 186, .ref 187, .ref 188, .ref 189, .ref 190, .ref 191, .ref 192, .ref 193, .ref 194, .ref 195, .ref 196, .ref 197, .ref 198, .ref 199, .ref 200, .ref 201, .ref 202, .ref 203, .ref 204, .ref 205, .ref 206, .ref 207, .ref 208, .ref 209, .ref 210, .ref 211, .ref 212, .ref 213, .ref 214, .ref 215, .ref 216, .ref 217, .ref 218, .ref 219, .ref 220, .ref 221, .ref 222, .ref 223, .ref 224, .ref 225, .ref 226, .ref 227, .ref 228, .ref 229, .ref 230, .ref 231, .ref 232, .ref 233, .ref 234, .ref 235, .ref 236, .ref 237, .ref 238, .ref 239, .ref 240, .ref 241, .ref 242, .ref 243, .ref 244, .ref 245, .ref 246, .ref 247, .ref 248, .ref 249, .ref 250, .ref 251, .ref 252, .ref 253, .ref 254, .ref 255, .ref 256, .ref 257, .ref 258, .ref 259, .ref 260, .ref 261, .ref 262, .ref 263], vm := .none },
  { cls := 9, slots := #[.int (-128)], vm := .none },
  { cls := 9, slots := #[.int (-127)], vm := .none },
  { cls := 9, slots := #[.int (-126)], vm := .none },
  { cls := 9, slots := #[.int (-125)], vm := .none },
  { cls := 9, slots := #[.int (-124)], vm := .none },
  { cls := 9, slots := #[.int (-123)], vm := .none },
  { cls := 9, slots := #[.int (-122)], vm := .none },
  { cls := 9, slots := #[.int (-121)], vm := .none },
  { cls := 9, slots := #[.int (-120)], vm := .none },
  { cls := 9, slots := #[.int (-119)], vm := .none },
  { cls := 9, slots := #[.int (-118)], vm := .none },
  { cls := 9, slots := #[.int (-117)], vm := .none },
  { cls := 9, slots := #[.int (-116)], vm := .none },
  { cls := 9, slots := #[.int (-115)], vm := .none },
  { cls := 9, slots := #[.int (-114)], vm := .none },
  { cls := 9, slots := #[.int (-113)], vm := .none },
  { cls := 9, slots := #[.int (-112)], vm := .none },
  { cls := 9, slots := #[.int (-111)], vm := .none },
  { cls := 9, slots := #[.int (-110)], vm := .none },
  { cls := 9, slots := #[.int (-109)], vm := .none },
  { cls := 9, slots := #[.int (-108)], vm := .none },
  { cls := 9, slots := #[.int (-107)], vm := .none },
  { cls := 9, slots := #[.int (-106)], vm := .none },
  { cls := 9, slots := #[.int (-105)], vm := .none },
  { cls := 9, slots := #[.int (-104)], vm := .none },
  { cls := 9, slots := #[.int (-103)], vm := .none },
  { cls := 9, slots := #[.int (-102)], vm := .none },
  { cls := 9, slots := #[.int (-101)], vm := .none },
  { cls := 9, slots := #[.int (-100)], vm := .none },
  { cls := 9, slots := #[.int (-99)], vm := .none },
  { cls := 9, slots := #[.int (-98)], vm := .none },
  { cls := 9, slots := #[.int (-97)], vm := .none },
  { cls := 9, slots := #[.int (-96)], vm := .none },
  { cls := 9, slots := #[.int (-95)], vm := .none },
  { cls := 9, slots := #[.int (-94)], vm := .none },
  { cls := 9, slots := #[.int (-93)], vm := .none },
  { cls := 9, slots := #[.int (-92)], vm := .none },
  { cls := 9, slots := #[.int (-91)], vm := .none },
  { cls := 9, slots := #[.int (-90)], vm := .none },
  { cls := 9, slots := #[.int (-89)], vm := .none },
  { cls := 9, slots := #[.int (-88)], vm := .none },
  { cls := 9, slots := #[.int (-87)], vm := .none },
  { cls := 9, slots := #[.int (-86)], vm := .none },
  { cls := 9, slots := #[.int (-85)], vm := .none },
  { cls := 9, slots := #[.int (-84)], vm := .none },
  { cls := 9, slots := #[.int (-83)], vm := .none },
  { cls := 9, slots := #[.int (-82)], vm := .none },
  { cls := 9, slots := #[.int (-81)], vm := .none },
  { cls := 9, slots := #[.int (-80)], vm := .none },
  { cls := 9, slots := #[.int (-79)], vm := .none },
  { cls := 9, slots := #[.int (-78)], vm := .none },
  { cls := 9, slots := #[.int (-77)], vm := .none },
  { cls := 9, slots := #[.int (-76)], vm := .none },
  { cls := 9, slots := #[.int (-75)], vm := .none },
  { cls := 9, slots := #[.int (-74)], vm := .none },
  { cls := 9, slots := #[.int (-73)], vm := .none },
  { cls := 9, slots := #[.int (-72)], vm := .none },
  { cls := 9, slots := #[.int (-71)], vm := .none },
  { cls := 9, slots := #[.int (-70)], vm := .none },
  { cls := 9, slots := #[.int (-69)], vm := .none },
  { cls := 9, slots := #[.int (-68)], vm := .none },
  { cls := 9, slots := #[.int (-67)], vm := .none },
  { cls := 9, slots := #[.int (-66)], vm := .none },
  { cls := 9, slots := #[.int (-65)], vm := .none },
  { cls := 9, slots := #[.int (-64)], vm := .none },
  { cls := 9, slots := #[.int (-63)], vm := .none },
  { cls := 9, slots := #[.int (-62)], vm := .none },
  { cls := 9, slots := #[.int (-61)], vm := .none },
  { cls := 9, slots := #[.int (-60)], vm := .none },
  { cls := 9, slots := #[.int (-59)], vm := .none },
  { cls := 9, slots := #[.int (-58)], vm := .none },
  { cls := 9, slots := #[.int (-57)], vm := .none },
  { cls := 9, slots := #[.int (-56)], vm := .none },
  { cls := 9, slots := #[.int (-55)], vm := .none },
  { cls := 9, slots := #[.int (-54)], vm := .none },
  { cls := 9, slots := #[.int (-53)], vm := .none },
  { cls := 9, slots := #[.int (-52)], vm := .none },
  { cls := 9, slots := #[.int (-51)], vm := .none },
  { cls := 9, slots := #[.int (-50)], vm := .none },
  { cls := 9, slots := #[.int (-49)], vm := .none },
  { cls := 9, slots := #[.int (-48)], vm := .none },
  { cls := 9, slots := #[.int (-47)], vm := .none },
  { cls := 9, slots := #[.int (-46)], vm := .none },
  { cls := 9, slots := #[.int (-45)], vm := .none },
  { cls := 9, slots := #[.int (-44)], vm := .none },
  { cls := 9, slots := #[.int (-43)], vm := .none },
  { cls := 9, slots := #[.int (-42)], vm := .none },
  { cls := 9, slots := #[.int (-41)], vm := .none },
  { cls := 9, slots := #[.int (-40)], vm := .none },
  { cls := 9, slots := #[.int (-39)], vm := .none },
  { cls := 9, slots := #[.int (-38)], vm := .none },
  { cls := 9, slots := #[.int (-37)], vm := .none },
  { cls := 9, slots := #[.int (-36)], vm := .none },
  { cls := 9, slots := #[.int (-35)], vm := .none },
  { cls := 9, slots := #[.int (-34)], vm := .none },
  { cls := 9, slots := #[.int (-33)], vm := .none },
  { cls := 9, slots := #[.int (-32)], vm := .none },
  { cls := 9, slots := #[.int (-31)], vm := .none },
  { cls := 9, slots := #[.int (-30)], vm := .none },
  { cls := 9, slots := #[.int (-29)], vm := .none },
  { cls := 9, slots := #[.int (-28)], vm := .none },
  { cls := 9, slots := #[.int (-27)], vm := .none },
  { cls := 9, slots := #[.int (-26)], vm := .none },
  { cls := 9, slots := #[.int (-25)], vm := .none },
  { cls := 9, slots := #[.int (-24)], vm := .none },
  { cls := 9, slots := #[.int (-23)], vm := .none },
  { cls := 9, slots := #[.int (-22)], vm := .none },
  { cls := 9, slots := #[.int (-21)], vm := .none },
  { cls := 9, slots := #[.int (-20)], vm := .none },
  { cls := 9, slots := #[.int (-19)], vm := .none },
  { cls := 9, slots := #[.int (-18)], vm := .none },
  { cls := 9, slots := #[.int (-17)], vm := .none },
  { cls := 9, slots := #[.int (-16)], vm := .none },
  { cls := 9, slots := #[.int (-15)], vm := .none },
  { cls := 9, slots := #[.int (-14)], vm := .none },
  { cls := 9, slots := #[.int (-13)], vm := .none },
  { cls := 9, slots := #[.int (-12)], vm := .none },
  { cls := 9, slots := #[.int (-11)], vm := .none },
  { cls := 9, slots := #[.int (-10)], vm := .none },
  { cls := 9, slots := #[.int (-9)], vm := .none },
  { cls := 9, slots := #[.int (-8)], vm := .none },
  { cls := 9, slots := #[.int (-7)], vm := .none },
  { cls := 9, slots := #[.int (-6)], vm := .none },
  { cls := 9, slots := #[.int (-5)], vm := .none },
  { cls := 9, slots := #[.int (-4)], vm := .none },
  { cls := 9, slots := #[.int (-3)], vm := .none },
  { cls := 9, slots := #[.int (-2)], vm := .none },
  { cls := 9, slots := #[.int (-1)], vm := .none },
  { cls := 9, slots := #[.int 0], vm := .none },
  { cls := 9, slots := #[.int 1], vm := .none },
  { cls := 9, slots := #[.int 2], vm := .none },
  { cls := 9, slots := #[.int 3], vm := .none },
  { cls := 9, slots := #[.int 4], vm := .none },
  { cls := 9, slots := #[.int 5], vm := .none },
  { cls := 9, slots := #[.int 6], vm := .none },
  { cls := 9, slots := #[.int 7], vm := .none },
  { cls := 9, slots := #[.int 8], vm := .none },
  { cls := 9, slots := #[.int 9], vm := .none },
  { cls := 9, slots := #[.int 10], vm := .none },
  { cls := 9, slots := #[.int 11], vm := .none },
  { cls := 9, slots := #[.int 12], vm := .none },
  { cls := 9, slots := #[.int 13], vm := .none },
  { cls := 9, slots := #[.int 14], vm := .none },
  { cls := 9, slots := #[.int 15], vm := .none },
  { cls := 9, slots := #[.int 16], vm := .none },
  { cls := 9, slots := #[.int 17], vm := .none },
  { cls := 9, slots := #[.int 18], vm := .none },
  { cls := 9, slots := #[.int 19], vm := .none },
  { cls := 9, slots := #[.int 20], vm := .none },
  { cls := 9, slots := #[.int 21], vm := .none },
  { cls := 9, slots := #[.int 22], vm := .none },
  { cls := 9, slots := #[.int 23], vm := .none },
  { cls := 9, slots := #[.int 24], vm := .none },
  { cls := 9, slots := #[.int 25], vm := .none },
  { cls := 9, slots := #[.int 26], vm := .none },
  { cls := 9, slots := #[.int 27], vm := .none },
  { cls := 9, slots := #[.int 28], vm := .none },
  { cls := 9, slots := #[.int 29], vm := .none },
  { cls := 9, slots := #[.int 30], vm := .none },
  { cls := 9, slots := #[.int 31], vm := .none },
  { cls := 9, slots := #[.int 32], vm := .none },
  { cls := 9, slots := #[.int 33], vm := .none },
  { cls := 9, slots := #[.int 34], vm := .none },
  { cls := 9, slots := #[.int 35], vm := .none },
  { cls := 9, slots := #[.int 36], vm := .none },
  { cls := 9, slots := #[.int 37], vm := .none },
  { cls := 9, slots := #[.int 38], vm := .none },
  { cls := 9, slots := #[.int 39], vm := .none },
  { cls := 9, slots := #[.int 40], vm := .none },
  { cls := 9, slots := #[.int 41], vm := .none },
  { cls := 9, slots := #[.int 42], vm := .none },
  { cls := 9, slots := #[.int 43], vm := .none },
  { cls := 9, slots := #[.int 44], vm := .none },
  { cls := 9, slots := #[.int 45], vm := .none },
  { cls := 9, slots := #[.int 46], vm := .none },
  { cls := 9, slots := #[.int 47], vm := .none },
  { cls := 9, slots := #[.int 48], vm := .none },
  { cls := 9, slots := #[.int 49], vm := .none },
  { cls := 9, slots := #[.int 50], vm := .none },
  { cls := 9, slots := #[.int 51], vm := .none },
  { cls := 9, slots := #[.int 52], vm := .none },
  { cls := 9, slots := #[.int 53], vm := .none },
  { cls := 9, slots := #[.int 54], vm := .none },
  { cls := 9, slots := #[.int 55], vm := .none },
  { cls := 9, slots := #[.int 56], vm := .none },
  { cls := 9, slots := #[.int 57], vm := .none },
  { cls := 9, slots := #[.int 58], vm := .none },
  { cls := 9, slots := #[.int 59], vm := .none },
  { cls := 9, slots := #[.int 60], vm := .none },
  { cls := 9, slots := #[.int 61], vm := .none },
  { cls := 9, slots := #[.int 62], vm := .none },
  { cls := 9, slots := #[.int 63], vm := .none },
  { cls := 9, slots := #[.int 64], vm := .none },
  { cls := 9, slots := #[.int 65], vm := .none },
  { cls := 9, slots := #[.int 66], vm := .none },
  { cls := 9, slots := #[.int 67], vm := .none },
  { cls := 9, slots := #[.int 68], vm := .none },
  { cls := 9, slots := #[.int 69], vm := .none },
  { cls := 9, slots := #[.int 70], vm := .none },
  { cls := 9, slots := #[.int 71], vm := .none },
  { cls := 9, slots := #[.int 72], vm := .none },
  { cls := 9, slots := #[.int 73], vm := .none },
  { cls := 9, slots := #[.int 74], vm := .none },
  { cls := 9, slots := #[.int 75], vm := .none },
  { cls := 9, slots := #[.int 76], vm := .none },
  { cls := 9, slots := #[.int 77], vm := .none },
  { cls := 9, slots := #[.int 78], vm := .none },
  { cls := 9, slots := #[.int 79], vm := .none },
  { cls := 9, slots := #[.int 80], vm := .none },
  { cls := 9, slots := #[.int 81], vm := .none },
  { cls := 9, slots := #[.int 82], vm := .none },
  { cls := 9, slots := #[.int 83], vm := .none },
  { cls := 9, slots := #[.int 84], vm := .none },
  { cls := 9, slots := #[.int 85], vm := .none },
  { cls := 9, slots := #[.int 86], vm := .none },
  { cls := 9, slots := #[.int 87], vm := .none },
  { cls := 9, slots := #[.int 88], vm := .none },
  { cls := 9, slots := #[.int 89], vm := .none },
  { cls := 9, slots := #[.int 90], vm := .none },
  { cls := 9, slots := #[.int 91], vm := .none },
  { cls := 9, slots := #[.int 92], vm := .none },
  { cls := 9, slots := #[.int 93], vm := .none },
  { cls := 9, slots := #[.int 94], vm := .none },
  { cls := 9, slots := #[.int 95], vm := .none },
  { cls := 9, slots := #[.int 96], vm := .none },
  { cls := 9, slots := #[.int 97], vm := .none },
  { cls := 9, slots := #[.int 98], vm := .none },
  { cls := 9, slots := #[.int 99], vm := .none },
  { cls := 9, slots := #[.int 100], vm := .none },
  { cls := 9, slots := #[.int 101], vm := .none },
  { cls := 9, slots := #[.int 102], vm := .none },
  { cls := 9, slots := #[.int 103], vm := .none },
  { cls := 9, slots := #[.int 104], vm := .none },
  { cls := 9, slots := #[.int 105], vm := .none },
  { cls := 9, slots := #[.int 106], vm := .none },
  { cls := 9, slots := #[.int 107], vm := .none },
  { cls := 9, slots := #[.int 108], vm := .none },
  { cls := 9, slots := #[.int 109], vm := .none },
  { cls := 9, slots := #[.int 110], vm := .none },
  { cls := 9, slots := #[.int 111], vm := .none },
  { cls := 9, slots := #[.int 112], vm := .none },
  { cls := 9, slots := #[.int 113], vm := .none },
  { cls := 9, slots := #[.int 114], vm := .none },
  { cls := 9, slots := #[.int 115], vm := .none },
  { cls := 9, slots := #[.int 116], vm := .none },
  { cls := 9, slots := #[.int 117], vm := .none },
  { cls := 9, slots := #[.int 118], vm := .none },
  { cls := 9, slots := #[.int 119], vm := .none },
  { cls := 9, slots := #[.int 120], vm := .none },
  { cls := 9, slots := #[.int 121], vm := .none },
  { cls := 9, slots := #[.int 122], vm := .none },
  { cls := 9, slots := #[.int 123], vm := .none },
  { cls := 9, slots := #[.int 124], vm := .none },
  { cls := 9, slots := #[.int 125], vm := .none },
  { cls := 9, slots := #[.int 126], vm := .none },
  { cls := 9, slots := #[.int 127], vm := .none },
  { cls := 36, slots := #[.int 48, .int 49, .int 50, .int 51, .int 52, .int 53, .int 54, .int 55, .int 56, .int 57, .int 48, .int 49, .int 50, .int 51, .int 52, .int 53, .int 54, .int 55, .int 56, .int 57, .int 48, .int 49, .int 50, .int 51, .int 52, .int 53, .int 54, .int 55, .int 56, .int 57, .int 48, .int 49, .int 50, .int 51, .int 52, .int 53, .int 54, .int 55, .int 56, .int 57, .int 48, .int 49, .int 50, .int 51, .int 52, .int 53, .int 54, .int 55, .int 56, .int 57, .int 48, .int 49, .int 50, .int 51, .int 52, .int 53, .int 54, .int 55, .int 56, .int 57, .int 48, .int 49, .int 50, .int 51, .int 52, .int 53, .int 54, .int 55, .int 56, .int 57, .int 48, .int 49, .int 50, .int 51, .int 52, .int 53, .int 54, .int 55, .int 56, .int 57, .int 48, .int 49, .int 50, .int 51, .int 52, .int 53, .int 54, .int 55, .int 56, .int 57, .int 48, .int 49, .int 50, .int 51, .int 52, .int 53, .int 54, .int 55, .int 56, .int 57], vm := .none },
  { cls := 36, slots := #[.int 48, .int 48, .int 48, .int 48, .int 48, .int 48, .int 48, .int 48, .int 48, .int 48, .int 49, .int 49, .int 49, .int 49, .int 49, .int 49, .int 49, .int 49, .int 49, .int 49, .int 50, .int 50, .int 50, .int 50, .int 50, .int 50, .int 50, .int 50, .int 50, .int 50, .int 51, .int 51, .int 51, .int 51, .int 51, .int 51, .int 51, .int 51, .int 51, .int 51, .int 52, .int 52, .int 52, .int 52, .int 52, .int 52, .int 52, .int 52, .int 52, .int 52, .int 53, .int 53, .int 53, .int 53, .int 53, .int 53, .int 53, .int 53, .int 53, .int 53, .int 54, .int 54, .int 54, .int 54, .int 54, .int 54, .int 54, .int 54, .int 54, .int 54, .int 55, .int 55, .int 55, .int 55, .int 55, .int 55, .int 55, .int 55, .int 55, .int 55, .int 56, .int 56, .int 56, .int 56, .int 56, .int 56, .int 56, .int 56, .int 56, .int 56, .int 57, .int 57, .int 57, .int 57, .int 57, .int 57, .int 57, .int 57, .int 57, .int 57], vm := .none },
  { cls := 23, slots := #[.null, .int 0, .int 0], vm := .none },
  { cls := 23, slots := #[.null, .int 2, .int 0], vm := .none },
  { cls := 23, slots := #[.null, .int 1, .int 0], vm := .none },
  { cls := 0, slots := #[], vm := .none },
  { cls := 32, slots := #[.null, .int 0], vm := .none }]
def classes : Array Class := #[k0, k1, k2, k3, k4, k5, k6, k7, k8, k9, k10, k11, k12, k13, k14, k15, k16, k17, k18, k19, k20, k21, k22, k23, k24, k25, k26, k27, k28, k29, k30, k31, k32, k33, k34, k35, k36, k37]
def interned : List (Array UInt16 × Addr) := []
def slotsUsed : Nat := 761
def theMethod : MethodId := ⟨1, 3⟩
def args0 : Array Value := #[.int 5, .int 6]
def aboutOver (below : List Frame) : State where
  vm := { classes := classes, interned := interned.toArray }
  heap := heap
  slotsUsed := slotsUsed
  threads := #[{ frames := .invoking theMethod args0 :: below }]
def below0 : List Frame := [.native { method := ⟨0, 0⟩, args := #[] }]
def about1 : State := aboutOver below0
def p0 : Program := .bare "" "" ""
def e0 : Env := launch0.env 0 0 0
theorem w_frames : about1.frames = Frame.invoking theMethod args0 :: below0 := rfl
set_option maxRecDepth 65536 in
theorem w_args : argsFit about1.vm theMethod args0 = true := by decide +kernel
set_option maxRecDepth 65536 in
theorem w_heap : heapFits about1 = true := by decide +kernel
set_option maxRecDepth 65536 in
theorem w_runnable : about1.curStatus? = some .runnable := by decide +kernel
set_option maxRecDepth 65536 in
theorem w_alone : about1.alone = true := by decide +kernel
set_option maxRecDepth 65536 in
theorem w_named : about1.methodNamed? x = some theMethod := by decide +kernel
set_option maxRecDepth 65536 in
theorem w_hears : about1.hears theMethod below0 = true := by decide +kernel
set_option maxRecDepth 65536 in
theorem w_ripe : about1.ripe theMethod args0 below0 = true := by decide +kernel
theorem w_running : about1.status = .running := rfl
set_option maxRecDepth 65536 in
theorem w_room : about1.hasRoom e0.platform room_1 = true :=
  launch0.hasRoom_least _ room_1 (by decide +kernel) (by decide +kernel) (by decide +kernel) (by decide +kernel) (by decide +kernel) (by decide +kernel)
theorem allAtoms_all (ts : List Jvm.Cond) (a : Array Jvm.Value) (st : Jvm.State) : (allAtoms ts).before a st = ts.all (fun c => c.before a st) := by
  induction ts with
  | nil => rfl
  | cons c t ih =>
    show (Jvm.Cond.and c (allAtoms t)).before a st = _
    rw [Jvm.Cond.before_and, ih, List.all_cons]
def words1 : List Jvm.Cond := Jvm.Cond.code x code maxLocals ret :: tables_1
/-- a 'code' word, met by the world's own term for the bytes: nothing is compared byte by byte -/
theorem code_word {y : MethodName} {bytes : ByteArray} {mx : Nat} {rt : Option FieldType} {a : Array Value} {s : State} {m : MethodId} {meth : Method} {c : Code} (h1 : s.methodNamed? y = some m) (h2 : s.vm.method? m = some meth) (h3 : meth.code = some c) (h4 : c.code = bytes)
    (h5 : (c.maxLocals == mx && c.exceptionTable.isEmpty && decide (c.maxStack ≤ mostOperands) && decide (meth.sig.returnType = rt) && !meth.locks && decide (parseMethodDescriptor y.desc = some meth.sig)) = true) : (Jvm.Cond.code y bytes mx rt).before a s = true := by
  simp only [Bool.and_eq_true, beq_iff_eq, Bool.not_eq_true', decide_eq_true_eq] at h5
  obtain ⟨⟨⟨⟨⟨g1, g2⟩, g3⟩, g4⟩, g5⟩, g6⟩ := h5
  simp [Cond.before, Cond.holds, Cond.value, h1, h2, h3, h4, g1, g2, g3, g4, g5, g6]
def isCode : Jvm.Cond → Bool
  | .code _ _ _ _ => true
  | _ => false
theorem all_split {L : List Jvm.Cond} {P : Jvm.Cond → Bool} (h1 : L.all (fun c => isCode c || P c) = true) (h2 : ∀ c ∈ L.filter isCode, P c = true) : L.all P = true := by
  refine List.all_eq_true.mpr fun c hc => ?_
  have h := List.all_eq_true.mp h1 c hc
  rcases Bool.eq_false_or_eq_true (isCode c) with hi | hi
  · exact h2 c (List.mem_filter.mpr ⟨hc, hi⟩)
  · simpa [hi] using h
set_option maxRecDepth 65536 in
theorem w_c0 : (Jvm.Cond.code x code maxLocals ret).before args0 about1 = true := code_word (m := ⟨1, 3⟩) (meth := k1m3) (c := k1c3) (by decide +kernel) rfl rfl rfl (by decide +kernel)
set_option maxRecDepth 65536 in
theorem w_c1 : (Jvm.Cond.code ({ cls := "java/lang/Math", name := "max", desc := "(II)I" } : Jvm.MethodName) jdk_29_method_65_code (2 : Nat) (Option.some Jvm.ClassFile.FieldType.int)).before args0 about1 = true := code_word (m := ⟨2, 1⟩) (meth := k2m1) (c := k2c1) (by decide +kernel) rfl rfl rfl (by decide +kernel)
set_option maxRecDepth 65536 in
theorem w_c2 : (Jvm.Cond.code ({ cls := "com/example/provenans/provenans/model/Notation", name := "of", desc := "(I)Lcom/example/provenans/provenans/model/Notation;" } : Jvm.MethodName) prog_57_method_2_code (1 : Nat) (Option.some (Jvm.ClassFile.FieldType.object "com/example/provenans/provenans/model/Notation"))).before args0 about1 = true := code_word (m := ⟨4, 1⟩) (meth := k4m1) (c := k4c1) (by decide +kernel) rfl rfl rfl (by decide +kernel)
set_option maxRecDepth 65536 in
theorem w_c3 : (Jvm.Cond.code ({ cls := "com/example/provenans/provenans/model/Notation", name := "positive", desc := "(I)I" } : Jvm.MethodName) prog_57_method_11_code (1 : Nat) (Option.some Jvm.ClassFile.FieldType.int)).before args0 about1 = true := code_word (m := ⟨4, 6⟩) (meth := k4m6) (c := k4c6) (by decide +kernel) rfl rfl rfl (by decide +kernel)
set_option maxRecDepth 65536 in
theorem w_c4 : (Jvm.Cond.code ({ cls := "java/lang/Integer", name := "valueOf", desc := "(I)Ljava/lang/Integer;" } : Jvm.MethodName) jdk_33_method_22_code (1 : Nat) (Option.some (Jvm.ClassFile.FieldType.object "java/lang/Integer"))).before args0 about1 = true := code_word (m := ⟨9, 3⟩) (meth := k9m3) (c := k9c3) (by decide +kernel) rfl rfl rfl (by decide +kernel)
set_option maxRecDepth 65536 in
theorem w_c5 : (Jvm.Cond.code ({ cls := "java/util/List", name := "of", desc := "(Ljava/lang/Object;)Ljava/util/List;" } : Jvm.MethodName) jdk_40_method_37_code (1 : Nat) (Option.some (Jvm.ClassFile.FieldType.object "java/util/List"))).before args0 about1 = true := code_word (m := ⟨14, 4⟩) (meth := k14m4) (c := k14c4) (by decide +kernel) rfl rfl rfl (by decide +kernel)
set_option maxRecDepth 65536 in
theorem w_c6 : (Jvm.Cond.code ({ cls := "java/util/ImmutableCollections$List12", name := "<init>", desc := "(Ljava/lang/Object;)V" } : Jvm.MethodName) jdk_44_method_1_code (2 : Nat) (Option.none : Option Jvm.ClassFile.FieldType)).before args0 about1 = true := code_word (m := ⟨19, 0⟩) (meth := k19m0) (c := k19c0) (by decide +kernel) rfl rfl rfl (by decide +kernel)
set_option maxRecDepth 65536 in
theorem w_c7 : (Jvm.Cond.code ({ cls := "java/util/ImmutableCollections$AbstractImmutableList", name := "<init>", desc := "()V" } : Jvm.MethodName) jdk_46_method_1_code (1 : Nat) (Option.none : Option Jvm.ClassFile.FieldType)).before args0 about1 = true := code_word (m := ⟨18, 0⟩) (meth := k18m0) (c := k18c0) (by decide +kernel) rfl rfl rfl (by decide +kernel)
set_option maxRecDepth 65536 in
theorem w_c8 : (Jvm.Cond.code ({ cls := "java/util/ImmutableCollections$AbstractImmutableCollection", name := "<init>", desc := "()V" } : Jvm.MethodName) jdk_47_method_1_code (1 : Nat) (Option.none : Option Jvm.ClassFile.FieldType)).before args0 about1 = true := code_word (m := ⟨16, 0⟩) (meth := k16m0) (c := k16c0) (by decide +kernel) rfl rfl rfl (by decide +kernel)
set_option maxRecDepth 65536 in
theorem w_c9 : (Jvm.Cond.code ({ cls := "java/util/AbstractCollection", name := "<init>", desc := "()V" } : Jvm.MethodName) jdk_22_method_1_code (1 : Nat) (Option.none : Option Jvm.ClassFile.FieldType)).before args0 about1 = true := code_word (m := ⟨15, 0⟩) (meth := k15m0) (c := k15c0) (by decide +kernel) rfl rfl rfl (by decide +kernel)
set_option maxRecDepth 65536 in
theorem w_c10 : (Jvm.Cond.code ({ cls := "java/lang/Object", name := "<init>", desc := "()V" } : Jvm.MethodName) object_method_1_code (1 : Nat) (Option.none : Option Jvm.ClassFile.FieldType)).before args0 about1 = true := code_word (m := ⟨0, 0⟩) (meth := k0m0) (c := k0c0) (by decide +kernel) rfl rfl rfl (by decide +kernel)
set_option maxRecDepth 65536 in
theorem w_c11 : (Jvm.Cond.code ({ cls := "java/util/Objects", name := "requireNonNull", desc := "(Ljava/lang/Object;)Ljava/lang/Object;" } : Jvm.MethodName) jdk_31_method_10_code (1 : Nat) (Option.some (Jvm.ClassFile.FieldType.object "java/lang/Object"))).before args0 about1 = true := code_word (m := ⟨20, 2⟩) (meth := k20m2) (c := k20c2) (by decide +kernel) rfl rfl rfl (by decide +kernel)
set_option maxRecDepth 65536 in
theorem w_c12 : (Jvm.Cond.code ({ cls := "com/example/provenans/provenans/model/Notation", name := "<init>", desc := "(Ljava/util/List;Lcom/example/provenans/provenans/model/Notation$Level;I)V" } : Jvm.MethodName) prog_57_method_1_code (4 : Nat) (Option.none : Option Jvm.ClassFile.FieldType)).before args0 about1 = true := code_word (m := ⟨4, 0⟩) (meth := k4m0) (c := k4c0) (by decide +kernel) rfl rfl rfl (by decide +kernel)
set_option maxRecDepth 65536 in
theorem w_c13 : (Jvm.Cond.code ({ cls := "com/example/provenans/provenans/model/Notation", name := "level", desc := "()Lcom/example/provenans/provenans/model/Notation$Level;" } : Jvm.MethodName) prog_57_method_7_code (1 : Nat) (Option.some (Jvm.ClassFile.FieldType.object "com/example/provenans/provenans/model/Notation$Level"))).before args0 about1 = true := code_word (m := ⟨4, 3⟩) (meth := k4m3) (c := k4c3) (by decide +kernel) rfl rfl rfl (by decide +kernel)
set_option maxRecDepth 65536 in
theorem w_c14 : (Jvm.Cond.code ({ cls := "com/example/provenans/provenans/model/Notation", name := "depth", desc := "()I" } : Jvm.MethodName) prog_57_method_8_code (1 : Nat) (Option.some Jvm.ClassFile.FieldType.int)).before args0 about1 = true := code_word (m := ⟨4, 4⟩) (meth := k4m4) (c := k4c4) (by decide +kernel) rfl rfl rfl (by decide +kernel)
set_option maxRecDepth 65536 in
theorem w_c15 : (Jvm.Cond.code ({ cls := "java/util/ImmutableCollections$List12", name := "size", desc := "()I" } : Jvm.MethodName) jdk_44_method_3_code (1 : Nat) (Option.some Jvm.ClassFile.FieldType.int)).before args0 about1 = true := code_word (m := ⟨19, 1⟩) (meth := k19m1) (c := k19c1) (by decide +kernel) rfl rfl rfl (by decide +kernel)
set_option maxRecDepth 65536 in
theorem w_c16 : (Jvm.Cond.code ({ cls := "java/lang/Enum", name := "ordinal", desc := "()I" } : Jvm.MethodName) jdk_37_method_2_code (1 : Nat) (Option.some Jvm.ClassFile.FieldType.int)).before args0 about1 = true := code_word (m := ⟨22, 0⟩) (meth := k22m0) (c := k22c0) (by decide +kernel) rfl rfl rfl (by decide +kernel)
set_option maxRecDepth 65536 in
theorem w_c17 : (Jvm.Cond.code ({ cls := "com/example/provenans/provenans/model/Notation", name := "above", desc := "()Lcom/example/provenans/provenans/model/Notation;" } : Jvm.MethodName) prog_57_method_6_code (2 : Nat) (Option.some (Jvm.ClassFile.FieldType.object "com/example/provenans/provenans/model/Notation"))).before args0 about1 = true := code_word (m := ⟨4, 2⟩) (meth := k4m2) (c := k4c2) (by decide +kernel) rfl rfl rfl (by decide +kernel)
set_option maxRecDepth 65536 in
theorem w_c18 : (Jvm.Cond.code ({ cls := "com/example/provenans/provenans/model/Notation", name := "equals", desc := "(Ljava/lang/Object;)Z" } : Jvm.MethodName) prog_57_method_13_code (3 : Nat) (Option.some Jvm.ClassFile.FieldType.boolean)).before args0 about1 = true := code_word (m := ⟨4, 8⟩) (meth := k4m8) (c := k4c8) (by decide +kernel) rfl rfl rfl (by decide +kernel)
set_option maxRecDepth 65536 in
theorem w_c19 : (Jvm.Cond.code ({ cls := "java/util/ImmutableCollections$AbstractImmutableList", name := "equals", desc := "(Ljava/lang/Object;)Z" } : Jvm.MethodName) jdk_46_method_13_code (5 : Nat) (Option.some Jvm.ClassFile.FieldType.boolean)).before args0 about1 = true := code_word (m := ⟨18, 2⟩) (meth := k18m2) (c := k18c2) (by decide +kernel) rfl rfl rfl (by decide +kernel)
set_option maxRecDepth 65536 in
theorem w_c20 : (Jvm.Cond.code ({ cls := "java/util/ImmutableCollections$AbstractImmutableList", name := "iterator", desc := "()Ljava/util/Iterator;" } : Jvm.MethodName) jdk_46_method_10_code (1 : Nat) (Option.some (Jvm.ClassFile.FieldType.object "java/util/Iterator"))).before args0 about1 = true := code_word (m := ⟨18, 1⟩) (meth := k18m1) (c := k18c1) (by decide +kernel) rfl rfl rfl (by decide +kernel)
set_option maxRecDepth 65536 in
theorem w_c21 : (Jvm.Cond.code ({ cls := "java/util/ImmutableCollections$ListItr", name := "<init>", desc := "(Ljava/util/List;I)V" } : Jvm.MethodName) jdk_53_method_1_code (3 : Nat) (Option.none : Option Jvm.ClassFile.FieldType)).before args0 about1 = true := code_word (m := ⟨26, 0⟩) (meth := k26m0) (c := k26c0) (by decide +kernel) rfl rfl rfl (by decide +kernel)
set_option maxRecDepth 65536 in
theorem w_c22 : (Jvm.Cond.code ({ cls := "java/util/ImmutableCollections$ListItr", name := "hasNext", desc := "()Z" } : Jvm.MethodName) jdk_53_method_3_code (1 : Nat) (Option.some Jvm.ClassFile.FieldType.boolean)).before args0 about1 = true := code_word (m := ⟨26, 1⟩) (meth := k26m1) (c := k26c1) (by decide +kernel) rfl rfl rfl (by decide +kernel)
set_option maxRecDepth 65536 in
theorem w_c23 : (Jvm.Cond.code ({ cls := "java/util/ImmutableCollections$List12", name := "get", desc := "(I)Ljava/lang/Object;" } : Jvm.MethodName) jdk_44_method_5_code (2 : Nat) (Option.some (Jvm.ClassFile.FieldType.object "java/lang/Object"))).before args0 about1 = true := code_word (m := ⟨19, 2⟩) (meth := k19m2) (c := k19c2) (by decide +kernel) rfl rfl rfl (by decide +kernel)
set_option maxRecDepth 65536 in
theorem w_c24 : (Jvm.Cond.code ({ cls := "java/util/Objects", name := "equals", desc := "(Ljava/lang/Object;Ljava/lang/Object;)Z" } : Jvm.MethodName) jdk_31_method_2_code (2 : Nat) (Option.some Jvm.ClassFile.FieldType.boolean)).before args0 about1 = true := code_word (m := ⟨20, 1⟩) (meth := k20m1) (c := k20c1) (by decide +kernel) rfl rfl rfl (by decide +kernel)
set_option maxRecDepth 65536 in
theorem w_c25 : (Jvm.Cond.code ({ cls := "java/lang/Integer", name := "equals", desc := "(Ljava/lang/Object;)Z" } : Jvm.MethodName) jdk_33_method_34_code (2 : Nat) (Option.some Jvm.ClassFile.FieldType.boolean)).before args0 about1 = true := code_word (m := ⟨9, 7⟩) (meth := k9m7) (c := k9c7) (by decide +kernel) rfl rfl rfl (by decide +kernel)
set_option maxRecDepth 65536 in
theorem w_c26 : (Jvm.Cond.code ({ cls := "java/lang/Integer", name := "intValue", desc := "()I" } : Jvm.MethodName) jdk_33_method_27_code (1 : Nat) (Option.some Jvm.ClassFile.FieldType.int)).before args0 about1 = true := code_word (m := ⟨9, 5⟩) (meth := k9m5) (c := k9c5) (by decide +kernel) rfl rfl rfl (by decide +kernel)
set_option maxRecDepth 65536 in
theorem w_c27 : (Jvm.Cond.code ({ cls := "com/example/provenans/provenans/model/Notation", name := "compareTo", desc := "(Lcom/example/provenans/provenans/model/Notation;)I" } : Jvm.MethodName) prog_57_method_12_code (5 : Nat) (Option.some Jvm.ClassFile.FieldType.int)).before args0 about1 = true := code_word (m := ⟨4, 7⟩) (meth := k4m7) (c := k4c7) (by decide +kernel) rfl rfl rfl (by decide +kernel)
set_option maxRecDepth 65536 in
theorem w_c28 : (Jvm.Cond.code ({ cls := "java/lang/Math", name := "min", desc := "(II)I" } : Jvm.MethodName) jdk_29_method_69_code (2 : Nat) (Option.some Jvm.ClassFile.FieldType.int)).before args0 about1 = true := code_word (m := ⟨2, 2⟩) (meth := k2m2) (c := k2c2) (by decide +kernel) rfl rfl rfl (by decide +kernel)
set_option maxRecDepth 65536 in
theorem w_c29 : (Jvm.Cond.code ({ cls := "java/lang/Integer", name := "compare", desc := "(II)I" } : Jvm.MethodName) jdk_33_method_40_code (2 : Nat) (Option.some Jvm.ClassFile.FieldType.int)).before args0 about1 = true := code_word (m := ⟨9, 8⟩) (meth := k9m8) (c := k9c8) (by decide +kernel) rfl rfl rfl (by decide +kernel)
set_option maxRecDepth 65536 in
theorem w_c30 : (Jvm.Cond.code ({ cls := "com/example/provenans/provenans/model/Notation", name := "step", desc := "()Ljava/lang/String;" } : Jvm.MethodName) prog_57_method_9_code (1 : Nat) (Option.some (Jvm.ClassFile.FieldType.object "java/lang/String"))).before args0 about1 = true := code_word (m := ⟨4, 5⟩) (meth := k4m5) (c := k4c5) (by decide +kernel) rfl rfl rfl (by decide +kernel)
set_option maxRecDepth 65536 in
theorem w_c31 : (Jvm.Cond.code ({ cls := "java/lang/String", name := "valueOf", desc := "(Ljava/lang/Object;)Ljava/lang/String;" } : Jvm.MethodName) jdk_42_method_133_code (1 : Nat) (Option.some (Jvm.ClassFile.FieldType.object "java/lang/String"))).before args0 about1 = true := code_word (m := ⟨28, 3⟩) (meth := k28m3) (c := k28c3) (by decide +kernel) rfl rfl rfl (by decide +kernel)
set_option maxRecDepth 65536 in
theorem w_c32 : (Jvm.Cond.code ({ cls := "java/lang/Integer", name := "toString", desc := "()Ljava/lang/String;" } : Jvm.MethodName) jdk_33_method_31_code (1 : Nat) (Option.some (Jvm.ClassFile.FieldType.object "java/lang/String"))).before args0 about1 = true := code_word (m := ⟨9, 6⟩) (meth := k9m6) (c := k9c6) (by decide +kernel) rfl rfl rfl (by decide +kernel)
set_option maxRecDepth 65536 in
theorem w_c33 : (Jvm.Cond.code ({ cls := "java/lang/Integer", name := "toString", desc := "(I)Ljava/lang/String;" } : Jvm.MethodName) jdk_33_method_10_code (3 : Nat) (Option.some (Jvm.ClassFile.FieldType.object "java/lang/String"))).before args0 about1 = true := code_word (m := ⟨9, 0⟩) (meth := k9m0) (c := k9c0) (by decide +kernel) rfl rfl rfl (by decide +kernel)
set_option maxRecDepth 65536 in
theorem w_c34 : (Jvm.Cond.code ({ cls := "java/lang/Integer", name := "stringSize", desc := "(I)I" } : Jvm.MethodName) jdk_33_method_13_code (4 : Nat) (Option.some Jvm.ClassFile.FieldType.int)).before args0 about1 = true := code_word (m := ⟨9, 2⟩) (meth := k9m2) (c := k9c2) (by decide +kernel) rfl rfl rfl (by decide +kernel)
set_option maxRecDepth 65536 in
theorem w_c35 : (Jvm.Cond.code ({ cls := "java/lang/Integer", name := "getChars", desc := "(II[B)I" } : Jvm.MethodName) jdk_33_method_12_code (7 : Nat) (Option.some Jvm.ClassFile.FieldType.int)).before args0 about1 = true := code_word (m := ⟨9, 1⟩) (meth := k9m1) (c := k9c1) (by decide +kernel) rfl rfl rfl (by decide +kernel)
set_option maxRecDepth 65536 in
theorem w_c36 : (Jvm.Cond.code ({ cls := "java/lang/String", name := "<init>", desc := "([BB)V" } : Jvm.MethodName) jdk_42_method_151_code (3 : Nat) (Option.none : Option Jvm.ClassFile.FieldType)).before args0 about1 = true := code_word (m := ⟨28, 4⟩) (meth := k28m4) (c := k28c4) (by decide +kernel) rfl rfl rfl (by decide +kernel)
set_option maxRecDepth 65536 in
theorem w_c37 : (Jvm.Cond.code ({ cls := "com/example/provenans/provenans/model/NotationOfPinLaw", name := "digits", desc := "(I)I" } : Jvm.MethodName) method_2_code (1 : Nat) (Option.some Jvm.ClassFile.FieldType.int)).before args0 about1 = true := code_word (m := ⟨1, 1⟩) (meth := k1m1) (c := k1c1) (by decide +kernel) rfl rfl rfl (by decide +kernel)
set_option maxRecDepth 65536 in
theorem w_c38 : (Jvm.Cond.code ({ cls := "java/lang/String", name := "length", desc := "()I" } : Jvm.MethodName) jdk_42_method_54_code (1 : Nat) (Option.some Jvm.ClassFile.FieldType.int)).before args0 about1 = true := code_word (m := ⟨28, 1⟩) (meth := k28m1) (c := k28c1) (by decide +kernel) rfl rfl rfl (by decide +kernel)
set_option maxRecDepth 65536 in
theorem w_c39 : (Jvm.Cond.code ({ cls := "java/lang/String", name := "coder", desc := "()B" } : Jvm.MethodName) jdk_42_method_152_code (1 : Nat) (Option.some Jvm.ClassFile.FieldType.byte)).before args0 about1 = true := code_word (m := ⟨28, 5⟩) (meth := k28m5) (c := k28c5) (by decide +kernel) rfl rfl rfl (by decide +kernel)
set_option maxRecDepth 65536 in
theorem w_c40 : (Jvm.Cond.code ({ cls := "java/lang/String", name := "charAt", desc := "(I)C" } : Jvm.MethodName) jdk_42_method_56_code (2 : Nat) (Option.some Jvm.ClassFile.FieldType.char)).before args0 about1 = true := code_word (m := ⟨28, 2⟩) (meth := k28m2) (c := k28c2) (by decide +kernel) rfl rfl rfl (by decide +kernel)
set_option maxRecDepth 65536 in
theorem w_c41 : (Jvm.Cond.code ({ cls := "java/lang/String", name := "isLatin1", desc := "()Z" } : Jvm.MethodName) jdk_42_method_154_code (1 : Nat) (Option.some Jvm.ClassFile.FieldType.boolean)).before args0 about1 = true := code_word (m := ⟨28, 6⟩) (meth := k28m6) (c := k28c6) (by decide +kernel) rfl rfl rfl (by decide +kernel)
set_option maxRecDepth 65536 in
theorem w_c42 : (Jvm.Cond.code ({ cls := "java/lang/StringLatin1", name := "charAt", desc := "([BI)C" } : Jvm.MethodName) jdk_43_method_2_code (2 : Nat) (Option.some Jvm.ClassFile.FieldType.char)).before args0 about1 = true := code_word (m := ⟨29, 1⟩) (meth := k29m1) (c := k29c1) (by decide +kernel) rfl rfl rfl (by decide +kernel)
set_option maxRecDepth 65536 in
theorem w_c43 : (Jvm.Cond.code ({ cls := "java/lang/String", name := "checkIndex", desc := "(II)V" } : Jvm.MethodName) jdk_42_method_155_code (2 : Nat) (Option.none : Option Jvm.ClassFile.FieldType)).before args0 about1 = true := code_word (m := ⟨28, 7⟩) (meth := k28m7) (c := k28c7) (by decide +kernel) rfl rfl rfl (by decide +kernel)
set_option maxRecDepth 65536 in
theorem w_c44 : (Jvm.Cond.code ({ cls := "jdk/internal/util/Preconditions", name := "checkIndex", desc := "(IILjava/util/function/BiFunction;)I" } : Jvm.MethodName) jdk_41_method_11_code (3 : Nat) (Option.some Jvm.ClassFile.FieldType.int)).before args0 about1 = true := code_word (m := ⟨30, 1⟩) (meth := k30m1) (c := k30c1) (by decide +kernel) rfl rfl rfl (by decide +kernel)
set_option maxRecDepth 65536 in
theorem w_c45 : (Jvm.Cond.code ({ cls := "com/example/provenans/provenans/model/NotationOfPinLaw", name := "pow10", desc := "(I)I" } : Jvm.MethodName) method_3_code (1 : Nat) (Option.some Jvm.ClassFile.FieldType.int)).before args0 about1 = true := code_word (m := ⟨1, 2⟩) (meth := k1m2) (c := k1c2) (by decide +kernel) rfl rfl rfl (by decide +kernel)
set_option maxRecDepth 65536 in
theorem w_c46 : (Jvm.Cond.code ({ cls := "java/lang/Integer", name := "<init>", desc := "(I)V" } : Jvm.MethodName) jdk_33_method_23_code (2 : Nat) (Option.none : Option Jvm.ClassFile.FieldType)).before args0 about1 = true := code_word (m := ⟨9, 4⟩) (meth := k9m4) (c := k9c4) (by decide +kernel) rfl rfl rfl (by decide +kernel)
set_option maxRecDepth 65536 in
theorem w_c47 : (Jvm.Cond.code ({ cls := "java/lang/Number", name := "<init>", desc := "()V" } : Jvm.MethodName) jdk_18_method_1_code (1 : Nat) (Option.none : Option Jvm.ClassFile.FieldType)).before args0 about1 = true := code_word (m := ⟨6, 0⟩) (meth := k6m0) (c := k6c0) (by decide +kernel) rfl rfl rfl (by decide +kernel)
set_option maxRecDepth 65536 in
theorem w_c48 : (Jvm.Cond.code ({ cls := "java/lang/Enum", name := "compareTo", desc := "(Ljava/lang/Enum;)I" } : Jvm.MethodName) jdk_37_method_8_code (4 : Nat) (Option.some Jvm.ClassFile.FieldType.int)).before args0 about1 = true := code_word (m := ⟨22, 1⟩) (meth := k22m1) (c := k22c1) (by decide +kernel) rfl rfl rfl (by decide +kernel)
def codes1 : List Jvm.Cond := [Jvm.Cond.code x code maxLocals ret, Jvm.Cond.code ({ cls := "java/lang/Math", name := "max", desc := "(II)I" } : Jvm.MethodName) jdk_29_method_65_code (2 : Nat) (Option.some Jvm.ClassFile.FieldType.int), Jvm.Cond.code ({ cls := "com/example/provenans/provenans/model/Notation", name := "of", desc := "(I)Lcom/example/provenans/provenans/model/Notation;" } : Jvm.MethodName) prog_57_method_2_code (1 : Nat) (Option.some (Jvm.ClassFile.FieldType.object "com/example/provenans/provenans/model/Notation")), Jvm.Cond.code ({ cls := "com/example/provenans/provenans/model/Notation", name := "positive", desc := "(I)I" } : Jvm.MethodName) prog_57_method_11_code (1 : Nat) (Option.some Jvm.ClassFile.FieldType.int), Jvm.Cond.code ({ cls := "java/lang/Integer", name := "valueOf", desc := "(I)Ljava/lang/Integer;" } : Jvm.MethodName) jdk_33_method_22_code (1 : Nat) (Option.some (Jvm.ClassFile.FieldType.object "java/lang/Integer")), Jvm.Cond.code ({ cls := "java/util/List", name := "of", desc := "(Ljava/lang/Object;)Ljava/util/List;" } : Jvm.MethodName) jdk_40_method_37_code (1 : Nat) (Option.some (Jvm.ClassFile.FieldType.object "java/util/List")), Jvm.Cond.code ({ cls := "java/util/ImmutableCollections$List12", name := "<init>", desc := "(Ljava/lang/Object;)V" } : Jvm.MethodName) jdk_44_method_1_code (2 : Nat) (Option.none : Option Jvm.ClassFile.FieldType), Jvm.Cond.code ({ cls := "java/util/ImmutableCollections$AbstractImmutableList", name := "<init>", desc := "()V" } : Jvm.MethodName) jdk_46_method_1_code (1 : Nat) (Option.none : Option Jvm.ClassFile.FieldType), Jvm.Cond.code ({ cls := "java/util/ImmutableCollections$AbstractImmutableCollection", name := "<init>", desc := "()V" } : Jvm.MethodName) jdk_47_method_1_code (1 : Nat) (Option.none : Option Jvm.ClassFile.FieldType), Jvm.Cond.code ({ cls := "java/util/AbstractCollection", name := "<init>", desc := "()V" } : Jvm.MethodName) jdk_22_method_1_code (1 : Nat) (Option.none : Option Jvm.ClassFile.FieldType), Jvm.Cond.code ({ cls := "java/lang/Object", name := "<init>", desc := "()V" } : Jvm.MethodName) object_method_1_code (1 : Nat) (Option.none : Option Jvm.ClassFile.FieldType), Jvm.Cond.code ({ cls := "java/util/Objects", name := "requireNonNull", desc := "(Ljava/lang/Object;)Ljava/lang/Object;" } : Jvm.MethodName) jdk_31_method_10_code (1 : Nat) (Option.some (Jvm.ClassFile.FieldType.object "java/lang/Object")), Jvm.Cond.code ({ cls := "com/example/provenans/provenans/model/Notation", name := "<init>", desc := "(Ljava/util/List;Lcom/example/provenans/provenans/model/Notation$Level;I)V" } : Jvm.MethodName) prog_57_method_1_code (4 : Nat) (Option.none : Option Jvm.ClassFile.FieldType), Jvm.Cond.code ({ cls := "com/example/provenans/provenans/model/Notation", name := "level", desc := "()Lcom/example/provenans/provenans/model/Notation$Level;" } : Jvm.MethodName) prog_57_method_7_code (1 : Nat) (Option.some (Jvm.ClassFile.FieldType.object "com/example/provenans/provenans/model/Notation$Level")), Jvm.Cond.code ({ cls := "com/example/provenans/provenans/model/Notation", name := "depth", desc := "()I" } : Jvm.MethodName) prog_57_method_8_code (1 : Nat) (Option.some Jvm.ClassFile.FieldType.int), Jvm.Cond.code ({ cls := "java/util/ImmutableCollections$List12", name := "size", desc := "()I" } : Jvm.MethodName) jdk_44_method_3_code (1 : Nat) (Option.some Jvm.ClassFile.FieldType.int), Jvm.Cond.code ({ cls := "java/lang/Enum", name := "ordinal", desc := "()I" } : Jvm.MethodName) jdk_37_method_2_code (1 : Nat) (Option.some Jvm.ClassFile.FieldType.int), Jvm.Cond.code ({ cls := "com/example/provenans/provenans/model/Notation", name := "above", desc := "()Lcom/example/provenans/provenans/model/Notation;" } : Jvm.MethodName) prog_57_method_6_code (2 : Nat) (Option.some (Jvm.ClassFile.FieldType.object "com/example/provenans/provenans/model/Notation")), Jvm.Cond.code ({ cls := "com/example/provenans/provenans/model/Notation", name := "equals", desc := "(Ljava/lang/Object;)Z" } : Jvm.MethodName) prog_57_method_13_code (3 : Nat) (Option.some Jvm.ClassFile.FieldType.boolean), Jvm.Cond.code ({ cls := "java/util/ImmutableCollections$AbstractImmutableList", name := "equals", desc := "(Ljava/lang/Object;)Z" } : Jvm.MethodName) jdk_46_method_13_code (5 : Nat) (Option.some Jvm.ClassFile.FieldType.boolean), Jvm.Cond.code ({ cls := "java/util/ImmutableCollections$AbstractImmutableList", name := "iterator", desc := "()Ljava/util/Iterator;" } : Jvm.MethodName) jdk_46_method_10_code (1 : Nat) (Option.some (Jvm.ClassFile.FieldType.object "java/util/Iterator")), Jvm.Cond.code ({ cls := "java/util/ImmutableCollections$ListItr", name := "<init>", desc := "(Ljava/util/List;I)V" } : Jvm.MethodName) jdk_53_method_1_code (3 : Nat) (Option.none : Option Jvm.ClassFile.FieldType), Jvm.Cond.code ({ cls := "java/util/ImmutableCollections$ListItr", name := "hasNext", desc := "()Z" } : Jvm.MethodName) jdk_53_method_3_code (1 : Nat) (Option.some Jvm.ClassFile.FieldType.boolean), Jvm.Cond.code ({ cls := "java/util/ImmutableCollections$List12", name := "get", desc := "(I)Ljava/lang/Object;" } : Jvm.MethodName) jdk_44_method_5_code (2 : Nat) (Option.some (Jvm.ClassFile.FieldType.object "java/lang/Object")), Jvm.Cond.code ({ cls := "java/util/Objects", name := "equals", desc := "(Ljava/lang/Object;Ljava/lang/Object;)Z" } : Jvm.MethodName) jdk_31_method_2_code (2 : Nat) (Option.some Jvm.ClassFile.FieldType.boolean), Jvm.Cond.code ({ cls := "java/lang/Integer", name := "equals", desc := "(Ljava/lang/Object;)Z" } : Jvm.MethodName) jdk_33_method_34_code (2 : Nat) (Option.some Jvm.ClassFile.FieldType.boolean), Jvm.Cond.code ({ cls := "java/lang/Integer", name := "intValue", desc := "()I" } : Jvm.MethodName) jdk_33_method_27_code (1 : Nat) (Option.some Jvm.ClassFile.FieldType.int), Jvm.Cond.code ({ cls := "com/example/provenans/provenans/model/Notation", name := "compareTo", desc := "(Lcom/example/provenans/provenans/model/Notation;)I" } : Jvm.MethodName) prog_57_method_12_code (5 : Nat) (Option.some Jvm.ClassFile.FieldType.int), Jvm.Cond.code ({ cls := "java/lang/Math", name := "min", desc := "(II)I" } : Jvm.MethodName) jdk_29_method_69_code (2 : Nat) (Option.some Jvm.ClassFile.FieldType.int), Jvm.Cond.code ({ cls := "java/lang/Integer", name := "compare", desc := "(II)I" } : Jvm.MethodName) jdk_33_method_40_code (2 : Nat) (Option.some Jvm.ClassFile.FieldType.int), Jvm.Cond.code ({ cls := "com/example/provenans/provenans/model/Notation", name := "step", desc := "()Ljava/lang/String;" } : Jvm.MethodName) prog_57_method_9_code (1 : Nat) (Option.some (Jvm.ClassFile.FieldType.object "java/lang/String")), Jvm.Cond.code ({ cls := "java/lang/String", name := "valueOf", desc := "(Ljava/lang/Object;)Ljava/lang/String;" } : Jvm.MethodName) jdk_42_method_133_code (1 : Nat) (Option.some (Jvm.ClassFile.FieldType.object "java/lang/String")), Jvm.Cond.code ({ cls := "java/lang/Integer", name := "toString", desc := "()Ljava/lang/String;" } : Jvm.MethodName) jdk_33_method_31_code (1 : Nat) (Option.some (Jvm.ClassFile.FieldType.object "java/lang/String")), Jvm.Cond.code ({ cls := "java/lang/Integer", name := "toString", desc := "(I)Ljava/lang/String;" } : Jvm.MethodName) jdk_33_method_10_code (3 : Nat) (Option.some (Jvm.ClassFile.FieldType.object "java/lang/String")), Jvm.Cond.code ({ cls := "java/lang/Integer", name := "stringSize", desc := "(I)I" } : Jvm.MethodName) jdk_33_method_13_code (4 : Nat) (Option.some Jvm.ClassFile.FieldType.int), Jvm.Cond.code ({ cls := "java/lang/Integer", name := "getChars", desc := "(II[B)I" } : Jvm.MethodName) jdk_33_method_12_code (7 : Nat) (Option.some Jvm.ClassFile.FieldType.int), Jvm.Cond.code ({ cls := "java/lang/String", name := "<init>", desc := "([BB)V" } : Jvm.MethodName) jdk_42_method_151_code (3 : Nat) (Option.none : Option Jvm.ClassFile.FieldType), Jvm.Cond.code ({ cls := "com/example/provenans/provenans/model/NotationOfPinLaw", name := "digits", desc := "(I)I" } : Jvm.MethodName) method_2_code (1 : Nat) (Option.some Jvm.ClassFile.FieldType.int), Jvm.Cond.code ({ cls := "java/lang/String", name := "length", desc := "()I" } : Jvm.MethodName) jdk_42_method_54_code (1 : Nat) (Option.some Jvm.ClassFile.FieldType.int), Jvm.Cond.code ({ cls := "java/lang/String", name := "coder", desc := "()B" } : Jvm.MethodName) jdk_42_method_152_code (1 : Nat) (Option.some Jvm.ClassFile.FieldType.byte), Jvm.Cond.code ({ cls := "java/lang/String", name := "charAt", desc := "(I)C" } : Jvm.MethodName) jdk_42_method_56_code (2 : Nat) (Option.some Jvm.ClassFile.FieldType.char), Jvm.Cond.code ({ cls := "java/lang/String", name := "isLatin1", desc := "()Z" } : Jvm.MethodName) jdk_42_method_154_code (1 : Nat) (Option.some Jvm.ClassFile.FieldType.boolean), Jvm.Cond.code ({ cls := "java/lang/StringLatin1", name := "charAt", desc := "([BI)C" } : Jvm.MethodName) jdk_43_method_2_code (2 : Nat) (Option.some Jvm.ClassFile.FieldType.char), Jvm.Cond.code ({ cls := "java/lang/String", name := "checkIndex", desc := "(II)V" } : Jvm.MethodName) jdk_42_method_155_code (2 : Nat) (Option.none : Option Jvm.ClassFile.FieldType), Jvm.Cond.code ({ cls := "jdk/internal/util/Preconditions", name := "checkIndex", desc := "(IILjava/util/function/BiFunction;)I" } : Jvm.MethodName) jdk_41_method_11_code (3 : Nat) (Option.some Jvm.ClassFile.FieldType.int), Jvm.Cond.code ({ cls := "com/example/provenans/provenans/model/NotationOfPinLaw", name := "pow10", desc := "(I)I" } : Jvm.MethodName) method_3_code (1 : Nat) (Option.some Jvm.ClassFile.FieldType.int), Jvm.Cond.code ({ cls := "java/lang/Integer", name := "<init>", desc := "(I)V" } : Jvm.MethodName) jdk_33_method_23_code (2 : Nat) (Option.none : Option Jvm.ClassFile.FieldType), Jvm.Cond.code ({ cls := "java/lang/Number", name := "<init>", desc := "()V" } : Jvm.MethodName) jdk_18_method_1_code (1 : Nat) (Option.none : Option Jvm.ClassFile.FieldType), Jvm.Cond.code ({ cls := "java/lang/Enum", name := "compareTo", desc := "(Ljava/lang/Enum;)I" } : Jvm.MethodName) jdk_37_method_8_code (4 : Nat) (Option.some Jvm.ClassFile.FieldType.int)]
set_option maxRecDepth 65536 in
theorem codes_eq : words1.filter isCode = codes1 := rfl
theorem w_codes : ∀ c ∈ words1.filter isCode, c.before args0 about1 = true := by
  rw [codes_eq]
  intro c hc
  simp only [codes1, List.mem_cons, List.not_mem_nil, or_false] at hc
  rcases hc with rfl | rfl | rfl | rfl | rfl | rfl | rfl | rfl | rfl | rfl | rfl | rfl | rfl | rfl | rfl | rfl | rfl | rfl | rfl | rfl | rfl | rfl | rfl | rfl | rfl | rfl | rfl | rfl | rfl | rfl | rfl | rfl | rfl | rfl | rfl | rfl | rfl | rfl | rfl | rfl | rfl | rfl | rfl | rfl | rfl | rfl | rfl | rfl | rfl
  · exact w_c0
  · exact w_c1
  · exact w_c2
  · exact w_c3
  · exact w_c4
  · exact w_c5
  · exact w_c6
  · exact w_c7
  · exact w_c8
  · exact w_c9
  · exact w_c10
  · exact w_c11
  · exact w_c12
  · exact w_c13
  · exact w_c14
  · exact w_c15
  · exact w_c16
  · exact w_c17
  · exact w_c18
  · exact w_c19
  · exact w_c20
  · exact w_c21
  · exact w_c22
  · exact w_c23
  · exact w_c24
  · exact w_c25
  · exact w_c26
  · exact w_c27
  · exact w_c28
  · exact w_c29
  · exact w_c30
  · exact w_c31
  · exact w_c32
  · exact w_c33
  · exact w_c34
  · exact w_c35
  · exact w_c36
  · exact w_c37
  · exact w_c38
  · exact w_c39
  · exact w_c40
  · exact w_c41
  · exact w_c42
  · exact w_c43
  · exact w_c44
  · exact w_c45
  · exact w_c46
  · exact w_c47
  · exact w_c48
set_option maxRecDepth 65536 in
theorem w_t1 : (words1.take 24).all (fun c => isCode c || c.before args0 about1) = true := by decide +kernel
set_option maxRecDepth 65536 in
theorem w_t2 : ((words1.drop 24).take 24).all (fun c => isCode c || c.before args0 about1) = true := by decide +kernel
set_option maxRecDepth 65536 in
theorem w_t3 : (((words1.drop 24).drop 24).take 24).all (fun c => isCode c || c.before args0 about1) = true := by decide +kernel
set_option maxRecDepth 65536 in
theorem w_t4 : ((((words1.drop 24).drop 24).drop 24).take 24).all (fun c => isCode c || c.before args0 about1) = true := by decide +kernel
set_option maxRecDepth 65536 in
theorem w_t5 : (((((words1.drop 24).drop 24).drop 24).drop 24).take 24).all (fun c => isCode c || c.before args0 about1) = true := by decide +kernel
set_option maxRecDepth 65536 in
theorem w_t6 : ((((((words1.drop 24).drop 24).drop 24).drop 24).drop 24).take 24).all (fun c => isCode c || c.before args0 about1) = true := by decide +kernel
set_option maxRecDepth 65536 in
theorem w_t7 : (((((((words1.drop 24).drop 24).drop 24).drop 24).drop 24).drop 24).take 24).all (fun c => isCode c || c.before args0 about1) = true := by decide +kernel
set_option maxRecDepth 65536 in
theorem w_t8 : ((((((((words1.drop 24).drop 24).drop 24).drop 24).drop 24).drop 24).drop 24).take 24).all (fun c => isCode c || c.before args0 about1) = true := by decide +kernel
set_option maxRecDepth 65536 in
theorem w_t9 : (((((((((words1.drop 24).drop 24).drop 24).drop 24).drop 24).drop 24).drop 24).drop 24).take 24).all (fun c => isCode c || c.before args0 about1) = true := by decide +kernel
set_option maxRecDepth 65536 in
theorem w_t10 : ((((((((((words1.drop 24).drop 24).drop 24).drop 24).drop 24).drop 24).drop 24).drop 24).drop 24).take 24).all (fun c => isCode c || c.before args0 about1) = true := by decide +kernel
set_option maxRecDepth 65536 in
theorem w_t11 : (((((((((((words1.drop 24).drop 24).drop 24).drop 24).drop 24).drop 24).drop 24).drop 24).drop 24).drop 24).take 24).all (fun c => isCode c || c.before args0 about1) = true := by decide +kernel
set_option maxRecDepth 65536 in
theorem w_t12 : ((((((((((((words1.drop 24).drop 24).drop 24).drop 24).drop 24).drop 24).drop 24).drop 24).drop 24).drop 24).drop 24).take 24).all (fun c => isCode c || c.before args0 about1) = true := by decide +kernel
set_option maxRecDepth 65536 in
theorem w_t13 : (((((((((((((words1.drop 24).drop 24).drop 24).drop 24).drop 24).drop 24).drop 24).drop 24).drop 24).drop 24).drop 24).drop 24).take 24).all (fun c => isCode c || c.before args0 about1) = true := by decide +kernel
set_option maxRecDepth 65536 in
theorem w_t14 : (((((((((((((words1.drop 24).drop 24).drop 24).drop 24).drop 24).drop 24).drop 24).drop 24).drop 24).drop 24).drop 24).drop 24).drop 24).all (fun c => isCode c || c.before args0 about1) = true := by decide +kernel
theorem w_tables : (allAtoms (Jvm.Cond.code x code maxLocals ret :: tables_1)).before args0 about1 = true := by
  rw [allAtoms_all]
  show words1.all (fun c => c.before args0 about1) = true
  refine all_split ?_ w_codes
  rw [← List.take_append_drop 24 words1, List.all_append, w_t1, ← List.take_append_drop 24 (words1.drop 24), List.all_append, w_t2, ← List.take_append_drop 24 ((words1.drop 24).drop 24), List.all_append, w_t3, ← List.take_append_drop 24 (((words1.drop 24).drop 24).drop 24), List.all_append, w_t4, ← List.take_append_drop 24 ((((words1.drop 24).drop 24).drop 24).drop 24), List.all_append, w_t5, ← List.take_append_drop 24 (((((words1.drop 24).drop 24).drop 24).drop 24).drop 24), List.all_append, w_t6, ← List.take_append_drop 24 ((((((words1.drop 24).drop 24).drop 24).drop 24).drop 24).drop 24), List.all_append, w_t7, ← List.take_append_drop 24 (((((((words1.drop 24).drop 24).drop 24).drop 24).drop 24).drop 24).drop 24), List.all_append, w_t8, ← List.take_append_drop 24 ((((((((words1.drop 24).drop 24).drop 24).drop 24).drop 24).drop 24).drop 24).drop 24), List.all_append, w_t9, ← List.take_append_drop 24 (((((((((words1.drop 24).drop 24).drop 24).drop 24).drop 24).drop 24).drop 24).drop 24).drop 24), List.all_append, w_t10, ← List.take_append_drop 24 ((((((((((words1.drop 24).drop 24).drop 24).drop 24).drop 24).drop 24).drop 24).drop 24).drop 24).drop 24), List.all_append, w_t11, ← List.take_append_drop 24 (((((((((((words1.drop 24).drop 24).drop 24).drop 24).drop 24).drop 24).drop 24).drop 24).drop 24).drop 24).drop 24), List.all_append, w_t12, ← List.take_append_drop 24 ((((((((((((words1.drop 24).drop 24).drop 24).drop 24).drop 24).drop 24).drop 24).drop 24).drop 24).drop 24).drop 24).drop 24), List.all_append, w_t13, w_t14]
  rfl
set_option maxRecDepth 65536 in
theorem w_rest : rest_1_c.before args0 about1 = true := by decide +kernel
set_option maxRecDepth 65536 in
theorem w_case : (Jvm.Cond.and given_1 narrow_1).before args0 about1 = true := by decide +kernel
theorem w_applies : (headSpec (Jvm.Cond.code x code maxLocals ret :: tables_1) room_1).applies x e0.platform about1 = true :=
  (Spec.applies_iff w_frames).mpr ⟨w_running, w_runnable, w_alone, w_named, w_hears, w_ripe, w_room, w_tables⟩
set_option maxRecDepth 65536 in
theorem atStart : AtStart classFile x code maxLocals ret World_1 tables_1 room_1 Calls_1 rest_1 Pre_1 launch0 p0 e0 about1 theMethod args0 below0 :=
  ⟨lists_1, trivial, launch0.admits_env _ _ _, launch0.least_env, fairChoices_fair.cas, fairChoices_fair.clock, w_frames, w_args, w_heap, w_applies, ⟨(by first | exact ⟨23, k23, 6, by decide +kernel, rfl, rfl⟩ | exact ⟨23, k23, 6, by decide +kernel, rfl, rfl, _, rfl, rfl⟩), trivial⟩, w_rest, w_case⟩
end start1
theorem witness_1 : WitnessClaimed_1 := ⟨start1.p0, start1.e0, start1.about1, start1.theMethod, start1.args0, start1.below0, start1.atStart⟩
end Jvm.Pilot.@@N@@
