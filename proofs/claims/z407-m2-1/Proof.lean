import JvmDerived
import JvmDerived.Pilot.@@N@@Statement
import JvmDerived.Pilot.@@N@@Code
set_option linter.unusedVariables false
set_option linter.unusedSimpArgs false
namespace Jvm.RoadKit
open Sem ClassFile Op Lib Jvm.Stand Jvm.Free Jvm.LawKit
section New
variable {p : Program} {l : Launch} {e : Env} {R : Room} {s : State} {m : MethodId} {args : Array Value} {below : List Frame} {meth : Method} {c : Code} {T : State} {locs : List Loc} {cells slots : Nat}
theorem retI (X : Stand p l e R s m args below meth c T locs cells slots) (hx : p.tables.exec = Jvm.exec) {pc : Nat} {Ls : Array Slot} {z : Int32} {rest : List Value} (hret : meth.sig.returnType = some .int) (hd : decode c.code pc = .ok (.ireturn, 1)) {fs : List Frame}
    (hl : ∀ (f : JFrame) (acts : List Action), f.method = m → f.locked = none → f.entered = [] → (doReturn e (T.setTop f) acts (some (.int z))).1 = T.setFrames fs) : Steps p.tables e below (T.setTop (mkF m pc Ls (.int z :: rest))) (T.setFrames fs) := by
  have hm' : T.vm.method? m = some meth := X.method'
  have hn : narrow .int (.int z) = .int z := rfl
  show Steps p.tables e below (T.setTop { method := m, pc := pc, locals := Ls, stack := _ :: rest, locked := none }) _
  jvm_step X.here [X.here.top, hx, hd, hm', hret, hn]
  first | (intro acts; rw [hl _ acts rfl rfl rfl]) | rw [hl _ _ rfl rfl rfl]
  exact Steps.refl _
end New
end Jvm.RoadKit
namespace Jvm.Pilot.@@N@@
open Jvm Jvm.ClassFile Sem Op Lib Jvm.Free Jvm.Stand Jvm.LawKit Jvm.RoadKit Bundle Jvm.Pilot.@@N@@.Jvm.D
/-- whatever the machine reaches from (T', g') it reaches from (T, g) -/
def own_Go (p : Program) (e : Env) (below : List Frame) (T : State) (g : JFrame) (T' : State) (g' : JFrame) : Prop := ∀ t, Steps p.tables e below (T'.setTop g') t → Steps p.tables e below (T.setTop g) t
theorem own_Go.refl {p : Program} {e : Env} {below : List Frame} (T : State) (g : JFrame) : own_Go p e below T g T g := fun _ k => k
theorem own_Go.trans {p : Program} {e : Env} {below : List Frame} {T T' T'' : State} {g g' g'' : JFrame} (h : own_Go p e below T g T' g') (h' : own_Go p e below T' g' T'' g'') : own_Go p e below T g T'' g'' := fun tg_ kk_ => h tg_ (h' tg_ kk_)
/-! ## calls by their contracts, in one row each -/
section OwnCalls
variable {p : Program} {l : Launch} {e : Env} {R : Room} {s : State} {m : MethodId} {args : Array Value} {below : List Frame} {meth : Method} {c : Code} {T : State} {locs : List Loc} {cells slots : Nat} {Z : State} {a0 : Array Value} {h : Heap}
theorem own_callS (X : Stand p l e R s m args below meth c T locs cells slots) (hx : p.tables.exec = Jvm.exec) (hZ : Z.Warmed39 s.vm) {own : String} {index : Nat} {y : MethodName} {bytes : ByteArray} {maxL : Nat} {ret : Option FieldType} {rm : Room} {Q : Option Value → Heap → List Loc → Prop}
    (hown : s.vm.findClass own = some m.cls) (w1 : (Cond.methodLink own index y).before a0 Z = true) (w2 : (Cond.static y).before a0 Z = true) (w3 : (Cond.initialized y.cls).before a0 Z = true) (w4 : (Cond.code y bytes maxL ret).before a0 Z = true)
    (hy : y.cls ≠ "java/lang/invoke/MethodHandle" ∧ y.cls ≠ "java/lang/invoke/VarHandle") (W : Nat) {g : JFrame} (hg : g.method = m) (hsize : g.locals.size = c.maxLocals) (argsL rest : List Value)
    (hM : MetFree l y (head1 [Cond.code y bytes maxL ret] rm) (fun a U => a = argsL.toArray ∧ Z.Warmed39 U.vm ∧ U.heap = h) (fun _ _ _ _ _ => True) (fun _ U o U' => ∃ v L, o = .returned v ∧ Q v U'.heap L ∧ FrameEnd U o U' L rm.cells rm.slots))
    (hlen : ∀ sig, parseMethodDescriptor y.desc = some sig → argsL.length = sig.parameters.length) (hstack : g.stack = argsL.reverse ++ rest) (hW : 2 * g.monitorRoom + (rest.map fun v => v.category).sum ≤ W) (hd : decode c.code g.pc = .ok (.invokestatic index, 3))
    (hf : rm.frames + 1 ≤ R.frames) (hl : W + (maxL + 11) + rm.locals ≤ R.locals) (eT : T.heap = h) (hc : cells + rm.cells ≤ R.cells) (hs : slots + rm.slots ≤ R.slots) :
    ∃ (v : Option Value) (T' : State) (h' : Heap) (L : List Loc), Stand p l e R s m args below meth c T' (locs ++ L) (cells + rm.cells) (slots + rm.slots) ∧ T'.heap = h' ∧ Q v h' L ∧
      ∀ t, Steps p.tables e below (T'.setTop { g with pc := g.pc + 3, stack := v.toList ++ rest }) t → Steps p.tables e below (T.setTop g) t := by
  obtain ⟨v, _, ⟨T4, L4, k4, n4⟩, -, X4, ⟨Lc, hQ, l4, y4, z4⟩, st⟩ := Jvm.LawKit.callS X hx (y := y) hown (mvT hZ w1) (mvT hZ w2) (mvT hZ w3) (mvT hZ w4) hy (backOf (W := W) hM hZ w4 w3 hf hl) (g := g) hg hsize (argsL := argsL) (rest := rest) hlen hstack hW hd (fun _ _ => ⟨rfl, eT, hc, hs⟩)
  dsimp only [Pt.U, Pt.locs, Pt.cells, Pt.slots] at X4 l4 y4 z4 st hQ
  subst l4 y4 z4
  exact ⟨v, T4, _, Lc, X4, rfl, hQ, st⟩
theorem own_callI (X : Stand p l e R s m args below meth c T locs cells slots) (hx : p.tables.exec = Jvm.exec) (hZ : Z.Warmed39 s.vm) {own : String} {index : Nat} {y : MethodName} {bytes : ByteArray} {maxL : Nat} {rm : Room} {Q : Option Value → Heap → List Loc → Prop}
    (hy1 : y.name = "<init>") (hown : s.vm.findClass own = some m.cls) (w1 : (Cond.methodLink own index y).before a0 Z = true) (w2 : (Cond.instanceMethod y).before a0 Z = true) (w3 : (Cond.initialized y.cls).before a0 Z = true) (w4 : (Cond.code y bytes maxL none).before a0 Z = true)
    (hy : y.cls ≠ "java/lang/invoke/MethodHandle" ∧ y.cls ≠ "java/lang/invoke/VarHandle") (W : Nat) {g : JFrame} (hg : g.method = m) (hsize : g.locals.size = c.maxLocals) (a : Addr) (argsL rest : List Value)
    (hM : MetFree l y (head1 [Cond.code y bytes maxL none] rm) (fun a' U => a' = (.ref a :: argsL).toArray ∧ Z.Warmed39 U.vm ∧ U.heap = h) (fun _ _ _ _ _ => True) (fun _ U o U' => ∃ v L, o = .returned v ∧ Q v U'.heap L ∧ FrameEnd U o U' L rm.cells rm.slots))
    (hlen : ∀ sig, parseMethodDescriptor y.desc = some sig → argsL.length = sig.parameters.length) (hstack : g.stack = argsL.reverse ++ .ref a :: rest) (hW : 2 * g.monitorRoom + (rest.map fun v => v.category).sum ≤ W) (hd : decode c.code g.pc = .ok (.invokespecial index, 3))
    (hf : rm.frames + 1 ≤ R.frames) (hl : W + (maxL + 11) + rm.locals ≤ R.locals) (eT : T.heap = h) (hc : cells + rm.cells ≤ R.cells) (hs : slots + rm.slots ≤ R.slots) :
    ∃ (v : Option Value) (T' : State) (h' : Heap) (L : List Loc), Stand p l e R s m args below meth c T' (locs ++ L) (cells + rm.cells) (slots + rm.slots) ∧ T'.heap = h' ∧ Q v h' L ∧
      ∀ t, Steps p.tables e below (T'.setTop { g with pc := g.pc + 3, stack := v.toList ++ rest }) t → Steps p.tables e below (T.setTop g) t := by
  obtain ⟨v, _, ⟨T4, L4, k4, n4⟩, -, X4, ⟨Lc, hQ, l4, y4, z4⟩, st⟩ := X.specialBack hx (y := y) hy1 hown (mvT hZ w1) (mvT hZ w2) (mvT hZ w4) hy (backOf (W := W) hM hZ w4 w3 hf hl) (g := g) hg hsize (Steps.refl _) (a := a) (argsL := argsL) (rest := rest) hlen hstack hW hd (fun _ _ => ⟨rfl, eT, hc, hs⟩)
  dsimp only [Pt.U, Pt.locs, Pt.cells, Pt.slots] at X4 l4 y4 z4 st hQ
  subst l4 y4 z4
  exact ⟨v, T4, _, Lc, X4, rfl, hQ, fun t k => st.trans k⟩
theorem own_callV (X : Stand p l e R s m args below meth c T locs cells slots) (hx : p.tables.exec = Jvm.exec) (hZ : Z.Warmed39 s.vm) {own C : String} {index : Nat} {y : MethodName} {bytes : ByteArray} {maxL : Nat} {ret : Option FieldType} {rm : Room} {Q : Option Value → Heap → List Loc → Prop}
    (hown : s.vm.findClass own = some m.cls) (w1 : (Cond.methodLink own index y).before a0 Z = true) (w2 : (Cond.declares y).before a0 Z = true) (w5 : (Cond.selects C y y).before a0 Z = true) (w6 : (Cond.instanceMethod y).before a0 Z = true) (w3 : (Cond.initialized y.cls).before a0 Z = true) (w4 : (Cond.code y bytes maxL ret).before a0 Z = true)
    (hy : y.cls ≠ "java/lang/invoke/MethodHandle" ∧ y.cls ≠ "java/lang/invoke/VarHandle") (W : Nat) {g : JFrame} (hg : g.method = m) (hsize : g.locals.size = c.maxLocals) (a : Addr) (E : Exa Z h a C) (argsL rest : List Value)
    (hM : MetFree l y (head1 [Cond.code y bytes maxL ret] rm) (fun a' U => a' = (.ref a :: argsL).toArray ∧ Z.Warmed39 U.vm ∧ U.heap = h) (fun _ _ _ _ _ => True) (fun _ U o U' => ∃ v L, o = .returned v ∧ Q v U'.heap L ∧ FrameEnd U o U' L rm.cells rm.slots))
    (hlen : ∀ sig, parseMethodDescriptor y.desc = some sig → argsL.length = sig.parameters.length) (hstack : g.stack = argsL.reverse ++ .ref a :: rest) (hW : 2 * g.monitorRoom + (rest.map fun v => v.category).sum ≤ W) (hd : decode c.code g.pc = .ok (.invokevirtual index, 3))
    (hf : rm.frames + 1 ≤ R.frames) (hl : W + (maxL + 11) + rm.locals ≤ R.locals) (eT : T.heap = h) (hc : cells + rm.cells ≤ R.cells) (hs : slots + rm.slots ≤ R.slots) :
    ∃ (v : Option Value) (T' : State) (h' : Heap) (L : List Loc), Stand p l e R s m args below meth c T' (locs ++ L) (cells + rm.cells) (slots + rm.slots) ∧ T'.heap = h' ∧ Q v h' L ∧
      ∀ t, Steps p.tables e below (T'.setTop { g with pc := g.pc + 3, stack := v.toList ++ rest }) t → Steps p.tables e below (T.setTop g) t := by
  obtain ⟨cB, kB, qa, qb, qc⟩ := isOf (T := T) hZ eT E
  obtain ⟨v, _, ⟨T4, L4, k4, n4⟩, -, X4, ⟨Lc, hQ, l4, y4, z4⟩, st⟩ := X.virtualBack hx (y := y) (z := y) hown (mvT hZ w1) (mvT hZ w2) (notFace_of_selects (args := #[]) (mvT hZ w5)) (mvT hZ w5) (mvT hZ w6) hy (backOf (W := W) hM hZ w4 w3 hf hl) qa qc (g := g) hg hsize (Steps.refl _) (argsL := argsL) (rest := rest) hlen hstack hW hd (fun _ _ => ⟨rfl, eT, hc, hs⟩)
  dsimp only [Pt.U, Pt.locs, Pt.cells, Pt.slots] at X4 l4 y4 z4 st hQ
  subst l4 y4 z4
  exact ⟨v, T4, _, Lc, X4, rfl, hQ, fun t k => st.trans k⟩
end OwnCalls
/-! ## private and interface calls by their contracts -/
section OwnCallsP
variable {p : Program} {l : Launch} {e : Env} {R : Room} {s : State} {m : MethodId} {args : Array Value} {below : List Frame} {meth : Method} {c : Code} {T : State} {locs : List Loc} {cells slots : Nat} {Z : State} {a0 : Array Value} {h : Heap}
theorem own_callF (X : Stand p l e R s m args below meth c T locs cells slots) (hx : p.tables.exec = Jvm.exec) (hZ : Z.Warmed39 s.vm) {own C : String} {index count : Nat} {y z : MethodName} {bytes : ByteArray} {maxL : Nat} {ret : Option FieldType} {rm : Room} {Q : Option Value → Heap → List Loc → Prop}
    (hown : s.vm.findClass own = some m.cls) (w1 : (Cond.methodLink own index y).before a0 Z = true) (w2 : (Cond.declares y).before a0 Z = true) (wf : (Cond.interfaceMethod y.cls y.cls y.name y.desc).before args s = true) (w5 : (Cond.selects C y z).before a0 Z = true) (w6 : (Cond.instanceMethod z).before a0 Z = true)
    (wp : (Cond.publicMethod z).before a0 Z = true) (wu : (Cond.unhidden C y.name y.desc).before a0 Z = true) (wc : (Cond.castable C y.cls).before a0 Z = true) (w3 : (Cond.initialized z.cls).before a0 Z = true) (w4 : (Cond.code z bytes maxL ret).before a0 Z = true)
    (hy : y.cls ≠ "java/lang/invoke/MethodHandle" ∧ y.cls ≠ "java/lang/invoke/VarHandle") (W : Nat) {g : JFrame} (hg : g.method = m) (hsize : g.locals.size = c.maxLocals) (a : Addr) (E : Exa Z h a C) (argsL rest : List Value)
    (hM : MetFree l z (head1 [Cond.code z bytes maxL ret] rm) (fun a' U => a' = (.ref a :: argsL).toArray ∧ Z.Warmed39 U.vm ∧ U.heap = h) (fun _ _ _ _ _ => True) (fun _ U o U' => ∃ v L, o = .returned v ∧ Q v U'.heap L ∧ FrameEnd U o U' L rm.cells rm.slots))
    (hlen : ∀ sig, parseMethodDescriptor y.desc = some sig → argsL.length = sig.parameters.length) (hstack : g.stack = argsL.reverse ++ .ref a :: rest) (hW : 2 * g.monitorRoom + (rest.map fun v => v.category).sum ≤ W) (hd : decode c.code g.pc = .ok (.invokeinterface index count, 5))
    (hf : rm.frames + 1 ≤ R.frames) (hl : W + (maxL + 11) + rm.locals ≤ R.locals) (eT : T.heap = h) (hc : cells + rm.cells ≤ R.cells) (hs : slots + rm.slots ≤ R.slots) :
    ∃ (v : Option Value) (T' : State) (h' : Heap) (L : List Loc), Stand p l e R s m args below meth c T' (locs ++ L) (cells + rm.cells) (slots + rm.slots) ∧ T'.heap = h' ∧ Q v h' L ∧
      ∀ t, Steps p.tables e below (T'.setTop { g with pc := g.pc + 5, stack := v.toList ++ rest }) t → Steps p.tables e below (T.setTop g) t := by
  obtain ⟨cB, kB, qa, qb, qc⟩ := isOf (T := T) hZ eT E
  obtain ⟨v, _, ⟨T4, L4, k4, n4⟩, -, X4, ⟨Lc, hQ, l4, y4, z4⟩, st⟩ := X.interfaceBack hx (xi := y) (y := z) hown (mvT hZ w1) (mvT hZ w2) wf (mvT hZ w5) (mvT hZ w6) (mvT hZ wp) (mvT hZ wu) (mvT hZ wc) hy (backOf (W := W) hM hZ w4 w3 hf hl) qa qb qc (g := g) hg hsize (Steps.refl _) (argsL := argsL) (rest := rest) hlen hstack hW hd (fun _ _ => ⟨rfl, eT, hc, hs⟩)
  dsimp only [Pt.U, Pt.locs, Pt.cells, Pt.slots] at X4 l4 y4 z4 st hQ
  subst l4 y4 z4
  exact ⟨v, T4, _, Lc, X4, rfl, hQ, fun t k => st.trans k⟩
/-- a private callee of a class that objects are made of -/
theorem own_callP (X : Stand p l e R s m args below meth c T locs cells slots) (hx : p.tables.exec = Jvm.exec) (hZ : Z.Warmed39 s.vm) {own C : String} {index nf : Nat} {y : MethodName} {bytes : ByteArray} {maxL : Nat} {ret : Option FieldType} {rm : Room} {Q : Option Value → Heap → List Loc → Prop}
    (hown : s.vm.findClass own = some m.cls) (w1 : (Cond.methodLink own index y).before a0 Z = true) (w2 : (Cond.instanceMethod y).before a0 Z = true) (wp : (Cond.privateMethod y).before a0 Z = true) (wi : (Cond.instantiable y.cls nf).before a0 Z = true) (w3 : (Cond.initialized y.cls).before a0 Z = true) (w4 : (Cond.code y bytes maxL ret).before a0 Z = true)
    (hy : y.cls ≠ "java/lang/invoke/MethodHandle" ∧ y.cls ≠ "java/lang/invoke/VarHandle") (W : Nat) {g : JFrame} (hg : g.method = m) (hsize : g.locals.size = c.maxLocals) (a : Addr) (E : Exa Z h a C) (argsL rest : List Value)
    (hM : MetFree l y (head1 [Cond.code y bytes maxL ret] rm) (fun a' U => a' = (.ref a :: argsL).toArray ∧ Z.Warmed39 U.vm ∧ U.heap = h) (fun _ _ _ _ _ => True) (fun _ U o U' => ∃ v L, o = .returned v ∧ Q v U'.heap L ∧ FrameEnd U o U' L rm.cells rm.slots))
    (hlen : ∀ sig, parseMethodDescriptor y.desc = some sig → argsL.length = sig.parameters.length) (hstack : g.stack = argsL.reverse ++ .ref a :: rest) (hW : 2 * g.monitorRoom + (rest.map fun v => v.category).sum ≤ W) (hd : decode c.code g.pc = .ok (.invokevirtual index, 3))
    (hf : rm.frames + 1 ≤ R.frames) (hl : W + (maxL + 11) + rm.locals ≤ R.locals) (eT : T.heap = h) (hc : cells + rm.cells ≤ R.cells) (hs : slots + rm.slots ≤ R.slots) :
    ∃ (v : Option Value) (T' : State) (h' : Heap) (L : List Loc), Stand p l e R s m args below meth c T' (locs ++ L) (cells + rm.cells) (slots + rm.slots) ∧ T'.heap = h' ∧ Q v h' L ∧
      ∀ t, Steps p.tables e below (T'.setTop { g with pc := g.pc + 3, stack := v.toList ++ rest }) t → Steps p.tables e below (T.setTop g) t := by
  obtain ⟨cell, hcell, hobj⟩ := E.cell
  obtain ⟨mk, me, hnamed, hme, hst, hab⟩ := Cond.instanceMethod_spec (mvT (args := args) hZ w2)
  have hsig := Cond.code_spec hnamed (mvT (args := args) hZ w4)
  obtain ⟨me', cM, hme', -, -, -, -, -, -, hsigM⟩ := hsig
  cases hme.symm.trans hme'
  obtain ⟨cc, kk, hcc, hkk, -, hnf, -⟩ := Cond.instantiable_spec (mvT (args := args) hZ wi)
  have hcls : mk.cls = cc := by
    have q := findClass_of_methodNamed hnamed
    exact Option.some.inj (q.symm.trans hcc)
  have hki : kk.isInterface = false := by
    cases hh : kk.isInterface with
    | false => rfl
    | true => rw [hh] at hnf; simp at hnf
  rw [← hcls] at hkk
  have hp : me.isPrivate = true := Cond.privateMethod_at (mvP (args := args) hZ wp) mk me hnamed hme
  obtain ⟨vm₁, X₁, hstep₁⟩ := X.invokevirtual hx hown (mvT hZ w1) hnamed hme hst hkk hki hy (a := a) (cell := cell) (by rw [eT]; exact hcell) hobj (selectMethod_private hme hp) hme hab hkk hki (g := g) hg (argsL := argsL) (rest := rest) (hlen _ hsigM) hstack hd
  obtain ⟨v, ⟨T4, L4, k4, n4⟩, X4, ⟨Lc, hQ, l4, y4, z4⟩, st⟩ := backOf (W := W) (len := 3) hM hZ w4 w3 hf hl m meth c ⟨T.setVm vm₁, locs, cells, slots⟩ { g with stack := rest } (.invokevirtual index) mk (.ref a :: argsL).toArray X₁ hg hsize hd hW (X₁.named hnamed) ⟨rfl, eT, hc, hs⟩
  dsimp only [Pt.U, Pt.locs, Pt.cells, Pt.slots] at X4 l4 y4 z4 st hQ
  subst l4 y4 z4
  exact ⟨v, T4, _, Lc, X4, rfl, hQ, fun t k => (hstep₁ _ fun acts => by rw [doInvoke_state]; exact Steps.refl _).trans (st.trans k)⟩
end OwnCallsP
/-! ## chars, bytes, arrays -/
def own_Ch (c : Int32) : Prop := ¬ c < 0 ∧ ¬ (65535 : Int32) < c
def own_lo (c : Int32) : Int32 := c.toInt8.toInt32
def own_hi (c : Int32) : Int32 := (c >>> ((8 : Int32) &&& 31)).toInt8.toInt32
def own_vb (c : Int32) : Value := .int (own_lo c)
theorem own_ch_int {c : Int32} (h : own_Ch c) : 0 ≤ c.toInt ∧ c.toInt ≤ 65535 := by
  have h1 := h.1; have h2 := h.2
  rw [Int32.lt_iff_toInt_lt] at h1 h2
  have e1 : (0 : Int32).toInt = 0 := rfl
  have e2 : (65535 : Int32).toInt = 65535 := rfl
  omega
theorem own_nar_char {c : Int32} (h : own_Ch c) : nar .char c = c := by
  have h1 := own_ch_int h
  have h2 := c_i2c c
  refine Int32.toInt_inj.mp ?_
  show (c.toUInt32.toUInt16.toUInt32.toInt32).toInt = c.toInt
  omega
theorem own_nar_lo (c : Int32) : nar .byte (own_lo c) = own_lo c := by
  have h1 := c_i2b c
  have h2 := c_i2b (own_lo c)
  refine Int32.toInt_inj.mp ?_
  show ((own_lo c).toInt8.toInt32).toInt = (own_lo c).toInt
  have e : (own_lo c).toInt = (c.toInt8.toInt32).toInt := rfl
  omega
theorem own_nar_hi (c : Int32) : nar .byte (own_hi c) = own_hi c := own_nar_lo (c >>> ((8 : Int32) &&& 31))
theorem own_fit_lo (c : Int32) : fits .byte (.int (own_lo c)) = true := fits_nar_byte c
theorem own_fit_hi (c : Int32) : fits .byte (.int (own_hi c)) = true := fits_nar_byte _
theorem own_shr0 (c : Int32) : c >>> ((0 : Int32) &&& 31) = c := by
  have h := c_ishr c 0 0 (by decide)
  refine Int32.toInt_inj.mp ?_
  rw [h]; simp
theorem own_lo_mask {c : Int32} (h0 : ¬ c < 0) (h1 : ¬ (255 : Int32) < c) : own_lo c &&& 255 = c := by
  rw [Int32.lt_iff_toInt_lt] at h0 h1
  have e1 : (0 : Int32).toInt = 0 := rfl
  have e2 : (255 : Int32).toInt = 255 := rfl
  have h2 := c_i2b c
  have h3 := c_mask (own_lo c) 255 8 (by decide) (by decide)
  have e : (own_lo c).toInt = (c.toInt8.toInt32).toInt := rfl
  refine Int32.toInt_inj.mp ?_
  omega
theorem own_pair {c : Int32} (h : own_Ch c) : (((own_lo c &&& 255) <<< ((0 : Int32) &&& 31)) ||| ((own_hi c &&& 255) <<< ((8 : Int32) &&& 31))).toUInt32.toUInt16.toUInt32.toInt32 = c := by
  have h1 := own_ch_int h
  have a1 := c_i2b c
  have a2 := c_ishr c 8 8 (by decide)
  have a3 := c_i2b (c >>> ((8 : Int32) &&& 31))
  have b1 := c_mask (own_lo c) 255 8 (by decide) (by decide)
  have b2 := c_mask (own_hi c) 255 8 (by decide) (by decide)
  have c1 := c_ishl (own_lo c &&& 255) 0 0 (by decide)
  have c2 := c_ishl (own_hi c &&& 255) 8 8 (by decide)
  have r1 := rng32 ((own_lo c &&& 255) <<< ((0 : Int32) &&& 31))
  have r2 := rng32 ((own_hi c &&& 255) <<< ((8 : Int32) &&& 31))
  have e1 : (own_lo c).toInt = (c.toInt8.toInt32).toInt := rfl
  have e2 : (own_hi c).toInt = ((c >>> ((8 : Int32) &&& 31)).toInt8.toInt32).toInt := rfl
  generalize hx : (own_lo c &&& 255) <<< ((0 : Int32) &&& 31) = x at *
  generalize hy : (own_hi c &&& 255) <<< ((8 : Int32) &&& 31) = y at *
  have o := c_or' x y 8 (by decide) 256 (by decide) (by omega) (by omega) (by omega)
  have d := c_i2c (x ||| y)
  have r3 := rng32 (x ||| y)
  refine Int32.toInt_inj.mp ?_
  omega
/-- an array's store behind the values that are said so far -/
theorem own_push {Z : State} {h h' : Heap} {a : Addr} {k : ClassId} {ty : FieldType} {z j : Int32} {vs : List Value} {v dv : Value} (F : Arv Z h a k ty z vs dv) (hv : fits ty v = true) (W : Wr h h' a j.toNatClampNeg v) (hj : j.toNatClampNeg = vs.length) : Arv Z h' a k ty z (vs ++ [v]) dv := by
  obtain ⟨c, A, q1, S, q3, H, G⟩ := F.pad (pad_rep vs dv 1)
  have q := Arv.set A q1 S q3 H G hv W vs.length hj (by simp)
  have e : (vs ++ List.replicate 1 dv).set vs.length v = vs ++ [v] := by simp
  rw [e] at q
  exact q
theorem own_n32 {n : Nat} (h : n < 2 ^ 31) : (Int32.ofNat n).toNatClampNeg = n := by
  rw [Int32.toNatClampNeg, Int32.toInt_ofNat_of_lt h]; rfl
theorem own_lt32 {i n : Nat} (h : i < n) (hn : n < 2 ^ 31) : Int32.ofNat i < Int32.ofNat n := by
  rw [Int32.lt_iff_toInt_lt, Int32.toInt_ofNat_of_lt (by omega), Int32.toInt_ofNat_of_lt hn]; omega
theorem own_nn32 {n : Nat} (h : n < 2 ^ 31) : ¬ Int32.ofNat n < 0 := by
  rw [Int32.lt_iff_toInt_lt, Int32.toInt_ofNat_of_lt h]; show ¬ ((n : Int) < 0); omega
theorem own_suc (i : Nat) : Int32.ofNat i + 1 = Int32.ofNat (i + 1) := by rw [Int32.ofNat_add]; rfl
theorem own_in32 {i n : Nat} {c : Cell} (S : c.slots.size = (Int32.ofNat n).toNatClampNeg) (h : i < n) (hn : n < 2 ^ 31) : ¬ (Int32.ofNat i < 0 ∨ c.slots.size ≤ (Int32.ofNat i).toNatClampNeg) := by
  rw [S, own_n32 hn, own_n32 (by omega)]
  exact fun q => q.elim (own_nn32 (by omega)) (fun q => by omega)
theorem own_getI (cs : List Int32) (j : Nat) (h : j < cs.length) (d : Value) : (cs.map Value.int).getD j d = .int (cs.getD j 0) := by simp [List.getD, h]
theorem own_getB (cs : List Int32) (j : Nat) (h : j < cs.length) (d : Value) : (cs.map own_vb).getD j d = .int (own_lo (cs.getD j 0)) := by simp [List.getD, h, own_vb]
theorem own_take1 (cs : List Int32) (i : Nat) (h : i < cs.length) : cs.take (i + 1) = cs.take i ++ [cs.getD i 0] := by rw [List.take_add_one]; simp [List.getD, h]
theorem own_takeB (cs : List Int32) (i : Nat) (h : i < cs.length) : (cs.take i).map own_vb ++ [.int (own_lo (cs.getD i 0))] = (cs.take (i + 1)).map own_vb := by
  rw [own_take1 cs i h, List.map_append]; rfl
/-- the two bytes of each char, the low one first -/
def own_wide : List Int32 → List Value
  | [] => []
  | c :: cs => .int (own_lo c) :: .int (own_hi c) :: own_wide cs
theorem own_wide_len : ∀ cs : List Int32, (own_wide cs).length = 2 * cs.length
  | [] => rfl
  | c :: cs => by show (own_wide cs).length + 1 + 1 = 2 * (cs.length + 1); rw [own_wide_len cs]; omega
theorem own_wide_app : ∀ (cs ds : List Int32), own_wide (cs ++ ds) = own_wide cs ++ own_wide ds
  | [], _ => rfl
  | c :: cs, ds => by show _ :: _ :: own_wide (cs ++ ds) = _; rw [own_wide_app cs ds]; rfl
theorem own_wide_lo (d : Value) : ∀ (cs : List Int32) (j : Nat), j < cs.length → (own_wide cs).getD (2 * j) d = .int (own_lo (cs.getD j 0))
  | [], _, h => absurd h (Nat.not_lt_zero _)
  | c :: cs, 0, _ => rfl
  | c :: cs, j + 1, h => by
    have q := own_wide_lo d cs j (by simpa using h)
    have e : 2 * (j + 1) = 2 * j + 1 + 1 := by omega
    rw [e]; exact q
theorem own_wide_hi (d : Value) : ∀ (cs : List Int32) (j : Nat), j < cs.length → (own_wide cs).getD (2 * j + 1) d = .int (own_hi (cs.getD j 0))
  | [], _, h => absurd h (Nat.not_lt_zero _)
  | c :: cs, 0, _ => rfl
  | c :: cs, j + 1, h => by
    have q := own_wide_hi d cs j (by simpa using h)
    have e : 2 * (j + 1) + 1 = 2 * j + 1 + 1 + 1 := by omega
    rw [e]; exact q
theorem own_takeW (cs : List Int32) (i : Nat) (h : i < cs.length) : own_wide (cs.take i) ++ [.int (own_lo (cs.getD i 0)), .int (own_hi (cs.getD i 0))] = own_wide (cs.take (i + 1)) := by
  rw [own_take1 cs i h, own_wide_app]; rfl
theorem own_shl1 {n : Nat} (h : n < 2 ^ 30) : Int32.ofNat n <<< ((1 : Int32) &&& 31) = Int32.ofNat (2 * n) := by
  have q := c_ishl (Int32.ofNat n) 1 1 (by decide)
  have r := rng32 (Int32.ofNat n <<< ((1 : Int32) &&& 31))
  refine Int32.toInt_inj.mp ?_
  rw [Int32.toInt_ofNat_of_lt (by omega)] at *
  omega
theorem own_shr1 {n : Nat} (h : n < 2 ^ 30) : Int32.ofNat (2 * n) >>> ((1 : Int32) &&& 31) = Int32.ofNat n := by
  have q := c_ishr (Int32.ofNat (2 * n)) 1 1 (by decide)
  refine Int32.toInt_inj.mp ?_
  rw [q, Int32.toInt_ofNat_of_lt (by omega), Int32.toInt_ofNat_of_lt (by omega)]
  omega
/-- what a String holds: its chars, Latin-1 or UTF-16 -/
def own_Str (Z : State) (h : Heap) (x t : Addr) (cs : List Int32) : Prop := Exa Z h x "java/lang/String" ∧ Fld Z h x "java/lang/String" "value" "[B" (.ref t) ∧
  ((Fld Z h x "java/lang/String" "coder" "B" (.int 0) ∧ (∃ kt, Arv Z h t kt .byte (Int32.ofNat cs.length) (cs.map own_vb) (.int 0)) ∧ ∀ j, j < cs.length → ¬ (255 : Int32) < cs.getD j 0) ∨
   (Fld Z h x "java/lang/String" "coder" "B" (.int 1) ∧ (∃ kt, Arv Z h t kt .byte (Int32.ofNat (2 * cs.length)) (own_wide cs) (.int 0)) ∧ ∃ j, j < cs.length ∧ (255 : Int32) < cs.getD j 0))
theorem own_Str.ext {Z : State} {h h' : Heap} {x t : Addr} {cs : List Int32} (S : own_Str Z h x t cs) (E : Ext h h') : own_Str Z h' x t cs :=
  ⟨S.1.ext E, S.2.1.ext E, S.2.2.imp (fun q => ⟨q.1.ext E, q.2.1.imp fun _ z => z.ext E, q.2.2⟩) (fun q => ⟨q.1.ext E, q.2.1.imp fun _ z => z.ext E, q.2.2⟩)⟩
theorem own_Str.keep {Z : State} {h h' : Heap} {ws : List Addr} {x t : Addr} {cs : List Int32} (S : own_Str Z h x t cs) (K : Keep h h' ws) (q1 : x ∉ ws) (q2 : t ∉ ws) : own_Str Z h' x t cs :=
  ⟨S.1.keep K, S.2.1.keep K q1, S.2.2.imp (fun q => ⟨q.1.keep K q1, q.2.1.imp fun _ z => z.keep K q2, q.2.2⟩) (fun q => ⟨q.1.keep K q1, q.2.1.imp fun _ z => z.keep K q2, q.2.2⟩)⟩
theorem own_Str.tlt {Z : State} {h : Heap} {x t : Addr} {cs : List Int32} (S : own_Str Z h x t cs) : t < h.size := by
  rcases S.2.2 with ⟨-, ⟨_, A⟩, -⟩ | ⟨-, ⟨_, A⟩, -⟩ <;> exact A.lt
theorem own_sub {h h' : Heap} {n0 : Nat} (q : n0 ≤ h.size) (E : Ext h h') : n0 ≤ h'.size := Nat.le_trans q E.1
theorem own_nelt {x y : Nat} (h : x < y) : x ≠ y := Nat.ne_of_lt h
theorem own_negt {x y : Nat} (h : y < x) : x ≠ y := Nat.ne_of_gt h

theorem d1_0 : decode prog_40_method_1_code 0 = .ok (.aload_n 0, 1) := by decide +kernel
theorem d1_1 : decode prog_40_method_1_code 1 = .ok (.invokespecial 1, 3) := by decide +kernel
theorem d1_4 : decode prog_40_method_1_code 4 = .ok (.aload_n 0, 1) := by decide +kernel
theorem d1_5 : decode prog_40_method_1_code 5 = .ok (.bipush 32, 2) := by decide +kernel
theorem d1_7 : decode prog_40_method_1_code 7 = .ok (.iload_n 1, 1) := by decide +kernel
theorem d1_8 : decode prog_40_method_1_code 8 = .ok (.iconst 1, 1) := by decide +kernel
theorem d1_9 : decode prog_40_method_1_code 9 = .ok (.isub, 1) := by decide +kernel
theorem d1_10 : decode prog_40_method_1_code 10 = .ok (.invokestatic 9, 3) := by decide +kernel
theorem d1_13 : decode prog_40_method_1_code 13 = .ok (.isub, 1) := by decide +kernel
theorem d1_14 : decode prog_40_method_1_code 14 = .ok (.putfield 13, 3) := by decide +kernel
theorem d1_17 : decode prog_40_method_1_code 17 = .ok (.bipush 64, 2) := by decide +kernel
theorem d1_19 : decode prog_40_method_1_code 19 = .ok (.aload_n 0, 1) := by decide +kernel
theorem d1_20 : decode prog_40_method_1_code 20 = .ok (.getfield 13, 3) := by decide +kernel
theorem d1_23 : decode prog_40_method_1_code 23 = .ok (.idiv, 1) := by decide +kernel
theorem d1_24 : decode prog_40_method_1_code 24 = .ok (.istore_n 2, 1) := by decide +kernel
theorem d1_25 : decode prog_40_method_1_code 25 = .ok (.aload_n 0, 1) := by decide +kernel
theorem d1_26 : decode prog_40_method_1_code 26 = .ok (.iload_n 1, 1) := by decide +kernel
theorem d1_27 : decode prog_40_method_1_code 27 = .ok (.iload_n 2, 1) := by decide +kernel
theorem d1_28 : decode prog_40_method_1_code 28 = .ok (.iadd, 1) := by decide +kernel
theorem d1_29 : decode prog_40_method_1_code 29 = .ok (.iconst 1, 1) := by decide +kernel
theorem d1_30 : decode prog_40_method_1_code 30 = .ok (.isub, 1) := by decide +kernel
theorem d1_31 : decode prog_40_method_1_code 31 = .ok (.iload_n 2, 1) := by decide +kernel
theorem d1_32 : decode prog_40_method_1_code 32 = .ok (.idiv, 1) := by decide +kernel
theorem d1_33 : decode prog_40_method_1_code 33 = .ok (.putfield 21, 3) := by decide +kernel
theorem d1_36 : decode prog_40_method_1_code 36 = .ok (.aload_n 0, 1) := by decide +kernel
theorem d1_37 : decode prog_40_method_1_code 37 = .ok (.iload_n 1, 1) := by decide +kernel
theorem d1_38 : decode prog_40_method_1_code 38 = .ok (.newarray .int, 2) := by decide +kernel
theorem d1_40 : decode prog_40_method_1_code 40 = .ok (.putfield 24, 3) := by decide +kernel
theorem d1_43 : decode prog_40_method_1_code 43 = .ok (.aload_n 0, 1) := by decide +kernel
theorem d1_44 : decode prog_40_method_1_code 44 = .ok (.iload_n 1, 1) := by decide +kernel
theorem d1_45 : decode prog_40_method_1_code 45 = .ok (.newarray .int, 2) := by decide +kernel
theorem d1_47 : decode prog_40_method_1_code 47 = .ok (.putfield 28, 3) := by decide +kernel
theorem d1_50 : decode prog_40_method_1_code 50 = .ok (.iconst 0, 1) := by decide +kernel
theorem d1_51 : decode prog_40_method_1_code 51 = .ok (.istore_n 3, 1) := by decide +kernel
theorem d1_52 : decode prog_40_method_1_code 52 = .ok (.iload_n 3, 1) := by decide +kernel
theorem d1_53 : decode prog_40_method_1_code 53 = .ok (.iload_n 1, 1) := by decide +kernel
theorem d1_54 : decode prog_40_method_1_code 54 = .ok (.if_icmp .ge 32, 3) := by decide +kernel
theorem d1_57 : decode prog_40_method_1_code 57 = .ok (.aload_n 0, 1) := by decide +kernel
theorem d1_58 : decode prog_40_method_1_code 58 = .ok (.getfield 24, 3) := by decide +kernel
theorem d1_61 : decode prog_40_method_1_code 61 = .ok (.iload_n 3, 1) := by decide +kernel
theorem d1_62 : decode prog_40_method_1_code 62 = .ok (.iload_n 3, 1) := by decide +kernel
theorem d1_63 : decode prog_40_method_1_code 63 = .ok (.iload_n 2, 1) := by decide +kernel
theorem d1_64 : decode prog_40_method_1_code 64 = .ok (.idiv, 1) := by decide +kernel
theorem d1_65 : decode prog_40_method_1_code 65 = .ok (.iastore, 1) := by decide +kernel
theorem d1_66 : decode prog_40_method_1_code 66 = .ok (.aload_n 0, 1) := by decide +kernel
theorem d1_67 : decode prog_40_method_1_code 67 = .ok (.getfield 28, 3) := by decide +kernel
theorem d1_70 : decode prog_40_method_1_code 70 = .ok (.iload_n 3, 1) := by decide +kernel
theorem d1_71 : decode prog_40_method_1_code 71 = .ok (.iload_n 3, 1) := by decide +kernel
theorem d1_72 : decode prog_40_method_1_code 72 = .ok (.iload_n 2, 1) := by decide +kernel
theorem d1_73 : decode prog_40_method_1_code 73 = .ok (.irem, 1) := by decide +kernel
theorem d1_74 : decode prog_40_method_1_code 74 = .ok (.aload_n 0, 1) := by decide +kernel
theorem d1_75 : decode prog_40_method_1_code 75 = .ok (.getfield 13, 3) := by decide +kernel
theorem d1_78 : decode prog_40_method_1_code 78 = .ok (.imul, 1) := by decide +kernel
theorem d1_79 : decode prog_40_method_1_code 79 = .ok (.iastore, 1) := by decide +kernel
theorem d1_80 : decode prog_40_method_1_code 80 = .ok (.iinc 3 1, 3) := by decide +kernel
theorem d1_83 : decode prog_40_method_1_code 83 = .ok (.goto (-31), 3) := by decide +kernel
theorem d1_86 : decode prog_40_method_1_code 86 = .ok (.aload_n 0, 1) := by decide +kernel
theorem d1_87 : decode prog_40_method_1_code 87 = .ok (.aload_n 0, 1) := by decide +kernel
theorem d1_88 : decode prog_40_method_1_code 88 = .ok (.getfield 21, 3) := by decide +kernel
theorem d1_91 : decode prog_40_method_1_code 91 = .ok (.newarray .long, 2) := by decide +kernel
theorem d1_93 : decode prog_40_method_1_code 93 = .ok (.putfield 31, 3) := by decide +kernel
theorem d1_96 : decode prog_40_method_1_code 96 = .ok (.aload_n 0, 1) := by decide +kernel
theorem d1_97 : decode prog_40_method_1_code 97 = .ok (.sipush 1024, 3) := by decide +kernel
theorem d1_100 : decode prog_40_method_1_code 100 = .ok (.aload_n 0, 1) := by decide +kernel
theorem d1_101 : decode prog_40_method_1_code 101 = .ok (.getfield 21, 3) := by decide +kernel
theorem d1_104 : decode prog_40_method_1_code 104 = .ok (.imul, 1) := by decide +kernel
theorem d1_105 : decode prog_40_method_1_code 105 = .ok (.newarray .long, 2) := by decide +kernel
theorem d1_107 : decode prog_40_method_1_code 107 = .ok (.putfield 35, 3) := by decide +kernel
theorem d1_110 : decode prog_40_method_1_code 110 = .ok (.aload_n 0, 1) := by decide +kernel
theorem d1_111 : decode prog_40_method_1_code 111 = .ok (.sipush 1024, 3) := by decide +kernel
theorem d1_114 : decode prog_40_method_1_code 114 = .ok (.newarray .int, 2) := by decide +kernel
theorem d1_116 : decode prog_40_method_1_code 116 = .ok (.putfield 38, 3) := by decide +kernel
theorem d1_119 : decode prog_40_method_1_code 119 = .ok (.aload_n 0, 1) := by decide +kernel
theorem d1_120 : decode prog_40_method_1_code 120 = .ok (.sipush 1024, 3) := by decide +kernel
theorem d1_123 : decode prog_40_method_1_code 123 = .ok (.newarray .byte, 2) := by decide +kernel
theorem d1_125 : decode prog_40_method_1_code 125 = .ok (.putfield 41, 3) := by decide +kernel
theorem d1_128 : decode prog_40_method_1_code 128 = .ok (.sipush 1024, 3) := by decide +kernel
theorem d1_131 : decode prog_40_method_1_code 131 = .ok (.invokestatic 45, 3) := by decide +kernel
theorem d1_134 : decode prog_40_method_1_code 134 = .ok (.iconst 1, 1) := by decide +kernel
theorem d1_135 : decode prog_40_method_1_code 135 = .ok (.iadd, 1) := by decide +kernel
theorem d1_136 : decode prog_40_method_1_code 136 = .ok (.istore_n 3, 1) := by decide +kernel
theorem d1_137 : decode prog_40_method_1_code 137 = .ok (.aload_n 0, 1) := by decide +kernel
theorem d1_138 : decode prog_40_method_1_code 138 = .ok (.iconst 1, 1) := by decide +kernel
theorem d1_139 : decode prog_40_method_1_code 139 = .ok (.iload_n 3, 1) := by decide +kernel
theorem d1_140 : decode prog_40_method_1_code 140 = .ok (.ishl, 1) := by decide +kernel
theorem d1_141 : decode prog_40_method_1_code 141 = .ok (.newarray .int, 2) := by decide +kernel
theorem d1_143 : decode prog_40_method_1_code 143 = .ok (.putfield 48, 3) := by decide +kernel
theorem d1_146 : decode prog_40_method_1_code 146 = .ok (.aload_n 0, 1) := by decide +kernel
theorem d1_147 : decode prog_40_method_1_code 147 = .ok (.bipush 64, 2) := by decide +kernel
theorem d1_149 : decode prog_40_method_1_code 149 = .ok (.iload_n 3, 1) := by decide +kernel
theorem d1_150 : decode prog_40_method_1_code 150 = .ok (.isub, 1) := by decide +kernel
theorem d1_151 : decode prog_40_method_1_code 151 = .ok (.putfield 51, 3) := by decide +kernel
theorem d1_154 : decode prog_40_method_1_code 154 = .ok (.return_, 1) := by decide +kernel
theorem d3_0 : decode jdk_33_method_47_code 0 = .ok (.iload_n 0, 1) := by decide +kernel
theorem d3_1 : decode jdk_33_method_47_code 1 = .ok (.ifCond .gt 14, 3) := by decide +kernel
theorem d3_4 : decode jdk_33_method_47_code 4 = .ok (.iload_n 0, 1) := by decide +kernel
theorem d3_5 : decode jdk_33_method_47_code 5 = .ok (.ifCond .ne 8, 3) := by decide +kernel
theorem d3_8 : decode jdk_33_method_47_code 8 = .ok (.bipush 32, 2) := by decide +kernel
theorem d3_10 : decode jdk_33_method_47_code 10 = .ok (.goto 4, 3) := by decide +kernel
theorem d3_13 : decode jdk_33_method_47_code 13 = .ok (.iconst 0, 1) := by decide +kernel
theorem d3_14 : decode jdk_33_method_47_code 14 = .ok (.ireturn, 1) := by decide +kernel
theorem d3_15 : decode jdk_33_method_47_code 15 = .ok (.bipush 31, 2) := by decide +kernel
theorem d3_17 : decode jdk_33_method_47_code 17 = .ok (.istore_n 1, 1) := by decide +kernel
theorem d3_18 : decode jdk_33_method_47_code 18 = .ok (.iload_n 0, 1) := by decide +kernel
theorem d3_19 : decode jdk_33_method_47_code 19 = .ok (.ldc_w 264, 3) := by decide +kernel
theorem d3_22 : decode jdk_33_method_47_code 22 = .ok (.if_icmp .lt 11, 3) := by decide +kernel
theorem d3_25 : decode jdk_33_method_47_code 25 = .ok (.iinc 1 (-16), 3) := by decide +kernel
theorem d3_28 : decode jdk_33_method_47_code 28 = .ok (.iload_n 0, 1) := by decide +kernel
theorem d3_29 : decode jdk_33_method_47_code 29 = .ok (.bipush 16, 2) := by decide +kernel
theorem d3_31 : decode jdk_33_method_47_code 31 = .ok (.iushr, 1) := by decide +kernel
theorem d3_32 : decode jdk_33_method_47_code 32 = .ok (.istore_n 0, 1) := by decide +kernel
theorem d3_33 : decode jdk_33_method_47_code 33 = .ok (.iload_n 0, 1) := by decide +kernel
theorem d3_34 : decode jdk_33_method_47_code 34 = .ok (.sipush 256, 3) := by decide +kernel
theorem d3_37 : decode jdk_33_method_47_code 37 = .ok (.if_icmp .lt 11, 3) := by decide +kernel
theorem d3_40 : decode jdk_33_method_47_code 40 = .ok (.iinc 1 (-8), 3) := by decide +kernel
theorem d3_43 : decode jdk_33_method_47_code 43 = .ok (.iload_n 0, 1) := by decide +kernel
theorem d3_44 : decode jdk_33_method_47_code 44 = .ok (.bipush 8, 2) := by decide +kernel
theorem d3_46 : decode jdk_33_method_47_code 46 = .ok (.iushr, 1) := by decide +kernel
theorem d3_47 : decode jdk_33_method_47_code 47 = .ok (.istore_n 0, 1) := by decide +kernel
theorem d3_48 : decode jdk_33_method_47_code 48 = .ok (.iload_n 0, 1) := by decide +kernel
theorem d3_49 : decode jdk_33_method_47_code 49 = .ok (.bipush 16, 2) := by decide +kernel
theorem d3_51 : decode jdk_33_method_47_code 51 = .ok (.if_icmp .lt 10, 3) := by decide +kernel
theorem d3_54 : decode jdk_33_method_47_code 54 = .ok (.iinc 1 (-4), 3) := by decide +kernel
theorem d3_57 : decode jdk_33_method_47_code 57 = .ok (.iload_n 0, 1) := by decide +kernel
theorem d3_58 : decode jdk_33_method_47_code 58 = .ok (.iconst 4, 1) := by decide +kernel
theorem d3_59 : decode jdk_33_method_47_code 59 = .ok (.iushr, 1) := by decide +kernel
theorem d3_60 : decode jdk_33_method_47_code 60 = .ok (.istore_n 0, 1) := by decide +kernel
theorem d3_61 : decode jdk_33_method_47_code 61 = .ok (.iload_n 0, 1) := by decide +kernel
theorem d3_62 : decode jdk_33_method_47_code 62 = .ok (.iconst 4, 1) := by decide +kernel
theorem d3_63 : decode jdk_33_method_47_code 63 = .ok (.if_icmp .lt 10, 3) := by decide +kernel
theorem d3_66 : decode jdk_33_method_47_code 66 = .ok (.iinc 1 (-2), 3) := by decide +kernel
theorem d3_69 : decode jdk_33_method_47_code 69 = .ok (.iload_n 0, 1) := by decide +kernel
theorem d3_70 : decode jdk_33_method_47_code 70 = .ok (.iconst 2, 1) := by decide +kernel
theorem d3_71 : decode jdk_33_method_47_code 71 = .ok (.iushr, 1) := by decide +kernel
theorem d3_72 : decode jdk_33_method_47_code 72 = .ok (.istore_n 0, 1) := by decide +kernel
theorem d3_73 : decode jdk_33_method_47_code 73 = .ok (.iload_n 1, 1) := by decide +kernel
theorem d3_74 : decode jdk_33_method_47_code 74 = .ok (.iload_n 0, 1) := by decide +kernel
theorem d3_75 : decode jdk_33_method_47_code 75 = .ok (.iconst 1, 1) := by decide +kernel
theorem d3_76 : decode jdk_33_method_47_code 76 = .ok (.iushr, 1) := by decide +kernel
theorem d3_77 : decode jdk_33_method_47_code 77 = .ok (.isub, 1) := by decide +kernel
theorem d3_78 : decode jdk_33_method_47_code 78 = .ok (.ireturn, 1) := by decide +kernel
theorem d4_0 : decode jdk_33_method_48_code 0 = .ok (.iload_n 0, 1) := by decide +kernel
theorem d4_1 : decode jdk_33_method_48_code 1 = .ok (.iconst (-1), 1) := by decide +kernel
theorem d4_2 : decode jdk_33_method_48_code 2 = .ok (.ixor, 1) := by decide +kernel
theorem d4_3 : decode jdk_33_method_48_code 3 = .ok (.iload_n 0, 1) := by decide +kernel
theorem d4_4 : decode jdk_33_method_48_code 4 = .ok (.iconst 1, 1) := by decide +kernel
theorem d4_5 : decode jdk_33_method_48_code 5 = .ok (.isub, 1) := by decide +kernel
theorem d4_6 : decode jdk_33_method_48_code 6 = .ok (.iand, 1) := by decide +kernel
theorem d4_7 : decode jdk_33_method_48_code 7 = .ok (.istore_n 0, 1) := by decide +kernel
theorem d4_8 : decode jdk_33_method_48_code 8 = .ok (.iload_n 0, 1) := by decide +kernel
theorem d4_9 : decode jdk_33_method_48_code 9 = .ok (.ifCond .gt 8, 3) := by decide +kernel
theorem d4_12 : decode jdk_33_method_48_code 12 = .ok (.iload_n 0, 1) := by decide +kernel
theorem d4_13 : decode jdk_33_method_48_code 13 = .ok (.bipush 32, 2) := by decide +kernel
theorem d4_15 : decode jdk_33_method_48_code 15 = .ok (.iand, 1) := by decide +kernel
theorem d4_16 : decode jdk_33_method_48_code 16 = .ok (.ireturn, 1) := by decide +kernel
theorem d4_17 : decode jdk_33_method_48_code 17 = .ok (.iconst 1, 1) := by decide +kernel
theorem d4_18 : decode jdk_33_method_48_code 18 = .ok (.istore_n 1, 1) := by decide +kernel
theorem d4_19 : decode jdk_33_method_48_code 19 = .ok (.iload_n 0, 1) := by decide +kernel
theorem d4_20 : decode jdk_33_method_48_code 20 = .ok (.ldc_w 264, 3) := by decide +kernel
theorem d4_23 : decode jdk_33_method_48_code 23 = .ok (.if_icmp .le 11, 3) := by decide +kernel
theorem d4_26 : decode jdk_33_method_48_code 26 = .ok (.iinc 1 16, 3) := by decide +kernel
theorem d4_29 : decode jdk_33_method_48_code 29 = .ok (.iload_n 0, 1) := by decide +kernel
theorem d4_30 : decode jdk_33_method_48_code 30 = .ok (.bipush 16, 2) := by decide +kernel
theorem d4_32 : decode jdk_33_method_48_code 32 = .ok (.iushr, 1) := by decide +kernel
theorem d4_33 : decode jdk_33_method_48_code 33 = .ok (.istore_n 0, 1) := by decide +kernel
theorem d4_34 : decode jdk_33_method_48_code 34 = .ok (.iload_n 0, 1) := by decide +kernel
theorem d4_35 : decode jdk_33_method_48_code 35 = .ok (.sipush 256, 3) := by decide +kernel
theorem d4_38 : decode jdk_33_method_48_code 38 = .ok (.if_icmp .le 11, 3) := by decide +kernel
theorem d4_41 : decode jdk_33_method_48_code 41 = .ok (.iinc 1 8, 3) := by decide +kernel
theorem d4_44 : decode jdk_33_method_48_code 44 = .ok (.iload_n 0, 1) := by decide +kernel
theorem d4_45 : decode jdk_33_method_48_code 45 = .ok (.bipush 8, 2) := by decide +kernel
theorem d4_47 : decode jdk_33_method_48_code 47 = .ok (.iushr, 1) := by decide +kernel
theorem d4_48 : decode jdk_33_method_48_code 48 = .ok (.istore_n 0, 1) := by decide +kernel
theorem d4_49 : decode jdk_33_method_48_code 49 = .ok (.iload_n 0, 1) := by decide +kernel
theorem d4_50 : decode jdk_33_method_48_code 50 = .ok (.bipush 16, 2) := by decide +kernel
theorem d4_52 : decode jdk_33_method_48_code 52 = .ok (.if_icmp .le 10, 3) := by decide +kernel
theorem d4_55 : decode jdk_33_method_48_code 55 = .ok (.iinc 1 4, 3) := by decide +kernel
theorem d4_58 : decode jdk_33_method_48_code 58 = .ok (.iload_n 0, 1) := by decide +kernel
theorem d4_59 : decode jdk_33_method_48_code 59 = .ok (.iconst 4, 1) := by decide +kernel
theorem d4_60 : decode jdk_33_method_48_code 60 = .ok (.iushr, 1) := by decide +kernel
theorem d4_61 : decode jdk_33_method_48_code 61 = .ok (.istore_n 0, 1) := by decide +kernel
theorem d4_62 : decode jdk_33_method_48_code 62 = .ok (.iload_n 0, 1) := by decide +kernel
theorem d4_63 : decode jdk_33_method_48_code 63 = .ok (.iconst 4, 1) := by decide +kernel
theorem d4_64 : decode jdk_33_method_48_code 64 = .ok (.if_icmp .le 10, 3) := by decide +kernel
theorem d4_67 : decode jdk_33_method_48_code 67 = .ok (.iinc 1 2, 3) := by decide +kernel
theorem d4_70 : decode jdk_33_method_48_code 70 = .ok (.iload_n 0, 1) := by decide +kernel
theorem d4_71 : decode jdk_33_method_48_code 71 = .ok (.iconst 2, 1) := by decide +kernel
theorem d4_72 : decode jdk_33_method_48_code 72 = .ok (.iushr, 1) := by decide +kernel
theorem d4_73 : decode jdk_33_method_48_code 73 = .ok (.istore_n 0, 1) := by decide +kernel
theorem d4_74 : decode jdk_33_method_48_code 74 = .ok (.iload_n 1, 1) := by decide +kernel
theorem d4_75 : decode jdk_33_method_48_code 75 = .ok (.iload_n 0, 1) := by decide +kernel
theorem d4_76 : decode jdk_33_method_48_code 76 = .ok (.iconst 1, 1) := by decide +kernel
theorem d4_77 : decode jdk_33_method_48_code 77 = .ok (.iushr, 1) := by decide +kernel
theorem d4_78 : decode jdk_33_method_48_code 78 = .ok (.iadd, 1) := by decide +kernel
theorem d4_79 : decode jdk_33_method_48_code 79 = .ok (.ireturn, 1) := by decide +kernel
theorem d5_0 : decode prog_40_method_6_code 0 = .ok (.aload_n 0, 1) := by decide +kernel
theorem d5_1 : decode prog_40_method_6_code 1 = .ok (.getfield 21, 3) := by decide +kernel
theorem d5_4 : decode prog_40_method_6_code 4 = .ok (.istore_n 1, 1) := by decide +kernel
theorem d5_5 : decode prog_40_method_6_code 5 = .ok (.aload_n 0, 1) := by decide +kernel
theorem d5_6 : decode prog_40_method_6_code 6 = .ok (.getfield 48, 3) := by decide +kernel
theorem d5_9 : decode prog_40_method_6_code 9 = .ok (.arraylength, 1) := by decide +kernel
theorem d5_10 : decode prog_40_method_6_code 10 = .ok (.iconst 1, 1) := by decide +kernel
theorem d5_11 : decode prog_40_method_6_code 11 = .ok (.isub, 1) := by decide +kernel
theorem d5_12 : decode prog_40_method_6_code 12 = .ok (.istore_n 2, 1) := by decide +kernel
theorem d5_13 : decode prog_40_method_6_code 13 = .ok (.aload_n 0, 1) := by decide +kernel
theorem d5_14 : decode prog_40_method_6_code 14 = .ok (.aload_n 0, 1) := by decide +kernel
theorem d5_15 : decode prog_40_method_6_code 15 = .ok (.getfield 31, 3) := by decide +kernel
theorem d5_18 : decode prog_40_method_6_code 18 = .ok (.iconst 0, 1) := by decide +kernel
theorem d5_19 : decode prog_40_method_6_code 19 = .ok (.invokevirtual 69, 3) := by decide +kernel
theorem d5_22 : decode prog_40_method_6_code 22 = .ok (.istore_n 3, 1) := by decide +kernel
theorem d5_23 : decode prog_40_method_6_code 23 = .ok (.aload_n 0, 1) := by decide +kernel
theorem d5_24 : decode prog_40_method_6_code 24 = .ok (.getfield 48, 3) := by decide +kernel
theorem d5_27 : decode prog_40_method_6_code 27 = .ok (.iload_n 3, 1) := by decide +kernel
theorem d5_28 : decode prog_40_method_6_code 28 = .ok (.iaload, 1) := by decide +kernel
theorem d5_29 : decode prog_40_method_6_code 29 = .ok (.iconst 1, 1) := by decide +kernel
theorem d5_30 : decode prog_40_method_6_code 30 = .ok (.isub, 1) := by decide +kernel
theorem d5_31 : decode prog_40_method_6_code 31 = .ok (.istore 4, 2) := by decide +kernel
theorem d5_33 : decode prog_40_method_6_code 33 = .ok (.iload 4, 2) := by decide +kernel
theorem d5_35 : decode prog_40_method_6_code 35 = .ok (.ifCond .lt 29, 3) := by decide +kernel
theorem d5_38 : decode prog_40_method_6_code 38 = .ok (.aload_n 0, 1) := by decide +kernel
theorem d5_39 : decode prog_40_method_6_code 39 = .ok (.getfield 35, 3) := by decide +kernel
theorem d5_42 : decode prog_40_method_6_code 42 = .ok (.iload 4, 2) := by decide +kernel
theorem d5_44 : decode prog_40_method_6_code 44 = .ok (.iload_n 1, 1) := by decide +kernel
theorem d5_45 : decode prog_40_method_6_code 45 = .ok (.imul, 1) := by decide +kernel
theorem d5_46 : decode prog_40_method_6_code 46 = .ok (.iload 4, 2) := by decide +kernel
theorem d5_48 : decode prog_40_method_6_code 48 = .ok (.iload_n 1, 1) := by decide +kernel
theorem d5_49 : decode prog_40_method_6_code 49 = .ok (.imul, 1) := by decide +kernel
theorem d5_50 : decode prog_40_method_6_code 50 = .ok (.iload_n 1, 1) := by decide +kernel
theorem d5_51 : decode prog_40_method_6_code 51 = .ok (.iadd, 1) := by decide +kernel
theorem d5_52 : decode prog_40_method_6_code 52 = .ok (.aload_n 0, 1) := by decide +kernel
theorem d5_53 : decode prog_40_method_6_code 53 = .ok (.getfield 31, 3) := by decide +kernel
theorem d5_56 : decode prog_40_method_6_code 56 = .ok (.iconst 0, 1) := by decide +kernel
theorem d5_57 : decode prog_40_method_6_code 57 = .ok (.iload_n 1, 1) := by decide +kernel
theorem d5_58 : decode prog_40_method_6_code 58 = .ok (.invokestatic 73, 3) := by decide +kernel
theorem d5_61 : decode prog_40_method_6_code 61 = .ok (.ifCond .eq 5, 3) := by decide +kernel
theorem d5_64 : decode prog_40_method_6_code 64 = .ok (.iload_n 3, 1) := by decide +kernel
theorem d5_65 : decode prog_40_method_6_code 65 = .ok (.ireturn, 1) := by decide +kernel
theorem d5_66 : decode prog_40_method_6_code 66 = .ok (.iload_n 3, 1) := by decide +kernel
theorem d5_67 : decode prog_40_method_6_code 67 = .ok (.iconst 1, 1) := by decide +kernel
theorem d5_68 : decode prog_40_method_6_code 68 = .ok (.iadd, 1) := by decide +kernel
theorem d5_69 : decode prog_40_method_6_code 69 = .ok (.iload_n 2, 1) := by decide +kernel
theorem d5_70 : decode prog_40_method_6_code 70 = .ok (.iand, 1) := by decide +kernel
theorem d5_71 : decode prog_40_method_6_code 71 = .ok (.istore_n 3, 1) := by decide +kernel
theorem d5_72 : decode prog_40_method_6_code 72 = .ok (.goto (-49), 3) := by decide +kernel
theorem d6_0 : decode prog_40_method_13_code 0 = .ok (.lconst 0, 1) := by decide +kernel
theorem d6_1 : decode prog_40_method_13_code 1 = .ok (.lstore_n 3, 1) := by decide +kernel
theorem d6_2 : decode prog_40_method_13_code 2 = .ok (.iconst 0, 1) := by decide +kernel
theorem d6_3 : decode prog_40_method_13_code 3 = .ok (.istore 5, 2) := by decide +kernel
theorem d6_5 : decode prog_40_method_13_code 5 = .ok (.iload 5, 2) := by decide +kernel
theorem d6_7 : decode prog_40_method_13_code 7 = .ok (.aload_n 0, 1) := by decide +kernel
theorem d6_8 : decode prog_40_method_13_code 8 = .ok (.getfield 21, 3) := by decide +kernel
theorem d6_11 : decode prog_40_method_13_code 11 = .ok (.if_icmp .ge 22, 3) := by decide +kernel
theorem d6_14 : decode prog_40_method_13_code 14 = .ok (.lload_n 3, 1) := by decide +kernel
theorem d6_15 : decode prog_40_method_13_code 15 = .ok (.aload_n 1, 1) := by decide +kernel
theorem d6_16 : decode prog_40_method_13_code 16 = .ok (.iload_n 2, 1) := by decide +kernel
theorem d6_17 : decode prog_40_method_13_code 17 = .ok (.iload 5, 2) := by decide +kernel
theorem d6_19 : decode prog_40_method_13_code 19 = .ok (.iadd, 1) := by decide +kernel
theorem d6_20 : decode prog_40_method_13_code 20 = .ok (.laload, 1) := by decide +kernel
theorem d6_21 : decode prog_40_method_13_code 21 = .ok (.lxor, 1) := by decide +kernel
theorem d6_22 : decode prog_40_method_13_code 22 = .ok (.ldc2_w 123, 3) := by decide +kernel
theorem d6_25 : decode prog_40_method_13_code 25 = .ok (.lmul, 1) := by decide +kernel
theorem d6_26 : decode prog_40_method_13_code 26 = .ok (.lstore_n 3, 1) := by decide +kernel
theorem d6_27 : decode prog_40_method_13_code 27 = .ok (.iinc 5 1, 3) := by decide +kernel
theorem d6_30 : decode prog_40_method_13_code 30 = .ok (.goto (-25), 3) := by decide +kernel
theorem d6_33 : decode prog_40_method_13_code 33 = .ok (.lload_n 3, 1) := by decide +kernel
theorem d6_34 : decode prog_40_method_13_code 34 = .ok (.aload_n 0, 1) := by decide +kernel
theorem d6_35 : decode prog_40_method_13_code 35 = .ok (.getfield 51, 3) := by decide +kernel
theorem d6_38 : decode prog_40_method_13_code 38 = .ok (.lushr, 1) := by decide +kernel
theorem d6_39 : decode prog_40_method_13_code 39 = .ok (.l2i, 1) := by decide +kernel
theorem d6_40 : decode prog_40_method_13_code 40 = .ok (.ireturn, 1) := by decide +kernel
theorem d7_0 : decode prog_40_method_8_code 0 = .ok (.aload_n 0, 1) := by decide +kernel
theorem d7_1 : decode prog_40_method_8_code 1 = .ok (.getfield 54, 3) := by decide +kernel
theorem d7_4 : decode prog_40_method_8_code 4 = .ok (.ldc 77, 2) := by decide +kernel
theorem d7_6 : decode prog_40_method_8_code 6 = .ok (.if_icmp .ne 13, 3) := by decide +kernel
theorem d7_9 : decode prog_40_method_8_code 9 = .ok (.new 78, 3) := by decide +kernel
theorem d7_12 : decode prog_40_method_8_code 12 = .ok (.dup, 1) := by decide +kernel
theorem d7_13 : decode prog_40_method_8_code 13 = .ok (.ldc 80, 2) := by decide +kernel
theorem d7_15 : decode prog_40_method_8_code 15 = .ok (.invokespecial 82, 3) := by decide +kernel
theorem d7_18 : decode prog_40_method_8_code 18 = .ok (.athrow, 1) := by decide +kernel
theorem d7_19 : decode prog_40_method_8_code 19 = .ok (.aload_n 0, 1) := by decide +kernel
theorem d7_20 : decode prog_40_method_8_code 20 = .ok (.getfield 54, 3) := by decide +kernel
theorem d7_23 : decode prog_40_method_8_code 23 = .ok (.aload_n 0, 1) := by decide +kernel
theorem d7_24 : decode prog_40_method_8_code 24 = .ok (.getfield 38, 3) := by decide +kernel
theorem d7_27 : decode prog_40_method_8_code 27 = .ok (.arraylength, 1) := by decide +kernel
theorem d7_28 : decode prog_40_method_8_code 28 = .ok (.if_icmp .ne 60, 3) := by decide +kernel
theorem d7_31 : decode prog_40_method_8_code 31 = .ok (.aload_n 0, 1) := by decide +kernel
theorem d7_32 : decode prog_40_method_8_code 32 = .ok (.getfield 54, 3) := by decide +kernel
theorem d7_35 : decode prog_40_method_8_code 35 = .ok (.iconst 2, 1) := by decide +kernel
theorem d7_36 : decode prog_40_method_8_code 36 = .ok (.imul, 1) := by decide +kernel
theorem d7_37 : decode prog_40_method_8_code 37 = .ok (.ldc 77, 2) := by decide +kernel
theorem d7_39 : decode prog_40_method_8_code 39 = .ok (.invokestatic 85, 3) := by decide +kernel
theorem d7_42 : decode prog_40_method_8_code 42 = .ok (.istore 4, 2) := by decide +kernel
theorem d7_44 : decode prog_40_method_8_code 44 = .ok (.aload_n 0, 1) := by decide +kernel
theorem d7_45 : decode prog_40_method_8_code 45 = .ok (.aload_n 0, 1) := by decide +kernel
theorem d7_46 : decode prog_40_method_8_code 46 = .ok (.getfield 35, 3) := by decide +kernel
theorem d7_49 : decode prog_40_method_8_code 49 = .ok (.iload 4, 2) := by decide +kernel
theorem d7_51 : decode prog_40_method_8_code 51 = .ok (.aload_n 0, 1) := by decide +kernel
theorem d7_52 : decode prog_40_method_8_code 52 = .ok (.getfield 21, 3) := by decide +kernel
theorem d7_55 : decode prog_40_method_8_code 55 = .ok (.imul, 1) := by decide +kernel
theorem d7_56 : decode prog_40_method_8_code 56 = .ok (.invokestatic 91, 3) := by decide +kernel
theorem d7_59 : decode prog_40_method_8_code 59 = .ok (.putfield 35, 3) := by decide +kernel
theorem d7_62 : decode prog_40_method_8_code 62 = .ok (.aload_n 0, 1) := by decide +kernel
theorem d7_63 : decode prog_40_method_8_code 63 = .ok (.aload_n 0, 1) := by decide +kernel
theorem d7_64 : decode prog_40_method_8_code 64 = .ok (.getfield 38, 3) := by decide +kernel
theorem d7_67 : decode prog_40_method_8_code 67 = .ok (.iload 4, 2) := by decide +kernel
theorem d7_69 : decode prog_40_method_8_code 69 = .ok (.invokestatic 95, 3) := by decide +kernel
theorem d7_72 : decode prog_40_method_8_code 72 = .ok (.putfield 38, 3) := by decide +kernel
theorem d7_75 : decode prog_40_method_8_code 75 = .ok (.aload_n 0, 1) := by decide +kernel
theorem d7_76 : decode prog_40_method_8_code 76 = .ok (.aload_n 0, 1) := by decide +kernel
theorem d7_77 : decode prog_40_method_8_code 77 = .ok (.getfield 41, 3) := by decide +kernel
theorem d7_80 : decode prog_40_method_8_code 80 = .ok (.iload 4, 2) := by decide +kernel
theorem d7_82 : decode prog_40_method_8_code 82 = .ok (.invokestatic 98, 3) := by decide +kernel
theorem d7_85 : decode prog_40_method_8_code 85 = .ok (.putfield 41, 3) := by decide +kernel
theorem d7_88 : decode prog_40_method_8_code 88 = .ok (.aload_n 0, 1) := by decide +kernel
theorem d7_89 : decode prog_40_method_8_code 89 = .ok (.dup, 1) := by decide +kernel
theorem d7_90 : decode prog_40_method_8_code 90 = .ok (.getfield 54, 3) := by decide +kernel
theorem d7_93 : decode prog_40_method_8_code 93 = .ok (.dup_x1, 1) := by decide +kernel
theorem d7_94 : decode prog_40_method_8_code 94 = .ok (.iconst 1, 1) := by decide +kernel
theorem d7_95 : decode prog_40_method_8_code 95 = .ok (.iadd, 1) := by decide +kernel
theorem d7_96 : decode prog_40_method_8_code 96 = .ok (.putfield 54, 3) := by decide +kernel
theorem d7_99 : decode prog_40_method_8_code 99 = .ok (.istore 4, 2) := by decide +kernel
theorem d7_101 : decode prog_40_method_8_code 101 = .ok (.aload_n 0, 1) := by decide +kernel
theorem d7_102 : decode prog_40_method_8_code 102 = .ok (.getfield 31, 3) := by decide +kernel
theorem d7_105 : decode prog_40_method_8_code 105 = .ok (.iconst 0, 1) := by decide +kernel
theorem d7_106 : decode prog_40_method_8_code 106 = .ok (.aload_n 0, 1) := by decide +kernel
theorem d7_107 : decode prog_40_method_8_code 107 = .ok (.getfield 35, 3) := by decide +kernel
theorem d7_110 : decode prog_40_method_8_code 110 = .ok (.iload 4, 2) := by decide +kernel
theorem d7_112 : decode prog_40_method_8_code 112 = .ok (.aload_n 0, 1) := by decide +kernel
theorem d7_113 : decode prog_40_method_8_code 113 = .ok (.getfield 21, 3) := by decide +kernel
theorem d7_116 : decode prog_40_method_8_code 116 = .ok (.imul, 1) := by decide +kernel
theorem d7_117 : decode prog_40_method_8_code 117 = .ok (.aload_n 0, 1) := by decide +kernel
theorem d7_118 : decode prog_40_method_8_code 118 = .ok (.getfield 21, 3) := by decide +kernel
theorem d7_121 : decode prog_40_method_8_code 121 = .ok (.invokestatic 63, 3) := by decide +kernel
theorem d7_124 : decode prog_40_method_8_code 124 = .ok (.aload_n 0, 1) := by decide +kernel
theorem d7_125 : decode prog_40_method_8_code 125 = .ok (.getfield 38, 3) := by decide +kernel
theorem d7_128 : decode prog_40_method_8_code 128 = .ok (.iload 4, 2) := by decide +kernel
theorem d7_130 : decode prog_40_method_8_code 130 = .ok (.iload_n 2, 1) := by decide +kernel
theorem d7_131 : decode prog_40_method_8_code 131 = .ok (.iastore, 1) := by decide +kernel
theorem d7_132 : decode prog_40_method_8_code 132 = .ok (.aload_n 0, 1) := by decide +kernel
theorem d7_133 : decode prog_40_method_8_code 133 = .ok (.getfield 41, 3) := by decide +kernel
theorem d7_136 : decode prog_40_method_8_code 136 = .ok (.iload 4, 2) := by decide +kernel
theorem d7_138 : decode prog_40_method_8_code 138 = .ok (.iload_n 3, 1) := by decide +kernel
theorem d7_139 : decode prog_40_method_8_code 139 = .ok (.i2b, 1) := by decide +kernel
theorem d7_140 : decode prog_40_method_8_code 140 = .ok (.bastore, 1) := by decide +kernel
theorem d7_141 : decode prog_40_method_8_code 141 = .ok (.aload_n 0, 1) := by decide +kernel
theorem d7_142 : decode prog_40_method_8_code 142 = .ok (.getfield 54, 3) := by decide +kernel
theorem d7_145 : decode prog_40_method_8_code 145 = .ok (.iconst 2, 1) := by decide +kernel
theorem d7_146 : decode prog_40_method_8_code 146 = .ok (.imul, 1) := by decide +kernel
theorem d7_147 : decode prog_40_method_8_code 147 = .ok (.aload_n 0, 1) := by decide +kernel
theorem d7_148 : decode prog_40_method_8_code 148 = .ok (.getfield 48, 3) := by decide +kernel
theorem d7_151 : decode prog_40_method_8_code 151 = .ok (.arraylength, 1) := by decide +kernel
theorem d7_152 : decode prog_40_method_8_code 152 = .ok (.if_icmp .le 10, 3) := by decide +kernel
theorem d7_155 : decode prog_40_method_8_code 155 = .ok (.aload_n 0, 1) := by decide +kernel
theorem d7_156 : decode prog_40_method_8_code 156 = .ok (.invokevirtual 101, 3) := by decide +kernel
theorem d7_159 : decode prog_40_method_8_code 159 = .ok (.goto 13, 3) := by decide +kernel
theorem d7_162 : decode prog_40_method_8_code 162 = .ok (.aload_n 0, 1) := by decide +kernel
theorem d7_163 : decode prog_40_method_8_code 163 = .ok (.getfield 48, 3) := by decide +kernel
theorem d7_166 : decode prog_40_method_8_code 166 = .ok (.iload_n 1, 1) := by decide +kernel
theorem d7_167 : decode prog_40_method_8_code 167 = .ok (.iload 4, 2) := by decide +kernel
theorem d7_169 : decode prog_40_method_8_code 169 = .ok (.iconst 1, 1) := by decide +kernel
theorem d7_170 : decode prog_40_method_8_code 170 = .ok (.iadd, 1) := by decide +kernel
theorem d7_171 : decode prog_40_method_8_code 171 = .ok (.iastore, 1) := by decide +kernel
theorem d7_172 : decode prog_40_method_8_code 172 = .ok (.iload 4, 2) := by decide +kernel
theorem d7_174 : decode prog_40_method_8_code 174 = .ok (.ireturn, 1) := by decide +kernel
theorem d8_0 : decode prog_40_method_4_code 0 = .ok (.aload_n 0, 1) := by decide +kernel
theorem d8_1 : decode prog_40_method_4_code 1 = .ok (.getfield 31, 3) := by decide +kernel
theorem d8_4 : decode prog_40_method_4_code 4 = .ok (.lconst 0, 1) := by decide +kernel
theorem d8_5 : decode prog_40_method_4_code 5 = .ok (.invokestatic 57, 3) := by decide +kernel
theorem d8_8 : decode prog_40_method_4_code 8 = .ok (.iconst 0, 1) := by decide +kernel
theorem d8_9 : decode prog_40_method_4_code 9 = .ok (.istore_n 2, 1) := by decide +kernel
theorem d8_10 : decode prog_40_method_4_code 10 = .ok (.iload_n 2, 1) := by decide +kernel
theorem d8_11 : decode prog_40_method_4_code 11 = .ok (.aload_n 1, 1) := by decide +kernel
theorem d8_12 : decode prog_40_method_4_code 12 = .ok (.arraylength, 1) := by decide +kernel
theorem d8_13 : decode prog_40_method_4_code 13 = .ok (.if_icmp .ge 34, 3) := by decide +kernel
theorem d8_16 : decode prog_40_method_4_code 16 = .ok (.aload_n 0, 1) := by decide +kernel
theorem d8_17 : decode prog_40_method_4_code 17 = .ok (.getfield 31, 3) := by decide +kernel
theorem d8_20 : decode prog_40_method_4_code 20 = .ok (.aload_n 0, 1) := by decide +kernel
theorem d8_21 : decode prog_40_method_4_code 21 = .ok (.getfield 24, 3) := by decide +kernel
theorem d8_24 : decode prog_40_method_4_code 24 = .ok (.iload_n 2, 1) := by decide +kernel
theorem d8_25 : decode prog_40_method_4_code 25 = .ok (.iaload, 1) := by decide +kernel
theorem d8_26 : decode prog_40_method_4_code 26 = .ok (.dup2, 1) := by decide +kernel
theorem d8_27 : decode prog_40_method_4_code 27 = .ok (.laload, 1) := by decide +kernel
theorem d8_28 : decode prog_40_method_4_code 28 = .ok (.aload_n 1, 1) := by decide +kernel
theorem d8_29 : decode prog_40_method_4_code 29 = .ok (.iload_n 2, 1) := by decide +kernel
theorem d8_30 : decode prog_40_method_4_code 30 = .ok (.baload, 1) := by decide +kernel
theorem d8_31 : decode prog_40_method_4_code 31 = .ok (.i2l, 1) := by decide +kernel
theorem d8_32 : decode prog_40_method_4_code 32 = .ok (.aload_n 0, 1) := by decide +kernel
theorem d8_33 : decode prog_40_method_4_code 33 = .ok (.getfield 28, 3) := by decide +kernel
theorem d8_36 : decode prog_40_method_4_code 36 = .ok (.iload_n 2, 1) := by decide +kernel
theorem d8_37 : decode prog_40_method_4_code 37 = .ok (.iaload, 1) := by decide +kernel
theorem d8_38 : decode prog_40_method_4_code 38 = .ok (.lshl, 1) := by decide +kernel
theorem d8_39 : decode prog_40_method_4_code 39 = .ok (.lor, 1) := by decide +kernel
theorem d8_40 : decode prog_40_method_4_code 40 = .ok (.lastore, 1) := by decide +kernel
theorem d8_41 : decode prog_40_method_4_code 41 = .ok (.iinc 2 1, 3) := by decide +kernel
theorem d8_44 : decode prog_40_method_4_code 44 = .ok (.goto (-34), 3) := by decide +kernel
theorem d8_47 : decode prog_40_method_4_code 47 = .ok (.return_, 1) := by decide +kernel
theorem d9_0 : decode jdk_65_method_101_code 0 = .ok (.iconst 0, 1) := by decide +kernel
theorem d9_1 : decode jdk_65_method_101_code 1 = .ok (.istore_n 3, 1) := by decide +kernel
theorem d9_2 : decode jdk_65_method_101_code 2 = .ok (.aload_n 0, 1) := by decide +kernel
theorem d9_3 : decode jdk_65_method_101_code 3 = .ok (.arraylength, 1) := by decide +kernel
theorem d9_4 : decode jdk_65_method_101_code 4 = .ok (.istore 4, 2) := by decide +kernel
theorem d9_6 : decode jdk_65_method_101_code 6 = .ok (.iload_n 3, 1) := by decide +kernel
theorem d9_7 : decode jdk_65_method_101_code 7 = .ok (.iload 4, 2) := by decide +kernel
theorem d9_9 : decode jdk_65_method_101_code 9 = .ok (.if_icmp .ge 13, 3) := by decide +kernel
theorem d9_12 : decode jdk_65_method_101_code 12 = .ok (.aload_n 0, 1) := by decide +kernel
theorem d9_13 : decode jdk_65_method_101_code 13 = .ok (.iload_n 3, 1) := by decide +kernel
theorem d9_14 : decode jdk_65_method_101_code 14 = .ok (.lload_n 1, 1) := by decide +kernel
theorem d9_15 : decode jdk_65_method_101_code 15 = .ok (.lastore, 1) := by decide +kernel
theorem d9_16 : decode jdk_65_method_101_code 16 = .ok (.iinc 3 1, 3) := by decide +kernel
theorem d9_19 : decode jdk_65_method_101_code 19 = .ok (.goto (-13), 3) := by decide +kernel
theorem d9_22 : decode jdk_65_method_101_code 22 = .ok (.return_, 1) := by decide +kernel
theorem d10_0 : decode prog_40_method_10_code 0 = .ok (.aload_n 0, 1) := by decide +kernel
theorem d10_1 : decode prog_40_method_10_code 1 = .ok (.getfield 38, 3) := by decide +kernel
theorem d10_4 : decode prog_40_method_10_code 4 = .ok (.iload_n 1, 1) := by decide +kernel
theorem d10_5 : decode prog_40_method_10_code 5 = .ok (.iload_n 2, 1) := by decide +kernel
theorem d10_6 : decode prog_40_method_10_code 6 = .ok (.iastore, 1) := by decide +kernel
theorem d10_7 : decode prog_40_method_10_code 7 = .ok (.aload_n 0, 1) := by decide +kernel
theorem d10_8 : decode prog_40_method_10_code 8 = .ok (.getfield 41, 3) := by decide +kernel
theorem d10_11 : decode prog_40_method_10_code 11 = .ok (.iload_n 1, 1) := by decide +kernel
theorem d10_12 : decode prog_40_method_10_code 12 = .ok (.iload_n 3, 1) := by decide +kernel
theorem d10_13 : decode prog_40_method_10_code 13 = .ok (.i2b, 1) := by decide +kernel
theorem d10_14 : decode prog_40_method_10_code 14 = .ok (.bastore, 1) := by decide +kernel
theorem d10_15 : decode prog_40_method_10_code 15 = .ok (.return_, 1) := by decide +kernel
theorem d11_0 : decode prog_40_method_12_code 0 = .ok (.new 104, 3) := by decide +kernel
theorem d11_3 : decode prog_40_method_12_code 3 = .ok (.dup, 1) := by decide +kernel
theorem d11_4 : decode prog_40_method_12_code 4 = .ok (.invokespecial 106, 3) := by decide +kernel
theorem d11_7 : decode prog_40_method_12_code 7 = .ok (.astore_n 2, 1) := by decide +kernel
theorem d11_8 : decode prog_40_method_12_code 8 = .ok (.iload_n 1, 1) := by decide +kernel
theorem d11_9 : decode prog_40_method_12_code 9 = .ok (.istore_n 3, 1) := by decide +kernel
theorem d11_10 : decode prog_40_method_12_code 10 = .ok (.aload_n 0, 1) := by decide +kernel
theorem d11_11 : decode prog_40_method_12_code 11 = .ok (.getfield 38, 3) := by decide +kernel
theorem d11_14 : decode prog_40_method_12_code 14 = .ok (.iload_n 3, 1) := by decide +kernel
theorem d11_15 : decode prog_40_method_12_code 15 = .ok (.iaload, 1) := by decide +kernel
theorem d11_16 : decode prog_40_method_12_code 16 = .ok (.ifCond .lt 30, 3) := by decide +kernel
theorem d11_19 : decode prog_40_method_12_code 19 = .ok (.aload_n 2, 1) := by decide +kernel
theorem d11_20 : decode prog_40_method_12_code 20 = .ok (.getstatic 107, 3) := by decide +kernel
theorem d11_23 : decode prog_40_method_12_code 23 = .ok (.aload_n 0, 1) := by decide +kernel
theorem d11_24 : decode prog_40_method_12_code 24 = .ok (.getfield 41, 3) := by decide +kernel
theorem d11_27 : decode prog_40_method_12_code 27 = .ok (.iload_n 3, 1) := by decide +kernel
theorem d11_28 : decode prog_40_method_12_code 28 = .ok (.baload, 1) := by decide +kernel
theorem d11_29 : decode prog_40_method_12_code 29 = .ok (.aaload, 1) := by decide +kernel
theorem d11_30 : decode prog_40_method_12_code 30 = .ok (.invokeinterface 111 2, 5) := by decide +kernel
theorem d11_35 : decode prog_40_method_12_code 35 = .ok (.pop, 1) := by decide +kernel
theorem d11_36 : decode prog_40_method_12_code 36 = .ok (.aload_n 0, 1) := by decide +kernel
theorem d11_37 : decode prog_40_method_12_code 37 = .ok (.getfield 38, 3) := by decide +kernel
theorem d11_40 : decode prog_40_method_12_code 40 = .ok (.iload_n 3, 1) := by decide +kernel
theorem d11_41 : decode prog_40_method_12_code 41 = .ok (.iaload, 1) := by decide +kernel
theorem d11_42 : decode prog_40_method_12_code 42 = .ok (.istore_n 3, 1) := by decide +kernel
theorem d11_43 : decode prog_40_method_12_code 43 = .ok (.goto (-33), 3) := by decide +kernel
theorem d11_46 : decode prog_40_method_12_code 46 = .ok (.aload_n 2, 1) := by decide +kernel
theorem d11_47 : decode prog_40_method_12_code 47 = .ok (.invokestatic 117, 3) := by decide +kernel
theorem d11_50 : decode prog_40_method_12_code 50 = .ok (.aload_n 2, 1) := by decide +kernel
theorem d11_51 : decode prog_40_method_12_code 51 = .ok (.areturn, 1) := by decide +kernel
theorem d12_0 : decode jdk_38_method_2_code 0 = .ok (.aload_n 0, 1) := by decide +kernel
theorem d12_1 : decode jdk_38_method_2_code 1 = .ok (.invokespecial 1, 3) := by decide +kernel
theorem d12_4 : decode jdk_38_method_2_code 4 = .ok (.aload_n 0, 1) := by decide +kernel
theorem d12_5 : decode jdk_38_method_2_code 5 = .ok (.getstatic 39, 3) := by decide +kernel
theorem d12_8 : decode jdk_38_method_2_code 8 = .ok (.putfield 9, 3) := by decide +kernel
theorem d12_11 : decode jdk_38_method_2_code 11 = .ok (.return_, 1) := by decide +kernel
theorem d13_0 : decode jdk_39_method_1_code 0 = .ok (.aload_n 0, 1) := by decide +kernel
theorem d13_1 : decode jdk_39_method_1_code 1 = .ok (.invokespecial 1, 3) := by decide +kernel
theorem d13_4 : decode jdk_39_method_1_code 4 = .ok (.aload_n 0, 1) := by decide +kernel
theorem d13_5 : decode jdk_39_method_1_code 5 = .ok (.iconst 0, 1) := by decide +kernel
theorem d13_6 : decode jdk_39_method_1_code 6 = .ok (.putfield 7, 3) := by decide +kernel
theorem d13_9 : decode jdk_39_method_1_code 9 = .ok (.return_, 1) := by decide +kernel
theorem d14_0 : decode jdk_22_method_1_code 0 = .ok (.aload_n 0, 1) := by decide +kernel
theorem d14_1 : decode jdk_22_method_1_code 1 = .ok (.invokespecial 1, 3) := by decide +kernel
theorem d14_4 : decode jdk_22_method_1_code 4 = .ok (.return_, 1) := by decide +kernel
theorem d15_0 : decode jdk_79_method_11_code 0 = .ok (.aload_n 0, 1) := by decide +kernel
theorem d15_1 : decode jdk_79_method_11_code 1 = .ok (.invokeinterface 15 1, 5) := by decide +kernel
theorem d15_6 : decode jdk_79_method_11_code 6 = .ok (.istore_n 1, 1) := by decide +kernel
theorem d15_7 : decode jdk_79_method_11_code 7 = .ok (.iload_n 1, 1) := by decide +kernel
theorem d15_8 : decode jdk_79_method_11_code 8 = .ok (.bipush 18, 2) := by decide +kernel
theorem d15_10 : decode jdk_79_method_11_code 10 = .ok (.if_icmp .lt 10, 3) := by decide +kernel
theorem d15_13 : decode jdk_79_method_11_code 13 = .ok (.aload_n 0, 1) := by decide +kernel
theorem d15_14 : decode jdk_79_method_11_code 14 = .ok (.instanceof 13, 3) := by decide +kernel
theorem d15_17 : decode jdk_79_method_11_code 17 = .ok (.ifCond .eq 38, 3) := by decide +kernel
theorem d15_20 : decode jdk_79_method_11_code 20 = .ok (.iconst 0, 1) := by decide +kernel
theorem d15_21 : decode jdk_79_method_11_code 21 = .ok (.istore_n 2, 1) := by decide +kernel
theorem d15_22 : decode jdk_79_method_11_code 22 = .ok (.iload_n 1, 1) := by decide +kernel
theorem d15_23 : decode jdk_79_method_11_code 23 = .ok (.iconst 1, 1) := by decide +kernel
theorem d15_24 : decode jdk_79_method_11_code 24 = .ok (.ishr, 1) := by decide +kernel
theorem d15_25 : decode jdk_79_method_11_code 25 = .ok (.istore_n 3, 1) := by decide +kernel
theorem d15_26 : decode jdk_79_method_11_code 26 = .ok (.iload_n 1, 1) := by decide +kernel
theorem d15_27 : decode jdk_79_method_11_code 27 = .ok (.iconst 1, 1) := by decide +kernel
theorem d15_28 : decode jdk_79_method_11_code 28 = .ok (.isub, 1) := by decide +kernel
theorem d15_29 : decode jdk_79_method_11_code 29 = .ok (.istore 4, 2) := by decide +kernel
theorem d15_31 : decode jdk_79_method_11_code 31 = .ok (.iload_n 2, 1) := by decide +kernel
theorem d15_32 : decode jdk_79_method_11_code 32 = .ok (.iload_n 3, 1) := by decide +kernel
theorem d15_33 : decode jdk_79_method_11_code 33 = .ok (.if_icmp .ge 19, 3) := by decide +kernel
theorem d15_36 : decode jdk_79_method_11_code 36 = .ok (.aload_n 0, 1) := by decide +kernel
theorem d15_37 : decode jdk_79_method_11_code 37 = .ok (.iload_n 2, 1) := by decide +kernel
theorem d15_38 : decode jdk_79_method_11_code 38 = .ok (.iload 4, 2) := by decide +kernel
theorem d15_40 : decode jdk_79_method_11_code 40 = .ok (.invokestatic 71, 3) := by decide +kernel
theorem d15_43 : decode jdk_79_method_11_code 43 = .ok (.iinc 2 1, 3) := by decide +kernel
theorem d15_46 : decode jdk_79_method_11_code 46 = .ok (.iinc 4 (-1), 3) := by decide +kernel
theorem d15_49 : decode jdk_79_method_11_code 49 = .ok (.goto (-18), 3) := by decide +kernel
theorem d15_52 : decode jdk_79_method_11_code 52 = .ok (.goto 72, 3) := by decide +kernel
theorem d15_55 : decode jdk_79_method_11_code 55 = .ok (.aload_n 0, 1) := by decide +kernel
theorem d15_56 : decode jdk_79_method_11_code 56 = .ok (.invokeinterface 38 1, 5) := by decide +kernel
theorem d15_61 : decode jdk_79_method_11_code 61 = .ok (.astore_n 2, 1) := by decide +kernel
theorem d15_62 : decode jdk_79_method_11_code 62 = .ok (.aload_n 0, 1) := by decide +kernel
theorem d15_63 : decode jdk_79_method_11_code 63 = .ok (.iload_n 1, 1) := by decide +kernel
theorem d15_64 : decode jdk_79_method_11_code 64 = .ok (.invokeinterface 75 2, 5) := by decide +kernel
theorem d15_69 : decode jdk_79_method_11_code 69 = .ok (.astore_n 3, 1) := by decide +kernel
theorem d15_70 : decode jdk_79_method_11_code 70 = .ok (.iconst 0, 1) := by decide +kernel
theorem d15_71 : decode jdk_79_method_11_code 71 = .ok (.istore 4, 2) := by decide +kernel
theorem d15_73 : decode jdk_79_method_11_code 73 = .ok (.aload_n 0, 1) := by decide +kernel
theorem d15_74 : decode jdk_79_method_11_code 74 = .ok (.invokeinterface 15 1, 5) := by decide +kernel
theorem d15_79 : decode jdk_79_method_11_code 79 = .ok (.iconst 1, 1) := by decide +kernel
theorem d15_80 : decode jdk_79_method_11_code 80 = .ok (.ishr, 1) := by decide +kernel
theorem d15_81 : decode jdk_79_method_11_code 81 = .ok (.istore 5, 2) := by decide +kernel
theorem d15_83 : decode jdk_79_method_11_code 83 = .ok (.iload 4, 2) := by decide +kernel
theorem d15_85 : decode jdk_79_method_11_code 85 = .ok (.iload 5, 2) := by decide +kernel
theorem d15_87 : decode jdk_79_method_11_code 87 = .ok (.if_icmp .ge 37, 3) := by decide +kernel
theorem d15_90 : decode jdk_79_method_11_code 90 = .ok (.aload_n 2, 1) := by decide +kernel
theorem d15_91 : decode jdk_79_method_11_code 91 = .ok (.invokeinterface 50 1, 5) := by decide +kernel
theorem d15_96 : decode jdk_79_method_11_code 96 = .ok (.astore 6, 2) := by decide +kernel
theorem d15_98 : decode jdk_79_method_11_code 98 = .ok (.aload_n 2, 1) := by decide +kernel
theorem d15_99 : decode jdk_79_method_11_code 99 = .ok (.aload_n 3, 1) := by decide +kernel
theorem d15_100 : decode jdk_79_method_11_code 100 = .ok (.invokeinterface 54 1, 5) := by decide +kernel
theorem d15_105 : decode jdk_79_method_11_code 105 = .ok (.invokeinterface 78 2, 5) := by decide +kernel
theorem d15_110 : decode jdk_79_method_11_code 110 = .ok (.aload_n 3, 1) := by decide +kernel
theorem d15_111 : decode jdk_79_method_11_code 111 = .ok (.aload 6, 2) := by decide +kernel
theorem d15_113 : decode jdk_79_method_11_code 113 = .ok (.invokeinterface 78 2, 5) := by decide +kernel
theorem d15_118 : decode jdk_79_method_11_code 118 = .ok (.iinc 4 1, 3) := by decide +kernel
theorem d15_121 : decode jdk_79_method_11_code 121 = .ok (.goto (-38), 3) := by decide +kernel
theorem d15_124 : decode jdk_79_method_11_code 124 = .ok (.return_, 1) := by decide +kernel
theorem d16_0 : decode jdk_38_method_8_code 0 = .ok (.aload_n 0, 1) := by decide +kernel
theorem d16_1 : decode jdk_38_method_8_code 1 = .ok (.getfield 48, 3) := by decide +kernel
theorem d16_4 : decode jdk_38_method_8_code 4 = .ok (.ireturn, 1) := by decide +kernel
theorem d17_0 : decode prog_40_method_9_code 0 = .ok (.aload_n 0, 1) := by decide +kernel
theorem d17_1 : decode prog_40_method_9_code 1 = .ok (.getfield 41, 3) := by decide +kernel
theorem d17_4 : decode prog_40_method_9_code 4 = .ok (.iload_n 1, 1) := by decide +kernel
theorem d17_5 : decode prog_40_method_9_code 5 = .ok (.baload, 1) := by decide +kernel
theorem d17_6 : decode prog_40_method_9_code 6 = .ok (.ireturn, 1) := by decide +kernel
theorem d18_0 : decode jdk_38_method_25_code 0 = .ok (.aload_n 0, 1) := by decide +kernel
theorem d18_1 : decode jdk_38_method_25_code 1 = .ok (.dup, 1) := by decide +kernel
theorem d18_2 : decode jdk_38_method_25_code 2 = .ok (.getfield 63, 3) := by decide +kernel
theorem d18_5 : decode jdk_38_method_25_code 5 = .ok (.iconst 1, 1) := by decide +kernel
theorem d18_6 : decode jdk_38_method_25_code 6 = .ok (.iadd, 1) := by decide +kernel
theorem d18_7 : decode jdk_38_method_25_code 7 = .ok (.putfield 63, 3) := by decide +kernel
theorem d18_10 : decode jdk_38_method_25_code 10 = .ok (.aload_n 0, 1) := by decide +kernel
theorem d18_11 : decode jdk_38_method_25_code 11 = .ok (.aload_n 1, 1) := by decide +kernel
theorem d18_12 : decode jdk_38_method_25_code 12 = .ok (.aload_n 0, 1) := by decide +kernel
theorem d18_13 : decode jdk_38_method_25_code 13 = .ok (.getfield 9, 3) := by decide +kernel
theorem d18_16 : decode jdk_38_method_25_code 16 = .ok (.aload_n 0, 1) := by decide +kernel
theorem d18_17 : decode jdk_38_method_25_code 17 = .ok (.getfield 48, 3) := by decide +kernel
theorem d18_20 : decode jdk_38_method_25_code 20 = .ok (.invokevirtual 131, 3) := by decide +kernel
theorem d18_23 : decode jdk_38_method_25_code 23 = .ok (.iconst 1, 1) := by decide +kernel
theorem d18_24 : decode jdk_38_method_25_code 24 = .ok (.ireturn, 1) := by decide +kernel
theorem d19_0 : decode jdk_38_method_24_code 0 = .ok (.iload_n 3, 1) := by decide +kernel
theorem d19_1 : decode jdk_38_method_24_code 1 = .ok (.aload_n 2, 1) := by decide +kernel
theorem d19_2 : decode jdk_38_method_24_code 2 = .ok (.arraylength, 1) := by decide +kernel
theorem d19_3 : decode jdk_38_method_24_code 3 = .ok (.if_icmp .ne 8, 3) := by decide +kernel
theorem d19_6 : decode jdk_38_method_24_code 6 = .ok (.aload_n 0, 1) := by decide +kernel
theorem d19_7 : decode jdk_38_method_24_code 7 = .ok (.invokevirtual 129, 3) := by decide +kernel
theorem d19_10 : decode jdk_38_method_24_code 10 = .ok (.astore_n 2, 1) := by decide +kernel
theorem d19_11 : decode jdk_38_method_24_code 11 = .ok (.aload_n 2, 1) := by decide +kernel
theorem d19_12 : decode jdk_38_method_24_code 12 = .ok (.iload_n 3, 1) := by decide +kernel
theorem d19_13 : decode jdk_38_method_24_code 13 = .ok (.aload_n 1, 1) := by decide +kernel
theorem d19_14 : decode jdk_38_method_24_code 14 = .ok (.aastore, 1) := by decide +kernel
theorem d19_15 : decode jdk_38_method_24_code 15 = .ok (.aload_n 0, 1) := by decide +kernel
theorem d19_16 : decode jdk_38_method_24_code 16 = .ok (.iload_n 3, 1) := by decide +kernel
theorem d19_17 : decode jdk_38_method_24_code 17 = .ok (.iconst 1, 1) := by decide +kernel
theorem d19_18 : decode jdk_38_method_24_code 18 = .ok (.iadd, 1) := by decide +kernel
theorem d19_19 : decode jdk_38_method_24_code 19 = .ok (.putfield 48, 3) := by decide +kernel
theorem d19_22 : decode jdk_38_method_24_code 22 = .ok (.return_, 1) := by decide +kernel
theorem d20_0 : decode jdk_38_method_7_code 0 = .ok (.aload_n 0, 1) := by decide +kernel
theorem d20_1 : decode jdk_38_method_7_code 1 = .ok (.aload_n 0, 1) := by decide +kernel
theorem d20_2 : decode jdk_38_method_7_code 2 = .ok (.getfield 48, 3) := by decide +kernel
theorem d20_5 : decode jdk_38_method_7_code 5 = .ok (.iconst 1, 1) := by decide +kernel
theorem d20_6 : decode jdk_38_method_7_code 6 = .ok (.iadd, 1) := by decide +kernel
theorem d20_7 : decode jdk_38_method_7_code 7 = .ok (.invokevirtual 69, 3) := by decide +kernel
theorem d20_10 : decode jdk_38_method_7_code 10 = .ok (.areturn, 1) := by decide +kernel
theorem d21_0 : decode jdk_38_method_6_code 0 = .ok (.aload_n 0, 1) := by decide +kernel
theorem d21_1 : decode jdk_38_method_6_code 1 = .ok (.getfield 9, 3) := by decide +kernel
theorem d21_4 : decode jdk_38_method_6_code 4 = .ok (.arraylength, 1) := by decide +kernel
theorem d21_5 : decode jdk_38_method_6_code 5 = .ok (.istore_n 2, 1) := by decide +kernel
theorem d21_6 : decode jdk_38_method_6_code 6 = .ok (.iload_n 2, 1) := by decide +kernel
theorem d21_7 : decode jdk_38_method_6_code 7 = .ok (.ifCond .gt 13, 3) := by decide +kernel
theorem d21_10 : decode jdk_38_method_6_code 10 = .ok (.aload_n 0, 1) := by decide +kernel
theorem d21_11 : decode jdk_38_method_6_code 11 = .ok (.getfield 9, 3) := by decide +kernel
theorem d21_14 : decode jdk_38_method_6_code 14 = .ok (.getstatic 39, 3) := by decide +kernel
theorem d21_17 : decode jdk_38_method_6_code 17 = .ok (.if_acmp .eq 28, 3) := by decide +kernel
theorem d21_20 : decode jdk_38_method_6_code 20 = .ok (.iload_n 2, 1) := by decide +kernel
theorem d21_21 : decode jdk_38_method_6_code 21 = .ok (.iload_n 1, 1) := by decide +kernel
theorem d21_22 : decode jdk_38_method_6_code 22 = .ok (.iload_n 2, 1) := by decide +kernel
theorem d21_23 : decode jdk_38_method_6_code 23 = .ok (.isub, 1) := by decide +kernel
theorem d21_24 : decode jdk_38_method_6_code 24 = .ok (.iload_n 2, 1) := by decide +kernel
theorem d21_25 : decode jdk_38_method_6_code 25 = .ok (.iconst 1, 1) := by decide +kernel
theorem d21_26 : decode jdk_38_method_6_code 26 = .ok (.ishr, 1) := by decide +kernel
theorem d21_27 : decode jdk_38_method_6_code 27 = .ok (.invokestatic 73, 3) := by decide +kernel
theorem d21_30 : decode jdk_38_method_6_code 30 = .ok (.istore_n 3, 1) := by decide +kernel
theorem d21_31 : decode jdk_38_method_6_code 31 = .ok (.aload_n 0, 1) := by decide +kernel
theorem d21_32 : decode jdk_38_method_6_code 32 = .ok (.aload_n 0, 1) := by decide +kernel
theorem d21_33 : decode jdk_38_method_6_code 33 = .ok (.getfield 9, 3) := by decide +kernel
theorem d21_36 : decode jdk_38_method_6_code 36 = .ok (.iload_n 3, 1) := by decide +kernel
theorem d21_37 : decode jdk_38_method_6_code 37 = .ok (.invokestatic 66, 3) := by decide +kernel
theorem d21_40 : decode jdk_38_method_6_code 40 = .ok (.dup_x1, 1) := by decide +kernel
theorem d21_41 : decode jdk_38_method_6_code 41 = .ok (.putfield 9, 3) := by decide +kernel
theorem d21_44 : decode jdk_38_method_6_code 44 = .ok (.areturn, 1) := by decide +kernel
theorem d21_45 : decode jdk_38_method_6_code 45 = .ok (.aload_n 0, 1) := by decide +kernel
theorem d21_46 : decode jdk_38_method_6_code 46 = .ok (.bipush 10, 2) := by decide +kernel
theorem d21_48 : decode jdk_38_method_6_code 48 = .ok (.iload_n 1, 1) := by decide +kernel
theorem d21_49 : decode jdk_38_method_6_code 49 = .ok (.invokestatic 79, 3) := by decide +kernel
theorem d21_52 : decode jdk_38_method_6_code 52 = .ok (.anewarray 7, 3) := by decide +kernel
theorem d21_55 : decode jdk_38_method_6_code 55 = .ok (.dup_x1, 1) := by decide +kernel
theorem d21_56 : decode jdk_38_method_6_code 56 = .ok (.putfield 9, 3) := by decide +kernel
theorem d21_59 : decode jdk_38_method_6_code 59 = .ok (.areturn, 1) := by decide +kernel
theorem d22_0 : decode jdk_29_method_65_code 0 = .ok (.iload_n 0, 1) := by decide +kernel
theorem d22_1 : decode jdk_29_method_65_code 1 = .ok (.iload_n 1, 1) := by decide +kernel
theorem d22_2 : decode jdk_29_method_65_code 2 = .ok (.if_icmp .lt 7, 3) := by decide +kernel
theorem d22_5 : decode jdk_29_method_65_code 5 = .ok (.iload_n 0, 1) := by decide +kernel
theorem d22_6 : decode jdk_29_method_65_code 6 = .ok (.goto 4, 3) := by decide +kernel
theorem d22_9 : decode jdk_29_method_65_code 9 = .ok (.iload_n 1, 1) := by decide +kernel
theorem d22_10 : decode jdk_29_method_65_code 10 = .ok (.ireturn, 1) := by decide +kernel
theorem d23_0 : decode jdk_38_method_20_code 0 = .ok (.iload_n 1, 1) := by decide +kernel
theorem d23_1 : decode jdk_38_method_20_code 1 = .ok (.aload_n 0, 1) := by decide +kernel
theorem d23_2 : decode jdk_38_method_20_code 2 = .ok (.getfield 48, 3) := by decide +kernel
theorem d23_5 : decode jdk_38_method_20_code 5 = .ok (.invokestatic 118, 3) := by decide +kernel
theorem d23_8 : decode jdk_38_method_20_code 8 = .ok (.pop, 1) := by decide +kernel
theorem d23_9 : decode jdk_38_method_20_code 9 = .ok (.aload_n 0, 1) := by decide +kernel
theorem d23_10 : decode jdk_38_method_20_code 10 = .ok (.iload_n 1, 1) := by decide +kernel
theorem d23_11 : decode jdk_38_method_20_code 11 = .ok (.invokevirtual 123, 3) := by decide +kernel
theorem d23_14 : decode jdk_38_method_20_code 14 = .ok (.areturn, 1) := by decide +kernel
theorem d24_0 : decode jdk_31_method_17_code 0 = .ok (.iload_n 0, 1) := by decide +kernel
theorem d24_1 : decode jdk_31_method_17_code 1 = .ok (.iload_n 1, 1) := by decide +kernel
theorem d24_2 : decode jdk_31_method_17_code 2 = .ok (.aconst_null, 1) := by decide +kernel
theorem d24_3 : decode jdk_31_method_17_code 3 = .ok (.invokestatic 105, 3) := by decide +kernel
theorem d24_6 : decode jdk_31_method_17_code 6 = .ok (.ireturn, 1) := by decide +kernel
theorem d25_0 : decode jdk_41_method_11_code 0 = .ok (.iload_n 0, 1) := by decide +kernel
theorem d25_1 : decode jdk_41_method_11_code 1 = .ok (.ifCond .lt 8, 3) := by decide +kernel
theorem d25_4 : decode jdk_41_method_11_code 4 = .ok (.iload_n 0, 1) := by decide +kernel
theorem d25_5 : decode jdk_41_method_11_code 5 = .ok (.iload_n 1, 1) := by decide +kernel
theorem d25_6 : decode jdk_41_method_11_code 6 = .ok (.if_icmp .lt 10, 3) := by decide +kernel
theorem d25_9 : decode jdk_41_method_11_code 9 = .ok (.aload_n 2, 1) := by decide +kernel
theorem d25_10 : decode jdk_41_method_11_code 10 = .ok (.iload_n 0, 1) := by decide +kernel
theorem d25_11 : decode jdk_41_method_11_code 11 = .ok (.iload_n 1, 1) := by decide +kernel
theorem d25_12 : decode jdk_41_method_11_code 12 = .ok (.invokestatic 95, 3) := by decide +kernel
theorem d25_15 : decode jdk_41_method_11_code 15 = .ok (.athrow, 1) := by decide +kernel
theorem d25_16 : decode jdk_41_method_11_code 16 = .ok (.iload_n 0, 1) := by decide +kernel
theorem d25_17 : decode jdk_41_method_11_code 17 = .ok (.ireturn, 1) := by decide +kernel
theorem d26_0 : decode jdk_38_method_18_code 0 = .ok (.aload_n 0, 1) := by decide +kernel
theorem d26_1 : decode jdk_38_method_18_code 1 = .ok (.getfield 9, 3) := by decide +kernel
theorem d26_4 : decode jdk_38_method_18_code 4 = .ok (.iload_n 1, 1) := by decide +kernel
theorem d26_5 : decode jdk_38_method_18_code 5 = .ok (.aaload, 1) := by decide +kernel
theorem d26_6 : decode jdk_38_method_18_code 6 = .ok (.areturn, 1) := by decide +kernel
theorem d27_0 : decode method_2_code 0 = .ok (.iload_n 0, 1) := by decide +kernel
theorem d27_1 : decode method_2_code 1 = .ok (.ifCond .ne 9, 3) := by decide +kernel
theorem d27_4 : decode method_2_code 4 = .ok (.getstatic 7, 3) := by decide +kernel
theorem d27_7 : decode method_2_code 7 = .ok (.goto 28, 3) := by decide +kernel
theorem d27_10 : decode method_2_code 10 = .ok (.iload_n 0, 1) := by decide +kernel
theorem d27_11 : decode method_2_code 11 = .ok (.iconst 1, 1) := by decide +kernel
theorem d27_12 : decode method_2_code 12 = .ok (.if_icmp .ne 9, 3) := by decide +kernel
theorem d27_15 : decode method_2_code 15 = .ok (.getstatic 13, 3) := by decide +kernel
theorem d27_18 : decode method_2_code 18 = .ok (.goto 17, 3) := by decide +kernel
theorem d27_21 : decode method_2_code 21 = .ok (.iload_n 0, 1) := by decide +kernel
theorem d27_22 : decode method_2_code 22 = .ok (.iconst 2, 1) := by decide +kernel
theorem d27_23 : decode method_2_code 23 = .ok (.if_icmp .ne 9, 3) := by decide +kernel
theorem d27_26 : decode method_2_code 26 = .ok (.getstatic 16, 3) := by decide +kernel
theorem d27_29 : decode method_2_code 29 = .ok (.goto 6, 3) := by decide +kernel
theorem d27_32 : decode method_2_code 32 = .ok (.getstatic 19, 3) := by decide +kernel
theorem d27_35 : decode method_2_code 35 = .ok (.areturn, 1) := by decide +kernel
theorem pd1 : parseMethodDescriptor "(IIII)Z" = some ⟨[.int, .int, .int, .int], some .boolean⟩ := by decide +kernel
theorem pd2 : parseMethodDescriptor "(I)V" = some ⟨[.int], none⟩ := by decide +kernel
theorem pd3 : parseMethodDescriptor "()V" = some ⟨[], none⟩ := by decide +kernel
theorem pd4 : parseMethodDescriptor "(I)I" = some ⟨[.int], some .int⟩ := by decide +kernel
theorem pd5 : parseMethodDescriptor "()I" = some ⟨[], some .int⟩ := by decide +kernel
theorem pd6 : parseMethodDescriptor "([JI)I" = some ⟨[(.array .long), .int], some .int⟩ := by decide +kernel
theorem pd7 : parseMethodDescriptor "(III)I" = some ⟨[.int, .int, .int], some .int⟩ := by decide +kernel
theorem pd8 : parseMethodDescriptor "([B)V" = some ⟨[(.array .byte)], none⟩ := by decide +kernel
theorem pd9 : parseMethodDescriptor "([JJ)V" = some ⟨[(.array .long), .long], none⟩ := by decide +kernel
theorem pd10 : parseMethodDescriptor "(III)V" = some ⟨[.int, .int, .int], none⟩ := by decide +kernel
theorem pd11 : parseMethodDescriptor "(I)Ljava/util/List;" = some ⟨[.int], (some (.object "java/util/List"))⟩ := by decide +kernel
theorem pd12 : parseMethodDescriptor "(Ljava/util/List;)V" = some ⟨[(.object "java/util/List")], none⟩ := by decide +kernel
theorem pd13 : parseMethodDescriptor "(Ljava/lang/Object;)Z" = some ⟨[(.object "java/lang/Object")], some .boolean⟩ := by decide +kernel
theorem pd14 : parseMethodDescriptor "(Ljava/lang/Object;[Ljava/lang/Object;I)V" = some ⟨[(.object "java/lang/Object"), (.array (.object "java/lang/Object")), .int], none⟩ := by decide +kernel
theorem pd15 : parseMethodDescriptor "()[Ljava/lang/Object;" = some ⟨[], (some (.array (.object "java/lang/Object")))⟩ := by decide +kernel
theorem pd16 : parseMethodDescriptor "(I)[Ljava/lang/Object;" = some ⟨[.int], (some (.array (.object "java/lang/Object")))⟩ := by decide +kernel
theorem pd17 : parseMethodDescriptor "(II)I" = some ⟨[.int, .int], some .int⟩ := by decide +kernel
theorem pd18 : parseMethodDescriptor "(I)Ljava/lang/Object;" = some ⟨[.int], (some (.object "java/lang/Object"))⟩ := by decide +kernel
theorem pd19 : parseMethodDescriptor "(IILjava/util/function/BiFunction;)I" = some ⟨[.int, .int, (.object "java/util/function/BiFunction")], some .int⟩ := by decide +kernel
theorem pd20 : parseMethodDescriptor "(I)Lcom/example/tileshift/tileshift/Move;" = some ⟨[.int], (some (.object "com/example/tileshift/tileshift/Move"))⟩ := by decide +kernel
def own_NT0 (Z : State) (h : Heap) (a : Addr) : Prop := Exa Z h a "com/example/tileshift/tileshift/NodeTable" ∧ Fld Z h a "com/example/tileshift/tileshift/NodeTable" "bits" "I" (.int 0) ∧ Fld Z h a "com/example/tileshift/tileshift/NodeTable" "width" "I" (.int 0) ∧ Fld Z h a "com/example/tileshift/tileshift/NodeTable" "word" "[I" .null ∧ Fld Z h a "com/example/tileshift/tileshift/NodeTable" "shift" "[I" .null ∧ Fld Z h a "com/example/tileshift/tileshift/NodeTable" "key" "[J" .null ∧ Fld Z h a "com/example/tileshift/tileshift/NodeTable" "boards" "[J" .null ∧ Fld Z h a "com/example/tileshift/tileshift/NodeTable" "parent" "[I" .null ∧ Fld Z h a "com/example/tileshift/tileshift/NodeTable" "move" "[B" .null ∧ Fld Z h a "com/example/tileshift/tileshift/NodeTable" "nodes" "I" (.int 0) ∧ Fld Z h a "com/example/tileshift/tileshift/NodeTable" "table" "[I" .null ∧ Fld Z h a "com/example/tileshift/tileshift/NodeTable" "tableShift" "I" (.int 0)
/-- the table: its eleven fields, its seven arrays -/
def own_NT (Z : State) (h : Heap) (a w sh k b pr mv t : Addr) (nd : Int32) (ks bs ps ms ts : List Value) : Prop := @LT.lt Nat instLTNat a w ∧ @LT.lt Nat instLTNat w sh ∧ @LT.lt Nat instLTNat sh k ∧ @LT.lt Nat instLTNat k b ∧ @LT.lt Nat instLTNat b pr ∧ @LT.lt Nat instLTNat pr mv ∧ @LT.lt Nat instLTNat mv t ∧ Exa Z h a "com/example/tileshift/tileshift/NodeTable" ∧ Fld Z h a "com/example/tileshift/tileshift/NodeTable" "bits" "I" (.int 2) ∧ Fld Z h a "com/example/tileshift/tileshift/NodeTable" "width" "I" (.int 1) ∧ Fld Z h a "com/example/tileshift/tileshift/NodeTable" "word" "[I" (.ref w) ∧ Fld Z h a "com/example/tileshift/tileshift/NodeTable" "shift" "[I" (.ref sh) ∧ Fld Z h a "com/example/tileshift/tileshift/NodeTable" "key" "[J" (.ref k) ∧ Fld Z h a "com/example/tileshift/tileshift/NodeTable" "boards" "[J" (.ref b) ∧ Fld Z h a "com/example/tileshift/tileshift/NodeTable" "parent" "[I" (.ref pr) ∧ Fld Z h a "com/example/tileshift/tileshift/NodeTable" "move" "[B" (.ref mv) ∧ Fld Z h a "com/example/tileshift/tileshift/NodeTable" "nodes" "I" (.int nd) ∧ Fld Z h a "com/example/tileshift/tileshift/NodeTable" "table" "[I" (.ref t) ∧ Fld Z h a "com/example/tileshift/tileshift/NodeTable" "tableShift" "I" (.int 53) ∧ (∃ q, Arv Z h w q .int (4 : Int32) [.int 0, .int 0, .int 0, .int 0] (.int 0)) ∧ (∃ q, Arv Z h sh q .int (4 : Int32) [.int 0, .int 2, .int 4, .int 6] (.int 0)) ∧ (∃ q, Arv Z h k q .long (1 : Int32) ks (.long 0)) ∧ (∃ q, Arv Z h b q .long (1024 : Int32) bs (.long 0)) ∧ (∃ q, Arv Z h pr q .int (1024 : Int32) ps (.int 0)) ∧ (∃ q, Arv Z h mv q .byte (1024 : Int32) ms (.int 0)) ∧ (∃ q, Arv Z h t q .int (2048 : Int32) ts (.int 0))
theorem pn1 : plainName "java/lang/Integer" = true := by first | (simp [plainName, overriddenIn]; done) | decide +kernel
def Q3 (Z : State)  (h0 : Heap) (n0 : Nat) (v : Option Value) (h : Heap) (L : List Loc) : Prop := v = some (.int 30) ∧ Fr n0 L ∧ h0 = h
set_option maxRecDepth 65536 in
set_option maxHeartbeats 40000000 in
theorem rm3 (l : Launch) (Z : State) (a0 : Array Value) (hw : ∀ d ∈ tables_1, d.before a0 Z = true) (ws : List Jvm.Cond)  (h0 : Heap) (n0 : Nat) (Z0 : n0 ≤ h0.size)  :
    MetFree l (⟨"java/lang/Integer", "numberOfLeadingZeros", "(I)I"⟩ : MethodName) (head1 (Jvm.Cond.code (⟨"java/lang/Integer", "numberOfLeadingZeros", "(I)I"⟩ : MethodName) jdk_33_method_47_code 2 (some .int) :: ws) ({ frames := 0, cells := 0, slots := 0, locals := 0 } : Room)) (fun aa_ U => aa_ = #[(.int (3 : Int32))] ∧ Z.Warmed39 U.vm ∧ U.heap = h0) (fun _ _ _ _ _ => True) (fun _ U o U' => ∃ v L, o = .returned v ∧ Q3 Z h0 n0 v U'.heap L ∧ FrameEnd U o U' L ({ frames := 0, cells := 0, slots := 0, locals := 0 } : Room).cells ({ frames := 0, cells := 0, slots := 0, locals := 0 } : Room).slots) := by
  refine MetFree.of_bodySF (plainFor_of_name pn1) hisR ?_
  intro p e s m args below meth c s₁ Bd hml0 hP hK
  obtain ⟨rfl, hZ, hh⟩ := hP
  have hx := Bd.exec
  have hby := Bd.bytes
  have hml : c.maxLocals = 2 := hml0
  have hown : s.vm.findClass "java/lang/Integer" = some m.cls := findClass_of_methodNamed Bd.named
  have hnm := (name_of_methodNamed Bd.named Bd.method).1
  have X0 : Stand p l e ({ frames := 0, cells := 0, slots := 0, locals := 0 } : Room) s m #[(.int (3 : Int32))] below meth c s₁ [] 0 0 := Stand.of_body Bd
  have e0 : s₁.heap = h0 := by rw [← hh, Bd.state]; rfl
  have N0 := Fr.nil n0
  obtain ⟨G, hG⟩ : ∃ G, G = entryFrame m #[(.int (3 : Int32))] 2 := ⟨_, rfl⟩
  have S0 : own_Go p e below s₁ G s₁ (mkF m 0 #[.val (.int (3 : Int32)), .unset] []) := fun tg_ kk_ => castTop (by rw [hG]; first | rfl | simp [entryFrame, mkF, argsToLocals, Value.category, maxLocals]) kk_
  have S1 : own_Go p e below s₁ G s₁ (mkF m 77 #[.val (.int (3 : Int32)), .val (.int (31 : Int32))] [(.int (XT.ushr (3 : Int32) (1 : Int32))), (.int (31 : Int32))]) := fun tg_ kk_ => S0 tg_ (by
    refine XS.iloadN X0.here hx rfl (hb hby d3_0) rfl ?_
    show Steps p.tables e below (s₁.setTop (mkF m 1 #[.val (.int (3 : Int32)), .unset] [(.int (3 : Int32))])) _
    refine XS.ifYes X0.here hx rfl (pc0 := 1) (pc' := 15) rfl (hb hby d3_1) rfl (XT.i0_gt_t (by decide)) (by decide) (by decide) ?_
    show Steps p.tables e below (s₁.setTop (mkF m 15 #[.val (.int (3 : Int32)), .unset] [])) _
    refine XS.bipush X0.here hx rfl (hb hby d3_15) ?_
    show Steps p.tables e below (s₁.setTop (mkF m 17 #[.val (.int (3 : Int32)), .unset] [(.int (31 : Int32))])) _
    refine XS.istoreN X0.here hx rfl (hb hby d3_17) rfl (l' := #[.val (.int (3 : Int32)), .val (.int (31 : Int32))]) rfl ?_
    show Steps p.tables e below (s₁.setTop (mkF m 18 #[.val (.int (3 : Int32)), .val (.int (31 : Int32))] [])) _
    refine XS.iloadN X0.here hx rfl (hb hby d3_18) rfl ?_
    show Steps p.tables e below (s₁.setTop (mkF m 19 #[.val (.int (3 : Int32)), .val (.int (31 : Int32))] [(.int (3 : Int32))])) _
    refine X0.ldcwInt hx hown (mvT hZ (hw _ (List.mem_of_getElem? (i := 13) rfl))) (g := (mkF m 19 #[.val (.int (3 : Int32)), .val (.int (31 : Int32))] [(.int (3 : Int32))])) rfl (hb hby d3_19) _ ?_
    show Steps p.tables e below (s₁.setTop (mkF m 22 #[.val (.int (3 : Int32)), .val (.int (31 : Int32))] [(.int (65536 : Int32)), (.int (3 : Int32))])) _
    refine XS.icmpYes X0.here hx rfl (pc0 := 22) (pc' := 33) rfl (hb hby d3_22) rfl (XT.ii_lt_t (by decide)) (by decide) (by decide) ?_
    show Steps p.tables e below (s₁.setTop (mkF m 33 #[.val (.int (3 : Int32)), .val (.int (31 : Int32))] [])) _
    refine XS.iloadN X0.here hx rfl (hb hby d3_33) rfl ?_
    show Steps p.tables e below (s₁.setTop (mkF m 34 #[.val (.int (3 : Int32)), .val (.int (31 : Int32))] [(.int (3 : Int32))])) _
    refine XS.sipush X0.here hx rfl (hb hby d3_34) ?_
    show Steps p.tables e below (s₁.setTop (mkF m 37 #[.val (.int (3 : Int32)), .val (.int (31 : Int32))] [(.int (256 : Int32)), (.int (3 : Int32))])) _
    refine XS.icmpYes X0.here hx rfl (pc0 := 37) (pc' := 48) rfl (hb hby d3_37) rfl (XT.ii_lt_t (by decide)) (by decide) (by decide) ?_
    show Steps p.tables e below (s₁.setTop (mkF m 48 #[.val (.int (3 : Int32)), .val (.int (31 : Int32))] [])) _
    refine XS.iloadN X0.here hx rfl (hb hby d3_48) rfl ?_
    show Steps p.tables e below (s₁.setTop (mkF m 49 #[.val (.int (3 : Int32)), .val (.int (31 : Int32))] [(.int (3 : Int32))])) _
    refine XS.bipush X0.here hx rfl (hb hby d3_49) ?_
    show Steps p.tables e below (s₁.setTop (mkF m 51 #[.val (.int (3 : Int32)), .val (.int (31 : Int32))] [(.int (16 : Int32)), (.int (3 : Int32))])) _
    refine XS.icmpYes X0.here hx rfl (pc0 := 51) (pc' := 61) rfl (hb hby d3_51) rfl (XT.ii_lt_t (by decide)) (by decide) (by decide) ?_
    show Steps p.tables e below (s₁.setTop (mkF m 61 #[.val (.int (3 : Int32)), .val (.int (31 : Int32))] [])) _
    refine XS.iloadN X0.here hx rfl (hb hby d3_61) rfl ?_
    show Steps p.tables e below (s₁.setTop (mkF m 62 #[.val (.int (3 : Int32)), .val (.int (31 : Int32))] [(.int (3 : Int32))])) _
    refine XS.iconst X0.here hx rfl (hb hby d3_62) ?_
    show Steps p.tables e below (s₁.setTop (mkF m 63 #[.val (.int (3 : Int32)), .val (.int (31 : Int32))] [(.int (4 : Int32)), (.int (3 : Int32))])) _
    refine XS.icmpYes X0.here hx rfl (pc0 := 63) (pc' := 73) rfl (hb hby d3_63) rfl (XT.ii_lt_t (by decide)) (by decide) (by decide) ?_
    show Steps p.tables e below (s₁.setTop (mkF m 73 #[.val (.int (3 : Int32)), .val (.int (31 : Int32))] [])) _
    refine XS.iloadN X0.here hx rfl (hb hby d3_73) rfl ?_
    show Steps p.tables e below (s₁.setTop (mkF m 74 #[.val (.int (3 : Int32)), .val (.int (31 : Int32))] [(.int (31 : Int32))])) _
    refine XS.iloadN X0.here hx rfl (hb hby d3_74) rfl ?_
    show Steps p.tables e below (s₁.setTop (mkF m 75 #[.val (.int (3 : Int32)), .val (.int (31 : Int32))] [(.int (3 : Int32)), (.int (31 : Int32))])) _
    refine XS.iconst X0.here hx rfl (hb hby d3_75) ?_
    show Steps p.tables e below (s₁.setTop (mkF m 76 #[.val (.int (3 : Int32)), .val (.int (31 : Int32))] [(.int (1 : Int32)), (.int (3 : Int32)), (.int (31 : Int32))])) _
    refine XT.iushr X0.here hx rfl (hb hby d3_76) rfl ?_
    exact kk_)
  rw [show (XT.ushr (3 : Int32) (1 : Int32)) = (1 : Int32) from by decide +kernel] at S1
  have S2 : own_Go p e below s₁ G s₁ (mkF m 78 #[.val (.int (3 : Int32)), .val (.int (31 : Int32))] [(.int ((31 : Int32) - (1 : Int32)))]) := fun tg_ kk_ => S1 tg_ (by
    refine XS.isub X0.here hx rfl (hb hby d3_77) rfl ?_
    exact kk_)
  rw [show ((31 : Int32) - (1 : Int32)) = (30 : Int32) from by decide +kernel] at S2
  obtain ⟨fs, hr, hrun, hended, hW, hsame⟩ := X0.leave (v := some (.int (30 : Int32))) (fun h => by rw [Bd.returns] at h; cases h)
  refine ⟨_, _, ?_, hrun, hended, _, _, rfl, ?_, ⟨_, rfl⟩, hW, hsame.mono (by decide) (by decide)⟩
  · rw [← hG]; exact S2 _ (retI X0 hx Bd.returns (hb hby d3_78) hr)
  · show Q3 Z h0 n0 _ s₁.heap _
    rw [e0]
    exact ⟨rfl, N0, rfl⟩
def Q4 (Z : State)  (h0 : Heap) (n0 : Nat) (v : Option Value) (h : Heap) (L : List Loc) : Prop := v = some (.int 10) ∧ Fr n0 L ∧ h0 = h
set_option maxRecDepth 65536 in
set_option maxHeartbeats 40000000 in
theorem rm4 (l : Launch) (Z : State) (a0 : Array Value) (hw : ∀ d ∈ tables_1, d.before a0 Z = true) (ws : List Jvm.Cond)  (h0 : Heap) (n0 : Nat) (Z0 : n0 ≤ h0.size)  :
    MetFree l (⟨"java/lang/Integer", "numberOfTrailingZeros", "(I)I"⟩ : MethodName) (head1 (Jvm.Cond.code (⟨"java/lang/Integer", "numberOfTrailingZeros", "(I)I"⟩ : MethodName) jdk_33_method_48_code 2 (some .int) :: ws) ({ frames := 0, cells := 0, slots := 0, locals := 0 } : Room)) (fun aa_ U => aa_ = #[(.int (1024 : Int32))] ∧ Z.Warmed39 U.vm ∧ U.heap = h0) (fun _ _ _ _ _ => True) (fun _ U o U' => ∃ v L, o = .returned v ∧ Q4 Z h0 n0 v U'.heap L ∧ FrameEnd U o U' L ({ frames := 0, cells := 0, slots := 0, locals := 0 } : Room).cells ({ frames := 0, cells := 0, slots := 0, locals := 0 } : Room).slots) := by
  refine MetFree.of_bodySF (plainFor_of_name pn1) hisR ?_
  intro p e s m args below meth c s₁ Bd hml0 hP hK
  obtain ⟨rfl, hZ, hh⟩ := hP
  have hx := Bd.exec
  have hby := Bd.bytes
  have hml : c.maxLocals = 2 := hml0
  have hown : s.vm.findClass "java/lang/Integer" = some m.cls := findClass_of_methodNamed Bd.named
  have hnm := (name_of_methodNamed Bd.named Bd.method).1
  have X0 : Stand p l e ({ frames := 0, cells := 0, slots := 0, locals := 0 } : Room) s m #[(.int (1024 : Int32))] below meth c s₁ [] 0 0 := Stand.of_body Bd
  have e0 : s₁.heap = h0 := by rw [← hh, Bd.state]; rfl
  have N0 := Fr.nil n0
  obtain ⟨G, hG⟩ : ∃ G, G = entryFrame m #[(.int (1024 : Int32))] 2 := ⟨_, rfl⟩
  have S0 : own_Go p e below s₁ G s₁ (mkF m 0 #[.val (.int (1024 : Int32)), .unset] []) := fun tg_ kk_ => castTop (by rw [hG]; first | rfl | simp [entryFrame, mkF, argsToLocals, Value.category, maxLocals]) kk_
  have S3 : own_Go p e below s₁ G s₁ (mkF m 3 #[.val (.int (1024 : Int32)), .unset] [(.int ((1024 : Int32) ^^^ (-1 : Int32)))]) := fun tg_ kk_ => S0 tg_ (by
    refine XS.iloadN X0.here hx rfl (hb hby d4_0) rfl ?_
    show Steps p.tables e below (s₁.setTop (mkF m 1 #[.val (.int (1024 : Int32)), .unset] [(.int (1024 : Int32))])) _
    refine XS.iconst X0.here hx rfl (hb hby d4_1) ?_
    show Steps p.tables e below (s₁.setTop (mkF m 2 #[.val (.int (1024 : Int32)), .unset] [(.int (-1 : Int32)), (.int (1024 : Int32))])) _
    refine XT.ixor X0.here hx rfl (hb hby d4_2) rfl ?_
    exact kk_)
  rw [show ((1024 : Int32) ^^^ (-1 : Int32)) = (-1025 : Int32) from by decide +kernel] at S3
  have S4 : own_Go p e below s₁ G s₁ (mkF m 6 #[.val (.int (1024 : Int32)), .unset] [(.int ((1024 : Int32) - (1 : Int32))), (.int (-1025 : Int32))]) := fun tg_ kk_ => S3 tg_ (by
    refine XS.iloadN X0.here hx rfl (hb hby d4_3) rfl ?_
    show Steps p.tables e below (s₁.setTop (mkF m 4 #[.val (.int (1024 : Int32)), .unset] [(.int (1024 : Int32)), (.int (-1025 : Int32))])) _
    refine XS.iconst X0.here hx rfl (hb hby d4_4) ?_
    show Steps p.tables e below (s₁.setTop (mkF m 5 #[.val (.int (1024 : Int32)), .unset] [(.int (1 : Int32)), (.int (1024 : Int32)), (.int (-1025 : Int32))])) _
    refine XS.isub X0.here hx rfl (hb hby d4_5) rfl ?_
    exact kk_)
  rw [show ((1024 : Int32) - (1 : Int32)) = (1023 : Int32) from by decide +kernel] at S4
  have S5 : own_Go p e below s₁ G s₁ (mkF m 7 #[.val (.int (1024 : Int32)), .unset] [(.int ((-1025 : Int32) &&& (1023 : Int32)))]) := fun tg_ kk_ => S4 tg_ (by
    refine XS.iand X0.here hx rfl (hb hby d4_6) rfl ?_
    exact kk_)
  rw [show ((-1025 : Int32) &&& (1023 : Int32)) = (1023 : Int32) from by decide +kernel] at S5
  have S6 : own_Go p e below s₁ G s₁ (mkF m 44 #[.val (.int (1023 : Int32)), .val (.int ((1 : Int32) + (8 : Int32)))] []) := fun tg_ kk_ => S5 tg_ (by
    refine XS.istoreN X0.here hx rfl (hb hby d4_7) rfl (l' := #[.val (.int (1023 : Int32)), .unset]) rfl ?_
    show Steps p.tables e below (s₁.setTop (mkF m 8 #[.val (.int (1023 : Int32)), .unset] [])) _
    refine XS.iloadN X0.here hx rfl (hb hby d4_8) rfl ?_
    show Steps p.tables e below (s₁.setTop (mkF m 9 #[.val (.int (1023 : Int32)), .unset] [(.int (1023 : Int32))])) _
    refine XS.ifYes X0.here hx rfl (pc0 := 9) (pc' := 17) rfl (hb hby d4_9) rfl (XT.i0_gt_t (by decide)) (by decide) (by decide) ?_
    show Steps p.tables e below (s₁.setTop (mkF m 17 #[.val (.int (1023 : Int32)), .unset] [])) _
    refine XS.iconst X0.here hx rfl (hb hby d4_17) ?_
    show Steps p.tables e below (s₁.setTop (mkF m 18 #[.val (.int (1023 : Int32)), .unset] [(.int (1 : Int32))])) _
    refine XS.istoreN X0.here hx rfl (hb hby d4_18) rfl (l' := #[.val (.int (1023 : Int32)), .val (.int (1 : Int32))]) rfl ?_
    show Steps p.tables e below (s₁.setTop (mkF m 19 #[.val (.int (1023 : Int32)), .val (.int (1 : Int32))] [])) _
    refine XS.iloadN X0.here hx rfl (hb hby d4_19) rfl ?_
    show Steps p.tables e below (s₁.setTop (mkF m 20 #[.val (.int (1023 : Int32)), .val (.int (1 : Int32))] [(.int (1023 : Int32))])) _
    refine X0.ldcwInt hx hown (mvT hZ (hw _ (List.mem_of_getElem? (i := 13) rfl))) (g := (mkF m 20 #[.val (.int (1023 : Int32)), .val (.int (1 : Int32))] [(.int (1023 : Int32))])) rfl (hb hby d4_20) _ ?_
    show Steps p.tables e below (s₁.setTop (mkF m 23 #[.val (.int (1023 : Int32)), .val (.int (1 : Int32))] [(.int (65536 : Int32)), (.int (1023 : Int32))])) _
    refine XS.icmpYes X0.here hx rfl (pc0 := 23) (pc' := 34) rfl (hb hby d4_23) rfl (XT.ii_le_t (by decide)) (by decide) (by decide) ?_
    show Steps p.tables e below (s₁.setTop (mkF m 34 #[.val (.int (1023 : Int32)), .val (.int (1 : Int32))] [])) _
    refine XS.iloadN X0.here hx rfl (hb hby d4_34) rfl ?_
    show Steps p.tables e below (s₁.setTop (mkF m 35 #[.val (.int (1023 : Int32)), .val (.int (1 : Int32))] [(.int (1023 : Int32))])) _
    refine XS.sipush X0.here hx rfl (hb hby d4_35) ?_
    show Steps p.tables e below (s₁.setTop (mkF m 38 #[.val (.int (1023 : Int32)), .val (.int (1 : Int32))] [(.int (256 : Int32)), (.int (1023 : Int32))])) _
    refine XS.icmpNo X0.here hx rfl (hb hby d4_38) rfl (XT.ii_le_f (by decide)) ?_
    show Steps p.tables e below (s₁.setTop (mkF m 41 #[.val (.int (1023 : Int32)), .val (.int (1 : Int32))] [])) _
    refine XS.iinc X0.here hx rfl (hb hby d4_41) rfl (l' := #[.val (.int (1023 : Int32)), .val (.int ((1 : Int32) + (8 : Int32)))]) rfl ?_
    exact kk_)
  rw [show ((1 : Int32) + (8 : Int32)) = (9 : Int32) from by decide +kernel] at S6
  have S7 : own_Go p e below s₁ G s₁ (mkF m 48 #[.val (.int (1023 : Int32)), .val (.int (9 : Int32))] [(.int (XT.ushr (1023 : Int32) (8 : Int32)))]) := fun tg_ kk_ => S6 tg_ (by
    refine XS.iloadN X0.here hx rfl (hb hby d4_44) rfl ?_
    show Steps p.tables e below (s₁.setTop (mkF m 45 #[.val (.int (1023 : Int32)), .val (.int (9 : Int32))] [(.int (1023 : Int32))])) _
    refine XS.bipush X0.here hx rfl (hb hby d4_45) ?_
    show Steps p.tables e below (s₁.setTop (mkF m 47 #[.val (.int (1023 : Int32)), .val (.int (9 : Int32))] [(.int (8 : Int32)), (.int (1023 : Int32))])) _
    refine XT.iushr X0.here hx rfl (hb hby d4_47) rfl ?_
    exact kk_)
  rw [show (XT.ushr (1023 : Int32) (8 : Int32)) = (3 : Int32) from by decide +kernel] at S7
  have S8 : own_Go p e below s₁ G s₁ (mkF m 78 #[.val (.int (3 : Int32)), .val (.int (9 : Int32))] [(.int (XT.ushr (3 : Int32) (1 : Int32))), (.int (9 : Int32))]) := fun tg_ kk_ => S7 tg_ (by
    refine XS.istoreN X0.here hx rfl (hb hby d4_48) rfl (l' := #[.val (.int (3 : Int32)), .val (.int (9 : Int32))]) rfl ?_
    show Steps p.tables e below (s₁.setTop (mkF m 49 #[.val (.int (3 : Int32)), .val (.int (9 : Int32))] [])) _
    refine XS.iloadN X0.here hx rfl (hb hby d4_49) rfl ?_
    show Steps p.tables e below (s₁.setTop (mkF m 50 #[.val (.int (3 : Int32)), .val (.int (9 : Int32))] [(.int (3 : Int32))])) _
    refine XS.bipush X0.here hx rfl (hb hby d4_50) ?_
    show Steps p.tables e below (s₁.setTop (mkF m 52 #[.val (.int (3 : Int32)), .val (.int (9 : Int32))] [(.int (16 : Int32)), (.int (3 : Int32))])) _
    refine XS.icmpYes X0.here hx rfl (pc0 := 52) (pc' := 62) rfl (hb hby d4_52) rfl (XT.ii_le_t (by decide)) (by decide) (by decide) ?_
    show Steps p.tables e below (s₁.setTop (mkF m 62 #[.val (.int (3 : Int32)), .val (.int (9 : Int32))] [])) _
    refine XS.iloadN X0.here hx rfl (hb hby d4_62) rfl ?_
    show Steps p.tables e below (s₁.setTop (mkF m 63 #[.val (.int (3 : Int32)), .val (.int (9 : Int32))] [(.int (3 : Int32))])) _
    refine XS.iconst X0.here hx rfl (hb hby d4_63) ?_
    show Steps p.tables e below (s₁.setTop (mkF m 64 #[.val (.int (3 : Int32)), .val (.int (9 : Int32))] [(.int (4 : Int32)), (.int (3 : Int32))])) _
    refine XS.icmpYes X0.here hx rfl (pc0 := 64) (pc' := 74) rfl (hb hby d4_64) rfl (XT.ii_le_t (by decide)) (by decide) (by decide) ?_
    show Steps p.tables e below (s₁.setTop (mkF m 74 #[.val (.int (3 : Int32)), .val (.int (9 : Int32))] [])) _
    refine XS.iloadN X0.here hx rfl (hb hby d4_74) rfl ?_
    show Steps p.tables e below (s₁.setTop (mkF m 75 #[.val (.int (3 : Int32)), .val (.int (9 : Int32))] [(.int (9 : Int32))])) _
    refine XS.iloadN X0.here hx rfl (hb hby d4_75) rfl ?_
    show Steps p.tables e below (s₁.setTop (mkF m 76 #[.val (.int (3 : Int32)), .val (.int (9 : Int32))] [(.int (3 : Int32)), (.int (9 : Int32))])) _
    refine XS.iconst X0.here hx rfl (hb hby d4_76) ?_
    show Steps p.tables e below (s₁.setTop (mkF m 77 #[.val (.int (3 : Int32)), .val (.int (9 : Int32))] [(.int (1 : Int32)), (.int (3 : Int32)), (.int (9 : Int32))])) _
    refine XT.iushr X0.here hx rfl (hb hby d4_77) rfl ?_
    exact kk_)
  rw [show (XT.ushr (3 : Int32) (1 : Int32)) = (1 : Int32) from by decide +kernel] at S8
  have S9 : own_Go p e below s₁ G s₁ (mkF m 79 #[.val (.int (3 : Int32)), .val (.int (9 : Int32))] [(.int ((9 : Int32) + (1 : Int32)))]) := fun tg_ kk_ => S8 tg_ (by
    refine XS.iadd X0.here hx rfl (hb hby d4_78) rfl ?_
    exact kk_)
  rw [show ((9 : Int32) + (1 : Int32)) = (10 : Int32) from by decide +kernel] at S9
  obtain ⟨fs, hr, hrun, hended, hW, hsame⟩ := X0.leave (v := some (.int (10 : Int32))) (fun h => by rw [Bd.returns] at h; cases h)
  refine ⟨_, _, ?_, hrun, hended, _, _, rfl, ?_, ⟨_, rfl⟩, hW, hsame.mono (by decide) (by decide)⟩
  · rw [← hG]; exact S9 _ (retI X0 hx Bd.returns (hb hby d4_79) hr)
  · show Q4 Z h0 n0 _ s₁.heap _
    rw [e0]
    exact ⟨rfl, N0, rfl⟩
theorem pn2 : plainName "com/example/tileshift/tileshift/NodeTable" = true := by first | (simp [plainName, overriddenIn]; done) | decide +kernel
def Q1 (Z : State) (a : Addr) (h0 : Heap) (n0 : Nat) (v : Option Value) (h : Heap) (L : List Loc) : Prop := v = none ∧ Fr n0 L ∧ Keep h0 h [a] ∧ ∃ w sh k b pr mv t, own_NT Z h a w sh k b pr mv t 0 [] [] [] [] []
set_option maxRecDepth 65536 in
set_option maxHeartbeats 40000000 in
theorem rm1 (l : Launch) (Z : State) (a0 : Array Value) (hw : ∀ d ∈ tables_1, d.before a0 Z = true) (ws : List Jvm.Cond) (a : Addr) (h0 : Heap) (n0 : Nat) (Z0 : n0 ≤ h0.size) (NT0 : own_NT0 Z h0 a) (ha : @LE.le Nat instLENat (n0) a) :
    MetFree l (⟨"com/example/tileshift/tileshift/NodeTable", "<init>", "(I)V"⟩ : MethodName) (head1 (Jvm.Cond.code (⟨"com/example/tileshift/tileshift/NodeTable", "<init>", "(I)V"⟩ : MethodName) prog_40_method_1_code 4 none :: ws) ({ frames := 1, cells := 7, slots := 5129, locals := 20 } : Room)) (fun aa_ U => aa_ = #[(.ref a), (.int (4 : Int32))] ∧ Z.Warmed39 U.vm ∧ U.heap = h0) (fun _ _ _ _ _ => True) (fun _ U o U' => ∃ v L, o = .returned v ∧ Q1 Z a h0 n0 v U'.heap L ∧ FrameEnd U o U' L ({ frames := 1, cells := 7, slots := 5129, locals := 20 } : Room).cells ({ frames := 1, cells := 7, slots := 5129, locals := 20 } : Room).slots) := by
  refine MetFree.of_bodySF (plainFor_of_name pn2) hisR ?_
  intro p e s m args below meth c s₁ Bd hml0 hP hK
  obtain ⟨rfl, hZ, hh⟩ := hP
  have hx := Bd.exec
  have hby := Bd.bytes
  have hml : c.maxLocals = 4 := hml0
  have hown : s.vm.findClass "com/example/tileshift/tileshift/NodeTable" = some m.cls := findClass_of_methodNamed Bd.named
  have hnm := (name_of_methodNamed Bd.named Bd.method).1
  have X0 : Stand p l e ({ frames := 1, cells := 7, slots := 5129, locals := 20 } : Room) s m #[(.ref a), (.int (4 : Int32))] below meth c s₁ [] 0 0 := Stand.of_body Bd
  have e0 : s₁.heap = h0 := by rw [← hh, Bd.state]; rfl
  have N0 := Fr.nil n0
  obtain ⟨G, hG⟩ : ∃ G, G = entryFrame m #[(.ref a), (.int (4 : Int32))] 4 := ⟨_, rfl⟩
  have S0 : own_Go p e below s₁ G s₁ (mkF m 0 #[.val (.ref a), .val (.int (4 : Int32)), .unset, .unset] []) := fun tg_ kk_ => castTop (by rw [hG]; first | rfl | simp [entryFrame, mkF, argsToLocals, Value.category, maxLocals]) kk_
  obtain ⟨xE, x_bits, x_width, x_word, x_shift, x_key, x_boards, x_parent, x_move, x_nodes, x_table, x_tableShift⟩ := NT0
  have S10 : own_Go p e below s₁ G s₁ (mkF m 1 #[.val (.ref a), .val (.int (4 : Int32)), .unset, .unset] [(.ref a)]) := fun tg_ kk_ => S0 tg_ (by
    refine XS.aloadN X0.here hx rfl (hb hby d1_0) rfl rfl ?_
    exact kk_)
  obtain ⟨T11, X11, e11, st11⟩ := initO X0 hx hZ hown (hw _ (List.mem_of_getElem? (i := 6) rfl)) (hw _ (List.mem_of_getElem? (i := 7) rfl)) (hw _ (List.mem_of_getElem? (i := 8) rfl)) e0 (g := (mkF m 1 #[.val (.ref a), .val (.int (4 : Int32)), .unset, .unset] [(.ref a)])) rfl (by rw [hml]; rfl) rfl (hb hby d1_1) (by decide) (W := 0) (by show 2 * 0 + _ ≤ _; exact Nat.le_of_eq rfl) (by decide)
  have S12 : own_Go p e below s₁ G T11 (mkF m 4 #[.val (.ref a), .val (.int (4 : Int32)), .unset, .unset] []) := fun tg_ kk_ => S10 tg_ (st11 tg_ kk_)
  have S13 : own_Go p e below s₁ G T11 (mkF m 10 #[.val (.ref a), .val (.int (4 : Int32)), .unset, .unset] [(.int ((4 : Int32) - (1 : Int32))), (.int (32 : Int32)), (.ref a)]) := fun tg_ kk_ => S12 tg_ (by
    refine XS.aloadN X11.here hx rfl (hb hby d1_4) rfl rfl ?_
    show Steps p.tables e below (T11.setTop (mkF m 5 #[.val (.ref a), .val (.int (4 : Int32)), .unset, .unset] [(.ref a)])) _
    refine XS.bipush X11.here hx rfl (hb hby d1_5) ?_
    show Steps p.tables e below (T11.setTop (mkF m 7 #[.val (.ref a), .val (.int (4 : Int32)), .unset, .unset] [(.int (32 : Int32)), (.ref a)])) _
    refine XS.iloadN X11.here hx rfl (hb hby d1_7) rfl ?_
    show Steps p.tables e below (T11.setTop (mkF m 8 #[.val (.ref a), .val (.int (4 : Int32)), .unset, .unset] [(.int (4 : Int32)), (.int (32 : Int32)), (.ref a)])) _
    refine XS.iconst X11.here hx rfl (hb hby d1_8) ?_
    show Steps p.tables e below (T11.setTop (mkF m 9 #[.val (.ref a), .val (.int (4 : Int32)), .unset, .unset] [(.int (1 : Int32)), (.int (4 : Int32)), (.int (32 : Int32)), (.ref a)])) _
    refine XS.isub X11.here hx rfl (hb hby d1_9) rfl ?_
    exact kk_)
  rw [show ((4 : Int32) - (1 : Int32)) = (3 : Int32) from by decide +kernel] at S13
  obtain ⟨_, T14, h14, L14, X14, e14, hQ14, st14⟩ := own_callS X11 hx hZ (y := (⟨"java/lang/Integer", "numberOfLeadingZeros", "(I)I"⟩ : MethodName)) hown (hw _ (List.mem_of_getElem? (i := 9) rfl)) (hw _ (List.mem_of_getElem? (i := 10) rfl)) (hw _ (List.mem_of_getElem? (i := 11) rfl)) (hw _ (List.mem_of_getElem? (i := 12) rfl)) (by decide) 2 (g := (mkF m 10 #[.val (.ref a), .val (.int (4 : Int32)), .unset, .unset] [(.int (3 : Int32)), (.int (32 : Int32)), (.ref a)])) rfl (by rw [hml]; rfl) [(.int (3 : Int32))] [(.int (32 : Int32)), (.ref a)] (rm3 l Z a0 hw [] h0 n0 Z0) (lenOf pd4 rfl) rfl (by show 2 * 0 + _ ≤ _; exact Nat.le_of_eq rfl) (hb hby d1_10) (by decide) (by decide) e11 (by decide) (by decide)
  obtain ⟨rfl, N14, rfl⟩ := hQ14
  have S15 : own_Go p e below s₁ G T14 (mkF m 13 #[.val (.ref a), .val (.int (4 : Int32)), .unset, .unset] [(.int (30 : Int32)), (.int (32 : Int32)), (.ref a)]) := fun tg_ kk_ => S13 tg_ (st14 tg_ kk_)
  have M14 := Fr.app N0 N14
  have S16 : own_Go p e below s₁ G T14 (mkF m 14 #[.val (.ref a), .val (.int (4 : Int32)), .unset, .unset] [(.int ((32 : Int32) - (30 : Int32))), (.ref a)]) := fun tg_ kk_ => S15 tg_ (by
    refine XS.isub X14.here hx rfl (hb hby d1_13) rfl ?_
    exact kk_)
  rw [show ((32 : Int32) - (30 : Int32)) = (2 : Int32) from by decide +kernel] at S16
  obtain ⟨T17, h17, X17, e17, W17, st17⟩ := putF X14 hx hZ hown (host := "") (Or.inl (hw _ (List.mem_of_getElem? (i := 14) rfl))) Via.refl e14 x_bits xE (Or.inr ⟨(hw _ (List.mem_of_getElem? (i := 15) rfl)), rfl, hnm⟩) (hw _ (List.mem_of_getElem? (i := 1) rfl)) (ty := .int) (by decide) rfl rfl (g := (mkF m 14 #[.val (.ref a), .val (.int (4 : Int32)), .unset, .unset] [(.int (2 : Int32)), (.ref a)])) rfl rfl (hb hby d1_14)
  have S18 : own_Go p e below s₁ G T17 (mkF m 17 #[.val (.ref a), .val (.int (4 : Int32)), .unset, .unset] []) := fun tg_ kk_ => S16 tg_ (st17 tg_ kk_)
  have f19 := Fr.snoc X17 M14 (by omega)
  have f20 := xE.wr W17
  have f21 : n0 ≤ h17.size := by rw [W17.size]; exact Z0
  have f22 := x_bits.same W17
  have f23 := x_width.other W17 (Or.inr (slot_ne (C := "com/example/tileshift/tileshift/NodeTable") (a0 := a0) (Or.inr (hw _ (List.mem_of_getElem? (i := 17) rfl))) (Or.inr (hw _ (List.mem_of_getElem? (i := 15) rfl))) (by decide) (t := .int) (by decide) (t' := .int) (by decide)))
  have f24 := x_word.other W17 (Or.inr (slot_ne (C := "com/example/tileshift/tileshift/NodeTable") (a0 := a0) (Or.inr (hw _ (List.mem_of_getElem? (i := 20) rfl))) (Or.inr (hw _ (List.mem_of_getElem? (i := 15) rfl))) (by decide) (t := (.array .int)) (by decide) (t' := .int) (by decide)))
  have f25 := x_shift.other W17 (Or.inr (slot_ne (C := "com/example/tileshift/tileshift/NodeTable") (a0 := a0) (Or.inr (hw _ (List.mem_of_getElem? (i := 22) rfl))) (Or.inr (hw _ (List.mem_of_getElem? (i := 15) rfl))) (by decide) (t := (.array .int)) (by decide) (t' := .int) (by decide)))
  have f26 := x_key.other W17 (Or.inr (slot_ne (C := "com/example/tileshift/tileshift/NodeTable") (a0 := a0) (Or.inr (hw _ (List.mem_of_getElem? (i := 25) rfl))) (Or.inr (hw _ (List.mem_of_getElem? (i := 15) rfl))) (by decide) (t := (.array .long)) (by decide) (t' := .int) (by decide)))
  have f27 := x_boards.other W17 (Or.inr (slot_ne (C := "com/example/tileshift/tileshift/NodeTable") (a0 := a0) (Or.inl (hw _ (List.mem_of_getElem? (i := 27) rfl))) (Or.inr (hw _ (List.mem_of_getElem? (i := 15) rfl))) (by decide) (t := (.array .long)) (by decide) (t' := .int) (by decide)))
  have f28 := x_parent.other W17 (Or.inr (slot_ne (C := "com/example/tileshift/tileshift/NodeTable") (a0 := a0) (Or.inl (hw _ (List.mem_of_getElem? (i := 29) rfl))) (Or.inr (hw _ (List.mem_of_getElem? (i := 15) rfl))) (by decide) (t := (.array .int)) (by decide) (t' := .int) (by decide)))
  have f29 := x_move.other W17 (Or.inr (slot_ne (C := "com/example/tileshift/tileshift/NodeTable") (a0 := a0) (Or.inl (hw _ (List.mem_of_getElem? (i := 32) rfl))) (Or.inr (hw _ (List.mem_of_getElem? (i := 15) rfl))) (by decide) (t := (.array .byte)) (by decide) (t' := .int) (by decide)))
  have f30 := x_nodes.other W17 (Or.inr (slot_ne (C := "com/example/tileshift/tileshift/NodeTable") (a0 := a0) (Or.inl (hw _ (List.mem_of_getElem? (i := 56) rfl))) (Or.inr (hw _ (List.mem_of_getElem? (i := 15) rfl))) (by decide) (t := .int) (by decide) (t' := .int) (by decide)))
  have f31 := x_table.other W17 (Or.inr (slot_ne (C := "com/example/tileshift/tileshift/NodeTable") (a0 := a0) (Or.inl (hw _ (List.mem_of_getElem? (i := 37) rfl))) (Or.inr (hw _ (List.mem_of_getElem? (i := 15) rfl))) (by decide) (t := (.array .int)) (by decide) (t' := .int) (by decide)))
  have f32 := x_tableShift.other W17 (Or.inr (slot_ne (C := "com/example/tileshift/tileshift/NodeTable") (a0 := a0) (Or.inl (hw _ (List.mem_of_getElem? (i := 39) rfl))) (Or.inr (hw _ (List.mem_of_getElem? (i := 15) rfl))) (by decide) (t := .int) (by decide) (t' := .int) (by decide)))
  have f33 := Keep.wr (Keep.refl h0 [a]) W17 (Or.inl (by simp))
  have S34 : own_Go p e below s₁ G T17 (mkF m 20 #[.val (.ref a), .val (.int (4 : Int32)), .unset, .unset] [(.ref a), (.int (64 : Int32))]) := fun tg_ kk_ => S18 tg_ (by
    refine XS.bipush X17.here hx rfl (hb hby d1_17) ?_
    show Steps p.tables e below (T17.setTop (mkF m 19 #[.val (.ref a), .val (.int (4 : Int32)), .unset, .unset] [(.int (64 : Int32))])) _
    refine XS.aloadN X17.here hx rfl (hb hby d1_19) rfl rfl ?_
    exact kk_)
  obtain ⟨T35, X35, e35, st35⟩ := getF X17 hx hZ hown (host := "") (Or.inl (hw _ (List.mem_of_getElem? (i := 14) rfl))) Via.refl e17 f22 (g := (mkF m 20 #[.val (.ref a), .val (.int (4 : Int32)), .unset, .unset] [(.ref a), (.int (64 : Int32))])) rfl rfl (hb hby d1_20)
  have S36 : own_Go p e below s₁ G T35 (mkF m 23 #[.val (.ref a), .val (.int (4 : Int32)), .unset, .unset] [(.int (2 : Int32)), (.int (64 : Int32))]) := fun tg_ kk_ => S34 tg_ (st35 tg_ kk_)
  have S37 : own_Go p e below s₁ G T35 (mkF m 24 #[.val (.ref a), .val (.int (4 : Int32)), .unset, .unset] [(.int ((64 : Int32) / (2 : Int32)))]) := fun tg_ kk_ => S36 tg_ (by
    refine XS.idiv X35.here hx rfl (hb hby d1_23) rfl (by decide) ?_
    exact kk_)
  rw [show ((64 : Int32) / (2 : Int32)) = (32 : Int32) from by decide +kernel] at S37
  have S38 : own_Go p e below s₁ G T35 (mkF m 29 #[.val (.ref a), .val (.int (4 : Int32)), .val (.int (32 : Int32)), .unset] [(.int ((4 : Int32) + (32 : Int32))), (.ref a)]) := fun tg_ kk_ => S37 tg_ (by
    refine XS.istoreN X35.here hx rfl (hb hby d1_24) rfl (l' := #[.val (.ref a), .val (.int (4 : Int32)), .val (.int (32 : Int32)), .unset]) rfl ?_
    show Steps p.tables e below (T35.setTop (mkF m 25 #[.val (.ref a), .val (.int (4 : Int32)), .val (.int (32 : Int32)), .unset] [])) _
    refine XS.aloadN X35.here hx rfl (hb hby d1_25) rfl rfl ?_
    show Steps p.tables e below (T35.setTop (mkF m 26 #[.val (.ref a), .val (.int (4 : Int32)), .val (.int (32 : Int32)), .unset] [(.ref a)])) _
    refine XS.iloadN X35.here hx rfl (hb hby d1_26) rfl ?_
    show Steps p.tables e below (T35.setTop (mkF m 27 #[.val (.ref a), .val (.int (4 : Int32)), .val (.int (32 : Int32)), .unset] [(.int (4 : Int32)), (.ref a)])) _
    refine XS.iloadN X35.here hx rfl (hb hby d1_27) rfl ?_
    show Steps p.tables e below (T35.setTop (mkF m 28 #[.val (.ref a), .val (.int (4 : Int32)), .val (.int (32 : Int32)), .unset] [(.int (32 : Int32)), (.int (4 : Int32)), (.ref a)])) _
    refine XS.iadd X35.here hx rfl (hb hby d1_28) rfl ?_
    exact kk_)
  rw [show ((4 : Int32) + (32 : Int32)) = (36 : Int32) from by decide +kernel] at S38
  have S39 : own_Go p e below s₁ G T35 (mkF m 31 #[.val (.ref a), .val (.int (4 : Int32)), .val (.int (32 : Int32)), .unset] [(.int ((36 : Int32) - (1 : Int32))), (.ref a)]) := fun tg_ kk_ => S38 tg_ (by
    refine XS.iconst X35.here hx rfl (hb hby d1_29) ?_
    show Steps p.tables e below (T35.setTop (mkF m 30 #[.val (.ref a), .val (.int (4 : Int32)), .val (.int (32 : Int32)), .unset] [(.int (1 : Int32)), (.int (36 : Int32)), (.ref a)])) _
    refine XS.isub X35.here hx rfl (hb hby d1_30) rfl ?_
    exact kk_)
  rw [show ((36 : Int32) - (1 : Int32)) = (35 : Int32) from by decide +kernel] at S39
  have S40 : own_Go p e below s₁ G T35 (mkF m 33 #[.val (.ref a), .val (.int (4 : Int32)), .val (.int (32 : Int32)), .unset] [(.int ((35 : Int32) / (32 : Int32))), (.ref a)]) := fun tg_ kk_ => S39 tg_ (by
    refine XS.iloadN X35.here hx rfl (hb hby d1_31) rfl ?_
    show Steps p.tables e below (T35.setTop (mkF m 32 #[.val (.ref a), .val (.int (4 : Int32)), .val (.int (32 : Int32)), .unset] [(.int (32 : Int32)), (.int (35 : Int32)), (.ref a)])) _
    refine XS.idiv X35.here hx rfl (hb hby d1_32) rfl (by decide) ?_
    exact kk_)
  rw [show ((35 : Int32) / (32 : Int32)) = (1 : Int32) from by decide +kernel] at S40
  obtain ⟨T41, h41, X41, e41, W41, st41⟩ := putF X35 hx hZ hown (host := "") (Or.inl (hw _ (List.mem_of_getElem? (i := 16) rfl))) Via.refl e35 f23 f20 (Or.inr ⟨(hw _ (List.mem_of_getElem? (i := 17) rfl)), rfl, hnm⟩) (hw _ (List.mem_of_getElem? (i := 1) rfl)) (ty := .int) (by decide) rfl rfl (g := (mkF m 33 #[.val (.ref a), .val (.int (4 : Int32)), .val (.int (32 : Int32)), .unset] [(.int (1 : Int32)), (.ref a)])) rfl rfl (hb hby d1_33)
  have S42 : own_Go p e below s₁ G T41 (mkF m 36 #[.val (.ref a), .val (.int (4 : Int32)), .val (.int (32 : Int32)), .unset] []) := fun tg_ kk_ => S40 tg_ (st41 tg_ kk_)
  have f43 := Fr.snoc X41 f19 (by omega)
  have f44 := f20.wr W41
  have f45 : n0 ≤ h41.size := by rw [W41.size]; exact f21
  have f46 := f22.other W41 (Or.inr (slot_ne (C := "com/example/tileshift/tileshift/NodeTable") (a0 := a0) (Or.inr (hw _ (List.mem_of_getElem? (i := 15) rfl))) (Or.inr (hw _ (List.mem_of_getElem? (i := 17) rfl))) (by decide) (t := .int) (by decide) (t' := .int) (by decide)))
  have f47 := f23.same W41
  have f48 := f24.other W41 (Or.inr (slot_ne (C := "com/example/tileshift/tileshift/NodeTable") (a0 := a0) (Or.inr (hw _ (List.mem_of_getElem? (i := 20) rfl))) (Or.inr (hw _ (List.mem_of_getElem? (i := 17) rfl))) (by decide) (t := (.array .int)) (by decide) (t' := .int) (by decide)))
  have f49 := f25.other W41 (Or.inr (slot_ne (C := "com/example/tileshift/tileshift/NodeTable") (a0 := a0) (Or.inr (hw _ (List.mem_of_getElem? (i := 22) rfl))) (Or.inr (hw _ (List.mem_of_getElem? (i := 17) rfl))) (by decide) (t := (.array .int)) (by decide) (t' := .int) (by decide)))
  have f50 := f26.other W41 (Or.inr (slot_ne (C := "com/example/tileshift/tileshift/NodeTable") (a0 := a0) (Or.inr (hw _ (List.mem_of_getElem? (i := 25) rfl))) (Or.inr (hw _ (List.mem_of_getElem? (i := 17) rfl))) (by decide) (t := (.array .long)) (by decide) (t' := .int) (by decide)))
  have f51 := f27.other W41 (Or.inr (slot_ne (C := "com/example/tileshift/tileshift/NodeTable") (a0 := a0) (Or.inl (hw _ (List.mem_of_getElem? (i := 27) rfl))) (Or.inr (hw _ (List.mem_of_getElem? (i := 17) rfl))) (by decide) (t := (.array .long)) (by decide) (t' := .int) (by decide)))
  have f52 := f28.other W41 (Or.inr (slot_ne (C := "com/example/tileshift/tileshift/NodeTable") (a0 := a0) (Or.inl (hw _ (List.mem_of_getElem? (i := 29) rfl))) (Or.inr (hw _ (List.mem_of_getElem? (i := 17) rfl))) (by decide) (t := (.array .int)) (by decide) (t' := .int) (by decide)))
  have f53 := f29.other W41 (Or.inr (slot_ne (C := "com/example/tileshift/tileshift/NodeTable") (a0 := a0) (Or.inl (hw _ (List.mem_of_getElem? (i := 32) rfl))) (Or.inr (hw _ (List.mem_of_getElem? (i := 17) rfl))) (by decide) (t := (.array .byte)) (by decide) (t' := .int) (by decide)))
  have f54 := f30.other W41 (Or.inr (slot_ne (C := "com/example/tileshift/tileshift/NodeTable") (a0 := a0) (Or.inl (hw _ (List.mem_of_getElem? (i := 56) rfl))) (Or.inr (hw _ (List.mem_of_getElem? (i := 17) rfl))) (by decide) (t := .int) (by decide) (t' := .int) (by decide)))
  have f55 := f31.other W41 (Or.inr (slot_ne (C := "com/example/tileshift/tileshift/NodeTable") (a0 := a0) (Or.inl (hw _ (List.mem_of_getElem? (i := 37) rfl))) (Or.inr (hw _ (List.mem_of_getElem? (i := 17) rfl))) (by decide) (t := (.array .int)) (by decide) (t' := .int) (by decide)))
  have f56 := f32.other W41 (Or.inr (slot_ne (C := "com/example/tileshift/tileshift/NodeTable") (a0 := a0) (Or.inl (hw _ (List.mem_of_getElem? (i := 39) rfl))) (Or.inr (hw _ (List.mem_of_getElem? (i := 17) rfl))) (by decide) (t := .int) (by decide) (t' := .int) (by decide)))
  have f57 := Keep.wr f33 W41 (Or.inl (by simp))
  have S58 : own_Go p e below s₁ G T41 (mkF m 38 #[.val (.ref a), .val (.int (4 : Int32)), .val (.int (32 : Int32)), .unset] [(.int (4 : Int32)), (.ref a)]) := fun tg_ kk_ => S42 tg_ (by
    refine XS.aloadN X41.here hx rfl (hb hby d1_36) rfl rfl ?_
    show Steps p.tables e below (T41.setTop (mkF m 37 #[.val (.ref a), .val (.int (4 : Int32)), .val (.int (32 : Int32)), .unset] [(.ref a)])) _
    refine XS.iloadN X41.here hx rfl (hb hby d1_37) rfl ?_
    exact kk_)
  obtain ⟨Tp59, hp59, kp59, Xp59, ep59, Ep59, Ap59, stp59⟩ := newP X41 hx hZ (hw _ (List.mem_of_getElem? (i := 18) rfl)) e41 (g := (mkF m 38 #[.val (.ref a), .val (.int (4 : Int32)), .val (.int (32 : Int32)), .unset] [(.int (4 : Int32)), (.ref a)])) rfl (hb hby d1_38) rfl (by decide) (cap := 4) (by decide) (by decide) (by decide) (by decide)
  have S60 : own_Go p e below s₁ G Tp59 (mkF m 40 #[.val (.ref a), .val (.int (4 : Int32)), .val (.int (32 : Int32)), .unset] [(.ref h41.size), (.ref a)]) := fun tg_ kk_ => S58 tg_ (stp59 tg_ kk_)
  obtain ⟨bp59, gp59⟩ : ∃ z, z = h41.size := ⟨_, rfl⟩
  rw [← gp59] at S60
  rw [← gp59] at Ap59
  have o61 : @LT.lt Nat instLTNat a bp59 := Nat.lt_of_lt_of_le f44.lt (Nat.le_of_eq gp59.symm)
  have o62 : @LE.le Nat instLENat (n0) bp59 := Nat.le_trans f45 (Nat.le_of_eq gp59.symm)
  have o63 : @LE.le Nat instLENat (h0.size) bp59 := Nat.le_trans f57.1 (Nat.le_of_eq gp59.symm)
  have f64 := f44.ext Ep59
  have f65 := own_sub f45 Ep59
  have f66 := f46.ext Ep59
  have f67 := f47.ext Ep59
  have f68 := f48.ext Ep59
  have f69 := f49.ext Ep59
  have f70 := f50.ext Ep59
  have f71 := f51.ext Ep59
  have f72 := f52.ext Ep59
  have f73 := f53.ext Ep59
  have f74 := f54.ext Ep59
  have f75 := f55.ext Ep59
  have f76 := f56.ext Ep59
  have f77 := Keep.ext f57 Ep59
  have f78 : Arv Z hp59 bp59 kp59 .int (4 : Int32) [] (.int 0) := Arv.new Ap59 (by decide)
  obtain ⟨T79, h79, X79, e79, W79, st79⟩ := putF Xp59 hx hZ hown (host := "") (Or.inl (hw _ (List.mem_of_getElem? (i := 19) rfl))) Via.refl ep59 f68 f64 (Or.inr ⟨(hw _ (List.mem_of_getElem? (i := 20) rfl)), rfl, hnm⟩) (hw _ (List.mem_of_getElem? (i := 1) rfl)) (ty := (.array .int)) (by decide) rfl rfl (g := (mkF m 40 #[.val (.ref a), .val (.int (4 : Int32)), .val (.int (32 : Int32)), .unset] [(.ref bp59), (.ref a)])) rfl rfl (hb hby d1_40)
  have S80 : own_Go p e below s₁ G T79 (mkF m 43 #[.val (.ref a), .val (.int (4 : Int32)), .val (.int (32 : Int32)), .unset] []) := fun tg_ kk_ => S60 tg_ (st79 tg_ kk_)
  have f81 := Fr.snoc X79 f43 (by omega)
  have f82 := f64.wr W79
  have f83 : n0 ≤ h79.size := by rw [W79.size]; exact f65
  have f84 := f66.other W79 (Or.inr (slot_ne (C := "com/example/tileshift/tileshift/NodeTable") (a0 := a0) (Or.inr (hw _ (List.mem_of_getElem? (i := 15) rfl))) (Or.inr (hw _ (List.mem_of_getElem? (i := 20) rfl))) (by decide) (t := .int) (by decide) (t' := (.array .int)) (by decide)))
  have f85 := f67.other W79 (Or.inr (slot_ne (C := "com/example/tileshift/tileshift/NodeTable") (a0 := a0) (Or.inr (hw _ (List.mem_of_getElem? (i := 17) rfl))) (Or.inr (hw _ (List.mem_of_getElem? (i := 20) rfl))) (by decide) (t := .int) (by decide) (t' := (.array .int)) (by decide)))
  have f86 := f68.same W79
  have f87 := f69.other W79 (Or.inr (slot_ne (C := "com/example/tileshift/tileshift/NodeTable") (a0 := a0) (Or.inr (hw _ (List.mem_of_getElem? (i := 22) rfl))) (Or.inr (hw _ (List.mem_of_getElem? (i := 20) rfl))) (by decide) (t := (.array .int)) (by decide) (t' := (.array .int)) (by decide)))
  have f88 := f70.other W79 (Or.inr (slot_ne (C := "com/example/tileshift/tileshift/NodeTable") (a0 := a0) (Or.inr (hw _ (List.mem_of_getElem? (i := 25) rfl))) (Or.inr (hw _ (List.mem_of_getElem? (i := 20) rfl))) (by decide) (t := (.array .long)) (by decide) (t' := (.array .int)) (by decide)))
  have f89 := f71.other W79 (Or.inr (slot_ne (C := "com/example/tileshift/tileshift/NodeTable") (a0 := a0) (Or.inl (hw _ (List.mem_of_getElem? (i := 27) rfl))) (Or.inr (hw _ (List.mem_of_getElem? (i := 20) rfl))) (by decide) (t := (.array .long)) (by decide) (t' := (.array .int)) (by decide)))
  have f90 := f72.other W79 (Or.inr (slot_ne (C := "com/example/tileshift/tileshift/NodeTable") (a0 := a0) (Or.inl (hw _ (List.mem_of_getElem? (i := 29) rfl))) (Or.inr (hw _ (List.mem_of_getElem? (i := 20) rfl))) (by decide) (t := (.array .int)) (by decide) (t' := (.array .int)) (by decide)))
  have f91 := f73.other W79 (Or.inr (slot_ne (C := "com/example/tileshift/tileshift/NodeTable") (a0 := a0) (Or.inl (hw _ (List.mem_of_getElem? (i := 32) rfl))) (Or.inr (hw _ (List.mem_of_getElem? (i := 20) rfl))) (by decide) (t := (.array .byte)) (by decide) (t' := (.array .int)) (by decide)))
  have f92 := f74.other W79 (Or.inr (slot_ne (C := "com/example/tileshift/tileshift/NodeTable") (a0 := a0) (Or.inl (hw _ (List.mem_of_getElem? (i := 56) rfl))) (Or.inr (hw _ (List.mem_of_getElem? (i := 20) rfl))) (by decide) (t := .int) (by decide) (t' := (.array .int)) (by decide)))
  have f93 := f75.other W79 (Or.inr (slot_ne (C := "com/example/tileshift/tileshift/NodeTable") (a0 := a0) (Or.inl (hw _ (List.mem_of_getElem? (i := 37) rfl))) (Or.inr (hw _ (List.mem_of_getElem? (i := 20) rfl))) (by decide) (t := (.array .int)) (by decide) (t' := (.array .int)) (by decide)))
  have f94 := f76.other W79 (Or.inr (slot_ne (C := "com/example/tileshift/tileshift/NodeTable") (a0 := a0) (Or.inl (hw _ (List.mem_of_getElem? (i := 39) rfl))) (Or.inr (hw _ (List.mem_of_getElem? (i := 20) rfl))) (by decide) (t := .int) (by decide) (t' := (.array .int)) (by decide)))
  have f95 := f78.other W79 (own_negt (by omega))
  have f96 := Keep.wr f77 W79 (Or.inl (by simp))
  have S97 : own_Go p e below s₁ G T79 (mkF m 45 #[.val (.ref a), .val (.int (4 : Int32)), .val (.int (32 : Int32)), .unset] [(.int (4 : Int32)), (.ref a)]) := fun tg_ kk_ => S80 tg_ (by
    refine XS.aloadN X79.here hx rfl (hb hby d1_43) rfl rfl ?_
    show Steps p.tables e below (T79.setTop (mkF m 44 #[.val (.ref a), .val (.int (4 : Int32)), .val (.int (32 : Int32)), .unset] [(.ref a)])) _
    refine XS.iloadN X79.here hx rfl (hb hby d1_44) rfl ?_
    exact kk_)
  obtain ⟨Tp98, hp98, kp98, Xp98, ep98, Ep98, Ap98, stp98⟩ := newP X79 hx hZ (hw _ (List.mem_of_getElem? (i := 18) rfl)) e79 (g := (mkF m 45 #[.val (.ref a), .val (.int (4 : Int32)), .val (.int (32 : Int32)), .unset] [(.int (4 : Int32)), (.ref a)])) rfl (hb hby d1_45) rfl (by decide) (cap := 4) (by decide) (by decide) (by decide) (by decide)
  have S99 : own_Go p e below s₁ G Tp98 (mkF m 47 #[.val (.ref a), .val (.int (4 : Int32)), .val (.int (32 : Int32)), .unset] [(.ref h79.size), (.ref a)]) := fun tg_ kk_ => S97 tg_ (stp98 tg_ kk_)
  obtain ⟨bp98, gp98⟩ : ∃ z, z = h79.size := ⟨_, rfl⟩
  rw [← gp98] at S99
  rw [← gp98] at Ap98
  have o100 : @LT.lt Nat instLTNat a bp98 := Nat.lt_of_lt_of_le f82.lt (Nat.le_of_eq gp98.symm)
  have o101 : @LT.lt Nat instLTNat bp59 bp98 := Nat.lt_of_lt_of_le f95.lt (Nat.le_of_eq gp98.symm)
  have o102 : @LE.le Nat instLENat (n0) bp98 := Nat.le_trans f83 (Nat.le_of_eq gp98.symm)
  have o103 : @LE.le Nat instLENat (h0.size) bp98 := Nat.le_trans f96.1 (Nat.le_of_eq gp98.symm)
  have f104 := f82.ext Ep98
  have f105 := own_sub f83 Ep98
  have f106 := f84.ext Ep98
  have f107 := f85.ext Ep98
  have f108 := f86.ext Ep98
  have f109 := f87.ext Ep98
  have f110 := f88.ext Ep98
  have f111 := f89.ext Ep98
  have f112 := f90.ext Ep98
  have f113 := f91.ext Ep98
  have f114 := f92.ext Ep98
  have f115 := f93.ext Ep98
  have f116 := f94.ext Ep98
  have f117 := f95.ext Ep98
  have f118 := Keep.ext f96 Ep98
  have f119 : Arv Z hp98 bp98 kp98 .int (4 : Int32) [] (.int 0) := Arv.new Ap98 (by decide)
  obtain ⟨T120, h120, X120, e120, W120, st120⟩ := putF Xp98 hx hZ hown (host := "") (Or.inl (hw _ (List.mem_of_getElem? (i := 21) rfl))) Via.refl ep98 f109 f104 (Or.inr ⟨(hw _ (List.mem_of_getElem? (i := 22) rfl)), rfl, hnm⟩) (hw _ (List.mem_of_getElem? (i := 1) rfl)) (ty := (.array .int)) (by decide) rfl rfl (g := (mkF m 47 #[.val (.ref a), .val (.int (4 : Int32)), .val (.int (32 : Int32)), .unset] [(.ref bp98), (.ref a)])) rfl rfl (hb hby d1_47)
  have S121 : own_Go p e below s₁ G T120 (mkF m 50 #[.val (.ref a), .val (.int (4 : Int32)), .val (.int (32 : Int32)), .unset] []) := fun tg_ kk_ => S99 tg_ (st120 tg_ kk_)
  have f122 := Fr.snoc X120 f81 (by omega)
  have f123 := f104.wr W120
  have f124 : n0 ≤ h120.size := by rw [W120.size]; exact f105
  have f125 := f106.other W120 (Or.inr (slot_ne (C := "com/example/tileshift/tileshift/NodeTable") (a0 := a0) (Or.inr (hw _ (List.mem_of_getElem? (i := 15) rfl))) (Or.inr (hw _ (List.mem_of_getElem? (i := 22) rfl))) (by decide) (t := .int) (by decide) (t' := (.array .int)) (by decide)))
  have f126 := f107.other W120 (Or.inr (slot_ne (C := "com/example/tileshift/tileshift/NodeTable") (a0 := a0) (Or.inr (hw _ (List.mem_of_getElem? (i := 17) rfl))) (Or.inr (hw _ (List.mem_of_getElem? (i := 22) rfl))) (by decide) (t := .int) (by decide) (t' := (.array .int)) (by decide)))
  have f127 := f108.other W120 (Or.inr (slot_ne (C := "com/example/tileshift/tileshift/NodeTable") (a0 := a0) (Or.inr (hw _ (List.mem_of_getElem? (i := 20) rfl))) (Or.inr (hw _ (List.mem_of_getElem? (i := 22) rfl))) (by decide) (t := (.array .int)) (by decide) (t' := (.array .int)) (by decide)))
  have f128 := f109.same W120
  have f129 := f110.other W120 (Or.inr (slot_ne (C := "com/example/tileshift/tileshift/NodeTable") (a0 := a0) (Or.inr (hw _ (List.mem_of_getElem? (i := 25) rfl))) (Or.inr (hw _ (List.mem_of_getElem? (i := 22) rfl))) (by decide) (t := (.array .long)) (by decide) (t' := (.array .int)) (by decide)))
  have f130 := f111.other W120 (Or.inr (slot_ne (C := "com/example/tileshift/tileshift/NodeTable") (a0 := a0) (Or.inl (hw _ (List.mem_of_getElem? (i := 27) rfl))) (Or.inr (hw _ (List.mem_of_getElem? (i := 22) rfl))) (by decide) (t := (.array .long)) (by decide) (t' := (.array .int)) (by decide)))
  have f131 := f112.other W120 (Or.inr (slot_ne (C := "com/example/tileshift/tileshift/NodeTable") (a0 := a0) (Or.inl (hw _ (List.mem_of_getElem? (i := 29) rfl))) (Or.inr (hw _ (List.mem_of_getElem? (i := 22) rfl))) (by decide) (t := (.array .int)) (by decide) (t' := (.array .int)) (by decide)))
  have f132 := f113.other W120 (Or.inr (slot_ne (C := "com/example/tileshift/tileshift/NodeTable") (a0 := a0) (Or.inl (hw _ (List.mem_of_getElem? (i := 32) rfl))) (Or.inr (hw _ (List.mem_of_getElem? (i := 22) rfl))) (by decide) (t := (.array .byte)) (by decide) (t' := (.array .int)) (by decide)))
  have f133 := f114.other W120 (Or.inr (slot_ne (C := "com/example/tileshift/tileshift/NodeTable") (a0 := a0) (Or.inl (hw _ (List.mem_of_getElem? (i := 56) rfl))) (Or.inr (hw _ (List.mem_of_getElem? (i := 22) rfl))) (by decide) (t := .int) (by decide) (t' := (.array .int)) (by decide)))
  have f134 := f115.other W120 (Or.inr (slot_ne (C := "com/example/tileshift/tileshift/NodeTable") (a0 := a0) (Or.inl (hw _ (List.mem_of_getElem? (i := 37) rfl))) (Or.inr (hw _ (List.mem_of_getElem? (i := 22) rfl))) (by decide) (t := (.array .int)) (by decide) (t' := (.array .int)) (by decide)))
  have f135 := f116.other W120 (Or.inr (slot_ne (C := "com/example/tileshift/tileshift/NodeTable") (a0 := a0) (Or.inl (hw _ (List.mem_of_getElem? (i := 39) rfl))) (Or.inr (hw _ (List.mem_of_getElem? (i := 22) rfl))) (by decide) (t := .int) (by decide) (t' := (.array .int)) (by decide)))
  have f136 := f117.other W120 (own_negt (by omega))
  have f137 := f119.other W120 (own_negt (by omega))
  have f138 := Keep.wr f118 W120 (Or.inl (by simp))
  have S139 : own_Go p e below s₁ G T120 (mkF m 58 #[.val (.ref a), .val (.int (4 : Int32)), .val (.int (32 : Int32)), .val (.int (0 : Int32))] [(.ref a)]) := fun tg_ kk_ => S121 tg_ (by
    refine XS.iconst X120.here hx rfl (hb hby d1_50) ?_
    show Steps p.tables e below (T120.setTop (mkF m 51 #[.val (.ref a), .val (.int (4 : Int32)), .val (.int (32 : Int32)), .unset] [(.int (0 : Int32))])) _
    refine XS.istoreN X120.here hx rfl (hb hby d1_51) rfl (l' := #[.val (.ref a), .val (.int (4 : Int32)), .val (.int (32 : Int32)), .val (.int (0 : Int32))]) rfl ?_
    show Steps p.tables e below (T120.setTop (mkF m 52 #[.val (.ref a), .val (.int (4 : Int32)), .val (.int (32 : Int32)), .val (.int (0 : Int32))] [])) _
    refine XS.iloadN X120.here hx rfl (hb hby d1_52) rfl ?_
    show Steps p.tables e below (T120.setTop (mkF m 53 #[.val (.ref a), .val (.int (4 : Int32)), .val (.int (32 : Int32)), .val (.int (0 : Int32))] [(.int (0 : Int32))])) _
    refine XS.iloadN X120.here hx rfl (hb hby d1_53) rfl ?_
    show Steps p.tables e below (T120.setTop (mkF m 54 #[.val (.ref a), .val (.int (4 : Int32)), .val (.int (32 : Int32)), .val (.int (0 : Int32))] [(.int (4 : Int32)), (.int (0 : Int32))])) _
    refine XS.icmpNo X120.here hx rfl (hb hby d1_54) rfl (XT.ii_ge_f (by decide)) ?_
    show Steps p.tables e below (T120.setTop (mkF m 57 #[.val (.ref a), .val (.int (4 : Int32)), .val (.int (32 : Int32)), .val (.int (0 : Int32))] [])) _
    refine XS.aloadN X120.here hx rfl (hb hby d1_57) rfl rfl ?_
    exact kk_)
  obtain ⟨T140, X140, e140, st140⟩ := getF X120 hx hZ hown (host := "") (Or.inl (hw _ (List.mem_of_getElem? (i := 19) rfl))) Via.refl e120 f127 (g := (mkF m 58 #[.val (.ref a), .val (.int (4 : Int32)), .val (.int (32 : Int32)), .val (.int (0 : Int32))] [(.ref a)])) rfl rfl (hb hby d1_58)
  have S141 : own_Go p e below s₁ G T140 (mkF m 61 #[.val (.ref a), .val (.int (4 : Int32)), .val (.int (32 : Int32)), .val (.int (0 : Int32))] [(.ref bp59)]) := fun tg_ kk_ => S139 tg_ (st140 tg_ kk_)
  have S142 : own_Go p e below s₁ G T140 (mkF m 65 #[.val (.ref a), .val (.int (4 : Int32)), .val (.int (32 : Int32)), .val (.int (0 : Int32))] [(.int ((0 : Int32) / (32 : Int32))), (.int (0 : Int32)), (.ref bp59)]) := fun tg_ kk_ => S141 tg_ (by
    refine XS.iloadN X140.here hx rfl (hb hby d1_61) rfl ?_
    show Steps p.tables e below (T140.setTop (mkF m 62 #[.val (.ref a), .val (.int (4 : Int32)), .val (.int (32 : Int32)), .val (.int (0 : Int32))] [(.int (0 : Int32)), (.ref bp59)])) _
    refine XS.iloadN X140.here hx rfl (hb hby d1_62) rfl ?_
    show Steps p.tables e below (T140.setTop (mkF m 63 #[.val (.ref a), .val (.int (4 : Int32)), .val (.int (32 : Int32)), .val (.int (0 : Int32))] [(.int (0 : Int32)), (.int (0 : Int32)), (.ref bp59)])) _
    refine XS.iloadN X140.here hx rfl (hb hby d1_63) rfl ?_
    show Steps p.tables e below (T140.setTop (mkF m 64 #[.val (.ref a), .val (.int (4 : Int32)), .val (.int (32 : Int32)), .val (.int (0 : Int32))] [(.int (32 : Int32)), (.int (0 : Int32)), (.int (0 : Int32)), (.ref bp59)])) _
    refine XS.idiv X140.here hx rfl (hb hby d1_64) rfl (by decide) ?_
    exact kk_)
  rw [show ((0 : Int32) / (32 : Int32)) = (0 : Int32) from by decide +kernel] at S142
  obtain ⟨cl143, B143, b143, z143, y143, H143, F143⟩ := id f136
  obtain ⟨U143, u143, Y143, f143x, W143, su143⟩ := stI X140 hx hZ e140 B143 (j := (0 : Int32)) (inb_of z143 (by decide)) (g := (mkF m 65 #[.val (.ref a), .val (.int (4 : Int32)), .val (.int (32 : Int32)), .val (.int (0 : Int32))] [(.int (0 : Int32)), (.int (0 : Int32)), (.ref bp59)])) rfl rfl (hb hby d1_65)
  have S144 : own_Go p e below s₁ G U143 (mkF m 66 #[.val (.ref a), .val (.int (4 : Int32)), .val (.int (32 : Int32)), .val (.int (0 : Int32))] []) := fun tg_ kk_ => S142 tg_ (su143 tg_ kk_)
  have f145 : Arv Z u143 bp59 kp59 .int (4 : Int32) [(.int (0 : Int32))] (.int 0) := own_push f136 rfl W143 rfl
  have f146 := Fr.snoc Y143 f122 (by omega)
  have f147 := f123.wr W143
  have f148 : n0 ≤ u143.size := by rw [W143.size]; exact f124
  have f149 := f125.other W143 (Or.inl (own_nelt (by omega)))
  have f150 := f126.other W143 (Or.inl (own_nelt (by omega)))
  have f151 := f127.other W143 (Or.inl (own_nelt (by omega)))
  have f152 := f128.other W143 (Or.inl (own_nelt (by omega)))
  have f153 := f129.other W143 (Or.inl (own_nelt (by omega)))
  have f154 := f130.other W143 (Or.inl (own_nelt (by omega)))
  have f155 := f131.other W143 (Or.inl (own_nelt (by omega)))
  have f156 := f132.other W143 (Or.inl (own_nelt (by omega)))
  have f157 := f133.other W143 (Or.inl (own_nelt (by omega)))
  have f158 := f134.other W143 (Or.inl (own_nelt (by omega)))
  have f159 := f135.other W143 (Or.inl (own_nelt (by omega)))
  have f160 := f137.other W143 (own_negt (by omega))
  have f161 := Keep.wr f138 W143 (Or.inr (by omega))
  have S162 : own_Go p e below s₁ G U143 (mkF m 67 #[.val (.ref a), .val (.int (4 : Int32)), .val (.int (32 : Int32)), .val (.int (0 : Int32))] [(.ref a)]) := fun tg_ kk_ => S144 tg_ (by
    refine XS.aloadN Y143.here hx rfl (hb hby d1_66) rfl rfl ?_
    exact kk_)
  obtain ⟨T163, X163, e163, st163⟩ := getF Y143 hx hZ hown (host := "") (Or.inl (hw _ (List.mem_of_getElem? (i := 21) rfl))) Via.refl f143x f152 (g := (mkF m 67 #[.val (.ref a), .val (.int (4 : Int32)), .val (.int (32 : Int32)), .val (.int (0 : Int32))] [(.ref a)])) rfl rfl (hb hby d1_67)
  have S164 : own_Go p e below s₁ G T163 (mkF m 70 #[.val (.ref a), .val (.int (4 : Int32)), .val (.int (32 : Int32)), .val (.int (0 : Int32))] [(.ref bp98)]) := fun tg_ kk_ => S162 tg_ (st163 tg_ kk_)
  have S165 : own_Go p e below s₁ G T163 (mkF m 74 #[.val (.ref a), .val (.int (4 : Int32)), .val (.int (32 : Int32)), .val (.int (0 : Int32))] [(.int ((0 : Int32) - ((0 : Int32) / (32 : Int32)) * (32 : Int32))), (.int (0 : Int32)), (.ref bp98)]) := fun tg_ kk_ => S164 tg_ (by
    refine XS.iloadN X163.here hx rfl (hb hby d1_70) rfl ?_
    show Steps p.tables e below (T163.setTop (mkF m 71 #[.val (.ref a), .val (.int (4 : Int32)), .val (.int (32 : Int32)), .val (.int (0 : Int32))] [(.int (0 : Int32)), (.ref bp98)])) _
    refine XS.iloadN X163.here hx rfl (hb hby d1_71) rfl ?_
    show Steps p.tables e below (T163.setTop (mkF m 72 #[.val (.ref a), .val (.int (4 : Int32)), .val (.int (32 : Int32)), .val (.int (0 : Int32))] [(.int (0 : Int32)), (.int (0 : Int32)), (.ref bp98)])) _
    refine XS.iloadN X163.here hx rfl (hb hby d1_72) rfl ?_
    show Steps p.tables e below (T163.setTop (mkF m 73 #[.val (.ref a), .val (.int (4 : Int32)), .val (.int (32 : Int32)), .val (.int (0 : Int32))] [(.int (32 : Int32)), (.int (0 : Int32)), (.int (0 : Int32)), (.ref bp98)])) _
    refine XS.irem X163.here hx rfl (hb hby d1_73) rfl (by decide) ?_
    exact kk_)
  rw [show ((0 : Int32) - ((0 : Int32) / (32 : Int32)) * (32 : Int32)) = (0 : Int32) from by decide +kernel] at S165
  have S166 : own_Go p e below s₁ G T163 (mkF m 75 #[.val (.ref a), .val (.int (4 : Int32)), .val (.int (32 : Int32)), .val (.int (0 : Int32))] [(.ref a), (.int (0 : Int32)), (.int (0 : Int32)), (.ref bp98)]) := fun tg_ kk_ => S165 tg_ (by
    refine XS.aloadN X163.here hx rfl (hb hby d1_74) rfl rfl ?_
    exact kk_)
  obtain ⟨T167, X167, e167, st167⟩ := getF X163 hx hZ hown (host := "") (Or.inl (hw _ (List.mem_of_getElem? (i := 14) rfl))) Via.refl e163 f149 (g := (mkF m 75 #[.val (.ref a), .val (.int (4 : Int32)), .val (.int (32 : Int32)), .val (.int (0 : Int32))] [(.ref a), (.int (0 : Int32)), (.int (0 : Int32)), (.ref bp98)])) rfl rfl (hb hby d1_75)
  have S168 : own_Go p e below s₁ G T167 (mkF m 78 #[.val (.ref a), .val (.int (4 : Int32)), .val (.int (32 : Int32)), .val (.int (0 : Int32))] [(.int (2 : Int32)), (.int (0 : Int32)), (.int (0 : Int32)), (.ref bp98)]) := fun tg_ kk_ => S166 tg_ (st167 tg_ kk_)
  have S169 : own_Go p e below s₁ G T167 (mkF m 79 #[.val (.ref a), .val (.int (4 : Int32)), .val (.int (32 : Int32)), .val (.int (0 : Int32))] [(.int ((0 : Int32) * (2 : Int32))), (.int (0 : Int32)), (.ref bp98)]) := fun tg_ kk_ => S168 tg_ (by
    refine XS.imul X167.here hx rfl (hb hby d1_78) rfl ?_
    exact kk_)
  rw [show ((0 : Int32) * (2 : Int32)) = (0 : Int32) from by decide +kernel] at S169
  obtain ⟨cl170, B170, b170, z170, y170, H170, F170⟩ := id f160
  obtain ⟨U170, u170, Y170, f170x, W170, su170⟩ := stI X167 hx hZ e167 B170 (j := (0 : Int32)) (inb_of z170 (by decide)) (g := (mkF m 79 #[.val (.ref a), .val (.int (4 : Int32)), .val (.int (32 : Int32)), .val (.int (0 : Int32))] [(.int (0 : Int32)), (.int (0 : Int32)), (.ref bp98)])) rfl rfl (hb hby d1_79)
  have S171 : own_Go p e below s₁ G U170 (mkF m 80 #[.val (.ref a), .val (.int (4 : Int32)), .val (.int (32 : Int32)), .val (.int (0 : Int32))] []) := fun tg_ kk_ => S169 tg_ (su170 tg_ kk_)
  have f172 : Arv Z u170 bp98 kp98 .int (4 : Int32) [(.int (0 : Int32))] (.int 0) := own_push f160 rfl W170 rfl
  have f173 := Fr.snoc Y170 f146 (by omega)
  have f174 := f147.wr W170
  have f175 : n0 ≤ u170.size := by rw [W170.size]; exact f148
  have f176 := f149.other W170 (Or.inl (own_nelt (by omega)))
  have f177 := f150.other W170 (Or.inl (own_nelt (by omega)))
  have f178 := f151.other W170 (Or.inl (own_nelt (by omega)))
  have f179 := f152.other W170 (Or.inl (own_nelt (by omega)))
  have f180 := f153.other W170 (Or.inl (own_nelt (by omega)))
  have f181 := f154.other W170 (Or.inl (own_nelt (by omega)))
  have f182 := f155.other W170 (Or.inl (own_nelt (by omega)))
  have f183 := f156.other W170 (Or.inl (own_nelt (by omega)))
  have f184 := f157.other W170 (Or.inl (own_nelt (by omega)))
  have f185 := f158.other W170 (Or.inl (own_nelt (by omega)))
  have f186 := f159.other W170 (Or.inl (own_nelt (by omega)))
  have f187 := f145.other W170 (own_nelt (by omega))
  have f188 := Keep.wr f161 W170 (Or.inr (by omega))
  have S189 : own_Go p e below s₁ G U170 (mkF m 83 #[.val (.ref a), .val (.int (4 : Int32)), .val (.int (32 : Int32)), .val (.int ((0 : Int32) + (1 : Int32)))] []) := fun tg_ kk_ => S171 tg_ (by
    refine XS.iinc Y170.here hx rfl (hb hby d1_80) rfl (l' := #[.val (.ref a), .val (.int (4 : Int32)), .val (.int (32 : Int32)), .val (.int ((0 : Int32) + (1 : Int32)))]) rfl ?_
    exact kk_)
  rw [show ((0 : Int32) + (1 : Int32)) = (1 : Int32) from by decide +kernel] at S189
  have S190 : own_Go p e below s₁ G U170 (mkF m 58 #[.val (.ref a), .val (.int (4 : Int32)), .val (.int (32 : Int32)), .val (.int (1 : Int32))] [(.ref a)]) := fun tg_ kk_ => S189 tg_ (by
    refine XS.goto Y170.here hx rfl (pc0 := 83) (pc' := 52) rfl (hb hby d1_83) (by decide) (by decide) ?_
    show Steps p.tables e below (U170.setTop (mkF m 52 #[.val (.ref a), .val (.int (4 : Int32)), .val (.int (32 : Int32)), .val (.int (1 : Int32))] [])) _
    refine XS.iloadN Y170.here hx rfl (hb hby d1_52) rfl ?_
    show Steps p.tables e below (U170.setTop (mkF m 53 #[.val (.ref a), .val (.int (4 : Int32)), .val (.int (32 : Int32)), .val (.int (1 : Int32))] [(.int (1 : Int32))])) _
    refine XS.iloadN Y170.here hx rfl (hb hby d1_53) rfl ?_
    show Steps p.tables e below (U170.setTop (mkF m 54 #[.val (.ref a), .val (.int (4 : Int32)), .val (.int (32 : Int32)), .val (.int (1 : Int32))] [(.int (4 : Int32)), (.int (1 : Int32))])) _
    refine XS.icmpNo Y170.here hx rfl (hb hby d1_54) rfl (XT.ii_ge_f (by decide)) ?_
    show Steps p.tables e below (U170.setTop (mkF m 57 #[.val (.ref a), .val (.int (4 : Int32)), .val (.int (32 : Int32)), .val (.int (1 : Int32))] [])) _
    refine XS.aloadN Y170.here hx rfl (hb hby d1_57) rfl rfl ?_
    exact kk_)
  obtain ⟨T191, X191, e191, st191⟩ := getF Y170 hx hZ hown (host := "") (Or.inl (hw _ (List.mem_of_getElem? (i := 19) rfl))) Via.refl f170x f178 (g := (mkF m 58 #[.val (.ref a), .val (.int (4 : Int32)), .val (.int (32 : Int32)), .val (.int (1 : Int32))] [(.ref a)])) rfl rfl (hb hby d1_58)
  have S192 : own_Go p e below s₁ G T191 (mkF m 61 #[.val (.ref a), .val (.int (4 : Int32)), .val (.int (32 : Int32)), .val (.int (1 : Int32))] [(.ref bp59)]) := fun tg_ kk_ => S190 tg_ (st191 tg_ kk_)
  have S193 : own_Go p e below s₁ G T191 (mkF m 65 #[.val (.ref a), .val (.int (4 : Int32)), .val (.int (32 : Int32)), .val (.int (1 : Int32))] [(.int ((1 : Int32) / (32 : Int32))), (.int (1 : Int32)), (.ref bp59)]) := fun tg_ kk_ => S192 tg_ (by
    refine XS.iloadN X191.here hx rfl (hb hby d1_61) rfl ?_
    show Steps p.tables e below (T191.setTop (mkF m 62 #[.val (.ref a), .val (.int (4 : Int32)), .val (.int (32 : Int32)), .val (.int (1 : Int32))] [(.int (1 : Int32)), (.ref bp59)])) _
    refine XS.iloadN X191.here hx rfl (hb hby d1_62) rfl ?_
    show Steps p.tables e below (T191.setTop (mkF m 63 #[.val (.ref a), .val (.int (4 : Int32)), .val (.int (32 : Int32)), .val (.int (1 : Int32))] [(.int (1 : Int32)), (.int (1 : Int32)), (.ref bp59)])) _
    refine XS.iloadN X191.here hx rfl (hb hby d1_63) rfl ?_
    show Steps p.tables e below (T191.setTop (mkF m 64 #[.val (.ref a), .val (.int (4 : Int32)), .val (.int (32 : Int32)), .val (.int (1 : Int32))] [(.int (32 : Int32)), (.int (1 : Int32)), (.int (1 : Int32)), (.ref bp59)])) _
    refine XS.idiv X191.here hx rfl (hb hby d1_64) rfl (by decide) ?_
    exact kk_)
  rw [show ((1 : Int32) / (32 : Int32)) = (0 : Int32) from by decide +kernel] at S193
  obtain ⟨cl194, B194, b194, z194, y194, H194, F194⟩ := id f187
  obtain ⟨U194, u194, Y194, f194x, W194, su194⟩ := stI X191 hx hZ e191 B194 (j := (1 : Int32)) (inb_of z194 (by decide)) (g := (mkF m 65 #[.val (.ref a), .val (.int (4 : Int32)), .val (.int (32 : Int32)), .val (.int (1 : Int32))] [(.int (0 : Int32)), (.int (1 : Int32)), (.ref bp59)])) rfl rfl (hb hby d1_65)
  have S195 : own_Go p e below s₁ G U194 (mkF m 66 #[.val (.ref a), .val (.int (4 : Int32)), .val (.int (32 : Int32)), .val (.int (1 : Int32))] []) := fun tg_ kk_ => S193 tg_ (su194 tg_ kk_)
  have f196 : Arv Z u194 bp59 kp59 .int (4 : Int32) [(.int (0 : Int32)), (.int (0 : Int32))] (.int 0) := own_push f187 rfl W194 rfl
  have f197 := Fr.snoc Y194 f173 (by omega)
  have f198 := f174.wr W194
  have f199 : n0 ≤ u194.size := by rw [W194.size]; exact f175
  have f200 := f176.other W194 (Or.inl (own_nelt (by omega)))
  have f201 := f177.other W194 (Or.inl (own_nelt (by omega)))
  have f202 := f178.other W194 (Or.inl (own_nelt (by omega)))
  have f203 := f179.other W194 (Or.inl (own_nelt (by omega)))
  have f204 := f180.other W194 (Or.inl (own_nelt (by omega)))
  have f205 := f181.other W194 (Or.inl (own_nelt (by omega)))
  have f206 := f182.other W194 (Or.inl (own_nelt (by omega)))
  have f207 := f183.other W194 (Or.inl (own_nelt (by omega)))
  have f208 := f184.other W194 (Or.inl (own_nelt (by omega)))
  have f209 := f185.other W194 (Or.inl (own_nelt (by omega)))
  have f210 := f186.other W194 (Or.inl (own_nelt (by omega)))
  have f211 := f172.other W194 (own_negt (by omega))
  have f212 := Keep.wr f188 W194 (Or.inr (by omega))
  have S213 : own_Go p e below s₁ G U194 (mkF m 67 #[.val (.ref a), .val (.int (4 : Int32)), .val (.int (32 : Int32)), .val (.int (1 : Int32))] [(.ref a)]) := fun tg_ kk_ => S195 tg_ (by
    refine XS.aloadN Y194.here hx rfl (hb hby d1_66) rfl rfl ?_
    exact kk_)
  obtain ⟨T214, X214, e214, st214⟩ := getF Y194 hx hZ hown (host := "") (Or.inl (hw _ (List.mem_of_getElem? (i := 21) rfl))) Via.refl f194x f203 (g := (mkF m 67 #[.val (.ref a), .val (.int (4 : Int32)), .val (.int (32 : Int32)), .val (.int (1 : Int32))] [(.ref a)])) rfl rfl (hb hby d1_67)
  have S215 : own_Go p e below s₁ G T214 (mkF m 70 #[.val (.ref a), .val (.int (4 : Int32)), .val (.int (32 : Int32)), .val (.int (1 : Int32))] [(.ref bp98)]) := fun tg_ kk_ => S213 tg_ (st214 tg_ kk_)
  have S216 : own_Go p e below s₁ G T214 (mkF m 74 #[.val (.ref a), .val (.int (4 : Int32)), .val (.int (32 : Int32)), .val (.int (1 : Int32))] [(.int ((1 : Int32) - ((1 : Int32) / (32 : Int32)) * (32 : Int32))), (.int (1 : Int32)), (.ref bp98)]) := fun tg_ kk_ => S215 tg_ (by
    refine XS.iloadN X214.here hx rfl (hb hby d1_70) rfl ?_
    show Steps p.tables e below (T214.setTop (mkF m 71 #[.val (.ref a), .val (.int (4 : Int32)), .val (.int (32 : Int32)), .val (.int (1 : Int32))] [(.int (1 : Int32)), (.ref bp98)])) _
    refine XS.iloadN X214.here hx rfl (hb hby d1_71) rfl ?_
    show Steps p.tables e below (T214.setTop (mkF m 72 #[.val (.ref a), .val (.int (4 : Int32)), .val (.int (32 : Int32)), .val (.int (1 : Int32))] [(.int (1 : Int32)), (.int (1 : Int32)), (.ref bp98)])) _
    refine XS.iloadN X214.here hx rfl (hb hby d1_72) rfl ?_
    show Steps p.tables e below (T214.setTop (mkF m 73 #[.val (.ref a), .val (.int (4 : Int32)), .val (.int (32 : Int32)), .val (.int (1 : Int32))] [(.int (32 : Int32)), (.int (1 : Int32)), (.int (1 : Int32)), (.ref bp98)])) _
    refine XS.irem X214.here hx rfl (hb hby d1_73) rfl (by decide) ?_
    exact kk_)
  rw [show ((1 : Int32) - ((1 : Int32) / (32 : Int32)) * (32 : Int32)) = (1 : Int32) from by decide +kernel] at S216
  have S217 : own_Go p e below s₁ G T214 (mkF m 75 #[.val (.ref a), .val (.int (4 : Int32)), .val (.int (32 : Int32)), .val (.int (1 : Int32))] [(.ref a), (.int (1 : Int32)), (.int (1 : Int32)), (.ref bp98)]) := fun tg_ kk_ => S216 tg_ (by
    refine XS.aloadN X214.here hx rfl (hb hby d1_74) rfl rfl ?_
    exact kk_)
  obtain ⟨T218, X218, e218, st218⟩ := getF X214 hx hZ hown (host := "") (Or.inl (hw _ (List.mem_of_getElem? (i := 14) rfl))) Via.refl e214 f200 (g := (mkF m 75 #[.val (.ref a), .val (.int (4 : Int32)), .val (.int (32 : Int32)), .val (.int (1 : Int32))] [(.ref a), (.int (1 : Int32)), (.int (1 : Int32)), (.ref bp98)])) rfl rfl (hb hby d1_75)
  have S219 : own_Go p e below s₁ G T218 (mkF m 78 #[.val (.ref a), .val (.int (4 : Int32)), .val (.int (32 : Int32)), .val (.int (1 : Int32))] [(.int (2 : Int32)), (.int (1 : Int32)), (.int (1 : Int32)), (.ref bp98)]) := fun tg_ kk_ => S217 tg_ (st218 tg_ kk_)
  have S220 : own_Go p e below s₁ G T218 (mkF m 79 #[.val (.ref a), .val (.int (4 : Int32)), .val (.int (32 : Int32)), .val (.int (1 : Int32))] [(.int ((1 : Int32) * (2 : Int32))), (.int (1 : Int32)), (.ref bp98)]) := fun tg_ kk_ => S219 tg_ (by
    refine XS.imul X218.here hx rfl (hb hby d1_78) rfl ?_
    exact kk_)
  rw [show ((1 : Int32) * (2 : Int32)) = (2 : Int32) from by decide +kernel] at S220
  obtain ⟨cl221, B221, b221, z221, y221, H221, F221⟩ := id f211
  obtain ⟨U221, u221, Y221, f221x, W221, su221⟩ := stI X218 hx hZ e218 B221 (j := (1 : Int32)) (inb_of z221 (by decide)) (g := (mkF m 79 #[.val (.ref a), .val (.int (4 : Int32)), .val (.int (32 : Int32)), .val (.int (1 : Int32))] [(.int (2 : Int32)), (.int (1 : Int32)), (.ref bp98)])) rfl rfl (hb hby d1_79)
  have S222 : own_Go p e below s₁ G U221 (mkF m 80 #[.val (.ref a), .val (.int (4 : Int32)), .val (.int (32 : Int32)), .val (.int (1 : Int32))] []) := fun tg_ kk_ => S220 tg_ (su221 tg_ kk_)
  have f223 : Arv Z u221 bp98 kp98 .int (4 : Int32) [(.int (0 : Int32)), (.int (2 : Int32))] (.int 0) := own_push f211 rfl W221 rfl
  have f224 := Fr.snoc Y221 f197 (by omega)
  have f225 := f198.wr W221
  have f226 : n0 ≤ u221.size := by rw [W221.size]; exact f199
  have f227 := f200.other W221 (Or.inl (own_nelt (by omega)))
  have f228 := f201.other W221 (Or.inl (own_nelt (by omega)))
  have f229 := f202.other W221 (Or.inl (own_nelt (by omega)))
  have f230 := f203.other W221 (Or.inl (own_nelt (by omega)))
  have f231 := f204.other W221 (Or.inl (own_nelt (by omega)))
  have f232 := f205.other W221 (Or.inl (own_nelt (by omega)))
  have f233 := f206.other W221 (Or.inl (own_nelt (by omega)))
  have f234 := f207.other W221 (Or.inl (own_nelt (by omega)))
  have f235 := f208.other W221 (Or.inl (own_nelt (by omega)))
  have f236 := f209.other W221 (Or.inl (own_nelt (by omega)))
  have f237 := f210.other W221 (Or.inl (own_nelt (by omega)))
  have f238 := f196.other W221 (own_nelt (by omega))
  have f239 := Keep.wr f212 W221 (Or.inr (by omega))
  have S240 : own_Go p e below s₁ G U221 (mkF m 83 #[.val (.ref a), .val (.int (4 : Int32)), .val (.int (32 : Int32)), .val (.int ((1 : Int32) + (1 : Int32)))] []) := fun tg_ kk_ => S222 tg_ (by
    refine XS.iinc Y221.here hx rfl (hb hby d1_80) rfl (l' := #[.val (.ref a), .val (.int (4 : Int32)), .val (.int (32 : Int32)), .val (.int ((1 : Int32) + (1 : Int32)))]) rfl ?_
    exact kk_)
  rw [show ((1 : Int32) + (1 : Int32)) = (2 : Int32) from by decide +kernel] at S240
  have S241 : own_Go p e below s₁ G U221 (mkF m 58 #[.val (.ref a), .val (.int (4 : Int32)), .val (.int (32 : Int32)), .val (.int (2 : Int32))] [(.ref a)]) := fun tg_ kk_ => S240 tg_ (by
    refine XS.goto Y221.here hx rfl (pc0 := 83) (pc' := 52) rfl (hb hby d1_83) (by decide) (by decide) ?_
    show Steps p.tables e below (U221.setTop (mkF m 52 #[.val (.ref a), .val (.int (4 : Int32)), .val (.int (32 : Int32)), .val (.int (2 : Int32))] [])) _
    refine XS.iloadN Y221.here hx rfl (hb hby d1_52) rfl ?_
    show Steps p.tables e below (U221.setTop (mkF m 53 #[.val (.ref a), .val (.int (4 : Int32)), .val (.int (32 : Int32)), .val (.int (2 : Int32))] [(.int (2 : Int32))])) _
    refine XS.iloadN Y221.here hx rfl (hb hby d1_53) rfl ?_
    show Steps p.tables e below (U221.setTop (mkF m 54 #[.val (.ref a), .val (.int (4 : Int32)), .val (.int (32 : Int32)), .val (.int (2 : Int32))] [(.int (4 : Int32)), (.int (2 : Int32))])) _
    refine XS.icmpNo Y221.here hx rfl (hb hby d1_54) rfl (XT.ii_ge_f (by decide)) ?_
    show Steps p.tables e below (U221.setTop (mkF m 57 #[.val (.ref a), .val (.int (4 : Int32)), .val (.int (32 : Int32)), .val (.int (2 : Int32))] [])) _
    refine XS.aloadN Y221.here hx rfl (hb hby d1_57) rfl rfl ?_
    exact kk_)
  obtain ⟨T242, X242, e242, st242⟩ := getF Y221 hx hZ hown (host := "") (Or.inl (hw _ (List.mem_of_getElem? (i := 19) rfl))) Via.refl f221x f229 (g := (mkF m 58 #[.val (.ref a), .val (.int (4 : Int32)), .val (.int (32 : Int32)), .val (.int (2 : Int32))] [(.ref a)])) rfl rfl (hb hby d1_58)
  have S243 : own_Go p e below s₁ G T242 (mkF m 61 #[.val (.ref a), .val (.int (4 : Int32)), .val (.int (32 : Int32)), .val (.int (2 : Int32))] [(.ref bp59)]) := fun tg_ kk_ => S241 tg_ (st242 tg_ kk_)
  have S244 : own_Go p e below s₁ G T242 (mkF m 65 #[.val (.ref a), .val (.int (4 : Int32)), .val (.int (32 : Int32)), .val (.int (2 : Int32))] [(.int ((2 : Int32) / (32 : Int32))), (.int (2 : Int32)), (.ref bp59)]) := fun tg_ kk_ => S243 tg_ (by
    refine XS.iloadN X242.here hx rfl (hb hby d1_61) rfl ?_
    show Steps p.tables e below (T242.setTop (mkF m 62 #[.val (.ref a), .val (.int (4 : Int32)), .val (.int (32 : Int32)), .val (.int (2 : Int32))] [(.int (2 : Int32)), (.ref bp59)])) _
    refine XS.iloadN X242.here hx rfl (hb hby d1_62) rfl ?_
    show Steps p.tables e below (T242.setTop (mkF m 63 #[.val (.ref a), .val (.int (4 : Int32)), .val (.int (32 : Int32)), .val (.int (2 : Int32))] [(.int (2 : Int32)), (.int (2 : Int32)), (.ref bp59)])) _
    refine XS.iloadN X242.here hx rfl (hb hby d1_63) rfl ?_
    show Steps p.tables e below (T242.setTop (mkF m 64 #[.val (.ref a), .val (.int (4 : Int32)), .val (.int (32 : Int32)), .val (.int (2 : Int32))] [(.int (32 : Int32)), (.int (2 : Int32)), (.int (2 : Int32)), (.ref bp59)])) _
    refine XS.idiv X242.here hx rfl (hb hby d1_64) rfl (by decide) ?_
    exact kk_)
  rw [show ((2 : Int32) / (32 : Int32)) = (0 : Int32) from by decide +kernel] at S244
  obtain ⟨cl245, B245, b245, z245, y245, H245, F245⟩ := id f238
  obtain ⟨U245, u245, Y245, f245x, W245, su245⟩ := stI X242 hx hZ e242 B245 (j := (2 : Int32)) (inb_of z245 (by decide)) (g := (mkF m 65 #[.val (.ref a), .val (.int (4 : Int32)), .val (.int (32 : Int32)), .val (.int (2 : Int32))] [(.int (0 : Int32)), (.int (2 : Int32)), (.ref bp59)])) rfl rfl (hb hby d1_65)
  have S246 : own_Go p e below s₁ G U245 (mkF m 66 #[.val (.ref a), .val (.int (4 : Int32)), .val (.int (32 : Int32)), .val (.int (2 : Int32))] []) := fun tg_ kk_ => S244 tg_ (su245 tg_ kk_)
  have f247 : Arv Z u245 bp59 kp59 .int (4 : Int32) [(.int (0 : Int32)), (.int (0 : Int32)), (.int (0 : Int32))] (.int 0) := own_push f238 rfl W245 rfl
  have f248 := Fr.snoc Y245 f224 (by omega)
  have f249 := f225.wr W245
  have f250 : n0 ≤ u245.size := by rw [W245.size]; exact f226
  have f251 := f227.other W245 (Or.inl (own_nelt (by omega)))
  have f252 := f228.other W245 (Or.inl (own_nelt (by omega)))
  have f253 := f229.other W245 (Or.inl (own_nelt (by omega)))
  have f254 := f230.other W245 (Or.inl (own_nelt (by omega)))
  have f255 := f231.other W245 (Or.inl (own_nelt (by omega)))
  have f256 := f232.other W245 (Or.inl (own_nelt (by omega)))
  have f257 := f233.other W245 (Or.inl (own_nelt (by omega)))
  have f258 := f234.other W245 (Or.inl (own_nelt (by omega)))
  have f259 := f235.other W245 (Or.inl (own_nelt (by omega)))
  have f260 := f236.other W245 (Or.inl (own_nelt (by omega)))
  have f261 := f237.other W245 (Or.inl (own_nelt (by omega)))
  have f262 := f223.other W245 (own_negt (by omega))
  have f263 := Keep.wr f239 W245 (Or.inr (by omega))
  have S264 : own_Go p e below s₁ G U245 (mkF m 67 #[.val (.ref a), .val (.int (4 : Int32)), .val (.int (32 : Int32)), .val (.int (2 : Int32))] [(.ref a)]) := fun tg_ kk_ => S246 tg_ (by
    refine XS.aloadN Y245.here hx rfl (hb hby d1_66) rfl rfl ?_
    exact kk_)
  obtain ⟨T265, X265, e265, st265⟩ := getF Y245 hx hZ hown (host := "") (Or.inl (hw _ (List.mem_of_getElem? (i := 21) rfl))) Via.refl f245x f254 (g := (mkF m 67 #[.val (.ref a), .val (.int (4 : Int32)), .val (.int (32 : Int32)), .val (.int (2 : Int32))] [(.ref a)])) rfl rfl (hb hby d1_67)
  have S266 : own_Go p e below s₁ G T265 (mkF m 70 #[.val (.ref a), .val (.int (4 : Int32)), .val (.int (32 : Int32)), .val (.int (2 : Int32))] [(.ref bp98)]) := fun tg_ kk_ => S264 tg_ (st265 tg_ kk_)
  have S267 : own_Go p e below s₁ G T265 (mkF m 74 #[.val (.ref a), .val (.int (4 : Int32)), .val (.int (32 : Int32)), .val (.int (2 : Int32))] [(.int ((2 : Int32) - ((2 : Int32) / (32 : Int32)) * (32 : Int32))), (.int (2 : Int32)), (.ref bp98)]) := fun tg_ kk_ => S266 tg_ (by
    refine XS.iloadN X265.here hx rfl (hb hby d1_70) rfl ?_
    show Steps p.tables e below (T265.setTop (mkF m 71 #[.val (.ref a), .val (.int (4 : Int32)), .val (.int (32 : Int32)), .val (.int (2 : Int32))] [(.int (2 : Int32)), (.ref bp98)])) _
    refine XS.iloadN X265.here hx rfl (hb hby d1_71) rfl ?_
    show Steps p.tables e below (T265.setTop (mkF m 72 #[.val (.ref a), .val (.int (4 : Int32)), .val (.int (32 : Int32)), .val (.int (2 : Int32))] [(.int (2 : Int32)), (.int (2 : Int32)), (.ref bp98)])) _
    refine XS.iloadN X265.here hx rfl (hb hby d1_72) rfl ?_
    show Steps p.tables e below (T265.setTop (mkF m 73 #[.val (.ref a), .val (.int (4 : Int32)), .val (.int (32 : Int32)), .val (.int (2 : Int32))] [(.int (32 : Int32)), (.int (2 : Int32)), (.int (2 : Int32)), (.ref bp98)])) _
    refine XS.irem X265.here hx rfl (hb hby d1_73) rfl (by decide) ?_
    exact kk_)
  rw [show ((2 : Int32) - ((2 : Int32) / (32 : Int32)) * (32 : Int32)) = (2 : Int32) from by decide +kernel] at S267
  have S268 : own_Go p e below s₁ G T265 (mkF m 75 #[.val (.ref a), .val (.int (4 : Int32)), .val (.int (32 : Int32)), .val (.int (2 : Int32))] [(.ref a), (.int (2 : Int32)), (.int (2 : Int32)), (.ref bp98)]) := fun tg_ kk_ => S267 tg_ (by
    refine XS.aloadN X265.here hx rfl (hb hby d1_74) rfl rfl ?_
    exact kk_)
  obtain ⟨T269, X269, e269, st269⟩ := getF X265 hx hZ hown (host := "") (Or.inl (hw _ (List.mem_of_getElem? (i := 14) rfl))) Via.refl e265 f251 (g := (mkF m 75 #[.val (.ref a), .val (.int (4 : Int32)), .val (.int (32 : Int32)), .val (.int (2 : Int32))] [(.ref a), (.int (2 : Int32)), (.int (2 : Int32)), (.ref bp98)])) rfl rfl (hb hby d1_75)
  have S270 : own_Go p e below s₁ G T269 (mkF m 78 #[.val (.ref a), .val (.int (4 : Int32)), .val (.int (32 : Int32)), .val (.int (2 : Int32))] [(.int (2 : Int32)), (.int (2 : Int32)), (.int (2 : Int32)), (.ref bp98)]) := fun tg_ kk_ => S268 tg_ (st269 tg_ kk_)
  have S271 : own_Go p e below s₁ G T269 (mkF m 79 #[.val (.ref a), .val (.int (4 : Int32)), .val (.int (32 : Int32)), .val (.int (2 : Int32))] [(.int ((2 : Int32) * (2 : Int32))), (.int (2 : Int32)), (.ref bp98)]) := fun tg_ kk_ => S270 tg_ (by
    refine XS.imul X269.here hx rfl (hb hby d1_78) rfl ?_
    exact kk_)
  rw [show ((2 : Int32) * (2 : Int32)) = (4 : Int32) from by decide +kernel] at S271
  obtain ⟨cl272, B272, b272, z272, y272, H272, F272⟩ := id f262
  obtain ⟨U272, u272, Y272, f272x, W272, su272⟩ := stI X269 hx hZ e269 B272 (j := (2 : Int32)) (inb_of z272 (by decide)) (g := (mkF m 79 #[.val (.ref a), .val (.int (4 : Int32)), .val (.int (32 : Int32)), .val (.int (2 : Int32))] [(.int (4 : Int32)), (.int (2 : Int32)), (.ref bp98)])) rfl rfl (hb hby d1_79)
  have S273 : own_Go p e below s₁ G U272 (mkF m 80 #[.val (.ref a), .val (.int (4 : Int32)), .val (.int (32 : Int32)), .val (.int (2 : Int32))] []) := fun tg_ kk_ => S271 tg_ (su272 tg_ kk_)
  have f274 : Arv Z u272 bp98 kp98 .int (4 : Int32) [(.int (0 : Int32)), (.int (2 : Int32)), (.int (4 : Int32))] (.int 0) := own_push f262 rfl W272 rfl
  have f275 := Fr.snoc Y272 f248 (by omega)
  have f276 := f249.wr W272
  have f277 : n0 ≤ u272.size := by rw [W272.size]; exact f250
  have f278 := f251.other W272 (Or.inl (own_nelt (by omega)))
  have f279 := f252.other W272 (Or.inl (own_nelt (by omega)))
  have f280 := f253.other W272 (Or.inl (own_nelt (by omega)))
  have f281 := f254.other W272 (Or.inl (own_nelt (by omega)))
  have f282 := f255.other W272 (Or.inl (own_nelt (by omega)))
  have f283 := f256.other W272 (Or.inl (own_nelt (by omega)))
  have f284 := f257.other W272 (Or.inl (own_nelt (by omega)))
  have f285 := f258.other W272 (Or.inl (own_nelt (by omega)))
  have f286 := f259.other W272 (Or.inl (own_nelt (by omega)))
  have f287 := f260.other W272 (Or.inl (own_nelt (by omega)))
  have f288 := f261.other W272 (Or.inl (own_nelt (by omega)))
  have f289 := f247.other W272 (own_nelt (by omega))
  have f290 := Keep.wr f263 W272 (Or.inr (by omega))
  have S291 : own_Go p e below s₁ G U272 (mkF m 83 #[.val (.ref a), .val (.int (4 : Int32)), .val (.int (32 : Int32)), .val (.int ((2 : Int32) + (1 : Int32)))] []) := fun tg_ kk_ => S273 tg_ (by
    refine XS.iinc Y272.here hx rfl (hb hby d1_80) rfl (l' := #[.val (.ref a), .val (.int (4 : Int32)), .val (.int (32 : Int32)), .val (.int ((2 : Int32) + (1 : Int32)))]) rfl ?_
    exact kk_)
  rw [show ((2 : Int32) + (1 : Int32)) = (3 : Int32) from by decide +kernel] at S291
  have S292 : own_Go p e below s₁ G U272 (mkF m 58 #[.val (.ref a), .val (.int (4 : Int32)), .val (.int (32 : Int32)), .val (.int (3 : Int32))] [(.ref a)]) := fun tg_ kk_ => S291 tg_ (by
    refine XS.goto Y272.here hx rfl (pc0 := 83) (pc' := 52) rfl (hb hby d1_83) (by decide) (by decide) ?_
    show Steps p.tables e below (U272.setTop (mkF m 52 #[.val (.ref a), .val (.int (4 : Int32)), .val (.int (32 : Int32)), .val (.int (3 : Int32))] [])) _
    refine XS.iloadN Y272.here hx rfl (hb hby d1_52) rfl ?_
    show Steps p.tables e below (U272.setTop (mkF m 53 #[.val (.ref a), .val (.int (4 : Int32)), .val (.int (32 : Int32)), .val (.int (3 : Int32))] [(.int (3 : Int32))])) _
    refine XS.iloadN Y272.here hx rfl (hb hby d1_53) rfl ?_
    show Steps p.tables e below (U272.setTop (mkF m 54 #[.val (.ref a), .val (.int (4 : Int32)), .val (.int (32 : Int32)), .val (.int (3 : Int32))] [(.int (4 : Int32)), (.int (3 : Int32))])) _
    refine XS.icmpNo Y272.here hx rfl (hb hby d1_54) rfl (XT.ii_ge_f (by decide)) ?_
    show Steps p.tables e below (U272.setTop (mkF m 57 #[.val (.ref a), .val (.int (4 : Int32)), .val (.int (32 : Int32)), .val (.int (3 : Int32))] [])) _
    refine XS.aloadN Y272.here hx rfl (hb hby d1_57) rfl rfl ?_
    exact kk_)
  obtain ⟨T293, X293, e293, st293⟩ := getF Y272 hx hZ hown (host := "") (Or.inl (hw _ (List.mem_of_getElem? (i := 19) rfl))) Via.refl f272x f280 (g := (mkF m 58 #[.val (.ref a), .val (.int (4 : Int32)), .val (.int (32 : Int32)), .val (.int (3 : Int32))] [(.ref a)])) rfl rfl (hb hby d1_58)
  have S294 : own_Go p e below s₁ G T293 (mkF m 61 #[.val (.ref a), .val (.int (4 : Int32)), .val (.int (32 : Int32)), .val (.int (3 : Int32))] [(.ref bp59)]) := fun tg_ kk_ => S292 tg_ (st293 tg_ kk_)
  have S295 : own_Go p e below s₁ G T293 (mkF m 65 #[.val (.ref a), .val (.int (4 : Int32)), .val (.int (32 : Int32)), .val (.int (3 : Int32))] [(.int ((3 : Int32) / (32 : Int32))), (.int (3 : Int32)), (.ref bp59)]) := fun tg_ kk_ => S294 tg_ (by
    refine XS.iloadN X293.here hx rfl (hb hby d1_61) rfl ?_
    show Steps p.tables e below (T293.setTop (mkF m 62 #[.val (.ref a), .val (.int (4 : Int32)), .val (.int (32 : Int32)), .val (.int (3 : Int32))] [(.int (3 : Int32)), (.ref bp59)])) _
    refine XS.iloadN X293.here hx rfl (hb hby d1_62) rfl ?_
    show Steps p.tables e below (T293.setTop (mkF m 63 #[.val (.ref a), .val (.int (4 : Int32)), .val (.int (32 : Int32)), .val (.int (3 : Int32))] [(.int (3 : Int32)), (.int (3 : Int32)), (.ref bp59)])) _
    refine XS.iloadN X293.here hx rfl (hb hby d1_63) rfl ?_
    show Steps p.tables e below (T293.setTop (mkF m 64 #[.val (.ref a), .val (.int (4 : Int32)), .val (.int (32 : Int32)), .val (.int (3 : Int32))] [(.int (32 : Int32)), (.int (3 : Int32)), (.int (3 : Int32)), (.ref bp59)])) _
    refine XS.idiv X293.here hx rfl (hb hby d1_64) rfl (by decide) ?_
    exact kk_)
  rw [show ((3 : Int32) / (32 : Int32)) = (0 : Int32) from by decide +kernel] at S295
  obtain ⟨cl296, B296, b296, z296, y296, H296, F296⟩ := id f289
  obtain ⟨U296, u296, Y296, f296x, W296, su296⟩ := stI X293 hx hZ e293 B296 (j := (3 : Int32)) (inb_of z296 (by decide)) (g := (mkF m 65 #[.val (.ref a), .val (.int (4 : Int32)), .val (.int (32 : Int32)), .val (.int (3 : Int32))] [(.int (0 : Int32)), (.int (3 : Int32)), (.ref bp59)])) rfl rfl (hb hby d1_65)
  have S297 : own_Go p e below s₁ G U296 (mkF m 66 #[.val (.ref a), .val (.int (4 : Int32)), .val (.int (32 : Int32)), .val (.int (3 : Int32))] []) := fun tg_ kk_ => S295 tg_ (su296 tg_ kk_)
  have f298 : Arv Z u296 bp59 kp59 .int (4 : Int32) [(.int (0 : Int32)), (.int (0 : Int32)), (.int (0 : Int32)), (.int (0 : Int32))] (.int 0) := own_push f289 rfl W296 rfl
  have f299 := Fr.snoc Y296 f275 (by omega)
  have f300 := f276.wr W296
  have f301 : n0 ≤ u296.size := by rw [W296.size]; exact f277
  have f302 := f278.other W296 (Or.inl (own_nelt (by omega)))
  have f303 := f279.other W296 (Or.inl (own_nelt (by omega)))
  have f304 := f280.other W296 (Or.inl (own_nelt (by omega)))
  have f305 := f281.other W296 (Or.inl (own_nelt (by omega)))
  have f306 := f282.other W296 (Or.inl (own_nelt (by omega)))
  have f307 := f283.other W296 (Or.inl (own_nelt (by omega)))
  have f308 := f284.other W296 (Or.inl (own_nelt (by omega)))
  have f309 := f285.other W296 (Or.inl (own_nelt (by omega)))
  have f310 := f286.other W296 (Or.inl (own_nelt (by omega)))
  have f311 := f287.other W296 (Or.inl (own_nelt (by omega)))
  have f312 := f288.other W296 (Or.inl (own_nelt (by omega)))
  have f313 := f274.other W296 (own_negt (by omega))
  have f314 := Keep.wr f290 W296 (Or.inr (by omega))
  have S315 : own_Go p e below s₁ G U296 (mkF m 67 #[.val (.ref a), .val (.int (4 : Int32)), .val (.int (32 : Int32)), .val (.int (3 : Int32))] [(.ref a)]) := fun tg_ kk_ => S297 tg_ (by
    refine XS.aloadN Y296.here hx rfl (hb hby d1_66) rfl rfl ?_
    exact kk_)
  obtain ⟨T316, X316, e316, st316⟩ := getF Y296 hx hZ hown (host := "") (Or.inl (hw _ (List.mem_of_getElem? (i := 21) rfl))) Via.refl f296x f305 (g := (mkF m 67 #[.val (.ref a), .val (.int (4 : Int32)), .val (.int (32 : Int32)), .val (.int (3 : Int32))] [(.ref a)])) rfl rfl (hb hby d1_67)
  have S317 : own_Go p e below s₁ G T316 (mkF m 70 #[.val (.ref a), .val (.int (4 : Int32)), .val (.int (32 : Int32)), .val (.int (3 : Int32))] [(.ref bp98)]) := fun tg_ kk_ => S315 tg_ (st316 tg_ kk_)
  have S318 : own_Go p e below s₁ G T316 (mkF m 74 #[.val (.ref a), .val (.int (4 : Int32)), .val (.int (32 : Int32)), .val (.int (3 : Int32))] [(.int ((3 : Int32) - ((3 : Int32) / (32 : Int32)) * (32 : Int32))), (.int (3 : Int32)), (.ref bp98)]) := fun tg_ kk_ => S317 tg_ (by
    refine XS.iloadN X316.here hx rfl (hb hby d1_70) rfl ?_
    show Steps p.tables e below (T316.setTop (mkF m 71 #[.val (.ref a), .val (.int (4 : Int32)), .val (.int (32 : Int32)), .val (.int (3 : Int32))] [(.int (3 : Int32)), (.ref bp98)])) _
    refine XS.iloadN X316.here hx rfl (hb hby d1_71) rfl ?_
    show Steps p.tables e below (T316.setTop (mkF m 72 #[.val (.ref a), .val (.int (4 : Int32)), .val (.int (32 : Int32)), .val (.int (3 : Int32))] [(.int (3 : Int32)), (.int (3 : Int32)), (.ref bp98)])) _
    refine XS.iloadN X316.here hx rfl (hb hby d1_72) rfl ?_
    show Steps p.tables e below (T316.setTop (mkF m 73 #[.val (.ref a), .val (.int (4 : Int32)), .val (.int (32 : Int32)), .val (.int (3 : Int32))] [(.int (32 : Int32)), (.int (3 : Int32)), (.int (3 : Int32)), (.ref bp98)])) _
    refine XS.irem X316.here hx rfl (hb hby d1_73) rfl (by decide) ?_
    exact kk_)
  rw [show ((3 : Int32) - ((3 : Int32) / (32 : Int32)) * (32 : Int32)) = (3 : Int32) from by decide +kernel] at S318
  have S319 : own_Go p e below s₁ G T316 (mkF m 75 #[.val (.ref a), .val (.int (4 : Int32)), .val (.int (32 : Int32)), .val (.int (3 : Int32))] [(.ref a), (.int (3 : Int32)), (.int (3 : Int32)), (.ref bp98)]) := fun tg_ kk_ => S318 tg_ (by
    refine XS.aloadN X316.here hx rfl (hb hby d1_74) rfl rfl ?_
    exact kk_)
  obtain ⟨T320, X320, e320, st320⟩ := getF X316 hx hZ hown (host := "") (Or.inl (hw _ (List.mem_of_getElem? (i := 14) rfl))) Via.refl e316 f302 (g := (mkF m 75 #[.val (.ref a), .val (.int (4 : Int32)), .val (.int (32 : Int32)), .val (.int (3 : Int32))] [(.ref a), (.int (3 : Int32)), (.int (3 : Int32)), (.ref bp98)])) rfl rfl (hb hby d1_75)
  have S321 : own_Go p e below s₁ G T320 (mkF m 78 #[.val (.ref a), .val (.int (4 : Int32)), .val (.int (32 : Int32)), .val (.int (3 : Int32))] [(.int (2 : Int32)), (.int (3 : Int32)), (.int (3 : Int32)), (.ref bp98)]) := fun tg_ kk_ => S319 tg_ (st320 tg_ kk_)
  have S322 : own_Go p e below s₁ G T320 (mkF m 79 #[.val (.ref a), .val (.int (4 : Int32)), .val (.int (32 : Int32)), .val (.int (3 : Int32))] [(.int ((3 : Int32) * (2 : Int32))), (.int (3 : Int32)), (.ref bp98)]) := fun tg_ kk_ => S321 tg_ (by
    refine XS.imul X320.here hx rfl (hb hby d1_78) rfl ?_
    exact kk_)
  rw [show ((3 : Int32) * (2 : Int32)) = (6 : Int32) from by decide +kernel] at S322
  obtain ⟨cl323, B323, b323, z323, y323, H323, F323⟩ := id f313
  obtain ⟨U323, u323, Y323, f323x, W323, su323⟩ := stI X320 hx hZ e320 B323 (j := (3 : Int32)) (inb_of z323 (by decide)) (g := (mkF m 79 #[.val (.ref a), .val (.int (4 : Int32)), .val (.int (32 : Int32)), .val (.int (3 : Int32))] [(.int (6 : Int32)), (.int (3 : Int32)), (.ref bp98)])) rfl rfl (hb hby d1_79)
  have S324 : own_Go p e below s₁ G U323 (mkF m 80 #[.val (.ref a), .val (.int (4 : Int32)), .val (.int (32 : Int32)), .val (.int (3 : Int32))] []) := fun tg_ kk_ => S322 tg_ (su323 tg_ kk_)
  have f325 : Arv Z u323 bp98 kp98 .int (4 : Int32) [(.int (0 : Int32)), (.int (2 : Int32)), (.int (4 : Int32)), (.int (6 : Int32))] (.int 0) := own_push f313 rfl W323 rfl
  have f326 := Fr.snoc Y323 f299 (by omega)
  have f327 := f300.wr W323
  have f328 : n0 ≤ u323.size := by rw [W323.size]; exact f301
  have f329 := f302.other W323 (Or.inl (own_nelt (by omega)))
  have f330 := f303.other W323 (Or.inl (own_nelt (by omega)))
  have f331 := f304.other W323 (Or.inl (own_nelt (by omega)))
  have f332 := f305.other W323 (Or.inl (own_nelt (by omega)))
  have f333 := f306.other W323 (Or.inl (own_nelt (by omega)))
  have f334 := f307.other W323 (Or.inl (own_nelt (by omega)))
  have f335 := f308.other W323 (Or.inl (own_nelt (by omega)))
  have f336 := f309.other W323 (Or.inl (own_nelt (by omega)))
  have f337 := f310.other W323 (Or.inl (own_nelt (by omega)))
  have f338 := f311.other W323 (Or.inl (own_nelt (by omega)))
  have f339 := f312.other W323 (Or.inl (own_nelt (by omega)))
  have f340 := f298.other W323 (own_nelt (by omega))
  have f341 := Keep.wr f314 W323 (Or.inr (by omega))
  have S342 : own_Go p e below s₁ G U323 (mkF m 83 #[.val (.ref a), .val (.int (4 : Int32)), .val (.int (32 : Int32)), .val (.int ((3 : Int32) + (1 : Int32)))] []) := fun tg_ kk_ => S324 tg_ (by
    refine XS.iinc Y323.here hx rfl (hb hby d1_80) rfl (l' := #[.val (.ref a), .val (.int (4 : Int32)), .val (.int (32 : Int32)), .val (.int ((3 : Int32) + (1 : Int32)))]) rfl ?_
    exact kk_)
  rw [show ((3 : Int32) + (1 : Int32)) = (4 : Int32) from by decide +kernel] at S342
  have S343 : own_Go p e below s₁ G U323 (mkF m 88 #[.val (.ref a), .val (.int (4 : Int32)), .val (.int (32 : Int32)), .val (.int (4 : Int32))] [(.ref a), (.ref a)]) := fun tg_ kk_ => S342 tg_ (by
    refine XS.goto Y323.here hx rfl (pc0 := 83) (pc' := 52) rfl (hb hby d1_83) (by decide) (by decide) ?_
    show Steps p.tables e below (U323.setTop (mkF m 52 #[.val (.ref a), .val (.int (4 : Int32)), .val (.int (32 : Int32)), .val (.int (4 : Int32))] [])) _
    refine XS.iloadN Y323.here hx rfl (hb hby d1_52) rfl ?_
    show Steps p.tables e below (U323.setTop (mkF m 53 #[.val (.ref a), .val (.int (4 : Int32)), .val (.int (32 : Int32)), .val (.int (4 : Int32))] [(.int (4 : Int32))])) _
    refine XS.iloadN Y323.here hx rfl (hb hby d1_53) rfl ?_
    show Steps p.tables e below (U323.setTop (mkF m 54 #[.val (.ref a), .val (.int (4 : Int32)), .val (.int (32 : Int32)), .val (.int (4 : Int32))] [(.int (4 : Int32)), (.int (4 : Int32))])) _
    refine XS.icmpYes Y323.here hx rfl (pc0 := 54) (pc' := 86) rfl (hb hby d1_54) rfl (XT.ii_ge_t (by decide)) (by decide) (by decide) ?_
    show Steps p.tables e below (U323.setTop (mkF m 86 #[.val (.ref a), .val (.int (4 : Int32)), .val (.int (32 : Int32)), .val (.int (4 : Int32))] [])) _
    refine XS.aloadN Y323.here hx rfl (hb hby d1_86) rfl rfl ?_
    show Steps p.tables e below (U323.setTop (mkF m 87 #[.val (.ref a), .val (.int (4 : Int32)), .val (.int (32 : Int32)), .val (.int (4 : Int32))] [(.ref a)])) _
    refine XS.aloadN Y323.here hx rfl (hb hby d1_87) rfl rfl ?_
    exact kk_)
  obtain ⟨T344, X344, e344, st344⟩ := getF Y323 hx hZ hown (host := "") (Or.inl (hw _ (List.mem_of_getElem? (i := 16) rfl))) Via.refl f323x f330 (g := (mkF m 88 #[.val (.ref a), .val (.int (4 : Int32)), .val (.int (32 : Int32)), .val (.int (4 : Int32))] [(.ref a), (.ref a)])) rfl rfl (hb hby d1_88)
  have S345 : own_Go p e below s₁ G T344 (mkF m 91 #[.val (.ref a), .val (.int (4 : Int32)), .val (.int (32 : Int32)), .val (.int (4 : Int32))] [(.int (1 : Int32)), (.ref a)]) := fun tg_ kk_ => S343 tg_ (st344 tg_ kk_)
  obtain ⟨Tp346, hp346, kp346, Xp346, ep346, Ep346, Ap346, stp346⟩ := newP X344 hx hZ (hw _ (List.mem_of_getElem? (i := 23) rfl)) e344 (g := (mkF m 91 #[.val (.ref a), .val (.int (4 : Int32)), .val (.int (32 : Int32)), .val (.int (4 : Int32))] [(.int (1 : Int32)), (.ref a)])) rfl (hb hby d1_91) rfl (by decide) (cap := 1) (by decide) (by decide) (by decide) (by decide)
  have S347 : own_Go p e below s₁ G Tp346 (mkF m 93 #[.val (.ref a), .val (.int (4 : Int32)), .val (.int (32 : Int32)), .val (.int (4 : Int32))] [(.ref u323.size), (.ref a)]) := fun tg_ kk_ => S345 tg_ (stp346 tg_ kk_)
  obtain ⟨bp346, gp346⟩ : ∃ z, z = u323.size := ⟨_, rfl⟩
  rw [← gp346] at S347
  rw [← gp346] at Ap346
  have o348 : @LT.lt Nat instLTNat a bp346 := Nat.lt_of_lt_of_le f327.lt (Nat.le_of_eq gp346.symm)
  have o349 : @LT.lt Nat instLTNat bp59 bp346 := Nat.lt_of_lt_of_le f340.lt (Nat.le_of_eq gp346.symm)
  have o350 : @LT.lt Nat instLTNat bp98 bp346 := Nat.lt_of_lt_of_le f325.lt (Nat.le_of_eq gp346.symm)
  have o351 : @LE.le Nat instLENat (n0) bp346 := Nat.le_trans f328 (Nat.le_of_eq gp346.symm)
  have o352 : @LE.le Nat instLENat (h0.size) bp346 := Nat.le_trans f341.1 (Nat.le_of_eq gp346.symm)
  have f353 := f327.ext Ep346
  have f354 := own_sub f328 Ep346
  have f355 := f329.ext Ep346
  have f356 := f330.ext Ep346
  have f357 := f331.ext Ep346
  have f358 := f332.ext Ep346
  have f359 := f333.ext Ep346
  have f360 := f334.ext Ep346
  have f361 := f335.ext Ep346
  have f362 := f336.ext Ep346
  have f363 := f337.ext Ep346
  have f364 := f338.ext Ep346
  have f365 := f339.ext Ep346
  have f366 := f340.ext Ep346
  have f367 := f325.ext Ep346
  have f368 := Keep.ext f341 Ep346
  have f369 : Arv Z hp346 bp346 kp346 .long (1 : Int32) [] (.long 0) := Arv.new Ap346 (by decide)
  obtain ⟨T370, h370, X370, e370, W370, st370⟩ := putF Xp346 hx hZ hown (host := "") (Or.inl (hw _ (List.mem_of_getElem? (i := 24) rfl))) Via.refl ep346 f359 f353 (Or.inr ⟨(hw _ (List.mem_of_getElem? (i := 25) rfl)), rfl, hnm⟩) (hw _ (List.mem_of_getElem? (i := 1) rfl)) (ty := (.array .long)) (by decide) rfl rfl (g := (mkF m 93 #[.val (.ref a), .val (.int (4 : Int32)), .val (.int (32 : Int32)), .val (.int (4 : Int32))] [(.ref bp346), (.ref a)])) rfl rfl (hb hby d1_93)
  have S371 : own_Go p e below s₁ G T370 (mkF m 96 #[.val (.ref a), .val (.int (4 : Int32)), .val (.int (32 : Int32)), .val (.int (4 : Int32))] []) := fun tg_ kk_ => S347 tg_ (st370 tg_ kk_)
  have f372 := Fr.snoc X370 f326 (by omega)
  have f373 := f353.wr W370
  have f374 : n0 ≤ h370.size := by rw [W370.size]; exact f354
  have f375 := f355.other W370 (Or.inr (slot_ne (C := "com/example/tileshift/tileshift/NodeTable") (a0 := a0) (Or.inr (hw _ (List.mem_of_getElem? (i := 15) rfl))) (Or.inr (hw _ (List.mem_of_getElem? (i := 25) rfl))) (by decide) (t := .int) (by decide) (t' := (.array .long)) (by decide)))
  have f376 := f356.other W370 (Or.inr (slot_ne (C := "com/example/tileshift/tileshift/NodeTable") (a0 := a0) (Or.inr (hw _ (List.mem_of_getElem? (i := 17) rfl))) (Or.inr (hw _ (List.mem_of_getElem? (i := 25) rfl))) (by decide) (t := .int) (by decide) (t' := (.array .long)) (by decide)))
  have f377 := f357.other W370 (Or.inr (slot_ne (C := "com/example/tileshift/tileshift/NodeTable") (a0 := a0) (Or.inr (hw _ (List.mem_of_getElem? (i := 20) rfl))) (Or.inr (hw _ (List.mem_of_getElem? (i := 25) rfl))) (by decide) (t := (.array .int)) (by decide) (t' := (.array .long)) (by decide)))
  have f378 := f358.other W370 (Or.inr (slot_ne (C := "com/example/tileshift/tileshift/NodeTable") (a0 := a0) (Or.inr (hw _ (List.mem_of_getElem? (i := 22) rfl))) (Or.inr (hw _ (List.mem_of_getElem? (i := 25) rfl))) (by decide) (t := (.array .int)) (by decide) (t' := (.array .long)) (by decide)))
  have f379 := f359.same W370
  have f380 := f360.other W370 (Or.inr (slot_ne (C := "com/example/tileshift/tileshift/NodeTable") (a0 := a0) (Or.inl (hw _ (List.mem_of_getElem? (i := 27) rfl))) (Or.inr (hw _ (List.mem_of_getElem? (i := 25) rfl))) (by decide) (t := (.array .long)) (by decide) (t' := (.array .long)) (by decide)))
  have f381 := f361.other W370 (Or.inr (slot_ne (C := "com/example/tileshift/tileshift/NodeTable") (a0 := a0) (Or.inl (hw _ (List.mem_of_getElem? (i := 29) rfl))) (Or.inr (hw _ (List.mem_of_getElem? (i := 25) rfl))) (by decide) (t := (.array .int)) (by decide) (t' := (.array .long)) (by decide)))
  have f382 := f362.other W370 (Or.inr (slot_ne (C := "com/example/tileshift/tileshift/NodeTable") (a0 := a0) (Or.inl (hw _ (List.mem_of_getElem? (i := 32) rfl))) (Or.inr (hw _ (List.mem_of_getElem? (i := 25) rfl))) (by decide) (t := (.array .byte)) (by decide) (t' := (.array .long)) (by decide)))
  have f383 := f363.other W370 (Or.inr (slot_ne (C := "com/example/tileshift/tileshift/NodeTable") (a0 := a0) (Or.inl (hw _ (List.mem_of_getElem? (i := 56) rfl))) (Or.inr (hw _ (List.mem_of_getElem? (i := 25) rfl))) (by decide) (t := .int) (by decide) (t' := (.array .long)) (by decide)))
  have f384 := f364.other W370 (Or.inr (slot_ne (C := "com/example/tileshift/tileshift/NodeTable") (a0 := a0) (Or.inl (hw _ (List.mem_of_getElem? (i := 37) rfl))) (Or.inr (hw _ (List.mem_of_getElem? (i := 25) rfl))) (by decide) (t := (.array .int)) (by decide) (t' := (.array .long)) (by decide)))
  have f385 := f365.other W370 (Or.inr (slot_ne (C := "com/example/tileshift/tileshift/NodeTable") (a0 := a0) (Or.inl (hw _ (List.mem_of_getElem? (i := 39) rfl))) (Or.inr (hw _ (List.mem_of_getElem? (i := 25) rfl))) (by decide) (t := .int) (by decide) (t' := (.array .long)) (by decide)))
  have f386 := f366.other W370 (own_negt (by omega))
  have f387 := f367.other W370 (own_negt (by omega))
  have f388 := f369.other W370 (own_negt (by omega))
  have f389 := Keep.wr f368 W370 (Or.inl (by simp))
  have S390 : own_Go p e below s₁ G T370 (mkF m 101 #[.val (.ref a), .val (.int (4 : Int32)), .val (.int (32 : Int32)), .val (.int (4 : Int32))] [(.ref a), (.int (1024 : Int32)), (.ref a)]) := fun tg_ kk_ => S371 tg_ (by
    refine XS.aloadN X370.here hx rfl (hb hby d1_96) rfl rfl ?_
    show Steps p.tables e below (T370.setTop (mkF m 97 #[.val (.ref a), .val (.int (4 : Int32)), .val (.int (32 : Int32)), .val (.int (4 : Int32))] [(.ref a)])) _
    refine XS.sipush X370.here hx rfl (hb hby d1_97) ?_
    show Steps p.tables e below (T370.setTop (mkF m 100 #[.val (.ref a), .val (.int (4 : Int32)), .val (.int (32 : Int32)), .val (.int (4 : Int32))] [(.int (1024 : Int32)), (.ref a)])) _
    refine XS.aloadN X370.here hx rfl (hb hby d1_100) rfl rfl ?_
    exact kk_)
  obtain ⟨T391, X391, e391, st391⟩ := getF X370 hx hZ hown (host := "") (Or.inl (hw _ (List.mem_of_getElem? (i := 16) rfl))) Via.refl e370 f376 (g := (mkF m 101 #[.val (.ref a), .val (.int (4 : Int32)), .val (.int (32 : Int32)), .val (.int (4 : Int32))] [(.ref a), (.int (1024 : Int32)), (.ref a)])) rfl rfl (hb hby d1_101)
  have S392 : own_Go p e below s₁ G T391 (mkF m 104 #[.val (.ref a), .val (.int (4 : Int32)), .val (.int (32 : Int32)), .val (.int (4 : Int32))] [(.int (1 : Int32)), (.int (1024 : Int32)), (.ref a)]) := fun tg_ kk_ => S390 tg_ (st391 tg_ kk_)
  have S393 : own_Go p e below s₁ G T391 (mkF m 105 #[.val (.ref a), .val (.int (4 : Int32)), .val (.int (32 : Int32)), .val (.int (4 : Int32))] [(.int ((1024 : Int32) * (1 : Int32))), (.ref a)]) := fun tg_ kk_ => S392 tg_ (by
    refine XS.imul X391.here hx rfl (hb hby d1_104) rfl ?_
    exact kk_)
  rw [show ((1024 : Int32) * (1 : Int32)) = (1024 : Int32) from by decide +kernel] at S393
  obtain ⟨Tp394, hp394, kp394, Xp394, ep394, Ep394, Ap394, stp394⟩ := newP X391 hx hZ (hw _ (List.mem_of_getElem? (i := 23) rfl)) e391 (g := (mkF m 105 #[.val (.ref a), .val (.int (4 : Int32)), .val (.int (32 : Int32)), .val (.int (4 : Int32))] [(.int (1024 : Int32)), (.ref a)])) rfl (hb hby d1_105) rfl (by decide) (cap := 1024) (by decide) (by decide) (by decide) (by decide)
  have S395 : own_Go p e below s₁ G Tp394 (mkF m 107 #[.val (.ref a), .val (.int (4 : Int32)), .val (.int (32 : Int32)), .val (.int (4 : Int32))] [(.ref h370.size), (.ref a)]) := fun tg_ kk_ => S393 tg_ (stp394 tg_ kk_)
  obtain ⟨bp394, gp394⟩ : ∃ z, z = h370.size := ⟨_, rfl⟩
  rw [← gp394] at S395
  rw [← gp394] at Ap394
  have o396 : @LT.lt Nat instLTNat a bp394 := Nat.lt_of_lt_of_le f373.lt (Nat.le_of_eq gp394.symm)
  have o397 : @LT.lt Nat instLTNat bp59 bp394 := Nat.lt_of_lt_of_le f386.lt (Nat.le_of_eq gp394.symm)
  have o398 : @LT.lt Nat instLTNat bp98 bp394 := Nat.lt_of_lt_of_le f387.lt (Nat.le_of_eq gp394.symm)
  have o399 : @LT.lt Nat instLTNat bp346 bp394 := Nat.lt_of_lt_of_le f388.lt (Nat.le_of_eq gp394.symm)
  have o400 : @LE.le Nat instLENat (n0) bp394 := Nat.le_trans f374 (Nat.le_of_eq gp394.symm)
  have o401 : @LE.le Nat instLENat (h0.size) bp394 := Nat.le_trans f389.1 (Nat.le_of_eq gp394.symm)
  have f402 := f373.ext Ep394
  have f403 := own_sub f374 Ep394
  have f404 := f375.ext Ep394
  have f405 := f376.ext Ep394
  have f406 := f377.ext Ep394
  have f407 := f378.ext Ep394
  have f408 := f379.ext Ep394
  have f409 := f380.ext Ep394
  have f410 := f381.ext Ep394
  have f411 := f382.ext Ep394
  have f412 := f383.ext Ep394
  have f413 := f384.ext Ep394
  have f414 := f385.ext Ep394
  have f415 := f386.ext Ep394
  have f416 := f387.ext Ep394
  have f417 := f388.ext Ep394
  have f418 := Keep.ext f389 Ep394
  have f419 : Arv Z hp394 bp394 kp394 .long (1024 : Int32) [] (.long 0) := Arv.new Ap394 (by decide)
  obtain ⟨T420, h420, X420, e420, W420, st420⟩ := putF Xp394 hx hZ hown (host := "") (Or.inl (hw _ (List.mem_of_getElem? (i := 26) rfl))) Via.refl ep394 f409 f402 (Or.inl (hw _ (List.mem_of_getElem? (i := 27) rfl))) (hw _ (List.mem_of_getElem? (i := 1) rfl)) (ty := (.array .long)) (by decide) rfl rfl (g := (mkF m 107 #[.val (.ref a), .val (.int (4 : Int32)), .val (.int (32 : Int32)), .val (.int (4 : Int32))] [(.ref bp394), (.ref a)])) rfl rfl (hb hby d1_107)
  have S421 : own_Go p e below s₁ G T420 (mkF m 110 #[.val (.ref a), .val (.int (4 : Int32)), .val (.int (32 : Int32)), .val (.int (4 : Int32))] []) := fun tg_ kk_ => S395 tg_ (st420 tg_ kk_)
  have f422 := Fr.snoc X420 f372 (by omega)
  have f423 := f402.wr W420
  have f424 : n0 ≤ h420.size := by rw [W420.size]; exact f403
  have f425 := f404.other W420 (Or.inr (slot_ne (C := "com/example/tileshift/tileshift/NodeTable") (a0 := a0) (Or.inr (hw _ (List.mem_of_getElem? (i := 15) rfl))) (Or.inl (hw _ (List.mem_of_getElem? (i := 27) rfl))) (by decide) (t := .int) (by decide) (t' := (.array .long)) (by decide)))
  have f426 := f405.other W420 (Or.inr (slot_ne (C := "com/example/tileshift/tileshift/NodeTable") (a0 := a0) (Or.inr (hw _ (List.mem_of_getElem? (i := 17) rfl))) (Or.inl (hw _ (List.mem_of_getElem? (i := 27) rfl))) (by decide) (t := .int) (by decide) (t' := (.array .long)) (by decide)))
  have f427 := f406.other W420 (Or.inr (slot_ne (C := "com/example/tileshift/tileshift/NodeTable") (a0 := a0) (Or.inr (hw _ (List.mem_of_getElem? (i := 20) rfl))) (Or.inl (hw _ (List.mem_of_getElem? (i := 27) rfl))) (by decide) (t := (.array .int)) (by decide) (t' := (.array .long)) (by decide)))
  have f428 := f407.other W420 (Or.inr (slot_ne (C := "com/example/tileshift/tileshift/NodeTable") (a0 := a0) (Or.inr (hw _ (List.mem_of_getElem? (i := 22) rfl))) (Or.inl (hw _ (List.mem_of_getElem? (i := 27) rfl))) (by decide) (t := (.array .int)) (by decide) (t' := (.array .long)) (by decide)))
  have f429 := f408.other W420 (Or.inr (slot_ne (C := "com/example/tileshift/tileshift/NodeTable") (a0 := a0) (Or.inr (hw _ (List.mem_of_getElem? (i := 25) rfl))) (Or.inl (hw _ (List.mem_of_getElem? (i := 27) rfl))) (by decide) (t := (.array .long)) (by decide) (t' := (.array .long)) (by decide)))
  have f430 := f409.same W420
  have f431 := f410.other W420 (Or.inr (slot_ne (C := "com/example/tileshift/tileshift/NodeTable") (a0 := a0) (Or.inl (hw _ (List.mem_of_getElem? (i := 29) rfl))) (Or.inl (hw _ (List.mem_of_getElem? (i := 27) rfl))) (by decide) (t := (.array .int)) (by decide) (t' := (.array .long)) (by decide)))
  have f432 := f411.other W420 (Or.inr (slot_ne (C := "com/example/tileshift/tileshift/NodeTable") (a0 := a0) (Or.inl (hw _ (List.mem_of_getElem? (i := 32) rfl))) (Or.inl (hw _ (List.mem_of_getElem? (i := 27) rfl))) (by decide) (t := (.array .byte)) (by decide) (t' := (.array .long)) (by decide)))
  have f433 := f412.other W420 (Or.inr (slot_ne (C := "com/example/tileshift/tileshift/NodeTable") (a0 := a0) (Or.inl (hw _ (List.mem_of_getElem? (i := 56) rfl))) (Or.inl (hw _ (List.mem_of_getElem? (i := 27) rfl))) (by decide) (t := .int) (by decide) (t' := (.array .long)) (by decide)))
  have f434 := f413.other W420 (Or.inr (slot_ne (C := "com/example/tileshift/tileshift/NodeTable") (a0 := a0) (Or.inl (hw _ (List.mem_of_getElem? (i := 37) rfl))) (Or.inl (hw _ (List.mem_of_getElem? (i := 27) rfl))) (by decide) (t := (.array .int)) (by decide) (t' := (.array .long)) (by decide)))
  have f435 := f414.other W420 (Or.inr (slot_ne (C := "com/example/tileshift/tileshift/NodeTable") (a0 := a0) (Or.inl (hw _ (List.mem_of_getElem? (i := 39) rfl))) (Or.inl (hw _ (List.mem_of_getElem? (i := 27) rfl))) (by decide) (t := .int) (by decide) (t' := (.array .long)) (by decide)))
  have f436 := f415.other W420 (own_negt (by omega))
  have f437 := f416.other W420 (own_negt (by omega))
  have f438 := f417.other W420 (own_negt (by omega))
  have f439 := f419.other W420 (own_negt (by omega))
  have f440 := Keep.wr f418 W420 (Or.inl (by simp))
  have S441 : own_Go p e below s₁ G T420 (mkF m 114 #[.val (.ref a), .val (.int (4 : Int32)), .val (.int (32 : Int32)), .val (.int (4 : Int32))] [(.int (1024 : Int32)), (.ref a)]) := fun tg_ kk_ => S421 tg_ (by
    refine XS.aloadN X420.here hx rfl (hb hby d1_110) rfl rfl ?_
    show Steps p.tables e below (T420.setTop (mkF m 111 #[.val (.ref a), .val (.int (4 : Int32)), .val (.int (32 : Int32)), .val (.int (4 : Int32))] [(.ref a)])) _
    refine XS.sipush X420.here hx rfl (hb hby d1_111) ?_
    exact kk_)
  obtain ⟨Tp442, hp442, kp442, Xp442, ep442, Ep442, Ap442, stp442⟩ := newP X420 hx hZ (hw _ (List.mem_of_getElem? (i := 18) rfl)) e420 (g := (mkF m 114 #[.val (.ref a), .val (.int (4 : Int32)), .val (.int (32 : Int32)), .val (.int (4 : Int32))] [(.int (1024 : Int32)), (.ref a)])) rfl (hb hby d1_114) rfl (by decide) (cap := 1024) (by decide) (by decide) (by decide) (by decide)
  have S443 : own_Go p e below s₁ G Tp442 (mkF m 116 #[.val (.ref a), .val (.int (4 : Int32)), .val (.int (32 : Int32)), .val (.int (4 : Int32))] [(.ref h420.size), (.ref a)]) := fun tg_ kk_ => S441 tg_ (stp442 tg_ kk_)
  obtain ⟨bp442, gp442⟩ : ∃ z, z = h420.size := ⟨_, rfl⟩
  rw [← gp442] at S443
  rw [← gp442] at Ap442
  have o444 : @LT.lt Nat instLTNat a bp442 := Nat.lt_of_lt_of_le f423.lt (Nat.le_of_eq gp442.symm)
  have o445 : @LT.lt Nat instLTNat bp59 bp442 := Nat.lt_of_lt_of_le f436.lt (Nat.le_of_eq gp442.symm)
  have o446 : @LT.lt Nat instLTNat bp98 bp442 := Nat.lt_of_lt_of_le f437.lt (Nat.le_of_eq gp442.symm)
  have o447 : @LT.lt Nat instLTNat bp346 bp442 := Nat.lt_of_lt_of_le f438.lt (Nat.le_of_eq gp442.symm)
  have o448 : @LT.lt Nat instLTNat bp394 bp442 := Nat.lt_of_lt_of_le f439.lt (Nat.le_of_eq gp442.symm)
  have o449 : @LE.le Nat instLENat (n0) bp442 := Nat.le_trans f424 (Nat.le_of_eq gp442.symm)
  have o450 : @LE.le Nat instLENat (h0.size) bp442 := Nat.le_trans f440.1 (Nat.le_of_eq gp442.symm)
  have f451 := f423.ext Ep442
  have f452 := own_sub f424 Ep442
  have f453 := f425.ext Ep442
  have f454 := f426.ext Ep442
  have f455 := f427.ext Ep442
  have f456 := f428.ext Ep442
  have f457 := f429.ext Ep442
  have f458 := f430.ext Ep442
  have f459 := f431.ext Ep442
  have f460 := f432.ext Ep442
  have f461 := f433.ext Ep442
  have f462 := f434.ext Ep442
  have f463 := f435.ext Ep442
  have f464 := f436.ext Ep442
  have f465 := f437.ext Ep442
  have f466 := f438.ext Ep442
  have f467 := f439.ext Ep442
  have f468 := Keep.ext f440 Ep442
  have f469 : Arv Z hp442 bp442 kp442 .int (1024 : Int32) [] (.int 0) := Arv.new Ap442 (by decide)
  obtain ⟨T470, h470, X470, e470, W470, st470⟩ := putF Xp442 hx hZ hown (host := "") (Or.inl (hw _ (List.mem_of_getElem? (i := 28) rfl))) Via.refl ep442 f459 f451 (Or.inl (hw _ (List.mem_of_getElem? (i := 29) rfl))) (hw _ (List.mem_of_getElem? (i := 1) rfl)) (ty := (.array .int)) (by decide) rfl rfl (g := (mkF m 116 #[.val (.ref a), .val (.int (4 : Int32)), .val (.int (32 : Int32)), .val (.int (4 : Int32))] [(.ref bp442), (.ref a)])) rfl rfl (hb hby d1_116)
  have S471 : own_Go p e below s₁ G T470 (mkF m 119 #[.val (.ref a), .val (.int (4 : Int32)), .val (.int (32 : Int32)), .val (.int (4 : Int32))] []) := fun tg_ kk_ => S443 tg_ (st470 tg_ kk_)
  have f472 := Fr.snoc X470 f422 (by omega)
  have f473 := f451.wr W470
  have f474 : n0 ≤ h470.size := by rw [W470.size]; exact f452
  have f475 := f453.other W470 (Or.inr (slot_ne (C := "com/example/tileshift/tileshift/NodeTable") (a0 := a0) (Or.inr (hw _ (List.mem_of_getElem? (i := 15) rfl))) (Or.inl (hw _ (List.mem_of_getElem? (i := 29) rfl))) (by decide) (t := .int) (by decide) (t' := (.array .int)) (by decide)))
  have f476 := f454.other W470 (Or.inr (slot_ne (C := "com/example/tileshift/tileshift/NodeTable") (a0 := a0) (Or.inr (hw _ (List.mem_of_getElem? (i := 17) rfl))) (Or.inl (hw _ (List.mem_of_getElem? (i := 29) rfl))) (by decide) (t := .int) (by decide) (t' := (.array .int)) (by decide)))
  have f477 := f455.other W470 (Or.inr (slot_ne (C := "com/example/tileshift/tileshift/NodeTable") (a0 := a0) (Or.inr (hw _ (List.mem_of_getElem? (i := 20) rfl))) (Or.inl (hw _ (List.mem_of_getElem? (i := 29) rfl))) (by decide) (t := (.array .int)) (by decide) (t' := (.array .int)) (by decide)))
  have f478 := f456.other W470 (Or.inr (slot_ne (C := "com/example/tileshift/tileshift/NodeTable") (a0 := a0) (Or.inr (hw _ (List.mem_of_getElem? (i := 22) rfl))) (Or.inl (hw _ (List.mem_of_getElem? (i := 29) rfl))) (by decide) (t := (.array .int)) (by decide) (t' := (.array .int)) (by decide)))
  have f479 := f457.other W470 (Or.inr (slot_ne (C := "com/example/tileshift/tileshift/NodeTable") (a0 := a0) (Or.inr (hw _ (List.mem_of_getElem? (i := 25) rfl))) (Or.inl (hw _ (List.mem_of_getElem? (i := 29) rfl))) (by decide) (t := (.array .long)) (by decide) (t' := (.array .int)) (by decide)))
  have f480 := f458.other W470 (Or.inr (slot_ne (C := "com/example/tileshift/tileshift/NodeTable") (a0 := a0) (Or.inl (hw _ (List.mem_of_getElem? (i := 27) rfl))) (Or.inl (hw _ (List.mem_of_getElem? (i := 29) rfl))) (by decide) (t := (.array .long)) (by decide) (t' := (.array .int)) (by decide)))
  have f481 := f459.same W470
  have f482 := f460.other W470 (Or.inr (slot_ne (C := "com/example/tileshift/tileshift/NodeTable") (a0 := a0) (Or.inl (hw _ (List.mem_of_getElem? (i := 32) rfl))) (Or.inl (hw _ (List.mem_of_getElem? (i := 29) rfl))) (by decide) (t := (.array .byte)) (by decide) (t' := (.array .int)) (by decide)))
  have f483 := f461.other W470 (Or.inr (slot_ne (C := "com/example/tileshift/tileshift/NodeTable") (a0 := a0) (Or.inl (hw _ (List.mem_of_getElem? (i := 56) rfl))) (Or.inl (hw _ (List.mem_of_getElem? (i := 29) rfl))) (by decide) (t := .int) (by decide) (t' := (.array .int)) (by decide)))
  have f484 := f462.other W470 (Or.inr (slot_ne (C := "com/example/tileshift/tileshift/NodeTable") (a0 := a0) (Or.inl (hw _ (List.mem_of_getElem? (i := 37) rfl))) (Or.inl (hw _ (List.mem_of_getElem? (i := 29) rfl))) (by decide) (t := (.array .int)) (by decide) (t' := (.array .int)) (by decide)))
  have f485 := f463.other W470 (Or.inr (slot_ne (C := "com/example/tileshift/tileshift/NodeTable") (a0 := a0) (Or.inl (hw _ (List.mem_of_getElem? (i := 39) rfl))) (Or.inl (hw _ (List.mem_of_getElem? (i := 29) rfl))) (by decide) (t := .int) (by decide) (t' := (.array .int)) (by decide)))
  have f486 := f464.other W470 (own_negt (by omega))
  have f487 := f465.other W470 (own_negt (by omega))
  have f488 := f466.other W470 (own_negt (by omega))
  have f489 := f467.other W470 (own_negt (by omega))
  have f490 := f469.other W470 (own_negt (by omega))
  have f491 := Keep.wr f468 W470 (Or.inl (by simp))
  have S492 : own_Go p e below s₁ G T470 (mkF m 123 #[.val (.ref a), .val (.int (4 : Int32)), .val (.int (32 : Int32)), .val (.int (4 : Int32))] [(.int (1024 : Int32)), (.ref a)]) := fun tg_ kk_ => S471 tg_ (by
    refine XS.aloadN X470.here hx rfl (hb hby d1_119) rfl rfl ?_
    show Steps p.tables e below (T470.setTop (mkF m 120 #[.val (.ref a), .val (.int (4 : Int32)), .val (.int (32 : Int32)), .val (.int (4 : Int32))] [(.ref a)])) _
    refine XS.sipush X470.here hx rfl (hb hby d1_120) ?_
    exact kk_)
  obtain ⟨Tp493, hp493, kp493, Xp493, ep493, Ep493, Ap493, stp493⟩ := newP X470 hx hZ (hw _ (List.mem_of_getElem? (i := 30) rfl)) e470 (g := (mkF m 123 #[.val (.ref a), .val (.int (4 : Int32)), .val (.int (32 : Int32)), .val (.int (4 : Int32))] [(.int (1024 : Int32)), (.ref a)])) rfl (hb hby d1_123) rfl (by decide) (cap := 1024) (by decide) (by decide) (by decide) (by decide)
  have S494 : own_Go p e below s₁ G Tp493 (mkF m 125 #[.val (.ref a), .val (.int (4 : Int32)), .val (.int (32 : Int32)), .val (.int (4 : Int32))] [(.ref h470.size), (.ref a)]) := fun tg_ kk_ => S492 tg_ (stp493 tg_ kk_)
  obtain ⟨bp493, gp493⟩ : ∃ z, z = h470.size := ⟨_, rfl⟩
  rw [← gp493] at S494
  rw [← gp493] at Ap493
  have o495 : @LT.lt Nat instLTNat a bp493 := Nat.lt_of_lt_of_le f473.lt (Nat.le_of_eq gp493.symm)
  have o496 : @LT.lt Nat instLTNat bp59 bp493 := Nat.lt_of_lt_of_le f486.lt (Nat.le_of_eq gp493.symm)
  have o497 : @LT.lt Nat instLTNat bp98 bp493 := Nat.lt_of_lt_of_le f487.lt (Nat.le_of_eq gp493.symm)
  have o498 : @LT.lt Nat instLTNat bp346 bp493 := Nat.lt_of_lt_of_le f488.lt (Nat.le_of_eq gp493.symm)
  have o499 : @LT.lt Nat instLTNat bp394 bp493 := Nat.lt_of_lt_of_le f489.lt (Nat.le_of_eq gp493.symm)
  have o500 : @LT.lt Nat instLTNat bp442 bp493 := Nat.lt_of_lt_of_le f490.lt (Nat.le_of_eq gp493.symm)
  have o501 : @LE.le Nat instLENat (n0) bp493 := Nat.le_trans f474 (Nat.le_of_eq gp493.symm)
  have o502 : @LE.le Nat instLENat (h0.size) bp493 := Nat.le_trans f491.1 (Nat.le_of_eq gp493.symm)
  have f503 := f473.ext Ep493
  have f504 := own_sub f474 Ep493
  have f505 := f475.ext Ep493
  have f506 := f476.ext Ep493
  have f507 := f477.ext Ep493
  have f508 := f478.ext Ep493
  have f509 := f479.ext Ep493
  have f510 := f480.ext Ep493
  have f511 := f481.ext Ep493
  have f512 := f482.ext Ep493
  have f513 := f483.ext Ep493
  have f514 := f484.ext Ep493
  have f515 := f485.ext Ep493
  have f516 := f486.ext Ep493
  have f517 := f487.ext Ep493
  have f518 := f488.ext Ep493
  have f519 := f489.ext Ep493
  have f520 := f490.ext Ep493
  have f521 := Keep.ext f491 Ep493
  have f522 : Arv Z hp493 bp493 kp493 .byte (1024 : Int32) [] (.int 0) := Arv.new Ap493 (by decide)
  obtain ⟨T523, h523, X523, e523, W523, st523⟩ := putF Xp493 hx hZ hown (host := "") (Or.inl (hw _ (List.mem_of_getElem? (i := 31) rfl))) Via.refl ep493 f512 f503 (Or.inl (hw _ (List.mem_of_getElem? (i := 32) rfl))) (hw _ (List.mem_of_getElem? (i := 1) rfl)) (ty := (.array .byte)) (by decide) rfl rfl (g := (mkF m 125 #[.val (.ref a), .val (.int (4 : Int32)), .val (.int (32 : Int32)), .val (.int (4 : Int32))] [(.ref bp493), (.ref a)])) rfl rfl (hb hby d1_125)
  have S524 : own_Go p e below s₁ G T523 (mkF m 128 #[.val (.ref a), .val (.int (4 : Int32)), .val (.int (32 : Int32)), .val (.int (4 : Int32))] []) := fun tg_ kk_ => S494 tg_ (st523 tg_ kk_)
  have f525 := Fr.snoc X523 f472 (by omega)
  have f526 := f503.wr W523
  have f527 : n0 ≤ h523.size := by rw [W523.size]; exact f504
  have f528 := f505.other W523 (Or.inr (slot_ne (C := "com/example/tileshift/tileshift/NodeTable") (a0 := a0) (Or.inr (hw _ (List.mem_of_getElem? (i := 15) rfl))) (Or.inl (hw _ (List.mem_of_getElem? (i := 32) rfl))) (by decide) (t := .int) (by decide) (t' := (.array .byte)) (by decide)))
  have f529 := f506.other W523 (Or.inr (slot_ne (C := "com/example/tileshift/tileshift/NodeTable") (a0 := a0) (Or.inr (hw _ (List.mem_of_getElem? (i := 17) rfl))) (Or.inl (hw _ (List.mem_of_getElem? (i := 32) rfl))) (by decide) (t := .int) (by decide) (t' := (.array .byte)) (by decide)))
  have f530 := f507.other W523 (Or.inr (slot_ne (C := "com/example/tileshift/tileshift/NodeTable") (a0 := a0) (Or.inr (hw _ (List.mem_of_getElem? (i := 20) rfl))) (Or.inl (hw _ (List.mem_of_getElem? (i := 32) rfl))) (by decide) (t := (.array .int)) (by decide) (t' := (.array .byte)) (by decide)))
  have f531 := f508.other W523 (Or.inr (slot_ne (C := "com/example/tileshift/tileshift/NodeTable") (a0 := a0) (Or.inr (hw _ (List.mem_of_getElem? (i := 22) rfl))) (Or.inl (hw _ (List.mem_of_getElem? (i := 32) rfl))) (by decide) (t := (.array .int)) (by decide) (t' := (.array .byte)) (by decide)))
  have f532 := f509.other W523 (Or.inr (slot_ne (C := "com/example/tileshift/tileshift/NodeTable") (a0 := a0) (Or.inr (hw _ (List.mem_of_getElem? (i := 25) rfl))) (Or.inl (hw _ (List.mem_of_getElem? (i := 32) rfl))) (by decide) (t := (.array .long)) (by decide) (t' := (.array .byte)) (by decide)))
  have f533 := f510.other W523 (Or.inr (slot_ne (C := "com/example/tileshift/tileshift/NodeTable") (a0 := a0) (Or.inl (hw _ (List.mem_of_getElem? (i := 27) rfl))) (Or.inl (hw _ (List.mem_of_getElem? (i := 32) rfl))) (by decide) (t := (.array .long)) (by decide) (t' := (.array .byte)) (by decide)))
  have f534 := f511.other W523 (Or.inr (slot_ne (C := "com/example/tileshift/tileshift/NodeTable") (a0 := a0) (Or.inl (hw _ (List.mem_of_getElem? (i := 29) rfl))) (Or.inl (hw _ (List.mem_of_getElem? (i := 32) rfl))) (by decide) (t := (.array .int)) (by decide) (t' := (.array .byte)) (by decide)))
  have f535 := f512.same W523
  have f536 := f513.other W523 (Or.inr (slot_ne (C := "com/example/tileshift/tileshift/NodeTable") (a0 := a0) (Or.inl (hw _ (List.mem_of_getElem? (i := 56) rfl))) (Or.inl (hw _ (List.mem_of_getElem? (i := 32) rfl))) (by decide) (t := .int) (by decide) (t' := (.array .byte)) (by decide)))
  have f537 := f514.other W523 (Or.inr (slot_ne (C := "com/example/tileshift/tileshift/NodeTable") (a0 := a0) (Or.inl (hw _ (List.mem_of_getElem? (i := 37) rfl))) (Or.inl (hw _ (List.mem_of_getElem? (i := 32) rfl))) (by decide) (t := (.array .int)) (by decide) (t' := (.array .byte)) (by decide)))
  have f538 := f515.other W523 (Or.inr (slot_ne (C := "com/example/tileshift/tileshift/NodeTable") (a0 := a0) (Or.inl (hw _ (List.mem_of_getElem? (i := 39) rfl))) (Or.inl (hw _ (List.mem_of_getElem? (i := 32) rfl))) (by decide) (t := .int) (by decide) (t' := (.array .byte)) (by decide)))
  have f539 := f516.other W523 (own_negt (by omega))
  have f540 := f517.other W523 (own_negt (by omega))
  have f541 := f518.other W523 (own_negt (by omega))
  have f542 := f519.other W523 (own_negt (by omega))
  have f543 := f520.other W523 (own_negt (by omega))
  have f544 := f522.other W523 (own_negt (by omega))
  have f545 := Keep.wr f521 W523 (Or.inl (by simp))
  have S546 : own_Go p e below s₁ G T523 (mkF m 131 #[.val (.ref a), .val (.int (4 : Int32)), .val (.int (32 : Int32)), .val (.int (4 : Int32))] [(.int (1024 : Int32))]) := fun tg_ kk_ => S524 tg_ (by
    refine XS.sipush X523.here hx rfl (hb hby d1_128) ?_
    exact kk_)
  obtain ⟨_, T547, h547, L547, X547, e547, hQ547, st547⟩ := own_callS X523 hx hZ (y := (⟨"java/lang/Integer", "numberOfTrailingZeros", "(I)I"⟩ : MethodName)) hown (hw _ (List.mem_of_getElem? (i := 33) rfl)) (hw _ (List.mem_of_getElem? (i := 34) rfl)) (hw _ (List.mem_of_getElem? (i := 11) rfl)) (hw _ (List.mem_of_getElem? (i := 35) rfl)) (by decide) 0 (g := (mkF m 131 #[.val (.ref a), .val (.int (4 : Int32)), .val (.int (32 : Int32)), .val (.int (4 : Int32))] [(.int (1024 : Int32))])) rfl (by rw [hml]; rfl) [(.int (1024 : Int32))] [] (rm4 l Z a0 hw [] h523 n0 f527) (lenOf pd4 rfl) rfl (by show 2 * 0 + _ ≤ _; exact Nat.le_of_eq rfl) (hb hby d1_131) (by decide) (by decide) e523 (by decide) (by decide)
  obtain ⟨rfl, N547, rfl⟩ := hQ547
  have S548 : own_Go p e below s₁ G T547 (mkF m 134 #[.val (.ref a), .val (.int (4 : Int32)), .val (.int (32 : Int32)), .val (.int (4 : Int32))] [(.int (10 : Int32))]) := fun tg_ kk_ => S546 tg_ (st547 tg_ kk_)
  have M547 := Fr.app f525 N547
  have S549 : own_Go p e below s₁ G T547 (mkF m 136 #[.val (.ref a), .val (.int (4 : Int32)), .val (.int (32 : Int32)), .val (.int (4 : Int32))] [(.int ((10 : Int32) + (1 : Int32)))]) := fun tg_ kk_ => S548 tg_ (by
    refine XS.iconst X547.here hx rfl (hb hby d1_134) ?_
    show Steps p.tables e below (T547.setTop (mkF m 135 #[.val (.ref a), .val (.int (4 : Int32)), .val (.int (32 : Int32)), .val (.int (4 : Int32))] [(.int (1 : Int32)), (.int (10 : Int32))])) _
    refine XS.iadd X547.here hx rfl (hb hby d1_135) rfl ?_
    exact kk_)
  rw [show ((10 : Int32) + (1 : Int32)) = (11 : Int32) from by decide +kernel] at S549
  have S550 : own_Go p e below s₁ G T547 (mkF m 141 #[.val (.ref a), .val (.int (4 : Int32)), .val (.int (32 : Int32)), .val (.int (11 : Int32))] [(.int ((1 : Int32) <<< ((11 : Int32) &&& 31))), (.ref a)]) := fun tg_ kk_ => S549 tg_ (by
    refine XS.istoreN X547.here hx rfl (hb hby d1_136) rfl (l' := #[.val (.ref a), .val (.int (4 : Int32)), .val (.int (32 : Int32)), .val (.int (11 : Int32))]) rfl ?_
    show Steps p.tables e below (T547.setTop (mkF m 137 #[.val (.ref a), .val (.int (4 : Int32)), .val (.int (32 : Int32)), .val (.int (11 : Int32))] [])) _
    refine XS.aloadN X547.here hx rfl (hb hby d1_137) rfl rfl ?_
    show Steps p.tables e below (T547.setTop (mkF m 138 #[.val (.ref a), .val (.int (4 : Int32)), .val (.int (32 : Int32)), .val (.int (11 : Int32))] [(.ref a)])) _
    refine XS.iconst X547.here hx rfl (hb hby d1_138) ?_
    show Steps p.tables e below (T547.setTop (mkF m 139 #[.val (.ref a), .val (.int (4 : Int32)), .val (.int (32 : Int32)), .val (.int (11 : Int32))] [(.int (1 : Int32)), (.ref a)])) _
    refine XS.iloadN X547.here hx rfl (hb hby d1_139) rfl ?_
    show Steps p.tables e below (T547.setTop (mkF m 140 #[.val (.ref a), .val (.int (4 : Int32)), .val (.int (32 : Int32)), .val (.int (11 : Int32))] [(.int (11 : Int32)), (.int (1 : Int32)), (.ref a)])) _
    refine XT.ishl X547.here hx rfl (hb hby d1_140) rfl ?_
    exact kk_)
  rw [show ((1 : Int32) <<< ((11 : Int32) &&& 31)) = (2048 : Int32) from by decide +kernel] at S550
  obtain ⟨Tp551, hp551, kp551, Xp551, ep551, Ep551, Ap551, stp551⟩ := newP X547 hx hZ (hw _ (List.mem_of_getElem? (i := 18) rfl)) e547 (g := (mkF m 141 #[.val (.ref a), .val (.int (4 : Int32)), .val (.int (32 : Int32)), .val (.int (11 : Int32))] [(.int (2048 : Int32)), (.ref a)])) rfl (hb hby d1_141) rfl (by decide) (cap := 2048) (by decide) (by decide) (by decide) (by decide)
  have S552 : own_Go p e below s₁ G Tp551 (mkF m 143 #[.val (.ref a), .val (.int (4 : Int32)), .val (.int (32 : Int32)), .val (.int (11 : Int32))] [(.ref h523.size), (.ref a)]) := fun tg_ kk_ => S550 tg_ (stp551 tg_ kk_)
  obtain ⟨bp551, gp551⟩ : ∃ z, z = h523.size := ⟨_, rfl⟩
  rw [← gp551] at S552
  rw [← gp551] at Ap551
  have o553 : @LT.lt Nat instLTNat a bp551 := Nat.lt_of_lt_of_le f526.lt (Nat.le_of_eq gp551.symm)
  have o554 : @LT.lt Nat instLTNat bp59 bp551 := Nat.lt_of_lt_of_le f539.lt (Nat.le_of_eq gp551.symm)
  have o555 : @LT.lt Nat instLTNat bp98 bp551 := Nat.lt_of_lt_of_le f540.lt (Nat.le_of_eq gp551.symm)
  have o556 : @LT.lt Nat instLTNat bp346 bp551 := Nat.lt_of_lt_of_le f541.lt (Nat.le_of_eq gp551.symm)
  have o557 : @LT.lt Nat instLTNat bp394 bp551 := Nat.lt_of_lt_of_le f542.lt (Nat.le_of_eq gp551.symm)
  have o558 : @LT.lt Nat instLTNat bp442 bp551 := Nat.lt_of_lt_of_le f543.lt (Nat.le_of_eq gp551.symm)
  have o559 : @LT.lt Nat instLTNat bp493 bp551 := Nat.lt_of_lt_of_le f544.lt (Nat.le_of_eq gp551.symm)
  have o560 : @LE.le Nat instLENat (n0) bp551 := Nat.le_trans f527 (Nat.le_of_eq gp551.symm)
  have o561 : @LE.le Nat instLENat (h0.size) bp551 := Nat.le_trans f545.1 (Nat.le_of_eq gp551.symm)
  have f562 := f526.ext Ep551
  have f563 := own_sub f527 Ep551
  have f564 := f528.ext Ep551
  have f565 := f529.ext Ep551
  have f566 := f530.ext Ep551
  have f567 := f531.ext Ep551
  have f568 := f532.ext Ep551
  have f569 := f533.ext Ep551
  have f570 := f534.ext Ep551
  have f571 := f535.ext Ep551
  have f572 := f536.ext Ep551
  have f573 := f537.ext Ep551
  have f574 := f538.ext Ep551
  have f575 := f539.ext Ep551
  have f576 := f540.ext Ep551
  have f577 := f541.ext Ep551
  have f578 := f542.ext Ep551
  have f579 := f543.ext Ep551
  have f580 := f544.ext Ep551
  have f581 := Keep.ext f545 Ep551
  have f582 : Arv Z hp551 bp551 kp551 .int (2048 : Int32) [] (.int 0) := Arv.new Ap551 (by decide)
  obtain ⟨T583, h583, X583, e583, W583, st583⟩ := putF Xp551 hx hZ hown (host := "") (Or.inl (hw _ (List.mem_of_getElem? (i := 36) rfl))) Via.refl ep551 f573 f562 (Or.inl (hw _ (List.mem_of_getElem? (i := 37) rfl))) (hw _ (List.mem_of_getElem? (i := 1) rfl)) (ty := (.array .int)) (by decide) rfl rfl (g := (mkF m 143 #[.val (.ref a), .val (.int (4 : Int32)), .val (.int (32 : Int32)), .val (.int (11 : Int32))] [(.ref bp551), (.ref a)])) rfl rfl (hb hby d1_143)
  have S584 : own_Go p e below s₁ G T583 (mkF m 146 #[.val (.ref a), .val (.int (4 : Int32)), .val (.int (32 : Int32)), .val (.int (11 : Int32))] []) := fun tg_ kk_ => S552 tg_ (st583 tg_ kk_)
  have f585 := Fr.snoc X583 M547 (by omega)
  have f586 := f562.wr W583
  have f587 : n0 ≤ h583.size := by rw [W583.size]; exact f563
  have f588 := f564.other W583 (Or.inr (slot_ne (C := "com/example/tileshift/tileshift/NodeTable") (a0 := a0) (Or.inr (hw _ (List.mem_of_getElem? (i := 15) rfl))) (Or.inl (hw _ (List.mem_of_getElem? (i := 37) rfl))) (by decide) (t := .int) (by decide) (t' := (.array .int)) (by decide)))
  have f589 := f565.other W583 (Or.inr (slot_ne (C := "com/example/tileshift/tileshift/NodeTable") (a0 := a0) (Or.inr (hw _ (List.mem_of_getElem? (i := 17) rfl))) (Or.inl (hw _ (List.mem_of_getElem? (i := 37) rfl))) (by decide) (t := .int) (by decide) (t' := (.array .int)) (by decide)))
  have f590 := f566.other W583 (Or.inr (slot_ne (C := "com/example/tileshift/tileshift/NodeTable") (a0 := a0) (Or.inr (hw _ (List.mem_of_getElem? (i := 20) rfl))) (Or.inl (hw _ (List.mem_of_getElem? (i := 37) rfl))) (by decide) (t := (.array .int)) (by decide) (t' := (.array .int)) (by decide)))
  have f591 := f567.other W583 (Or.inr (slot_ne (C := "com/example/tileshift/tileshift/NodeTable") (a0 := a0) (Or.inr (hw _ (List.mem_of_getElem? (i := 22) rfl))) (Or.inl (hw _ (List.mem_of_getElem? (i := 37) rfl))) (by decide) (t := (.array .int)) (by decide) (t' := (.array .int)) (by decide)))
  have f592 := f568.other W583 (Or.inr (slot_ne (C := "com/example/tileshift/tileshift/NodeTable") (a0 := a0) (Or.inr (hw _ (List.mem_of_getElem? (i := 25) rfl))) (Or.inl (hw _ (List.mem_of_getElem? (i := 37) rfl))) (by decide) (t := (.array .long)) (by decide) (t' := (.array .int)) (by decide)))
  have f593 := f569.other W583 (Or.inr (slot_ne (C := "com/example/tileshift/tileshift/NodeTable") (a0 := a0) (Or.inl (hw _ (List.mem_of_getElem? (i := 27) rfl))) (Or.inl (hw _ (List.mem_of_getElem? (i := 37) rfl))) (by decide) (t := (.array .long)) (by decide) (t' := (.array .int)) (by decide)))
  have f594 := f570.other W583 (Or.inr (slot_ne (C := "com/example/tileshift/tileshift/NodeTable") (a0 := a0) (Or.inl (hw _ (List.mem_of_getElem? (i := 29) rfl))) (Or.inl (hw _ (List.mem_of_getElem? (i := 37) rfl))) (by decide) (t := (.array .int)) (by decide) (t' := (.array .int)) (by decide)))
  have f595 := f571.other W583 (Or.inr (slot_ne (C := "com/example/tileshift/tileshift/NodeTable") (a0 := a0) (Or.inl (hw _ (List.mem_of_getElem? (i := 32) rfl))) (Or.inl (hw _ (List.mem_of_getElem? (i := 37) rfl))) (by decide) (t := (.array .byte)) (by decide) (t' := (.array .int)) (by decide)))
  have f596 := f572.other W583 (Or.inr (slot_ne (C := "com/example/tileshift/tileshift/NodeTable") (a0 := a0) (Or.inl (hw _ (List.mem_of_getElem? (i := 56) rfl))) (Or.inl (hw _ (List.mem_of_getElem? (i := 37) rfl))) (by decide) (t := .int) (by decide) (t' := (.array .int)) (by decide)))
  have f597 := f573.same W583
  have f598 := f574.other W583 (Or.inr (slot_ne (C := "com/example/tileshift/tileshift/NodeTable") (a0 := a0) (Or.inl (hw _ (List.mem_of_getElem? (i := 39) rfl))) (Or.inl (hw _ (List.mem_of_getElem? (i := 37) rfl))) (by decide) (t := .int) (by decide) (t' := (.array .int)) (by decide)))
  have f599 := f575.other W583 (own_negt (by omega))
  have f600 := f576.other W583 (own_negt (by omega))
  have f601 := f577.other W583 (own_negt (by omega))
  have f602 := f578.other W583 (own_negt (by omega))
  have f603 := f579.other W583 (own_negt (by omega))
  have f604 := f580.other W583 (own_negt (by omega))
  have f605 := f582.other W583 (own_negt (by omega))
  have f606 := Keep.wr f581 W583 (Or.inl (by simp))
  have S607 : own_Go p e below s₁ G T583 (mkF m 151 #[.val (.ref a), .val (.int (4 : Int32)), .val (.int (32 : Int32)), .val (.int (11 : Int32))] [(.int ((64 : Int32) - (11 : Int32))), (.ref a)]) := fun tg_ kk_ => S584 tg_ (by
    refine XS.aloadN X583.here hx rfl (hb hby d1_146) rfl rfl ?_
    show Steps p.tables e below (T583.setTop (mkF m 147 #[.val (.ref a), .val (.int (4 : Int32)), .val (.int (32 : Int32)), .val (.int (11 : Int32))] [(.ref a)])) _
    refine XS.bipush X583.here hx rfl (hb hby d1_147) ?_
    show Steps p.tables e below (T583.setTop (mkF m 149 #[.val (.ref a), .val (.int (4 : Int32)), .val (.int (32 : Int32)), .val (.int (11 : Int32))] [(.int (64 : Int32)), (.ref a)])) _
    refine XS.iloadN X583.here hx rfl (hb hby d1_149) rfl ?_
    show Steps p.tables e below (T583.setTop (mkF m 150 #[.val (.ref a), .val (.int (4 : Int32)), .val (.int (32 : Int32)), .val (.int (11 : Int32))] [(.int (11 : Int32)), (.int (64 : Int32)), (.ref a)])) _
    refine XS.isub X583.here hx rfl (hb hby d1_150) rfl ?_
    exact kk_)
  rw [show ((64 : Int32) - (11 : Int32)) = (53 : Int32) from by decide +kernel] at S607
  obtain ⟨T608, h608, X608, e608, W608, st608⟩ := putF X583 hx hZ hown (host := "") (Or.inl (hw _ (List.mem_of_getElem? (i := 38) rfl))) Via.refl e583 f598 f586 (Or.inl (hw _ (List.mem_of_getElem? (i := 39) rfl))) (hw _ (List.mem_of_getElem? (i := 1) rfl)) (ty := .int) (by decide) rfl rfl (g := (mkF m 151 #[.val (.ref a), .val (.int (4 : Int32)), .val (.int (32 : Int32)), .val (.int (11 : Int32))] [(.int (53 : Int32)), (.ref a)])) rfl rfl (hb hby d1_151)
  have S609 : own_Go p e below s₁ G T608 (mkF m 154 #[.val (.ref a), .val (.int (4 : Int32)), .val (.int (32 : Int32)), .val (.int (11 : Int32))] []) := fun tg_ kk_ => S607 tg_ (st608 tg_ kk_)
  have f610 := Fr.snoc X608 f585 (by omega)
  have f611 := f586.wr W608
  have f612 : n0 ≤ h608.size := by rw [W608.size]; exact f587
  have f613 := f588.other W608 (Or.inr (slot_ne (C := "com/example/tileshift/tileshift/NodeTable") (a0 := a0) (Or.inr (hw _ (List.mem_of_getElem? (i := 15) rfl))) (Or.inl (hw _ (List.mem_of_getElem? (i := 39) rfl))) (by decide) (t := .int) (by decide) (t' := .int) (by decide)))
  have f614 := f589.other W608 (Or.inr (slot_ne (C := "com/example/tileshift/tileshift/NodeTable") (a0 := a0) (Or.inr (hw _ (List.mem_of_getElem? (i := 17) rfl))) (Or.inl (hw _ (List.mem_of_getElem? (i := 39) rfl))) (by decide) (t := .int) (by decide) (t' := .int) (by decide)))
  have f615 := f590.other W608 (Or.inr (slot_ne (C := "com/example/tileshift/tileshift/NodeTable") (a0 := a0) (Or.inr (hw _ (List.mem_of_getElem? (i := 20) rfl))) (Or.inl (hw _ (List.mem_of_getElem? (i := 39) rfl))) (by decide) (t := (.array .int)) (by decide) (t' := .int) (by decide)))
  have f616 := f591.other W608 (Or.inr (slot_ne (C := "com/example/tileshift/tileshift/NodeTable") (a0 := a0) (Or.inr (hw _ (List.mem_of_getElem? (i := 22) rfl))) (Or.inl (hw _ (List.mem_of_getElem? (i := 39) rfl))) (by decide) (t := (.array .int)) (by decide) (t' := .int) (by decide)))
  have f617 := f592.other W608 (Or.inr (slot_ne (C := "com/example/tileshift/tileshift/NodeTable") (a0 := a0) (Or.inr (hw _ (List.mem_of_getElem? (i := 25) rfl))) (Or.inl (hw _ (List.mem_of_getElem? (i := 39) rfl))) (by decide) (t := (.array .long)) (by decide) (t' := .int) (by decide)))
  have f618 := f593.other W608 (Or.inr (slot_ne (C := "com/example/tileshift/tileshift/NodeTable") (a0 := a0) (Or.inl (hw _ (List.mem_of_getElem? (i := 27) rfl))) (Or.inl (hw _ (List.mem_of_getElem? (i := 39) rfl))) (by decide) (t := (.array .long)) (by decide) (t' := .int) (by decide)))
  have f619 := f594.other W608 (Or.inr (slot_ne (C := "com/example/tileshift/tileshift/NodeTable") (a0 := a0) (Or.inl (hw _ (List.mem_of_getElem? (i := 29) rfl))) (Or.inl (hw _ (List.mem_of_getElem? (i := 39) rfl))) (by decide) (t := (.array .int)) (by decide) (t' := .int) (by decide)))
  have f620 := f595.other W608 (Or.inr (slot_ne (C := "com/example/tileshift/tileshift/NodeTable") (a0 := a0) (Or.inl (hw _ (List.mem_of_getElem? (i := 32) rfl))) (Or.inl (hw _ (List.mem_of_getElem? (i := 39) rfl))) (by decide) (t := (.array .byte)) (by decide) (t' := .int) (by decide)))
  have f621 := f596.other W608 (Or.inr (slot_ne (C := "com/example/tileshift/tileshift/NodeTable") (a0 := a0) (Or.inl (hw _ (List.mem_of_getElem? (i := 56) rfl))) (Or.inl (hw _ (List.mem_of_getElem? (i := 39) rfl))) (by decide) (t := .int) (by decide) (t' := .int) (by decide)))
  have f622 := f597.other W608 (Or.inr (slot_ne (C := "com/example/tileshift/tileshift/NodeTable") (a0 := a0) (Or.inl (hw _ (List.mem_of_getElem? (i := 37) rfl))) (Or.inl (hw _ (List.mem_of_getElem? (i := 39) rfl))) (by decide) (t := (.array .int)) (by decide) (t' := .int) (by decide)))
  have f623 := f598.same W608
  have f624 := f599.other W608 (own_negt (by omega))
  have f625 := f600.other W608 (own_negt (by omega))
  have f626 := f601.other W608 (own_negt (by omega))
  have f627 := f602.other W608 (own_negt (by omega))
  have f628 := f603.other W608 (own_negt (by omega))
  have f629 := f604.other W608 (own_negt (by omega))
  have f630 := f605.other W608 (own_negt (by omega))
  have f631 := Keep.wr f606 W608 (Or.inl (by simp))
  obtain ⟨fs, hr, hrun, hended, hW, hsame⟩ := X608.leave (v := none) (fun _ => rfl)
  refine ⟨_, _, ?_, hrun, hended, _, _, rfl, ?_, ⟨_, rfl⟩, hW, hsame.mono (by decide) (by decide)⟩
  · rw [← hG]; exact S609 _ (X608.returnOut hx Bd.returns (hb hby d1_154) hr)
  · show Q1 Z a h0 n0 _ T608.heap _
    rw [e608]
    exact ⟨rfl, f610, f631, bp59, bp98, bp346, bp394, bp442, bp493, bp551, ⟨by omega, by omega, by omega, by omega, by omega, by omega, by omega, f611, f613, f614, f615, f616, f617, f618, f619, f620, f621, f622, f623, ⟨_, f624⟩, ⟨_, f625⟩, ⟨_, f626⟩, ⟨_, f627⟩, ⟨_, f628⟩, ⟨_, f629⟩, ⟨_, f630⟩⟩⟩
def Q60 (Z : State) (a : Addr) (w : Addr) (sh : Addr) (k : Addr) (b : Addr) (pr : Addr) (mv : Addr) (t : Addr) (h0 : Heap) (n0 : Nat) (v : Option Value) (h : Heap) (L : List Loc) : Prop := v = some (.int 0) ∧ Fr n0 L ∧ h0 = h
set_option maxRecDepth 65536 in
set_option maxHeartbeats 40000000 in
theorem rm60 (l : Launch) (Z : State) (a0 : Array Value) (hw : ∀ d ∈ tables_1, d.before a0 Z = true) (ws : List Jvm.Cond) (a : Addr) (w : Addr) (sh : Addr) (k : Addr) (b : Addr) (pr : Addr) (mv : Addr) (t : Addr) (h0 : Heap) (n0 : Nat) (Z0 : n0 ≤ h0.size) (NT : own_NT Z h0 a w sh k b pr mv t 0 [] [] [] [] []) :
    MetFree l (⟨"com/example/tileshift/tileshift/NodeTable", "home", "([JI)I"⟩ : MethodName) (head1 (Jvm.Cond.code (⟨"com/example/tileshift/tileshift/NodeTable", "home", "([JI)I"⟩ : MethodName) prog_40_method_13_code 6 (some .int) :: ws) ({ frames := 0, cells := 0, slots := 0, locals := 0 } : Room)) (fun aa_ U => aa_ = #[(.ref a), (.ref k), (.int (0 : Int32))] ∧ Z.Warmed39 U.vm ∧ U.heap = h0) (fun _ _ _ _ _ => True) (fun _ U o U' => ∃ v L, o = .returned v ∧ Q60 Z a w sh k b pr mv t h0 n0 v U'.heap L ∧ FrameEnd U o U' L ({ frames := 0, cells := 0, slots := 0, locals := 0 } : Room).cells ({ frames := 0, cells := 0, slots := 0, locals := 0 } : Room).slots) := by
  refine MetFree.of_bodySF (plainFor_of_name pn2) hisR ?_
  intro p e s m args below meth c s₁ Bd hml0 hP hK
  obtain ⟨rfl, hZ, hh⟩ := hP
  have hx := Bd.exec
  have hby := Bd.bytes
  have hml : c.maxLocals = 6 := hml0
  have hown : s.vm.findClass "com/example/tileshift/tileshift/NodeTable" = some m.cls := findClass_of_methodNamed Bd.named
  have hnm := (name_of_methodNamed Bd.named Bd.method).1
  have X0 : Stand p l e ({ frames := 0, cells := 0, slots := 0, locals := 0 } : Room) s m #[(.ref a), (.ref k), (.int (0 : Int32))] below meth c s₁ [] 0 0 := Stand.of_body Bd
  have e0 : s₁.heap = h0 := by rw [← hh, Bd.state]; rfl
  have N0 := Fr.nil n0
  obtain ⟨G, hG⟩ : ∃ G, G = entryFrame m #[(.ref a), (.ref k), (.int (0 : Int32))] 6 := ⟨_, rfl⟩
  have S0 : own_Go p e below s₁ G s₁ (mkF m 0 #[.val (.ref a), .val (.ref k), .val (.int (0 : Int32)), .unset, .unset, .unset] []) := fun tg_ kk_ => castTop (by rw [hG]; first | rfl | simp [entryFrame, mkF, argsToLocals, Value.category, maxLocals]) kk_
  obtain ⟨oo1, oo2, oo3, oo4, oo5, oo6, oo7, xE, x_bits, x_width, x_word, x_shift, x_key, x_boards, x_parent, x_move, x_nodes, x_table, x_tableShift, ⟨q_word, y_word⟩, ⟨q_shift, y_shift⟩, ⟨q_key, y_key⟩, ⟨q_boards, y_boards⟩, ⟨q_parent, y_parent⟩, ⟨q_move, y_move⟩, ⟨q_table, y_table⟩⟩ := NT
  have S632 : own_Go p e below s₁ G s₁ (mkF m 8 #[.val (.ref a), .val (.ref k), .val (.int (0 : Int32)), .val (.long (0 : Int64)), .second, .val (.int (0 : Int32))] [(.ref a), (.int (0 : Int32))]) := fun tg_ kk_ => S0 tg_ (by
    refine XT.lconst X0.here hx rfl (hb hby d6_0) ?_
    show Steps p.tables e below (s₁.setTop (mkF m 1 #[.val (.ref a), .val (.ref k), .val (.int (0 : Int32)), .unset, .unset, .unset] [(.long (0 : Int64))])) _
    refine XT.lstoreN X0.here hx rfl (hb hby d6_1) rfl (l' := #[.val (.ref a), .val (.ref k), .val (.int (0 : Int32)), .val (.long (0 : Int64)), .second, .unset]) rfl ?_
    show Steps p.tables e below (s₁.setTop (mkF m 2 #[.val (.ref a), .val (.ref k), .val (.int (0 : Int32)), .val (.long (0 : Int64)), .second, .unset] [])) _
    refine XS.iconst X0.here hx rfl (hb hby d6_2) ?_
    show Steps p.tables e below (s₁.setTop (mkF m 3 #[.val (.ref a), .val (.ref k), .val (.int (0 : Int32)), .val (.long (0 : Int64)), .second, .unset] [(.int (0 : Int32))])) _
    refine XS.istore X0.here hx rfl (hb hby d6_3) rfl (l' := #[.val (.ref a), .val (.ref k), .val (.int (0 : Int32)), .val (.long (0 : Int64)), .second, .val (.int (0 : Int32))]) rfl ?_
    show Steps p.tables e below (s₁.setTop (mkF m 5 #[.val (.ref a), .val (.ref k), .val (.int (0 : Int32)), .val (.long (0 : Int64)), .second, .val (.int (0 : Int32))] [])) _
    refine XS.iload X0.here hx rfl (hb hby d6_5) rfl ?_
    show Steps p.tables e below (s₁.setTop (mkF m 7 #[.val (.ref a), .val (.ref k), .val (.int (0 : Int32)), .val (.long (0 : Int64)), .second, .val (.int (0 : Int32))] [(.int (0 : Int32))])) _
    refine XS.aloadN X0.here hx rfl (hb hby d6_7) rfl rfl ?_
    exact kk_)
  obtain ⟨T633, X633, e633, st633⟩ := getF X0 hx hZ hown (host := "") (Or.inl (hw _ (List.mem_of_getElem? (i := 16) rfl))) Via.refl e0 x_width (g := (mkF m 8 #[.val (.ref a), .val (.ref k), .val (.int (0 : Int32)), .val (.long (0 : Int64)), .second, .val (.int (0 : Int32))] [(.ref a), (.int (0 : Int32))])) rfl rfl (hb hby d6_8)
  have S634 : own_Go p e below s₁ G T633 (mkF m 11 #[.val (.ref a), .val (.ref k), .val (.int (0 : Int32)), .val (.long (0 : Int64)), .second, .val (.int (0 : Int32))] [(.int (1 : Int32)), (.int (0 : Int32))]) := fun tg_ kk_ => S632 tg_ (st633 tg_ kk_)
  have S635 : own_Go p e below s₁ G T633 (mkF m 20 #[.val (.ref a), .val (.ref k), .val (.int (0 : Int32)), .val (.long (0 : Int64)), .second, .val (.int (0 : Int32))] [(.int ((0 : Int32) + (0 : Int32))), (.ref k), (.long (0 : Int64))]) := fun tg_ kk_ => S634 tg_ (by
    refine XS.icmpNo X633.here hx rfl (hb hby d6_11) rfl (XT.ii_ge_f (by decide)) ?_
    show Steps p.tables e below (T633.setTop (mkF m 14 #[.val (.ref a), .val (.ref k), .val (.int (0 : Int32)), .val (.long (0 : Int64)), .second, .val (.int (0 : Int32))] [])) _
    refine XT.lloadN X633.here hx rfl (hb hby d6_14) rfl ?_
    show Steps p.tables e below (T633.setTop (mkF m 15 #[.val (.ref a), .val (.ref k), .val (.int (0 : Int32)), .val (.long (0 : Int64)), .second, .val (.int (0 : Int32))] [(.long (0 : Int64))])) _
    refine XS.aloadN X633.here hx rfl (hb hby d6_15) rfl rfl ?_
    show Steps p.tables e below (T633.setTop (mkF m 16 #[.val (.ref a), .val (.ref k), .val (.int (0 : Int32)), .val (.long (0 : Int64)), .second, .val (.int (0 : Int32))] [(.ref k), (.long (0 : Int64))])) _
    refine XS.iloadN X633.here hx rfl (hb hby d6_16) rfl ?_
    show Steps p.tables e below (T633.setTop (mkF m 17 #[.val (.ref a), .val (.ref k), .val (.int (0 : Int32)), .val (.long (0 : Int64)), .second, .val (.int (0 : Int32))] [(.int (0 : Int32)), (.ref k), (.long (0 : Int64))])) _
    refine XS.iload X633.here hx rfl (hb hby d6_17) rfl ?_
    show Steps p.tables e below (T633.setTop (mkF m 19 #[.val (.ref a), .val (.ref k), .val (.int (0 : Int32)), .val (.long (0 : Int64)), .second, .val (.int (0 : Int32))] [(.int (0 : Int32)), (.int (0 : Int32)), (.ref k), (.long (0 : Int64))])) _
    refine XS.iadd X633.here hx rfl (hb hby d6_19) rfl ?_
    exact kk_)
  rw [show ((0 : Int32) + (0 : Int32)) = (0 : Int32) from by decide +kernel] at S635
  obtain ⟨cl636, B636, -, z636, -, H636, -⟩ := id y_key
  have S637 : own_Go p e below s₁ G T633 (mkF m 22 #[.val (.ref a), .val (.ref k), .val (.int (0 : Int32)), .val (.long (0 : Int64)), .second, .val (.int (0 : Int32))] [(.long ((0 : Int64) ^^^ (0 : Int64)))]) := fun tg_ kk_ => S635 tg_ (by
    refine X633.laload hx (j := (0 : Int32)) (v := (.long (0 : Int64))) (cell := cl636) (by rw [e633]; exact B636.1) (State.isArrayOf_alike hZ.alike B636.2.1) B636.2.2 (inb_of z636 (by decide)) (H636.at (inb_of z636 (by decide)) rfl) (g := (mkF m 20 #[.val (.ref a), .val (.ref k), .val (.int (0 : Int32)), .val (.long (0 : Int64)), .second, .val (.int (0 : Int32))] [(.int (0 : Int32)), (.ref k), (.long (0 : Int64))])) rfl rfl (hb hby d6_20) _ ?_
    show Steps p.tables e below (T633.setTop (mkF m 21 #[.val (.ref a), .val (.ref k), .val (.int (0 : Int32)), .val (.long (0 : Int64)), .second, .val (.int (0 : Int32))] [(.long (0 : Int64)), (.long (0 : Int64))])) _
    refine XT.lxor X633.here hx rfl (hb hby d6_21) rfl ?_
    exact kk_)
  rw [show ((0 : Int64) ^^^ (0 : Int64)) = (0 : Int64) from by decide +kernel] at S637
  have S638 : own_Go p e below s₁ G T633 (mkF m 26 #[.val (.ref a), .val (.ref k), .val (.int (0 : Int32)), .val (.long (0 : Int64)), .second, .val (.int (0 : Int32))] [(.long ((0 : Int64) * (-7046029254386353131 : Int64)))]) := fun tg_ kk_ => S637 tg_ (by
    refine X633.ldc2Long hx hown (mvT hZ (hw _ (List.mem_of_getElem? (i := 49) rfl))) (g := (mkF m 22 #[.val (.ref a), .val (.ref k), .val (.int (0 : Int32)), .val (.long (0 : Int64)), .second, .val (.int (0 : Int32))] [(.long (0 : Int64))])) rfl (hb hby d6_22) _ ?_
    show Steps p.tables e below (T633.setTop (mkF m 25 #[.val (.ref a), .val (.ref k), .val (.int (0 : Int32)), .val (.long (0 : Int64)), .second, .val (.int (0 : Int32))] [(.long (-7046029254386353131 : Int64)), (.long (0 : Int64))])) _
    refine XT.lmul X633.here hx rfl (hb hby d6_25) rfl ?_
    exact kk_)
  rw [show ((0 : Int64) * (-7046029254386353131 : Int64)) = (0 : Int64) from by decide +kernel] at S638
  have S639 : own_Go p e below s₁ G T633 (mkF m 30 #[.val (.ref a), .val (.ref k), .val (.int (0 : Int32)), .val (.long (0 : Int64)), .second, .val (.int ((0 : Int32) + (1 : Int32)))] []) := fun tg_ kk_ => S638 tg_ (by
    refine XT.lstoreN X633.here hx rfl (hb hby d6_26) rfl (l' := #[.val (.ref a), .val (.ref k), .val (.int (0 : Int32)), .val (.long (0 : Int64)), .second, .val (.int (0 : Int32))]) rfl ?_
    show Steps p.tables e below (T633.setTop (mkF m 27 #[.val (.ref a), .val (.ref k), .val (.int (0 : Int32)), .val (.long (0 : Int64)), .second, .val (.int (0 : Int32))] [])) _
    refine XS.iinc X633.here hx rfl (hb hby d6_27) rfl (l' := #[.val (.ref a), .val (.ref k), .val (.int (0 : Int32)), .val (.long (0 : Int64)), .second, .val (.int ((0 : Int32) + (1 : Int32)))]) rfl ?_
    exact kk_)
  rw [show ((0 : Int32) + (1 : Int32)) = (1 : Int32) from by decide +kernel] at S639
  have S640 : own_Go p e below s₁ G T633 (mkF m 8 #[.val (.ref a), .val (.ref k), .val (.int (0 : Int32)), .val (.long (0 : Int64)), .second, .val (.int (1 : Int32))] [(.ref a), (.int (1 : Int32))]) := fun tg_ kk_ => S639 tg_ (by
    refine XS.goto X633.here hx rfl (pc0 := 30) (pc' := 5) rfl (hb hby d6_30) (by decide) (by decide) ?_
    show Steps p.tables e below (T633.setTop (mkF m 5 #[.val (.ref a), .val (.ref k), .val (.int (0 : Int32)), .val (.long (0 : Int64)), .second, .val (.int (1 : Int32))] [])) _
    refine XS.iload X633.here hx rfl (hb hby d6_5) rfl ?_
    show Steps p.tables e below (T633.setTop (mkF m 7 #[.val (.ref a), .val (.ref k), .val (.int (0 : Int32)), .val (.long (0 : Int64)), .second, .val (.int (1 : Int32))] [(.int (1 : Int32))])) _
    refine XS.aloadN X633.here hx rfl (hb hby d6_7) rfl rfl ?_
    exact kk_)
  obtain ⟨T641, X641, e641, st641⟩ := getF X633 hx hZ hown (host := "") (Or.inl (hw _ (List.mem_of_getElem? (i := 16) rfl))) Via.refl e633 x_width (g := (mkF m 8 #[.val (.ref a), .val (.ref k), .val (.int (0 : Int32)), .val (.long (0 : Int64)), .second, .val (.int (1 : Int32))] [(.ref a), (.int (1 : Int32))])) rfl rfl (hb hby d6_8)
  have S642 : own_Go p e below s₁ G T641 (mkF m 11 #[.val (.ref a), .val (.ref k), .val (.int (0 : Int32)), .val (.long (0 : Int64)), .second, .val (.int (1 : Int32))] [(.int (1 : Int32)), (.int (1 : Int32))]) := fun tg_ kk_ => S640 tg_ (st641 tg_ kk_)
  have S643 : own_Go p e below s₁ G T641 (mkF m 35 #[.val (.ref a), .val (.ref k), .val (.int (0 : Int32)), .val (.long (0 : Int64)), .second, .val (.int (1 : Int32))] [(.ref a), (.long (0 : Int64))]) := fun tg_ kk_ => S642 tg_ (by
    refine XS.icmpYes X641.here hx rfl (pc0 := 11) (pc' := 33) rfl (hb hby d6_11) rfl (XT.ii_ge_t (by decide)) (by decide) (by decide) ?_
    show Steps p.tables e below (T641.setTop (mkF m 33 #[.val (.ref a), .val (.ref k), .val (.int (0 : Int32)), .val (.long (0 : Int64)), .second, .val (.int (1 : Int32))] [])) _
    refine XT.lloadN X641.here hx rfl (hb hby d6_33) rfl ?_
    show Steps p.tables e below (T641.setTop (mkF m 34 #[.val (.ref a), .val (.ref k), .val (.int (0 : Int32)), .val (.long (0 : Int64)), .second, .val (.int (1 : Int32))] [(.long (0 : Int64))])) _
    refine XS.aloadN X641.here hx rfl (hb hby d6_34) rfl rfl ?_
    exact kk_)
  obtain ⟨T644, X644, e644, st644⟩ := getF X641 hx hZ hown (host := "") (Or.inl (hw _ (List.mem_of_getElem? (i := 38) rfl))) Via.refl e641 x_tableShift (g := (mkF m 35 #[.val (.ref a), .val (.ref k), .val (.int (0 : Int32)), .val (.long (0 : Int64)), .second, .val (.int (1 : Int32))] [(.ref a), (.long (0 : Int64))])) rfl rfl (hb hby d6_35)
  have S645 : own_Go p e below s₁ G T644 (mkF m 38 #[.val (.ref a), .val (.ref k), .val (.int (0 : Int32)), .val (.long (0 : Int64)), .second, .val (.int (1 : Int32))] [(.int (53 : Int32)), (.long (0 : Int64))]) := fun tg_ kk_ => S643 tg_ (st644 tg_ kk_)
  have S646 : own_Go p e below s₁ G T644 (mkF m 39 #[.val (.ref a), .val (.ref k), .val (.int (0 : Int32)), .val (.long (0 : Int64)), .second, .val (.int (1 : Int32))] [(.long (XT.ushrL (0 : Int64) (53 : Int32)))]) := fun tg_ kk_ => S645 tg_ (by
    refine XT.lushr X644.here hx rfl (hb hby d6_38) rfl ?_
    exact kk_)
  rw [show (XT.ushrL (0 : Int64) (53 : Int32)) = (0 : Int64) from by decide +kernel] at S646
  have S647 : own_Go p e below s₁ G T644 (mkF m 40 #[.val (.ref a), .val (.ref k), .val (.int (0 : Int32)), .val (.long (0 : Int64)), .second, .val (.int (1 : Int32))] [(.int ((0 : Int64).toInt32))]) := fun tg_ kk_ => S646 tg_ (by
    refine XT.l2i X644.here hx rfl (hb hby d6_39) rfl ?_
    exact kk_)
  rw [show ((0 : Int64).toInt32) = (0 : Int32) from by decide +kernel] at S647
  obtain ⟨fs, hr, hrun, hended, hW, hsame⟩ := X644.leave (v := some (.int (0 : Int32))) (fun h => by rw [Bd.returns] at h; cases h)
  refine ⟨_, _, ?_, hrun, hended, _, _, rfl, ?_, ⟨_, rfl⟩, hW, hsame.mono (by decide) (by decide)⟩
  · rw [← hG]; exact S647 _ (retI X644 hx Bd.returns (hb hby d6_40) hr)
  · show Q60 Z a w sh k b pr mv t h0 n0 _ T644.heap _
    rw [e644]
    exact ⟨rfl, N0, rfl⟩
def Q50 (Z : State) (a : Addr) (w : Addr) (sh : Addr) (k : Addr) (b : Addr) (pr : Addr) (mv : Addr) (t : Addr) (h0 : Heap) (n0 : Nat) (v : Option Value) (h : Heap) (L : List Loc) : Prop := v = some (.int 0) ∧ Fr n0 L ∧ h0 = h
set_option maxRecDepth 65536 in
set_option maxHeartbeats 40000000 in
theorem rm50 (l : Launch) (Z : State) (a0 : Array Value) (hw : ∀ d ∈ tables_1, d.before a0 Z = true) (ws : List Jvm.Cond) (a : Addr) (w : Addr) (sh : Addr) (k : Addr) (b : Addr) (pr : Addr) (mv : Addr) (t : Addr) (h0 : Heap) (n0 : Nat) (Z0 : n0 ≤ h0.size) (NT : own_NT Z h0 a w sh k b pr mv t 0 [] [] [] [] []) :
    MetFree l (⟨"com/example/tileshift/tileshift/NodeTable", "find", "()I"⟩ : MethodName) (head1 (Jvm.Cond.code (⟨"com/example/tileshift/tileshift/NodeTable", "find", "()I"⟩ : MethodName) prog_40_method_6_code 5 (some .int) :: ws) ({ frames := 1, cells := 0, slots := 0, locals := 20 } : Room)) (fun aa_ U => aa_ = #[(.ref a)] ∧ Z.Warmed39 U.vm ∧ U.heap = h0) (fun _ _ _ _ _ => True) (fun _ U o U' => ∃ v L, o = .returned v ∧ Q50 Z a w sh k b pr mv t h0 n0 v U'.heap L ∧ FrameEnd U o U' L ({ frames := 1, cells := 0, slots := 0, locals := 20 } : Room).cells ({ frames := 1, cells := 0, slots := 0, locals := 20 } : Room).slots) := by
  refine MetFree.of_bodySF (plainFor_of_name pn2) hisR ?_
  intro p e s m args below meth c s₁ Bd hml0 hP hK
  obtain ⟨rfl, hZ, hh⟩ := hP
  have hx := Bd.exec
  have hby := Bd.bytes
  have hml : c.maxLocals = 5 := hml0
  have hown : s.vm.findClass "com/example/tileshift/tileshift/NodeTable" = some m.cls := findClass_of_methodNamed Bd.named
  have hnm := (name_of_methodNamed Bd.named Bd.method).1
  have X0 : Stand p l e ({ frames := 1, cells := 0, slots := 0, locals := 20 } : Room) s m #[(.ref a)] below meth c s₁ [] 0 0 := Stand.of_body Bd
  have e0 : s₁.heap = h0 := by rw [← hh, Bd.state]; rfl
  have N0 := Fr.nil n0
  obtain ⟨G, hG⟩ : ∃ G, G = entryFrame m #[(.ref a)] 5 := ⟨_, rfl⟩
  have S0 : own_Go p e below s₁ G s₁ (mkF m 0 #[.val (.ref a), .unset, .unset, .unset, .unset] []) := fun tg_ kk_ => castTop (by rw [hG]; first | rfl | simp [entryFrame, mkF, argsToLocals, Value.category, maxLocals]) kk_
  have NT2 := NT
  obtain ⟨oo1, oo2, oo3, oo4, oo5, oo6, oo7, xE, x_bits, x_width, x_word, x_shift, x_key, x_boards, x_parent, x_move, x_nodes, x_table, x_tableShift, ⟨q_word, y_word⟩, ⟨q_shift, y_shift⟩, ⟨q_key, y_key⟩, ⟨q_boards, y_boards⟩, ⟨q_parent, y_parent⟩, ⟨q_move, y_move⟩, ⟨q_table, y_table⟩⟩ := NT2
  have S648 : own_Go p e below s₁ G s₁ (mkF m 1 #[.val (.ref a), .unset, .unset, .unset, .unset] [(.ref a)]) := fun tg_ kk_ => S0 tg_ (by
    refine XS.aloadN X0.here hx rfl (hb hby d5_0) rfl rfl ?_
    exact kk_)
  obtain ⟨T649, X649, e649, st649⟩ := getF X0 hx hZ hown (host := "") (Or.inl (hw _ (List.mem_of_getElem? (i := 16) rfl))) Via.refl e0 x_width (g := (mkF m 1 #[.val (.ref a), .unset, .unset, .unset, .unset] [(.ref a)])) rfl rfl (hb hby d5_1)
  have S650 : own_Go p e below s₁ G T649 (mkF m 4 #[.val (.ref a), .unset, .unset, .unset, .unset] [(.int (1 : Int32))]) := fun tg_ kk_ => S648 tg_ (st649 tg_ kk_)
  have S651 : own_Go p e below s₁ G T649 (mkF m 6 #[.val (.ref a), .val (.int (1 : Int32)), .unset, .unset, .unset] [(.ref a)]) := fun tg_ kk_ => S650 tg_ (by
    refine XS.istoreN X649.here hx rfl (hb hby d5_4) rfl (l' := #[.val (.ref a), .val (.int (1 : Int32)), .unset, .unset, .unset]) rfl ?_
    show Steps p.tables e below (T649.setTop (mkF m 5 #[.val (.ref a), .val (.int (1 : Int32)), .unset, .unset, .unset] [])) _
    refine XS.aloadN X649.here hx rfl (hb hby d5_5) rfl rfl ?_
    exact kk_)
  obtain ⟨T652, X652, e652, st652⟩ := getF X649 hx hZ hown (host := "") (Or.inl (hw _ (List.mem_of_getElem? (i := 36) rfl))) Via.refl e649 x_table (g := (mkF m 6 #[.val (.ref a), .val (.int (1 : Int32)), .unset, .unset, .unset] [(.ref a)])) rfl rfl (hb hby d5_6)
  have S653 : own_Go p e below s₁ G T652 (mkF m 9 #[.val (.ref a), .val (.int (1 : Int32)), .unset, .unset, .unset] [(.ref t)]) := fun tg_ kk_ => S651 tg_ (st652 tg_ kk_)
  obtain ⟨cl654, B654, -, z654, y654, -, -⟩ := id y_table
  have S655 : own_Go p e below s₁ G T652 (mkF m 12 #[.val (.ref a), .val (.int (1 : Int32)), .unset, .unset, .unset] [(.int ((2048 : Int32) - (1 : Int32)))]) := fun tg_ kk_ => S653 tg_ (by
    refine X652.arraylength hx (cell := cl654) (by rw [e652]; exact B654.1) (State.isArrayOf_alike hZ.alike B654.2.1) (g := (mkF m 9 #[.val (.ref a), .val (.int (1 : Int32)), .unset, .unset, .unset] [(.ref t)])) rfl (rest := []) rfl (hb hby d5_9) _ ?_
    rw [len_of z654 y654]
    show Steps p.tables e below (T652.setTop (mkF m 10 #[.val (.ref a), .val (.int (1 : Int32)), .unset, .unset, .unset] [(.int (2048 : Int32))])) _
    refine XS.iconst X652.here hx rfl (hb hby d5_10) ?_
    show Steps p.tables e below (T652.setTop (mkF m 11 #[.val (.ref a), .val (.int (1 : Int32)), .unset, .unset, .unset] [(.int (1 : Int32)), (.int (2048 : Int32))])) _
    refine XS.isub X652.here hx rfl (hb hby d5_11) rfl ?_
    exact kk_)
  rw [show ((2048 : Int32) - (1 : Int32)) = (2047 : Int32) from by decide +kernel] at S655
  have S656 : own_Go p e below s₁ G T652 (mkF m 15 #[.val (.ref a), .val (.int (1 : Int32)), .val (.int (2047 : Int32)), .unset, .unset] [(.ref a), (.ref a)]) := fun tg_ kk_ => S655 tg_ (by
    refine XS.istoreN X652.here hx rfl (hb hby d5_12) rfl (l' := #[.val (.ref a), .val (.int (1 : Int32)), .val (.int (2047 : Int32)), .unset, .unset]) rfl ?_
    show Steps p.tables e below (T652.setTop (mkF m 13 #[.val (.ref a), .val (.int (1 : Int32)), .val (.int (2047 : Int32)), .unset, .unset] [])) _
    refine XS.aloadN X652.here hx rfl (hb hby d5_13) rfl rfl ?_
    show Steps p.tables e below (T652.setTop (mkF m 14 #[.val (.ref a), .val (.int (1 : Int32)), .val (.int (2047 : Int32)), .unset, .unset] [(.ref a)])) _
    refine XS.aloadN X652.here hx rfl (hb hby d5_14) rfl rfl ?_
    exact kk_)
  obtain ⟨T657, X657, e657, st657⟩ := getF X652 hx hZ hown (host := "") (Or.inl (hw _ (List.mem_of_getElem? (i := 24) rfl))) Via.refl e652 x_key (g := (mkF m 15 #[.val (.ref a), .val (.int (1 : Int32)), .val (.int (2047 : Int32)), .unset, .unset] [(.ref a), (.ref a)])) rfl rfl (hb hby d5_15)
  have S658 : own_Go p e below s₁ G T657 (mkF m 18 #[.val (.ref a), .val (.int (1 : Int32)), .val (.int (2047 : Int32)), .unset, .unset] [(.ref k), (.ref a)]) := fun tg_ kk_ => S656 tg_ (st657 tg_ kk_)
  have S659 : own_Go p e below s₁ G T657 (mkF m 19 #[.val (.ref a), .val (.int (1 : Int32)), .val (.int (2047 : Int32)), .unset, .unset] [(.int (0 : Int32)), (.ref k), (.ref a)]) := fun tg_ kk_ => S658 tg_ (by
    refine XS.iconst X657.here hx rfl (hb hby d5_18) ?_
    exact kk_)
  obtain ⟨_, T660, h660, L660, X660, e660, hQ660, st660⟩ := own_callP X657 hx hZ (y := (⟨"com/example/tileshift/tileshift/NodeTable", "home", "([JI)I"⟩ : MethodName)) hown (hw _ (List.mem_of_getElem? (i := 45) rfl)) (hw _ (List.mem_of_getElem? (i := 46) rfl)) (hw _ (List.mem_of_getElem? (i := 47) rfl)) (hw _ (List.mem_of_getElem? (i := 1) rfl)) (hw _ (List.mem_of_getElem? (i := 2) rfl)) (hw _ (List.mem_of_getElem? (i := 48) rfl)) (by decide) 0 (g := (mkF m 19 #[.val (.ref a), .val (.int (1 : Int32)), .val (.int (2047 : Int32)), .unset, .unset] [(.int (0 : Int32)), (.ref k), (.ref a)])) rfl (by rw [hml]; rfl) a xE [(.ref k), (.int (0 : Int32))] [] (rm60 l Z a0 hw [] a w sh k b pr mv t h0 n0 Z0 NT) (lenOf pd6 rfl) rfl (by show 2 * 0 + _ ≤ _; exact Nat.le_of_eq rfl) (hb hby d5_19) (by decide) (by decide) e657 (by decide) (by decide)
  obtain ⟨rfl, N660, rfl⟩ := hQ660
  have S661 : own_Go p e below s₁ G T660 (mkF m 22 #[.val (.ref a), .val (.int (1 : Int32)), .val (.int (2047 : Int32)), .unset, .unset] [(.int (0 : Int32))]) := fun tg_ kk_ => S659 tg_ (st660 tg_ kk_)
  have M660 := Fr.app N0 N660
  have S662 : own_Go p e below s₁ G T660 (mkF m 24 #[.val (.ref a), .val (.int (1 : Int32)), .val (.int (2047 : Int32)), .val (.int (0 : Int32)), .unset] [(.ref a)]) := fun tg_ kk_ => S661 tg_ (by
    refine XS.istoreN X660.here hx rfl (hb hby d5_22) rfl (l' := #[.val (.ref a), .val (.int (1 : Int32)), .val (.int (2047 : Int32)), .val (.int (0 : Int32)), .unset]) rfl ?_
    show Steps p.tables e below (T660.setTop (mkF m 23 #[.val (.ref a), .val (.int (1 : Int32)), .val (.int (2047 : Int32)), .val (.int (0 : Int32)), .unset] [])) _
    refine XS.aloadN X660.here hx rfl (hb hby d5_23) rfl rfl ?_
    exact kk_)
  obtain ⟨T663, X663, e663, st663⟩ := getF X660 hx hZ hown (host := "") (Or.inl (hw _ (List.mem_of_getElem? (i := 36) rfl))) Via.refl e660 x_table (g := (mkF m 24 #[.val (.ref a), .val (.int (1 : Int32)), .val (.int (2047 : Int32)), .val (.int (0 : Int32)), .unset] [(.ref a)])) rfl rfl (hb hby d5_24)
  have S664 : own_Go p e below s₁ G T663 (mkF m 27 #[.val (.ref a), .val (.int (1 : Int32)), .val (.int (2047 : Int32)), .val (.int (0 : Int32)), .unset] [(.ref t)]) := fun tg_ kk_ => S662 tg_ (st663 tg_ kk_)
  have S665 : own_Go p e below s₁ G T663 (mkF m 28 #[.val (.ref a), .val (.int (1 : Int32)), .val (.int (2047 : Int32)), .val (.int (0 : Int32)), .unset] [(.int (0 : Int32)), (.ref t)]) := fun tg_ kk_ => S664 tg_ (by
    refine XS.iloadN X663.here hx rfl (hb hby d5_27) rfl ?_
    exact kk_)
  obtain ⟨cl666, B666, -, z666, -, H666, -⟩ := id y_table
  have S667 : own_Go p e below s₁ G T663 (mkF m 31 #[.val (.ref a), .val (.int (1 : Int32)), .val (.int (2047 : Int32)), .val (.int (0 : Int32)), .unset] [(.int ((0 : Int32) - (1 : Int32)))]) := fun tg_ kk_ => S665 tg_ (by
    refine X663.iaload hx (j := (0 : Int32)) (v := (.int (0 : Int32))) (cell := cl666) (by rw [e663]; exact B666.1) (State.isArrayOf_alike hZ.alike B666.2.1) B666.2.2 (inb_of z666 (by decide)) (H666.at (inb_of z666 (by decide)) rfl) (g := (mkF m 28 #[.val (.ref a), .val (.int (1 : Int32)), .val (.int (2047 : Int32)), .val (.int (0 : Int32)), .unset] [(.int (0 : Int32)), (.ref t)])) rfl rfl (hb hby d5_28) _ ?_
    show Steps p.tables e below (T663.setTop (mkF m 29 #[.val (.ref a), .val (.int (1 : Int32)), .val (.int (2047 : Int32)), .val (.int (0 : Int32)), .unset] [(.int (0 : Int32))])) _
    refine XS.iconst X663.here hx rfl (hb hby d5_29) ?_
    show Steps p.tables e below (T663.setTop (mkF m 30 #[.val (.ref a), .val (.int (1 : Int32)), .val (.int (2047 : Int32)), .val (.int (0 : Int32)), .unset] [(.int (1 : Int32)), (.int (0 : Int32))])) _
    refine XS.isub X663.here hx rfl (hb hby d5_30) rfl ?_
    exact kk_)
  rw [show ((0 : Int32) - (1 : Int32)) = (-1 : Int32) from by decide +kernel] at S667
  have S668 : own_Go p e below s₁ G T663 (mkF m 65 #[.val (.ref a), .val (.int (1 : Int32)), .val (.int (2047 : Int32)), .val (.int (0 : Int32)), .val (.int (-1 : Int32))] [(.int (0 : Int32))]) := fun tg_ kk_ => S667 tg_ (by
    refine XS.istore X663.here hx rfl (hb hby d5_31) rfl (l' := #[.val (.ref a), .val (.int (1 : Int32)), .val (.int (2047 : Int32)), .val (.int (0 : Int32)), .val (.int (-1 : Int32))]) rfl ?_
    show Steps p.tables e below (T663.setTop (mkF m 33 #[.val (.ref a), .val (.int (1 : Int32)), .val (.int (2047 : Int32)), .val (.int (0 : Int32)), .val (.int (-1 : Int32))] [])) _
    refine XS.iload X663.here hx rfl (hb hby d5_33) rfl ?_
    show Steps p.tables e below (T663.setTop (mkF m 35 #[.val (.ref a), .val (.int (1 : Int32)), .val (.int (2047 : Int32)), .val (.int (0 : Int32)), .val (.int (-1 : Int32))] [(.int (-1 : Int32))])) _
    refine XS.ifYes X663.here hx rfl (pc0 := 35) (pc' := 64) rfl (hb hby d5_35) rfl (XT.i0_lt_t (by decide)) (by decide) (by decide) ?_
    show Steps p.tables e below (T663.setTop (mkF m 64 #[.val (.ref a), .val (.int (1 : Int32)), .val (.int (2047 : Int32)), .val (.int (0 : Int32)), .val (.int (-1 : Int32))] [])) _
    refine XS.iloadN X663.here hx rfl (hb hby d5_64) rfl ?_
    exact kk_)
  obtain ⟨fs, hr, hrun, hended, hW, hsame⟩ := X663.leave (v := some (.int (0 : Int32))) (fun h => by rw [Bd.returns] at h; cases h)
  refine ⟨_, _, ?_, hrun, hended, _, _, rfl, ?_, ⟨_, rfl⟩, hW, hsame.mono (by decide) (by decide)⟩
  · rw [← hG]; exact S668 _ (retI X663 hx Bd.returns (hb hby d5_65) hr)
  · show Q50 Z a w sh k b pr mv t h0 n0 _ T663.heap _
    rw [e663]
    exact ⟨rfl, M660, rfl⟩
def Q61 (Z : State) (a : Addr) (w : Addr) (sh : Addr) (k : Addr) (b : Addr) (pr : Addr) (mv : Addr) (t : Addr) (h0 : Heap) (n0 : Nat) (v : Option Value) (h : Heap) (L : List Loc) : Prop := v = some (.int 118) ∧ Fr n0 L ∧ h0 = h
set_option maxRecDepth 65536 in
set_option maxHeartbeats 40000000 in
theorem rm61 (l : Launch) (Z : State) (a0 : Array Value) (hw : ∀ d ∈ tables_1, d.before a0 Z = true) (ws : List Jvm.Cond) (a : Addr) (w : Addr) (sh : Addr) (k : Addr) (b : Addr) (pr : Addr) (mv : Addr) (t : Addr) (h0 : Heap) (n0 : Nat) (Z0 : n0 ≤ h0.size) (NT : own_NT Z h0 a w sh k b pr mv t 1 [(.long (225 : Int64))] [(.long (0 : Int64))] [(.int (-1 : Int32))] [(.int (-1 : Int32))] [(.int (1 : Int32))]) :
    MetFree l (⟨"com/example/tileshift/tileshift/NodeTable", "home", "([JI)I"⟩ : MethodName) (head1 (Jvm.Cond.code (⟨"com/example/tileshift/tileshift/NodeTable", "home", "([JI)I"⟩ : MethodName) prog_40_method_13_code 6 (some .int) :: ws) ({ frames := 0, cells := 0, slots := 0, locals := 0 } : Room)) (fun aa_ U => aa_ = #[(.ref a), (.ref k), (.int (0 : Int32))] ∧ Z.Warmed39 U.vm ∧ U.heap = h0) (fun _ _ _ _ _ => True) (fun _ U o U' => ∃ v L, o = .returned v ∧ Q61 Z a w sh k b pr mv t h0 n0 v U'.heap L ∧ FrameEnd U o U' L ({ frames := 0, cells := 0, slots := 0, locals := 0 } : Room).cells ({ frames := 0, cells := 0, slots := 0, locals := 0 } : Room).slots) := by
  refine MetFree.of_bodySF (plainFor_of_name pn2) hisR ?_
  intro p e s m args below meth c s₁ Bd hml0 hP hK
  obtain ⟨rfl, hZ, hh⟩ := hP
  have hx := Bd.exec
  have hby := Bd.bytes
  have hml : c.maxLocals = 6 := hml0
  have hown : s.vm.findClass "com/example/tileshift/tileshift/NodeTable" = some m.cls := findClass_of_methodNamed Bd.named
  have hnm := (name_of_methodNamed Bd.named Bd.method).1
  have X0 : Stand p l e ({ frames := 0, cells := 0, slots := 0, locals := 0 } : Room) s m #[(.ref a), (.ref k), (.int (0 : Int32))] below meth c s₁ [] 0 0 := Stand.of_body Bd
  have e0 : s₁.heap = h0 := by rw [← hh, Bd.state]; rfl
  have N0 := Fr.nil n0
  obtain ⟨G, hG⟩ : ∃ G, G = entryFrame m #[(.ref a), (.ref k), (.int (0 : Int32))] 6 := ⟨_, rfl⟩
  have S0 : own_Go p e below s₁ G s₁ (mkF m 0 #[.val (.ref a), .val (.ref k), .val (.int (0 : Int32)), .unset, .unset, .unset] []) := fun tg_ kk_ => castTop (by rw [hG]; first | rfl | simp [entryFrame, mkF, argsToLocals, Value.category, maxLocals]) kk_
  obtain ⟨oo1, oo2, oo3, oo4, oo5, oo6, oo7, xE, x_bits, x_width, x_word, x_shift, x_key, x_boards, x_parent, x_move, x_nodes, x_table, x_tableShift, ⟨q_word, y_word⟩, ⟨q_shift, y_shift⟩, ⟨q_key, y_key⟩, ⟨q_boards, y_boards⟩, ⟨q_parent, y_parent⟩, ⟨q_move, y_move⟩, ⟨q_table, y_table⟩⟩ := NT
  have S669 : own_Go p e below s₁ G s₁ (mkF m 8 #[.val (.ref a), .val (.ref k), .val (.int (0 : Int32)), .val (.long (0 : Int64)), .second, .val (.int (0 : Int32))] [(.ref a), (.int (0 : Int32))]) := fun tg_ kk_ => S0 tg_ (by
    refine XT.lconst X0.here hx rfl (hb hby d6_0) ?_
    show Steps p.tables e below (s₁.setTop (mkF m 1 #[.val (.ref a), .val (.ref k), .val (.int (0 : Int32)), .unset, .unset, .unset] [(.long (0 : Int64))])) _
    refine XT.lstoreN X0.here hx rfl (hb hby d6_1) rfl (l' := #[.val (.ref a), .val (.ref k), .val (.int (0 : Int32)), .val (.long (0 : Int64)), .second, .unset]) rfl ?_
    show Steps p.tables e below (s₁.setTop (mkF m 2 #[.val (.ref a), .val (.ref k), .val (.int (0 : Int32)), .val (.long (0 : Int64)), .second, .unset] [])) _
    refine XS.iconst X0.here hx rfl (hb hby d6_2) ?_
    show Steps p.tables e below (s₁.setTop (mkF m 3 #[.val (.ref a), .val (.ref k), .val (.int (0 : Int32)), .val (.long (0 : Int64)), .second, .unset] [(.int (0 : Int32))])) _
    refine XS.istore X0.here hx rfl (hb hby d6_3) rfl (l' := #[.val (.ref a), .val (.ref k), .val (.int (0 : Int32)), .val (.long (0 : Int64)), .second, .val (.int (0 : Int32))]) rfl ?_
    show Steps p.tables e below (s₁.setTop (mkF m 5 #[.val (.ref a), .val (.ref k), .val (.int (0 : Int32)), .val (.long (0 : Int64)), .second, .val (.int (0 : Int32))] [])) _
    refine XS.iload X0.here hx rfl (hb hby d6_5) rfl ?_
    show Steps p.tables e below (s₁.setTop (mkF m 7 #[.val (.ref a), .val (.ref k), .val (.int (0 : Int32)), .val (.long (0 : Int64)), .second, .val (.int (0 : Int32))] [(.int (0 : Int32))])) _
    refine XS.aloadN X0.here hx rfl (hb hby d6_7) rfl rfl ?_
    exact kk_)
  obtain ⟨T670, X670, e670, st670⟩ := getF X0 hx hZ hown (host := "") (Or.inl (hw _ (List.mem_of_getElem? (i := 16) rfl))) Via.refl e0 x_width (g := (mkF m 8 #[.val (.ref a), .val (.ref k), .val (.int (0 : Int32)), .val (.long (0 : Int64)), .second, .val (.int (0 : Int32))] [(.ref a), (.int (0 : Int32))])) rfl rfl (hb hby d6_8)
  have S671 : own_Go p e below s₁ G T670 (mkF m 11 #[.val (.ref a), .val (.ref k), .val (.int (0 : Int32)), .val (.long (0 : Int64)), .second, .val (.int (0 : Int32))] [(.int (1 : Int32)), (.int (0 : Int32))]) := fun tg_ kk_ => S669 tg_ (st670 tg_ kk_)
  have S672 : own_Go p e below s₁ G T670 (mkF m 20 #[.val (.ref a), .val (.ref k), .val (.int (0 : Int32)), .val (.long (0 : Int64)), .second, .val (.int (0 : Int32))] [(.int ((0 : Int32) + (0 : Int32))), (.ref k), (.long (0 : Int64))]) := fun tg_ kk_ => S671 tg_ (by
    refine XS.icmpNo X670.here hx rfl (hb hby d6_11) rfl (XT.ii_ge_f (by decide)) ?_
    show Steps p.tables e below (T670.setTop (mkF m 14 #[.val (.ref a), .val (.ref k), .val (.int (0 : Int32)), .val (.long (0 : Int64)), .second, .val (.int (0 : Int32))] [])) _
    refine XT.lloadN X670.here hx rfl (hb hby d6_14) rfl ?_
    show Steps p.tables e below (T670.setTop (mkF m 15 #[.val (.ref a), .val (.ref k), .val (.int (0 : Int32)), .val (.long (0 : Int64)), .second, .val (.int (0 : Int32))] [(.long (0 : Int64))])) _
    refine XS.aloadN X670.here hx rfl (hb hby d6_15) rfl rfl ?_
    show Steps p.tables e below (T670.setTop (mkF m 16 #[.val (.ref a), .val (.ref k), .val (.int (0 : Int32)), .val (.long (0 : Int64)), .second, .val (.int (0 : Int32))] [(.ref k), (.long (0 : Int64))])) _
    refine XS.iloadN X670.here hx rfl (hb hby d6_16) rfl ?_
    show Steps p.tables e below (T670.setTop (mkF m 17 #[.val (.ref a), .val (.ref k), .val (.int (0 : Int32)), .val (.long (0 : Int64)), .second, .val (.int (0 : Int32))] [(.int (0 : Int32)), (.ref k), (.long (0 : Int64))])) _
    refine XS.iload X670.here hx rfl (hb hby d6_17) rfl ?_
    show Steps p.tables e below (T670.setTop (mkF m 19 #[.val (.ref a), .val (.ref k), .val (.int (0 : Int32)), .val (.long (0 : Int64)), .second, .val (.int (0 : Int32))] [(.int (0 : Int32)), (.int (0 : Int32)), (.ref k), (.long (0 : Int64))])) _
    refine XS.iadd X670.here hx rfl (hb hby d6_19) rfl ?_
    exact kk_)
  rw [show ((0 : Int32) + (0 : Int32)) = (0 : Int32) from by decide +kernel] at S672
  obtain ⟨cl673, B673, -, z673, -, H673, -⟩ := id y_key
  have S674 : own_Go p e below s₁ G T670 (mkF m 22 #[.val (.ref a), .val (.ref k), .val (.int (0 : Int32)), .val (.long (0 : Int64)), .second, .val (.int (0 : Int32))] [(.long ((0 : Int64) ^^^ (225 : Int64)))]) := fun tg_ kk_ => S672 tg_ (by
    refine X670.laload hx (j := (0 : Int32)) (v := (.long (225 : Int64))) (cell := cl673) (by rw [e670]; exact B673.1) (State.isArrayOf_alike hZ.alike B673.2.1) B673.2.2 (inb_of z673 (by decide)) (H673.at (inb_of z673 (by decide)) rfl) (g := (mkF m 20 #[.val (.ref a), .val (.ref k), .val (.int (0 : Int32)), .val (.long (0 : Int64)), .second, .val (.int (0 : Int32))] [(.int (0 : Int32)), (.ref k), (.long (0 : Int64))])) rfl rfl (hb hby d6_20) _ ?_
    show Steps p.tables e below (T670.setTop (mkF m 21 #[.val (.ref a), .val (.ref k), .val (.int (0 : Int32)), .val (.long (0 : Int64)), .second, .val (.int (0 : Int32))] [(.long (225 : Int64)), (.long (0 : Int64))])) _
    refine XT.lxor X670.here hx rfl (hb hby d6_21) rfl ?_
    exact kk_)
  rw [show ((0 : Int64) ^^^ (225 : Int64)) = (225 : Int64) from by decide +kernel] at S674
  have S675 : own_Go p e below s₁ G T670 (mkF m 26 #[.val (.ref a), .val (.ref k), .val (.int (0 : Int32)), .val (.long (0 : Int64)), .second, .val (.int (0 : Int32))] [(.long ((225 : Int64) * (-7046029254386353131 : Int64)))]) := fun tg_ kk_ => S674 tg_ (by
    refine X670.ldc2Long hx hown (mvT hZ (hw _ (List.mem_of_getElem? (i := 49) rfl))) (g := (mkF m 22 #[.val (.ref a), .val (.ref k), .val (.int (0 : Int32)), .val (.long (0 : Int64)), .second, .val (.int (0 : Int32))] [(.long (225 : Int64))])) rfl (hb hby d6_22) _ ?_
    show Steps p.tables e below (T670.setTop (mkF m 25 #[.val (.ref a), .val (.ref k), .val (.int (0 : Int32)), .val (.long (0 : Int64)), .second, .val (.int (0 : Int32))] [(.long (-7046029254386353131 : Int64)), (.long (225 : Int64))])) _
    refine XT.lmul X670.here hx rfl (hb hby d6_25) rfl ?_
    exact kk_)
  rw [show ((225 : Int64) * (-7046029254386353131 : Int64)) = (1063408102091984501 : Int64) from by decide +kernel] at S675
  have S676 : own_Go p e below s₁ G T670 (mkF m 30 #[.val (.ref a), .val (.ref k), .val (.int (0 : Int32)), .val (.long (1063408102091984501 : Int64)), .second, .val (.int ((0 : Int32) + (1 : Int32)))] []) := fun tg_ kk_ => S675 tg_ (by
    refine XT.lstoreN X670.here hx rfl (hb hby d6_26) rfl (l' := #[.val (.ref a), .val (.ref k), .val (.int (0 : Int32)), .val (.long (1063408102091984501 : Int64)), .second, .val (.int (0 : Int32))]) rfl ?_
    show Steps p.tables e below (T670.setTop (mkF m 27 #[.val (.ref a), .val (.ref k), .val (.int (0 : Int32)), .val (.long (1063408102091984501 : Int64)), .second, .val (.int (0 : Int32))] [])) _
    refine XS.iinc X670.here hx rfl (hb hby d6_27) rfl (l' := #[.val (.ref a), .val (.ref k), .val (.int (0 : Int32)), .val (.long (1063408102091984501 : Int64)), .second, .val (.int ((0 : Int32) + (1 : Int32)))]) rfl ?_
    exact kk_)
  rw [show ((0 : Int32) + (1 : Int32)) = (1 : Int32) from by decide +kernel] at S676
  have S677 : own_Go p e below s₁ G T670 (mkF m 8 #[.val (.ref a), .val (.ref k), .val (.int (0 : Int32)), .val (.long (1063408102091984501 : Int64)), .second, .val (.int (1 : Int32))] [(.ref a), (.int (1 : Int32))]) := fun tg_ kk_ => S676 tg_ (by
    refine XS.goto X670.here hx rfl (pc0 := 30) (pc' := 5) rfl (hb hby d6_30) (by decide) (by decide) ?_
    show Steps p.tables e below (T670.setTop (mkF m 5 #[.val (.ref a), .val (.ref k), .val (.int (0 : Int32)), .val (.long (1063408102091984501 : Int64)), .second, .val (.int (1 : Int32))] [])) _
    refine XS.iload X670.here hx rfl (hb hby d6_5) rfl ?_
    show Steps p.tables e below (T670.setTop (mkF m 7 #[.val (.ref a), .val (.ref k), .val (.int (0 : Int32)), .val (.long (1063408102091984501 : Int64)), .second, .val (.int (1 : Int32))] [(.int (1 : Int32))])) _
    refine XS.aloadN X670.here hx rfl (hb hby d6_7) rfl rfl ?_
    exact kk_)
  obtain ⟨T678, X678, e678, st678⟩ := getF X670 hx hZ hown (host := "") (Or.inl (hw _ (List.mem_of_getElem? (i := 16) rfl))) Via.refl e670 x_width (g := (mkF m 8 #[.val (.ref a), .val (.ref k), .val (.int (0 : Int32)), .val (.long (1063408102091984501 : Int64)), .second, .val (.int (1 : Int32))] [(.ref a), (.int (1 : Int32))])) rfl rfl (hb hby d6_8)
  have S679 : own_Go p e below s₁ G T678 (mkF m 11 #[.val (.ref a), .val (.ref k), .val (.int (0 : Int32)), .val (.long (1063408102091984501 : Int64)), .second, .val (.int (1 : Int32))] [(.int (1 : Int32)), (.int (1 : Int32))]) := fun tg_ kk_ => S677 tg_ (st678 tg_ kk_)
  have S680 : own_Go p e below s₁ G T678 (mkF m 35 #[.val (.ref a), .val (.ref k), .val (.int (0 : Int32)), .val (.long (1063408102091984501 : Int64)), .second, .val (.int (1 : Int32))] [(.ref a), (.long (1063408102091984501 : Int64))]) := fun tg_ kk_ => S679 tg_ (by
    refine XS.icmpYes X678.here hx rfl (pc0 := 11) (pc' := 33) rfl (hb hby d6_11) rfl (XT.ii_ge_t (by decide)) (by decide) (by decide) ?_
    show Steps p.tables e below (T678.setTop (mkF m 33 #[.val (.ref a), .val (.ref k), .val (.int (0 : Int32)), .val (.long (1063408102091984501 : Int64)), .second, .val (.int (1 : Int32))] [])) _
    refine XT.lloadN X678.here hx rfl (hb hby d6_33) rfl ?_
    show Steps p.tables e below (T678.setTop (mkF m 34 #[.val (.ref a), .val (.ref k), .val (.int (0 : Int32)), .val (.long (1063408102091984501 : Int64)), .second, .val (.int (1 : Int32))] [(.long (1063408102091984501 : Int64))])) _
    refine XS.aloadN X678.here hx rfl (hb hby d6_34) rfl rfl ?_
    exact kk_)
  obtain ⟨T681, X681, e681, st681⟩ := getF X678 hx hZ hown (host := "") (Or.inl (hw _ (List.mem_of_getElem? (i := 38) rfl))) Via.refl e678 x_tableShift (g := (mkF m 35 #[.val (.ref a), .val (.ref k), .val (.int (0 : Int32)), .val (.long (1063408102091984501 : Int64)), .second, .val (.int (1 : Int32))] [(.ref a), (.long (1063408102091984501 : Int64))])) rfl rfl (hb hby d6_35)
  have S682 : own_Go p e below s₁ G T681 (mkF m 38 #[.val (.ref a), .val (.ref k), .val (.int (0 : Int32)), .val (.long (1063408102091984501 : Int64)), .second, .val (.int (1 : Int32))] [(.int (53 : Int32)), (.long (1063408102091984501 : Int64))]) := fun tg_ kk_ => S680 tg_ (st681 tg_ kk_)
  have S683 : own_Go p e below s₁ G T681 (mkF m 39 #[.val (.ref a), .val (.ref k), .val (.int (0 : Int32)), .val (.long (1063408102091984501 : Int64)), .second, .val (.int (1 : Int32))] [(.long (XT.ushrL (1063408102091984501 : Int64) (53 : Int32)))]) := fun tg_ kk_ => S682 tg_ (by
    refine XT.lushr X681.here hx rfl (hb hby d6_38) rfl ?_
    exact kk_)
  rw [show (XT.ushrL (1063408102091984501 : Int64) (53 : Int32)) = (118 : Int64) from by decide +kernel] at S683
  have S684 : own_Go p e below s₁ G T681 (mkF m 40 #[.val (.ref a), .val (.ref k), .val (.int (0 : Int32)), .val (.long (1063408102091984501 : Int64)), .second, .val (.int (1 : Int32))] [(.int ((118 : Int64).toInt32))]) := fun tg_ kk_ => S683 tg_ (by
    refine XT.l2i X681.here hx rfl (hb hby d6_39) rfl ?_
    exact kk_)
  rw [show ((118 : Int64).toInt32) = (118 : Int32) from by decide +kernel] at S684
  obtain ⟨fs, hr, hrun, hended, hW, hsame⟩ := X681.leave (v := some (.int (118 : Int32))) (fun h => by rw [Bd.returns] at h; cases h)
  refine ⟨_, _, ?_, hrun, hended, _, _, rfl, ?_, ⟨_, rfl⟩, hW, hsame.mono (by decide) (by decide)⟩
  · rw [← hG]; exact S684 _ (retI X681 hx Bd.returns (hb hby d6_40) hr)
  · show Q61 Z a w sh k b pr mv t h0 n0 _ T681.heap _
    rw [e681]
    exact ⟨rfl, N0, rfl⟩
def Q51 (Z : State) (a : Addr) (w : Addr) (sh : Addr) (k : Addr) (b : Addr) (pr : Addr) (mv : Addr) (t : Addr) (h0 : Heap) (n0 : Nat) (v : Option Value) (h : Heap) (L : List Loc) : Prop := v = some (.int 118) ∧ Fr n0 L ∧ h0 = h
set_option maxRecDepth 65536 in
set_option maxHeartbeats 40000000 in
theorem rm51 (l : Launch) (Z : State) (a0 : Array Value) (hw : ∀ d ∈ tables_1, d.before a0 Z = true) (ws : List Jvm.Cond) (a : Addr) (w : Addr) (sh : Addr) (k : Addr) (b : Addr) (pr : Addr) (mv : Addr) (t : Addr) (h0 : Heap) (n0 : Nat) (Z0 : n0 ≤ h0.size) (NT : own_NT Z h0 a w sh k b pr mv t 1 [(.long (225 : Int64))] [(.long (0 : Int64))] [(.int (-1 : Int32))] [(.int (-1 : Int32))] [(.int (1 : Int32))]) :
    MetFree l (⟨"com/example/tileshift/tileshift/NodeTable", "find", "()I"⟩ : MethodName) (head1 (Jvm.Cond.code (⟨"com/example/tileshift/tileshift/NodeTable", "find", "()I"⟩ : MethodName) prog_40_method_6_code 5 (some .int) :: ws) ({ frames := 1, cells := 0, slots := 0, locals := 20 } : Room)) (fun aa_ U => aa_ = #[(.ref a)] ∧ Z.Warmed39 U.vm ∧ U.heap = h0) (fun _ _ _ _ _ => True) (fun _ U o U' => ∃ v L, o = .returned v ∧ Q51 Z a w sh k b pr mv t h0 n0 v U'.heap L ∧ FrameEnd U o U' L ({ frames := 1, cells := 0, slots := 0, locals := 20 } : Room).cells ({ frames := 1, cells := 0, slots := 0, locals := 20 } : Room).slots) := by
  refine MetFree.of_bodySF (plainFor_of_name pn2) hisR ?_
  intro p e s m args below meth c s₁ Bd hml0 hP hK
  obtain ⟨rfl, hZ, hh⟩ := hP
  have hx := Bd.exec
  have hby := Bd.bytes
  have hml : c.maxLocals = 5 := hml0
  have hown : s.vm.findClass "com/example/tileshift/tileshift/NodeTable" = some m.cls := findClass_of_methodNamed Bd.named
  have hnm := (name_of_methodNamed Bd.named Bd.method).1
  have X0 : Stand p l e ({ frames := 1, cells := 0, slots := 0, locals := 20 } : Room) s m #[(.ref a)] below meth c s₁ [] 0 0 := Stand.of_body Bd
  have e0 : s₁.heap = h0 := by rw [← hh, Bd.state]; rfl
  have N0 := Fr.nil n0
  obtain ⟨G, hG⟩ : ∃ G, G = entryFrame m #[(.ref a)] 5 := ⟨_, rfl⟩
  have S0 : own_Go p e below s₁ G s₁ (mkF m 0 #[.val (.ref a), .unset, .unset, .unset, .unset] []) := fun tg_ kk_ => castTop (by rw [hG]; first | rfl | simp [entryFrame, mkF, argsToLocals, Value.category, maxLocals]) kk_
  have NT2 := NT
  obtain ⟨oo1, oo2, oo3, oo4, oo5, oo6, oo7, xE, x_bits, x_width, x_word, x_shift, x_key, x_boards, x_parent, x_move, x_nodes, x_table, x_tableShift, ⟨q_word, y_word⟩, ⟨q_shift, y_shift⟩, ⟨q_key, y_key⟩, ⟨q_boards, y_boards⟩, ⟨q_parent, y_parent⟩, ⟨q_move, y_move⟩, ⟨q_table, y_table⟩⟩ := NT2
  have S685 : own_Go p e below s₁ G s₁ (mkF m 1 #[.val (.ref a), .unset, .unset, .unset, .unset] [(.ref a)]) := fun tg_ kk_ => S0 tg_ (by
    refine XS.aloadN X0.here hx rfl (hb hby d5_0) rfl rfl ?_
    exact kk_)
  obtain ⟨T686, X686, e686, st686⟩ := getF X0 hx hZ hown (host := "") (Or.inl (hw _ (List.mem_of_getElem? (i := 16) rfl))) Via.refl e0 x_width (g := (mkF m 1 #[.val (.ref a), .unset, .unset, .unset, .unset] [(.ref a)])) rfl rfl (hb hby d5_1)
  have S687 : own_Go p e below s₁ G T686 (mkF m 4 #[.val (.ref a), .unset, .unset, .unset, .unset] [(.int (1 : Int32))]) := fun tg_ kk_ => S685 tg_ (st686 tg_ kk_)
  have S688 : own_Go p e below s₁ G T686 (mkF m 6 #[.val (.ref a), .val (.int (1 : Int32)), .unset, .unset, .unset] [(.ref a)]) := fun tg_ kk_ => S687 tg_ (by
    refine XS.istoreN X686.here hx rfl (hb hby d5_4) rfl (l' := #[.val (.ref a), .val (.int (1 : Int32)), .unset, .unset, .unset]) rfl ?_
    show Steps p.tables e below (T686.setTop (mkF m 5 #[.val (.ref a), .val (.int (1 : Int32)), .unset, .unset, .unset] [])) _
    refine XS.aloadN X686.here hx rfl (hb hby d5_5) rfl rfl ?_
    exact kk_)
  obtain ⟨T689, X689, e689, st689⟩ := getF X686 hx hZ hown (host := "") (Or.inl (hw _ (List.mem_of_getElem? (i := 36) rfl))) Via.refl e686 x_table (g := (mkF m 6 #[.val (.ref a), .val (.int (1 : Int32)), .unset, .unset, .unset] [(.ref a)])) rfl rfl (hb hby d5_6)
  have S690 : own_Go p e below s₁ G T689 (mkF m 9 #[.val (.ref a), .val (.int (1 : Int32)), .unset, .unset, .unset] [(.ref t)]) := fun tg_ kk_ => S688 tg_ (st689 tg_ kk_)
  obtain ⟨cl691, B691, -, z691, y691, -, -⟩ := id y_table
  have S692 : own_Go p e below s₁ G T689 (mkF m 12 #[.val (.ref a), .val (.int (1 : Int32)), .unset, .unset, .unset] [(.int ((2048 : Int32) - (1 : Int32)))]) := fun tg_ kk_ => S690 tg_ (by
    refine X689.arraylength hx (cell := cl691) (by rw [e689]; exact B691.1) (State.isArrayOf_alike hZ.alike B691.2.1) (g := (mkF m 9 #[.val (.ref a), .val (.int (1 : Int32)), .unset, .unset, .unset] [(.ref t)])) rfl (rest := []) rfl (hb hby d5_9) _ ?_
    rw [len_of z691 y691]
    show Steps p.tables e below (T689.setTop (mkF m 10 #[.val (.ref a), .val (.int (1 : Int32)), .unset, .unset, .unset] [(.int (2048 : Int32))])) _
    refine XS.iconst X689.here hx rfl (hb hby d5_10) ?_
    show Steps p.tables e below (T689.setTop (mkF m 11 #[.val (.ref a), .val (.int (1 : Int32)), .unset, .unset, .unset] [(.int (1 : Int32)), (.int (2048 : Int32))])) _
    refine XS.isub X689.here hx rfl (hb hby d5_11) rfl ?_
    exact kk_)
  rw [show ((2048 : Int32) - (1 : Int32)) = (2047 : Int32) from by decide +kernel] at S692
  have S693 : own_Go p e below s₁ G T689 (mkF m 15 #[.val (.ref a), .val (.int (1 : Int32)), .val (.int (2047 : Int32)), .unset, .unset] [(.ref a), (.ref a)]) := fun tg_ kk_ => S692 tg_ (by
    refine XS.istoreN X689.here hx rfl (hb hby d5_12) rfl (l' := #[.val (.ref a), .val (.int (1 : Int32)), .val (.int (2047 : Int32)), .unset, .unset]) rfl ?_
    show Steps p.tables e below (T689.setTop (mkF m 13 #[.val (.ref a), .val (.int (1 : Int32)), .val (.int (2047 : Int32)), .unset, .unset] [])) _
    refine XS.aloadN X689.here hx rfl (hb hby d5_13) rfl rfl ?_
    show Steps p.tables e below (T689.setTop (mkF m 14 #[.val (.ref a), .val (.int (1 : Int32)), .val (.int (2047 : Int32)), .unset, .unset] [(.ref a)])) _
    refine XS.aloadN X689.here hx rfl (hb hby d5_14) rfl rfl ?_
    exact kk_)
  obtain ⟨T694, X694, e694, st694⟩ := getF X689 hx hZ hown (host := "") (Or.inl (hw _ (List.mem_of_getElem? (i := 24) rfl))) Via.refl e689 x_key (g := (mkF m 15 #[.val (.ref a), .val (.int (1 : Int32)), .val (.int (2047 : Int32)), .unset, .unset] [(.ref a), (.ref a)])) rfl rfl (hb hby d5_15)
  have S695 : own_Go p e below s₁ G T694 (mkF m 18 #[.val (.ref a), .val (.int (1 : Int32)), .val (.int (2047 : Int32)), .unset, .unset] [(.ref k), (.ref a)]) := fun tg_ kk_ => S693 tg_ (st694 tg_ kk_)
  have S696 : own_Go p e below s₁ G T694 (mkF m 19 #[.val (.ref a), .val (.int (1 : Int32)), .val (.int (2047 : Int32)), .unset, .unset] [(.int (0 : Int32)), (.ref k), (.ref a)]) := fun tg_ kk_ => S695 tg_ (by
    refine XS.iconst X694.here hx rfl (hb hby d5_18) ?_
    exact kk_)
  obtain ⟨_, T697, h697, L697, X697, e697, hQ697, st697⟩ := own_callP X694 hx hZ (y := (⟨"com/example/tileshift/tileshift/NodeTable", "home", "([JI)I"⟩ : MethodName)) hown (hw _ (List.mem_of_getElem? (i := 45) rfl)) (hw _ (List.mem_of_getElem? (i := 46) rfl)) (hw _ (List.mem_of_getElem? (i := 47) rfl)) (hw _ (List.mem_of_getElem? (i := 1) rfl)) (hw _ (List.mem_of_getElem? (i := 2) rfl)) (hw _ (List.mem_of_getElem? (i := 48) rfl)) (by decide) 0 (g := (mkF m 19 #[.val (.ref a), .val (.int (1 : Int32)), .val (.int (2047 : Int32)), .unset, .unset] [(.int (0 : Int32)), (.ref k), (.ref a)])) rfl (by rw [hml]; rfl) a xE [(.ref k), (.int (0 : Int32))] [] (rm61 l Z a0 hw [] a w sh k b pr mv t h0 n0 Z0 NT) (lenOf pd6 rfl) rfl (by show 2 * 0 + _ ≤ _; exact Nat.le_of_eq rfl) (hb hby d5_19) (by decide) (by decide) e694 (by decide) (by decide)
  obtain ⟨rfl, N697, rfl⟩ := hQ697
  have S698 : own_Go p e below s₁ G T697 (mkF m 22 #[.val (.ref a), .val (.int (1 : Int32)), .val (.int (2047 : Int32)), .unset, .unset] [(.int (118 : Int32))]) := fun tg_ kk_ => S696 tg_ (st697 tg_ kk_)
  have M697 := Fr.app N0 N697
  have S699 : own_Go p e below s₁ G T697 (mkF m 24 #[.val (.ref a), .val (.int (1 : Int32)), .val (.int (2047 : Int32)), .val (.int (118 : Int32)), .unset] [(.ref a)]) := fun tg_ kk_ => S698 tg_ (by
    refine XS.istoreN X697.here hx rfl (hb hby d5_22) rfl (l' := #[.val (.ref a), .val (.int (1 : Int32)), .val (.int (2047 : Int32)), .val (.int (118 : Int32)), .unset]) rfl ?_
    show Steps p.tables e below (T697.setTop (mkF m 23 #[.val (.ref a), .val (.int (1 : Int32)), .val (.int (2047 : Int32)), .val (.int (118 : Int32)), .unset] [])) _
    refine XS.aloadN X697.here hx rfl (hb hby d5_23) rfl rfl ?_
    exact kk_)
  obtain ⟨T700, X700, e700, st700⟩ := getF X697 hx hZ hown (host := "") (Or.inl (hw _ (List.mem_of_getElem? (i := 36) rfl))) Via.refl e697 x_table (g := (mkF m 24 #[.val (.ref a), .val (.int (1 : Int32)), .val (.int (2047 : Int32)), .val (.int (118 : Int32)), .unset] [(.ref a)])) rfl rfl (hb hby d5_24)
  have S701 : own_Go p e below s₁ G T700 (mkF m 27 #[.val (.ref a), .val (.int (1 : Int32)), .val (.int (2047 : Int32)), .val (.int (118 : Int32)), .unset] [(.ref t)]) := fun tg_ kk_ => S699 tg_ (st700 tg_ kk_)
  have S702 : own_Go p e below s₁ G T700 (mkF m 28 #[.val (.ref a), .val (.int (1 : Int32)), .val (.int (2047 : Int32)), .val (.int (118 : Int32)), .unset] [(.int (118 : Int32)), (.ref t)]) := fun tg_ kk_ => S701 tg_ (by
    refine XS.iloadN X700.here hx rfl (hb hby d5_27) rfl ?_
    exact kk_)
  obtain ⟨cl703, B703, -, z703, -, H703, -⟩ := id y_table
  have S704 : own_Go p e below s₁ G T700 (mkF m 31 #[.val (.ref a), .val (.int (1 : Int32)), .val (.int (2047 : Int32)), .val (.int (118 : Int32)), .unset] [(.int ((0 : Int32) - (1 : Int32)))]) := fun tg_ kk_ => S702 tg_ (by
    refine X700.iaload hx (j := (118 : Int32)) (v := (.int (0 : Int32))) (cell := cl703) (by rw [e700]; exact B703.1) (State.isArrayOf_alike hZ.alike B703.2.1) B703.2.2 (inb_of z703 (by decide)) (H703.at (inb_of z703 (by decide)) rfl) (g := (mkF m 28 #[.val (.ref a), .val (.int (1 : Int32)), .val (.int (2047 : Int32)), .val (.int (118 : Int32)), .unset] [(.int (118 : Int32)), (.ref t)])) rfl rfl (hb hby d5_28) _ ?_
    show Steps p.tables e below (T700.setTop (mkF m 29 #[.val (.ref a), .val (.int (1 : Int32)), .val (.int (2047 : Int32)), .val (.int (118 : Int32)), .unset] [(.int (0 : Int32))])) _
    refine XS.iconst X700.here hx rfl (hb hby d5_29) ?_
    show Steps p.tables e below (T700.setTop (mkF m 30 #[.val (.ref a), .val (.int (1 : Int32)), .val (.int (2047 : Int32)), .val (.int (118 : Int32)), .unset] [(.int (1 : Int32)), (.int (0 : Int32))])) _
    refine XS.isub X700.here hx rfl (hb hby d5_30) rfl ?_
    exact kk_)
  rw [show ((0 : Int32) - (1 : Int32)) = (-1 : Int32) from by decide +kernel] at S704
  have S705 : own_Go p e below s₁ G T700 (mkF m 65 #[.val (.ref a), .val (.int (1 : Int32)), .val (.int (2047 : Int32)), .val (.int (118 : Int32)), .val (.int (-1 : Int32))] [(.int (118 : Int32))]) := fun tg_ kk_ => S704 tg_ (by
    refine XS.istore X700.here hx rfl (hb hby d5_31) rfl (l' := #[.val (.ref a), .val (.int (1 : Int32)), .val (.int (2047 : Int32)), .val (.int (118 : Int32)), .val (.int (-1 : Int32))]) rfl ?_
    show Steps p.tables e below (T700.setTop (mkF m 33 #[.val (.ref a), .val (.int (1 : Int32)), .val (.int (2047 : Int32)), .val (.int (118 : Int32)), .val (.int (-1 : Int32))] [])) _
    refine XS.iload X700.here hx rfl (hb hby d5_33) rfl ?_
    show Steps p.tables e below (T700.setTop (mkF m 35 #[.val (.ref a), .val (.int (1 : Int32)), .val (.int (2047 : Int32)), .val (.int (118 : Int32)), .val (.int (-1 : Int32))] [(.int (-1 : Int32))])) _
    refine XS.ifYes X700.here hx rfl (pc0 := 35) (pc' := 64) rfl (hb hby d5_35) rfl (XT.i0_lt_t (by decide)) (by decide) (by decide) ?_
    show Steps p.tables e below (T700.setTop (mkF m 64 #[.val (.ref a), .val (.int (1 : Int32)), .val (.int (2047 : Int32)), .val (.int (118 : Int32)), .val (.int (-1 : Int32))] [])) _
    refine XS.iloadN X700.here hx rfl (hb hby d5_64) rfl ?_
    exact kk_)
  obtain ⟨fs, hr, hrun, hended, hW, hsame⟩ := X700.leave (v := some (.int (118 : Int32))) (fun h => by rw [Bd.returns] at h; cases h)
  refine ⟨_, _, ?_, hrun, hended, _, _, rfl, ?_, ⟨_, rfl⟩, hW, hsame.mono (by decide) (by decide)⟩
  · rw [← hG]; exact S705 _ (retI X700 hx Bd.returns (hb hby d5_65) hr)
  · show Q51 Z a w sh k b pr mv t h0 n0 _ T700.heap _
    rw [e700]
    exact ⟨rfl, M697, rfl⟩
def Q70 (Z : State) (a : Addr) (w : Addr) (sh : Addr) (k : Addr) (b : Addr) (pr : Addr) (mv : Addr) (t : Addr) (h0 : Heap) (n0 : Nat) (v : Option Value) (h : Heap) (L : List Loc) : Prop := v = some (.int 0) ∧ Fr n0 L ∧ Keep h0 h [a, b, pr, mv, t] ∧ own_NT Z h a w sh k b pr mv t 1 [] [(.long (0 : Int64))] [(.int (-1 : Int32))] [(.int (-1 : Int32))] [(.int (1 : Int32))]
set_option maxRecDepth 65536 in
set_option maxHeartbeats 40000000 in
theorem rm70 (l : Launch) (Z : State) (a0 : Array Value) (hw : ∀ d ∈ tables_1, d.before a0 Z = true) (ws : List Jvm.Cond) (a : Addr) (w : Addr) (sh : Addr) (k : Addr) (b : Addr) (pr : Addr) (mv : Addr) (t : Addr) (h0 : Heap) (n0 : Nat) (Z0 : n0 ≤ h0.size) (NT : own_NT Z h0 a w sh k b pr mv t 0 [] [] [] [] []) (ha : @LE.le Nat instLENat (n0) a) :
    MetFree l (⟨"com/example/tileshift/tileshift/NodeTable", "add", "(III)I"⟩ : MethodName) (head1 (Jvm.Cond.code (⟨"com/example/tileshift/tileshift/NodeTable", "add", "(III)I"⟩ : MethodName) prog_40_method_8_code 5 (some .int) :: ws) ({ frames := 1, cells := 0, slots := 0, locals := 30 } : Room)) (fun aa_ U => aa_ = #[(.ref a), (.int (0 : Int32)), (.int (-1 : Int32)), (.int (-1 : Int32))] ∧ Z.Warmed39 U.vm ∧ U.heap = h0) (fun _ _ _ _ _ => True) (fun _ U o U' => ∃ v L, o = .returned v ∧ Q70 Z a w sh k b pr mv t h0 n0 v U'.heap L ∧ FrameEnd U o U' L ({ frames := 1, cells := 0, slots := 0, locals := 30 } : Room).cells ({ frames := 1, cells := 0, slots := 0, locals := 30 } : Room).slots) := by
  refine MetFree.of_bodySF (plainFor_of_name pn2) hisR ?_
  intro p e s m args below meth c s₁ Bd hml0 hP hK
  obtain ⟨rfl, hZ, hh⟩ := hP
  have hx := Bd.exec
  have hby := Bd.bytes
  have hml : c.maxLocals = 5 := hml0
  have hown : s.vm.findClass "com/example/tileshift/tileshift/NodeTable" = some m.cls := findClass_of_methodNamed Bd.named
  have hnm := (name_of_methodNamed Bd.named Bd.method).1
  have X0 : Stand p l e ({ frames := 1, cells := 0, slots := 0, locals := 30 } : Room) s m #[(.ref a), (.int (0 : Int32)), (.int (-1 : Int32)), (.int (-1 : Int32))] below meth c s₁ [] 0 0 := Stand.of_body Bd
  have e0 : s₁.heap = h0 := by rw [← hh, Bd.state]; rfl
  have N0 := Fr.nil n0
  obtain ⟨G, hG⟩ : ∃ G, G = entryFrame m #[(.ref a), (.int (0 : Int32)), (.int (-1 : Int32)), (.int (-1 : Int32))] 5 := ⟨_, rfl⟩
  have S0 : own_Go p e below s₁ G s₁ (mkF m 0 #[.val (.ref a), .val (.int (0 : Int32)), .val (.int (-1 : Int32)), .val (.int (-1 : Int32)), .unset] []) := fun tg_ kk_ => castTop (by rw [hG]; first | (simp [entryFrame, mkF, argsToLocals, Value.category, maxLocals]; done) | rfl) kk_
  obtain ⟨oo1, oo2, oo3, oo4, oo5, oo6, oo7, xE, x_bits, x_width, x_word, x_shift, x_key, x_boards, x_parent, x_move, x_nodes, x_table, x_tableShift, ⟨q_word, y_word⟩, ⟨q_shift, y_shift⟩, ⟨q_key, y_key⟩, ⟨q_boards, y_boards⟩, ⟨q_parent, y_parent⟩, ⟨q_move, y_move⟩, ⟨q_table, y_table⟩⟩ := NT
  have S706 : own_Go p e below s₁ G s₁ (mkF m 1 #[.val (.ref a), .val (.int (0 : Int32)), .val (.int (-1 : Int32)), .val (.int (-1 : Int32)), .unset] [(.ref a)]) := fun tg_ kk_ => S0 tg_ (by
    refine XS.aloadN X0.here hx rfl (hb hby d7_0) rfl rfl ?_
    exact kk_)
  obtain ⟨T707, X707, e707, st707⟩ := getF X0 hx hZ hown (host := "") (Or.inl (hw _ (List.mem_of_getElem? (i := 55) rfl))) Via.refl e0 x_nodes (g := (mkF m 1 #[.val (.ref a), .val (.int (0 : Int32)), .val (.int (-1 : Int32)), .val (.int (-1 : Int32)), .unset] [(.ref a)])) rfl rfl (hb hby d7_1)
  have S708 : own_Go p e below s₁ G T707 (mkF m 4 #[.val (.ref a), .val (.int (0 : Int32)), .val (.int (-1 : Int32)), .val (.int (-1 : Int32)), .unset] [(.int (0 : Int32))]) := fun tg_ kk_ => S706 tg_ (st707 tg_ kk_)
  have S709 : own_Go p e below s₁ G T707 (mkF m 20 #[.val (.ref a), .val (.int (0 : Int32)), .val (.int (-1 : Int32)), .val (.int (-1 : Int32)), .unset] [(.ref a)]) := fun tg_ kk_ => S708 tg_ (by
    refine X707.ldcInt hx hown (mvT hZ (hw _ (List.mem_of_getElem? (i := 57) rfl))) (g := (mkF m 4 #[.val (.ref a), .val (.int (0 : Int32)), .val (.int (-1 : Int32)), .val (.int (-1 : Int32)), .unset] [(.int (0 : Int32))])) rfl (hb hby d7_4) _ ?_
    show Steps p.tables e below (T707.setTop (mkF m 6 #[.val (.ref a), .val (.int (0 : Int32)), .val (.int (-1 : Int32)), .val (.int (-1 : Int32)), .unset] [(.int (536870912 : Int32)), (.int (0 : Int32))])) _
    refine XS.icmpYes X707.here hx rfl (pc0 := 6) (pc' := 19) rfl (hb hby d7_6) rfl (XT.ii_ne_t (by decide)) (by decide) (by decide) ?_
    show Steps p.tables e below (T707.setTop (mkF m 19 #[.val (.ref a), .val (.int (0 : Int32)), .val (.int (-1 : Int32)), .val (.int (-1 : Int32)), .unset] [])) _
    refine XS.aloadN X707.here hx rfl (hb hby d7_19) rfl rfl ?_
    exact kk_)
  obtain ⟨T710, X710, e710, st710⟩ := getF X707 hx hZ hown (host := "") (Or.inl (hw _ (List.mem_of_getElem? (i := 55) rfl))) Via.refl e707 x_nodes (g := (mkF m 20 #[.val (.ref a), .val (.int (0 : Int32)), .val (.int (-1 : Int32)), .val (.int (-1 : Int32)), .unset] [(.ref a)])) rfl rfl (hb hby d7_20)
  have S711 : own_Go p e below s₁ G T710 (mkF m 23 #[.val (.ref a), .val (.int (0 : Int32)), .val (.int (-1 : Int32)), .val (.int (-1 : Int32)), .unset] [(.int (0 : Int32))]) := fun tg_ kk_ => S709 tg_ (st710 tg_ kk_)
  have S712 : own_Go p e below s₁ G T710 (mkF m 24 #[.val (.ref a), .val (.int (0 : Int32)), .val (.int (-1 : Int32)), .val (.int (-1 : Int32)), .unset] [(.ref a), (.int (0 : Int32))]) := fun tg_ kk_ => S711 tg_ (by
    refine XS.aloadN X710.here hx rfl (hb hby d7_23) rfl rfl ?_
    exact kk_)
  obtain ⟨T713, X713, e713, st713⟩ := getF X710 hx hZ hown (host := "") (Or.inl (hw _ (List.mem_of_getElem? (i := 28) rfl))) Via.refl e710 x_parent (g := (mkF m 24 #[.val (.ref a), .val (.int (0 : Int32)), .val (.int (-1 : Int32)), .val (.int (-1 : Int32)), .unset] [(.ref a), (.int (0 : Int32))])) rfl rfl (hb hby d7_24)
  have S714 : own_Go p e below s₁ G T713 (mkF m 27 #[.val (.ref a), .val (.int (0 : Int32)), .val (.int (-1 : Int32)), .val (.int (-1 : Int32)), .unset] [(.ref pr), (.int (0 : Int32))]) := fun tg_ kk_ => S712 tg_ (st713 tg_ kk_)
  obtain ⟨cl715, B715, -, z715, y715, -, -⟩ := id y_parent
  have S716 : own_Go p e below s₁ G T713 (mkF m 90 #[.val (.ref a), .val (.int (0 : Int32)), .val (.int (-1 : Int32)), .val (.int (-1 : Int32)), .unset] [(.ref a), (.ref a)]) := fun tg_ kk_ => S714 tg_ (by
    refine X713.arraylength hx (cell := cl715) (by rw [e713]; exact B715.1) (State.isArrayOf_alike hZ.alike B715.2.1) (g := (mkF m 27 #[.val (.ref a), .val (.int (0 : Int32)), .val (.int (-1 : Int32)), .val (.int (-1 : Int32)), .unset] [(.ref pr), (.int (0 : Int32))])) rfl (rest := [(.int (0 : Int32))]) rfl (hb hby d7_27) _ ?_
    rw [len_of z715 y715]
    show Steps p.tables e below (T713.setTop (mkF m 28 #[.val (.ref a), .val (.int (0 : Int32)), .val (.int (-1 : Int32)), .val (.int (-1 : Int32)), .unset] [(.int (1024 : Int32)), (.int (0 : Int32))])) _
    refine XS.icmpYes X713.here hx rfl (pc0 := 28) (pc' := 88) rfl (hb hby d7_28) rfl (XT.ii_ne_t (by decide)) (by decide) (by decide) ?_
    show Steps p.tables e below (T713.setTop (mkF m 88 #[.val (.ref a), .val (.int (0 : Int32)), .val (.int (-1 : Int32)), .val (.int (-1 : Int32)), .unset] [])) _
    refine XS.aloadN X713.here hx rfl (hb hby d7_88) rfl rfl ?_
    show Steps p.tables e below (T713.setTop (mkF m 89 #[.val (.ref a), .val (.int (0 : Int32)), .val (.int (-1 : Int32)), .val (.int (-1 : Int32)), .unset] [(.ref a)])) _
    refine XS.dup X713.here hx rfl (hb hby d7_89) rfl rfl ?_
    exact kk_)
  obtain ⟨T717, X717, e717, st717⟩ := getF X713 hx hZ hown (host := "") (Or.inl (hw _ (List.mem_of_getElem? (i := 55) rfl))) Via.refl e713 x_nodes (g := (mkF m 90 #[.val (.ref a), .val (.int (0 : Int32)), .val (.int (-1 : Int32)), .val (.int (-1 : Int32)), .unset] [(.ref a), (.ref a)])) rfl rfl (hb hby d7_90)
  have S718 : own_Go p e below s₁ G T717 (mkF m 93 #[.val (.ref a), .val (.int (0 : Int32)), .val (.int (-1 : Int32)), .val (.int (-1 : Int32)), .unset] [(.int (0 : Int32)), (.ref a)]) := fun tg_ kk_ => S716 tg_ (st717 tg_ kk_)
  have S719 : own_Go p e below s₁ G T717 (mkF m 96 #[.val (.ref a), .val (.int (0 : Int32)), .val (.int (-1 : Int32)), .val (.int (-1 : Int32)), .unset] [(.int ((0 : Int32) + (1 : Int32))), (.ref a), (.int (0 : Int32))]) := fun tg_ kk_ => S718 tg_ (by
    refine XT.dupX1 X717.here hx rfl (hb hby d7_93) rfl rfl rfl ?_
    show Steps p.tables e below (T717.setTop (mkF m 94 #[.val (.ref a), .val (.int (0 : Int32)), .val (.int (-1 : Int32)), .val (.int (-1 : Int32)), .unset] [(.int (0 : Int32)), (.ref a), (.int (0 : Int32))])) _
    refine XS.iconst X717.here hx rfl (hb hby d7_94) ?_
    show Steps p.tables e below (T717.setTop (mkF m 95 #[.val (.ref a), .val (.int (0 : Int32)), .val (.int (-1 : Int32)), .val (.int (-1 : Int32)), .unset] [(.int (1 : Int32)), (.int (0 : Int32)), (.ref a), (.int (0 : Int32))])) _
    refine XS.iadd X717.here hx rfl (hb hby d7_95) rfl ?_
    exact kk_)
  rw [show ((0 : Int32) + (1 : Int32)) = (1 : Int32) from by decide +kernel] at S719
  obtain ⟨T720, h720, X720, e720, W720, st720⟩ := putF X717 hx hZ hown (host := "") (Or.inl (hw _ (List.mem_of_getElem? (i := 55) rfl))) Via.refl e717 x_nodes xE (Or.inl (hw _ (List.mem_of_getElem? (i := 56) rfl))) (hw _ (List.mem_of_getElem? (i := 1) rfl)) (ty := .int) (by decide) rfl rfl (g := (mkF m 96 #[.val (.ref a), .val (.int (0 : Int32)), .val (.int (-1 : Int32)), .val (.int (-1 : Int32)), .unset] [(.int (1 : Int32)), (.ref a), (.int (0 : Int32))])) rfl rfl (hb hby d7_96)
  have S721 : own_Go p e below s₁ G T720 (mkF m 99 #[.val (.ref a), .val (.int (0 : Int32)), .val (.int (-1 : Int32)), .val (.int (-1 : Int32)), .unset] [(.int (0 : Int32))]) := fun tg_ kk_ => S719 tg_ (st720 tg_ kk_)
  have f722 := Fr.snoc X720 N0 (by omega)
  have f723 := xE.wr W720
  have f724 := x_bits.other W720 (Or.inr (slot_ne (C := "com/example/tileshift/tileshift/NodeTable") (a0 := a0) (Or.inr (hw _ (List.mem_of_getElem? (i := 15) rfl))) (Or.inl (hw _ (List.mem_of_getElem? (i := 56) rfl))) (by decide) (t := .int) (by decide) (t' := .int) (by decide)))
  have f725 := x_width.other W720 (Or.inr (slot_ne (C := "com/example/tileshift/tileshift/NodeTable") (a0 := a0) (Or.inr (hw _ (List.mem_of_getElem? (i := 17) rfl))) (Or.inl (hw _ (List.mem_of_getElem? (i := 56) rfl))) (by decide) (t := .int) (by decide) (t' := .int) (by decide)))
  have f726 := x_word.other W720 (Or.inr (slot_ne (C := "com/example/tileshift/tileshift/NodeTable") (a0 := a0) (Or.inr (hw _ (List.mem_of_getElem? (i := 20) rfl))) (Or.inl (hw _ (List.mem_of_getElem? (i := 56) rfl))) (by decide) (t := (.array .int)) (by decide) (t' := .int) (by decide)))
  have f727 := x_shift.other W720 (Or.inr (slot_ne (C := "com/example/tileshift/tileshift/NodeTable") (a0 := a0) (Or.inr (hw _ (List.mem_of_getElem? (i := 22) rfl))) (Or.inl (hw _ (List.mem_of_getElem? (i := 56) rfl))) (by decide) (t := (.array .int)) (by decide) (t' := .int) (by decide)))
  have f728 := x_key.other W720 (Or.inr (slot_ne (C := "com/example/tileshift/tileshift/NodeTable") (a0 := a0) (Or.inr (hw _ (List.mem_of_getElem? (i := 25) rfl))) (Or.inl (hw _ (List.mem_of_getElem? (i := 56) rfl))) (by decide) (t := (.array .long)) (by decide) (t' := .int) (by decide)))
  have f729 := x_boards.other W720 (Or.inr (slot_ne (C := "com/example/tileshift/tileshift/NodeTable") (a0 := a0) (Or.inl (hw _ (List.mem_of_getElem? (i := 27) rfl))) (Or.inl (hw _ (List.mem_of_getElem? (i := 56) rfl))) (by decide) (t := (.array .long)) (by decide) (t' := .int) (by decide)))
  have f730 := x_parent.other W720 (Or.inr (slot_ne (C := "com/example/tileshift/tileshift/NodeTable") (a0 := a0) (Or.inl (hw _ (List.mem_of_getElem? (i := 29) rfl))) (Or.inl (hw _ (List.mem_of_getElem? (i := 56) rfl))) (by decide) (t := (.array .int)) (by decide) (t' := .int) (by decide)))
  have f731 := x_move.other W720 (Or.inr (slot_ne (C := "com/example/tileshift/tileshift/NodeTable") (a0 := a0) (Or.inl (hw _ (List.mem_of_getElem? (i := 32) rfl))) (Or.inl (hw _ (List.mem_of_getElem? (i := 56) rfl))) (by decide) (t := (.array .byte)) (by decide) (t' := .int) (by decide)))
  have f732 := x_nodes.same W720
  have f733 := x_table.other W720 (Or.inr (slot_ne (C := "com/example/tileshift/tileshift/NodeTable") (a0 := a0) (Or.inl (hw _ (List.mem_of_getElem? (i := 37) rfl))) (Or.inl (hw _ (List.mem_of_getElem? (i := 56) rfl))) (by decide) (t := (.array .int)) (by decide) (t' := .int) (by decide)))
  have f734 := x_tableShift.other W720 (Or.inr (slot_ne (C := "com/example/tileshift/tileshift/NodeTable") (a0 := a0) (Or.inl (hw _ (List.mem_of_getElem? (i := 39) rfl))) (Or.inl (hw _ (List.mem_of_getElem? (i := 56) rfl))) (by decide) (t := .int) (by decide) (t' := .int) (by decide)))
  have f735 := y_word.other W720 (own_negt (by omega))
  have f736 := y_shift.other W720 (own_negt (by omega))
  have f737 := y_key.other W720 (own_negt (by omega))
  have f738 := y_boards.other W720 (own_negt (by omega))
  have f739 := y_parent.other W720 (own_negt (by omega))
  have f740 := y_move.other W720 (own_negt (by omega))
  have f741 := y_table.other W720 (own_negt (by omega))
  have f742 := Keep.wr (Keep.refl h0 [a, b, pr, mv, t]) W720 (Or.inl (by simp))
  have S743 : own_Go p e below s₁ G T720 (mkF m 102 #[.val (.ref a), .val (.int (0 : Int32)), .val (.int (-1 : Int32)), .val (.int (-1 : Int32)), .val (.int (0 : Int32))] [(.ref a)]) := fun tg_ kk_ => S721 tg_ (by
    refine XS.istore X720.here hx rfl (hb hby d7_99) rfl (l' := #[.val (.ref a), .val (.int (0 : Int32)), .val (.int (-1 : Int32)), .val (.int (-1 : Int32)), .val (.int (0 : Int32))]) rfl ?_
    show Steps p.tables e below (T720.setTop (mkF m 101 #[.val (.ref a), .val (.int (0 : Int32)), .val (.int (-1 : Int32)), .val (.int (-1 : Int32)), .val (.int (0 : Int32))] [])) _
    refine XS.aloadN X720.here hx rfl (hb hby d7_101) rfl rfl ?_
    exact kk_)
  obtain ⟨T744, X744, e744, st744⟩ := getF X720 hx hZ hown (host := "") (Or.inl (hw _ (List.mem_of_getElem? (i := 24) rfl))) Via.refl e720 f728 (g := (mkF m 102 #[.val (.ref a), .val (.int (0 : Int32)), .val (.int (-1 : Int32)), .val (.int (-1 : Int32)), .val (.int (0 : Int32))] [(.ref a)])) rfl rfl (hb hby d7_102)
  have S745 : own_Go p e below s₁ G T744 (mkF m 105 #[.val (.ref a), .val (.int (0 : Int32)), .val (.int (-1 : Int32)), .val (.int (-1 : Int32)), .val (.int (0 : Int32))] [(.ref k)]) := fun tg_ kk_ => S743 tg_ (st744 tg_ kk_)
  have S746 : own_Go p e below s₁ G T744 (mkF m 107 #[.val (.ref a), .val (.int (0 : Int32)), .val (.int (-1 : Int32)), .val (.int (-1 : Int32)), .val (.int (0 : Int32))] [(.ref a), (.int (0 : Int32)), (.ref k)]) := fun tg_ kk_ => S745 tg_ (by
    refine XS.iconst X744.here hx rfl (hb hby d7_105) ?_
    show Steps p.tables e below (T744.setTop (mkF m 106 #[.val (.ref a), .val (.int (0 : Int32)), .val (.int (-1 : Int32)), .val (.int (-1 : Int32)), .val (.int (0 : Int32))] [(.int (0 : Int32)), (.ref k)])) _
    refine XS.aloadN X744.here hx rfl (hb hby d7_106) rfl rfl ?_
    exact kk_)
  obtain ⟨T747, X747, e747, st747⟩ := getF X744 hx hZ hown (host := "") (Or.inl (hw _ (List.mem_of_getElem? (i := 26) rfl))) Via.refl e744 f729 (g := (mkF m 107 #[.val (.ref a), .val (.int (0 : Int32)), .val (.int (-1 : Int32)), .val (.int (-1 : Int32)), .val (.int (0 : Int32))] [(.ref a), (.int (0 : Int32)), (.ref k)])) rfl rfl (hb hby d7_107)
  have S748 : own_Go p e below s₁ G T747 (mkF m 110 #[.val (.ref a), .val (.int (0 : Int32)), .val (.int (-1 : Int32)), .val (.int (-1 : Int32)), .val (.int (0 : Int32))] [(.ref b), (.int (0 : Int32)), (.ref k)]) := fun tg_ kk_ => S746 tg_ (st747 tg_ kk_)
  have S749 : own_Go p e below s₁ G T747 (mkF m 113 #[.val (.ref a), .val (.int (0 : Int32)), .val (.int (-1 : Int32)), .val (.int (-1 : Int32)), .val (.int (0 : Int32))] [(.ref a), (.int (0 : Int32)), (.ref b), (.int (0 : Int32)), (.ref k)]) := fun tg_ kk_ => S748 tg_ (by
    refine XS.iload X747.here hx rfl (hb hby d7_110) rfl ?_
    show Steps p.tables e below (T747.setTop (mkF m 112 #[.val (.ref a), .val (.int (0 : Int32)), .val (.int (-1 : Int32)), .val (.int (-1 : Int32)), .val (.int (0 : Int32))] [(.int (0 : Int32)), (.ref b), (.int (0 : Int32)), (.ref k)])) _
    refine XS.aloadN X747.here hx rfl (hb hby d7_112) rfl rfl ?_
    exact kk_)
  obtain ⟨T750, X750, e750, st750⟩ := getF X747 hx hZ hown (host := "") (Or.inl (hw _ (List.mem_of_getElem? (i := 16) rfl))) Via.refl e747 f725 (g := (mkF m 113 #[.val (.ref a), .val (.int (0 : Int32)), .val (.int (-1 : Int32)), .val (.int (-1 : Int32)), .val (.int (0 : Int32))] [(.ref a), (.int (0 : Int32)), (.ref b), (.int (0 : Int32)), (.ref k)])) rfl rfl (hb hby d7_113)
  have S751 : own_Go p e below s₁ G T750 (mkF m 116 #[.val (.ref a), .val (.int (0 : Int32)), .val (.int (-1 : Int32)), .val (.int (-1 : Int32)), .val (.int (0 : Int32))] [(.int (1 : Int32)), (.int (0 : Int32)), (.ref b), (.int (0 : Int32)), (.ref k)]) := fun tg_ kk_ => S749 tg_ (st750 tg_ kk_)
  have S752 : own_Go p e below s₁ G T750 (mkF m 117 #[.val (.ref a), .val (.int (0 : Int32)), .val (.int (-1 : Int32)), .val (.int (-1 : Int32)), .val (.int (0 : Int32))] [(.int ((0 : Int32) * (1 : Int32))), (.ref b), (.int (0 : Int32)), (.ref k)]) := fun tg_ kk_ => S751 tg_ (by
    refine XS.imul X750.here hx rfl (hb hby d7_116) rfl ?_
    exact kk_)
  rw [show ((0 : Int32) * (1 : Int32)) = (0 : Int32) from by decide +kernel] at S752
  have S753 : own_Go p e below s₁ G T750 (mkF m 118 #[.val (.ref a), .val (.int (0 : Int32)), .val (.int (-1 : Int32)), .val (.int (-1 : Int32)), .val (.int (0 : Int32))] [(.ref a), (.int (0 : Int32)), (.ref b), (.int (0 : Int32)), (.ref k)]) := fun tg_ kk_ => S752 tg_ (by
    refine XS.aloadN X750.here hx rfl (hb hby d7_117) rfl rfl ?_
    exact kk_)
  obtain ⟨T754, X754, e754, st754⟩ := getF X750 hx hZ hown (host := "") (Or.inl (hw _ (List.mem_of_getElem? (i := 16) rfl))) Via.refl e750 f725 (g := (mkF m 118 #[.val (.ref a), .val (.int (0 : Int32)), .val (.int (-1 : Int32)), .val (.int (-1 : Int32)), .val (.int (0 : Int32))] [(.ref a), (.int (0 : Int32)), (.ref b), (.int (0 : Int32)), (.ref k)])) rfl rfl (hb hby d7_118)
  have S755 : own_Go p e below s₁ G T754 (mkF m 121 #[.val (.ref a), .val (.int (0 : Int32)), .val (.int (-1 : Int32)), .val (.int (-1 : Int32)), .val (.int (0 : Int32))] [(.int (1 : Int32)), (.int (0 : Int32)), (.ref b), (.int (0 : Int32)), (.ref k)]) := fun tg_ kk_ => S753 tg_ (st754 tg_ kk_)
  have pd756 : Arv Z h720 b q_boards .long (1024 : Int32) [(.long (0 : Int64))] (.long 0) := f738.pad (fun i => by match i with | 0 => rfl | _ + 1 => rfl)
  obtain ⟨T756, h756, L756, X756, e756, N756, K756, V756, st756⟩ := cpA X754 hx hZ hown (hw _ (List.mem_of_getElem? (i := 58) rfl)) (hw _ (List.mem_of_getElem? (i := 61) rfl)) (hw _ (List.mem_of_getElem? (i := 59) rfl)) (hw _ (List.mem_of_getElem? (i := 60) rfl)) e754 f737 pd756 (us := [(.long (0 : Int64))]) (Or.inl ⟨rfl, rfl⟩) (by decide) (by decide) (by decide) (by decide) (by decide) rfl (by decide) f722 (by omega) (g := (mkF m 121 #[.val (.ref a), .val (.int (0 : Int32)), .val (.int (-1 : Int32)), .val (.int (-1 : Int32)), .val (.int (0 : Int32))] [(.int (1 : Int32)), (.int (0 : Int32)), (.ref b), (.int (0 : Int32)), (.ref k)])) rfl (by rw [hml]; rfl) rfl (hb hby d7_121) (by decide) (W := 0) (by show 2 * 0 + _ ≤ _; exact Nat.le_of_eq rfl) (by decide)
  have S757 : own_Go p e below s₁ G T756 (mkF m 124 #[.val (.ref a), .val (.int (0 : Int32)), .val (.int (-1 : Int32)), .val (.int (-1 : Int32)), .val (.int (0 : Int32))] []) := fun tg_ kk_ => S755 tg_ (st756 tg_ kk_)
  have f758 := f723.keep K756
  have f759 := f724.keep K756 (ninS (own_nelt (by omega)) nin0)
  have f760 := f725.keep K756 (ninS (own_nelt (by omega)) nin0)
  have f761 := f726.keep K756 (ninS (own_nelt (by omega)) nin0)
  have f762 := f727.keep K756 (ninS (own_nelt (by omega)) nin0)
  have f763 := f728.keep K756 (ninS (own_nelt (by omega)) nin0)
  have f764 := f729.keep K756 (ninS (own_nelt (by omega)) nin0)
  have f765 := f730.keep K756 (ninS (own_nelt (by omega)) nin0)
  have f766 := f731.keep K756 (ninS (own_nelt (by omega)) nin0)
  have f767 := f732.keep K756 (ninS (own_nelt (by omega)) nin0)
  have f768 := f733.keep K756 (ninS (own_nelt (by omega)) nin0)
  have f769 := f734.keep K756 (ninS (own_nelt (by omega)) nin0)
  have f770 := f735.keep K756 (ninS (own_nelt (by omega)) nin0)
  have f771 := f736.keep K756 (ninS (own_nelt (by omega)) nin0)
  have f772 := f737.keep K756 (ninS (own_nelt (by omega)) nin0)
  have f773 := f739.keep K756 (ninS (own_negt (by omega)) nin0)
  have f774 := f740.keep K756 (ninS (own_negt (by omega)) nin0)
  have f775 := f741.keep K756 (ninS (own_negt (by omega)) nin0)
  have f776 := Keep.trans f742 K756 (allS (Or.inl (by simp)) all0)
  have S777 : own_Go p e below s₁ G T756 (mkF m 125 #[.val (.ref a), .val (.int (0 : Int32)), .val (.int (-1 : Int32)), .val (.int (-1 : Int32)), .val (.int (0 : Int32))] [(.ref a)]) := fun tg_ kk_ => S757 tg_ (by
    refine XS.aloadN X756.here hx rfl (hb hby d7_124) rfl rfl ?_
    exact kk_)
  obtain ⟨T778, X778, e778, st778⟩ := getF X756 hx hZ hown (host := "") (Or.inl (hw _ (List.mem_of_getElem? (i := 28) rfl))) Via.refl e756 f765 (g := (mkF m 125 #[.val (.ref a), .val (.int (0 : Int32)), .val (.int (-1 : Int32)), .val (.int (-1 : Int32)), .val (.int (0 : Int32))] [(.ref a)])) rfl rfl (hb hby d7_125)
  have S779 : own_Go p e below s₁ G T778 (mkF m 128 #[.val (.ref a), .val (.int (0 : Int32)), .val (.int (-1 : Int32)), .val (.int (-1 : Int32)), .val (.int (0 : Int32))] [(.ref pr)]) := fun tg_ kk_ => S777 tg_ (st778 tg_ kk_)
  have S780 : own_Go p e below s₁ G T778 (mkF m 131 #[.val (.ref a), .val (.int (0 : Int32)), .val (.int (-1 : Int32)), .val (.int (-1 : Int32)), .val (.int (0 : Int32))] [(.int (-1 : Int32)), (.int (0 : Int32)), (.ref pr)]) := fun tg_ kk_ => S779 tg_ (by
    refine XS.iload X778.here hx rfl (hb hby d7_128) rfl ?_
    show Steps p.tables e below (T778.setTop (mkF m 130 #[.val (.ref a), .val (.int (0 : Int32)), .val (.int (-1 : Int32)), .val (.int (-1 : Int32)), .val (.int (0 : Int32))] [(.int (0 : Int32)), (.ref pr)])) _
    refine XS.iloadN X778.here hx rfl (hb hby d7_130) rfl ?_
    exact kk_)
  obtain ⟨cl781, B781, b781, z781, y781, H781, F781⟩ := id f773
  obtain ⟨U781, u781, Y781, f781x, W781, su781⟩ := stI X778 hx hZ e778 B781 (j := (0 : Int32)) (inb_of z781 (by decide)) (g := (mkF m 131 #[.val (.ref a), .val (.int (0 : Int32)), .val (.int (-1 : Int32)), .val (.int (-1 : Int32)), .val (.int (0 : Int32))] [(.int (-1 : Int32)), (.int (0 : Int32)), (.ref pr)])) rfl rfl (hb hby d7_131)
  have S782 : own_Go p e below s₁ G U781 (mkF m 132 #[.val (.ref a), .val (.int (0 : Int32)), .val (.int (-1 : Int32)), .val (.int (-1 : Int32)), .val (.int (0 : Int32))] []) := fun tg_ kk_ => S780 tg_ (su781 tg_ kk_)
  have f783 : Arv Z u781 pr q_parent .int (1024 : Int32) [(.int (-1 : Int32))] (.int 0) := own_push f773 rfl W781 rfl
  have f784 := Fr.snoc Y781 N756 (by omega)
  have f785 := f758.wr W781
  have f786 := f759.other W781 (Or.inl (own_nelt (by omega)))
  have f787 := f760.other W781 (Or.inl (own_nelt (by omega)))
  have f788 := f761.other W781 (Or.inl (own_nelt (by omega)))
  have f789 := f762.other W781 (Or.inl (own_nelt (by omega)))
  have f790 := f763.other W781 (Or.inl (own_nelt (by omega)))
  have f791 := f764.other W781 (Or.inl (own_nelt (by omega)))
  have f792 := f765.other W781 (Or.inl (own_nelt (by omega)))
  have f793 := f766.other W781 (Or.inl (own_nelt (by omega)))
  have f794 := f767.other W781 (Or.inl (own_nelt (by omega)))
  have f795 := f768.other W781 (Or.inl (own_nelt (by omega)))
  have f796 := f769.other W781 (Or.inl (own_nelt (by omega)))
  have f797 := f770.other W781 (own_nelt (by omega))
  have f798 := f771.other W781 (own_nelt (by omega))
  have f799 := f772.other W781 (own_nelt (by omega))
  have f800 := f774.other W781 (own_negt (by omega))
  have f801 := f775.other W781 (own_negt (by omega))
  have f802 := V756.other W781 (own_nelt (by omega))
  have f803 := Keep.wr f776 W781 (Or.inl (by simp))
  have S804 : own_Go p e below s₁ G U781 (mkF m 133 #[.val (.ref a), .val (.int (0 : Int32)), .val (.int (-1 : Int32)), .val (.int (-1 : Int32)), .val (.int (0 : Int32))] [(.ref a)]) := fun tg_ kk_ => S782 tg_ (by
    refine XS.aloadN Y781.here hx rfl (hb hby d7_132) rfl rfl ?_
    exact kk_)
  obtain ⟨T805, X805, e805, st805⟩ := getF Y781 hx hZ hown (host := "") (Or.inl (hw _ (List.mem_of_getElem? (i := 31) rfl))) Via.refl f781x f793 (g := (mkF m 133 #[.val (.ref a), .val (.int (0 : Int32)), .val (.int (-1 : Int32)), .val (.int (-1 : Int32)), .val (.int (0 : Int32))] [(.ref a)])) rfl rfl (hb hby d7_133)
  have S806 : own_Go p e below s₁ G T805 (mkF m 136 #[.val (.ref a), .val (.int (0 : Int32)), .val (.int (-1 : Int32)), .val (.int (-1 : Int32)), .val (.int (0 : Int32))] [(.ref mv)]) := fun tg_ kk_ => S804 tg_ (st805 tg_ kk_)
  have S807 : own_Go p e below s₁ G T805 (mkF m 140 #[.val (.ref a), .val (.int (0 : Int32)), .val (.int (-1 : Int32)), .val (.int (-1 : Int32)), .val (.int (0 : Int32))] [(.int ((-1 : Int32).toInt8.toInt32)), (.int (0 : Int32)), (.ref mv)]) := fun tg_ kk_ => S806 tg_ (by
    refine XS.iload X805.here hx rfl (hb hby d7_136) rfl ?_
    show Steps p.tables e below (T805.setTop (mkF m 138 #[.val (.ref a), .val (.int (0 : Int32)), .val (.int (-1 : Int32)), .val (.int (-1 : Int32)), .val (.int (0 : Int32))] [(.int (0 : Int32)), (.ref mv)])) _
    refine XS.iloadN X805.here hx rfl (hb hby d7_138) rfl ?_
    show Steps p.tables e below (T805.setTop (mkF m 139 #[.val (.ref a), .val (.int (0 : Int32)), .val (.int (-1 : Int32)), .val (.int (-1 : Int32)), .val (.int (0 : Int32))] [(.int (-1 : Int32)), (.int (0 : Int32)), (.ref mv)])) _
    refine XT.i2b X805.here hx rfl (hb hby d7_139) rfl ?_
    exact kk_)
  rw [show ((-1 : Int32).toInt8.toInt32) = (-1 : Int32) from by decide +kernel] at S807
  obtain ⟨cl808, B808, b808, z808, y808, H808, F808⟩ := id f800
  obtain ⟨U808, u808, Y808, f808x, W808, su808⟩ := stB X805 hx hZ e805 B808 (j := (0 : Int32)) (inb_of z808 (by decide)) (g := (mkF m 140 #[.val (.ref a), .val (.int (0 : Int32)), .val (.int (-1 : Int32)), .val (.int (-1 : Int32)), .val (.int (0 : Int32))] [(.int (-1 : Int32)), (.int (0 : Int32)), (.ref mv)])) rfl rfl (hb hby d7_140)
  have S809 : own_Go p e below s₁ G U808 (mkF m 141 #[.val (.ref a), .val (.int (0 : Int32)), .val (.int (-1 : Int32)), .val (.int (-1 : Int32)), .val (.int (0 : Int32))] []) := fun tg_ kk_ => S807 tg_ (su808 tg_ kk_)
  rw [show nar .byte (-1 : Int32) = (-1 : Int32) from by decide +kernel] at W808
  have f810 : Arv Z u808 mv q_move .byte (1024 : Int32) [(.int (-1 : Int32))] (.int 0) := own_push f800 rfl W808 rfl
  have f811 := Fr.snoc Y808 f784 (by omega)
  have f812 := f785.wr W808
  have f813 := f786.other W808 (Or.inl (own_nelt (by omega)))
  have f814 := f787.other W808 (Or.inl (own_nelt (by omega)))
  have f815 := f788.other W808 (Or.inl (own_nelt (by omega)))
  have f816 := f789.other W808 (Or.inl (own_nelt (by omega)))
  have f817 := f790.other W808 (Or.inl (own_nelt (by omega)))
  have f818 := f791.other W808 (Or.inl (own_nelt (by omega)))
  have f819 := f792.other W808 (Or.inl (own_nelt (by omega)))
  have f820 := f793.other W808 (Or.inl (own_nelt (by omega)))
  have f821 := f794.other W808 (Or.inl (own_nelt (by omega)))
  have f822 := f795.other W808 (Or.inl (own_nelt (by omega)))
  have f823 := f796.other W808 (Or.inl (own_nelt (by omega)))
  have f824 := f797.other W808 (own_nelt (by omega))
  have f825 := f798.other W808 (own_nelt (by omega))
  have f826 := f799.other W808 (own_nelt (by omega))
  have f827 := f783.other W808 (own_nelt (by omega))
  have f828 := f801.other W808 (own_negt (by omega))
  have f829 := f802.other W808 (own_nelt (by omega))
  have f830 := Keep.wr f803 W808 (Or.inl (by simp))
  have S831 : own_Go p e below s₁ G U808 (mkF m 142 #[.val (.ref a), .val (.int (0 : Int32)), .val (.int (-1 : Int32)), .val (.int (-1 : Int32)), .val (.int (0 : Int32))] [(.ref a)]) := fun tg_ kk_ => S809 tg_ (by
    refine XS.aloadN Y808.here hx rfl (hb hby d7_141) rfl rfl ?_
    exact kk_)
  obtain ⟨T832, X832, e832, st832⟩ := getF Y808 hx hZ hown (host := "") (Or.inl (hw _ (List.mem_of_getElem? (i := 55) rfl))) Via.refl f808x f821 (g := (mkF m 142 #[.val (.ref a), .val (.int (0 : Int32)), .val (.int (-1 : Int32)), .val (.int (-1 : Int32)), .val (.int (0 : Int32))] [(.ref a)])) rfl rfl (hb hby d7_142)
  have S833 : own_Go p e below s₁ G T832 (mkF m 145 #[.val (.ref a), .val (.int (0 : Int32)), .val (.int (-1 : Int32)), .val (.int (-1 : Int32)), .val (.int (0 : Int32))] [(.int (1 : Int32))]) := fun tg_ kk_ => S831 tg_ (st832 tg_ kk_)
  have S834 : own_Go p e below s₁ G T832 (mkF m 147 #[.val (.ref a), .val (.int (0 : Int32)), .val (.int (-1 : Int32)), .val (.int (-1 : Int32)), .val (.int (0 : Int32))] [(.int ((1 : Int32) * (2 : Int32)))]) := fun tg_ kk_ => S833 tg_ (by
    refine XS.iconst X832.here hx rfl (hb hby d7_145) ?_
    show Steps p.tables e below (T832.setTop (mkF m 146 #[.val (.ref a), .val (.int (0 : Int32)), .val (.int (-1 : Int32)), .val (.int (-1 : Int32)), .val (.int (0 : Int32))] [(.int (2 : Int32)), (.int (1 : Int32))])) _
    refine XS.imul X832.here hx rfl (hb hby d7_146) rfl ?_
    exact kk_)
  rw [show ((1 : Int32) * (2 : Int32)) = (2 : Int32) from by decide +kernel] at S834
  have S835 : own_Go p e below s₁ G T832 (mkF m 148 #[.val (.ref a), .val (.int (0 : Int32)), .val (.int (-1 : Int32)), .val (.int (-1 : Int32)), .val (.int (0 : Int32))] [(.ref a), (.int (2 : Int32))]) := fun tg_ kk_ => S834 tg_ (by
    refine XS.aloadN X832.here hx rfl (hb hby d7_147) rfl rfl ?_
    exact kk_)
  obtain ⟨T836, X836, e836, st836⟩ := getF X832 hx hZ hown (host := "") (Or.inl (hw _ (List.mem_of_getElem? (i := 36) rfl))) Via.refl e832 f822 (g := (mkF m 148 #[.val (.ref a), .val (.int (0 : Int32)), .val (.int (-1 : Int32)), .val (.int (-1 : Int32)), .val (.int (0 : Int32))] [(.ref a), (.int (2 : Int32))])) rfl rfl (hb hby d7_148)
  have S837 : own_Go p e below s₁ G T836 (mkF m 151 #[.val (.ref a), .val (.int (0 : Int32)), .val (.int (-1 : Int32)), .val (.int (-1 : Int32)), .val (.int (0 : Int32))] [(.ref t), (.int (2 : Int32))]) := fun tg_ kk_ => S835 tg_ (st836 tg_ kk_)
  obtain ⟨cl838, B838, -, z838, y838, -, -⟩ := id f828
  have S839 : own_Go p e below s₁ G T836 (mkF m 163 #[.val (.ref a), .val (.int (0 : Int32)), .val (.int (-1 : Int32)), .val (.int (-1 : Int32)), .val (.int (0 : Int32))] [(.ref a)]) := fun tg_ kk_ => S837 tg_ (by
    refine X836.arraylength hx (cell := cl838) (by rw [e836]; exact B838.1) (State.isArrayOf_alike hZ.alike B838.2.1) (g := (mkF m 151 #[.val (.ref a), .val (.int (0 : Int32)), .val (.int (-1 : Int32)), .val (.int (-1 : Int32)), .val (.int (0 : Int32))] [(.ref t), (.int (2 : Int32))])) rfl (rest := [(.int (2 : Int32))]) rfl (hb hby d7_151) _ ?_
    rw [len_of z838 y838]
    show Steps p.tables e below (T836.setTop (mkF m 152 #[.val (.ref a), .val (.int (0 : Int32)), .val (.int (-1 : Int32)), .val (.int (-1 : Int32)), .val (.int (0 : Int32))] [(.int (2048 : Int32)), (.int (2 : Int32))])) _
    refine XS.icmpYes X836.here hx rfl (pc0 := 152) (pc' := 162) rfl (hb hby d7_152) rfl (XT.ii_le_t (by decide)) (by decide) (by decide) ?_
    show Steps p.tables e below (T836.setTop (mkF m 162 #[.val (.ref a), .val (.int (0 : Int32)), .val (.int (-1 : Int32)), .val (.int (-1 : Int32)), .val (.int (0 : Int32))] [])) _
    refine XS.aloadN X836.here hx rfl (hb hby d7_162) rfl rfl ?_
    exact kk_)
  obtain ⟨T840, X840, e840, st840⟩ := getF X836 hx hZ hown (host := "") (Or.inl (hw _ (List.mem_of_getElem? (i := 36) rfl))) Via.refl e836 f822 (g := (mkF m 163 #[.val (.ref a), .val (.int (0 : Int32)), .val (.int (-1 : Int32)), .val (.int (-1 : Int32)), .val (.int (0 : Int32))] [(.ref a)])) rfl rfl (hb hby d7_163)
  have S841 : own_Go p e below s₁ G T840 (mkF m 166 #[.val (.ref a), .val (.int (0 : Int32)), .val (.int (-1 : Int32)), .val (.int (-1 : Int32)), .val (.int (0 : Int32))] [(.ref t)]) := fun tg_ kk_ => S839 tg_ (st840 tg_ kk_)
  have S842 : own_Go p e below s₁ G T840 (mkF m 171 #[.val (.ref a), .val (.int (0 : Int32)), .val (.int (-1 : Int32)), .val (.int (-1 : Int32)), .val (.int (0 : Int32))] [(.int ((0 : Int32) + (1 : Int32))), (.int (0 : Int32)), (.ref t)]) := fun tg_ kk_ => S841 tg_ (by
    refine XS.iloadN X840.here hx rfl (hb hby d7_166) rfl ?_
    show Steps p.tables e below (T840.setTop (mkF m 167 #[.val (.ref a), .val (.int (0 : Int32)), .val (.int (-1 : Int32)), .val (.int (-1 : Int32)), .val (.int (0 : Int32))] [(.int (0 : Int32)), (.ref t)])) _
    refine XS.iload X840.here hx rfl (hb hby d7_167) rfl ?_
    show Steps p.tables e below (T840.setTop (mkF m 169 #[.val (.ref a), .val (.int (0 : Int32)), .val (.int (-1 : Int32)), .val (.int (-1 : Int32)), .val (.int (0 : Int32))] [(.int (0 : Int32)), (.int (0 : Int32)), (.ref t)])) _
    refine XS.iconst X840.here hx rfl (hb hby d7_169) ?_
    show Steps p.tables e below (T840.setTop (mkF m 170 #[.val (.ref a), .val (.int (0 : Int32)), .val (.int (-1 : Int32)), .val (.int (-1 : Int32)), .val (.int (0 : Int32))] [(.int (1 : Int32)), (.int (0 : Int32)), (.int (0 : Int32)), (.ref t)])) _
    refine XS.iadd X840.here hx rfl (hb hby d7_170) rfl ?_
    exact kk_)
  rw [show ((0 : Int32) + (1 : Int32)) = (1 : Int32) from by decide +kernel] at S842
  obtain ⟨cl843, B843, b843, z843, y843, H843, F843⟩ := id f828
  obtain ⟨U843, u843, Y843, f843x, W843, su843⟩ := stI X840 hx hZ e840 B843 (j := (0 : Int32)) (inb_of z843 (by decide)) (g := (mkF m 171 #[.val (.ref a), .val (.int (0 : Int32)), .val (.int (-1 : Int32)), .val (.int (-1 : Int32)), .val (.int (0 : Int32))] [(.int (1 : Int32)), (.int (0 : Int32)), (.ref t)])) rfl rfl (hb hby d7_171)
  have S844 : own_Go p e below s₁ G U843 (mkF m 172 #[.val (.ref a), .val (.int (0 : Int32)), .val (.int (-1 : Int32)), .val (.int (-1 : Int32)), .val (.int (0 : Int32))] []) := fun tg_ kk_ => S842 tg_ (su843 tg_ kk_)
  have f845 : Arv Z u843 t q_table .int (2048 : Int32) [(.int (1 : Int32))] (.int 0) := own_push f828 rfl W843 rfl
  have f846 := Fr.snoc Y843 f811 (by omega)
  have f847 := f812.wr W843
  have f848 := f813.other W843 (Or.inl (own_nelt (by omega)))
  have f849 := f814.other W843 (Or.inl (own_nelt (by omega)))
  have f850 := f815.other W843 (Or.inl (own_nelt (by omega)))
  have f851 := f816.other W843 (Or.inl (own_nelt (by omega)))
  have f852 := f817.other W843 (Or.inl (own_nelt (by omega)))
  have f853 := f818.other W843 (Or.inl (own_nelt (by omega)))
  have f854 := f819.other W843 (Or.inl (own_nelt (by omega)))
  have f855 := f820.other W843 (Or.inl (own_nelt (by omega)))
  have f856 := f821.other W843 (Or.inl (own_nelt (by omega)))
  have f857 := f822.other W843 (Or.inl (own_nelt (by omega)))
  have f858 := f823.other W843 (Or.inl (own_nelt (by omega)))
  have f859 := f824.other W843 (own_nelt (by omega))
  have f860 := f825.other W843 (own_nelt (by omega))
  have f861 := f826.other W843 (own_nelt (by omega))
  have f862 := f827.other W843 (own_nelt (by omega))
  have f863 := f810.other W843 (own_nelt (by omega))
  have f864 := f829.other W843 (own_nelt (by omega))
  have f865 := Keep.wr f830 W843 (Or.inl (by simp))
  have S866 : own_Go p e below s₁ G U843 (mkF m 174 #[.val (.ref a), .val (.int (0 : Int32)), .val (.int (-1 : Int32)), .val (.int (-1 : Int32)), .val (.int (0 : Int32))] [(.int (0 : Int32))]) := fun tg_ kk_ => S844 tg_ (by
    refine XS.iload Y843.here hx rfl (hb hby d7_172) rfl ?_
    exact kk_)
  obtain ⟨fs, hr, hrun, hended, hW, hsame⟩ := Y843.leave (v := some (.int (0 : Int32))) (fun h => by rw [Bd.returns] at h; cases h)
  refine ⟨_, _, ?_, hrun, hended, _, _, rfl, ?_, ⟨_, rfl⟩, hW, hsame.mono (by decide) (by decide)⟩
  · rw [← hG]; exact S866 _ (retI Y843 hx Bd.returns (hb hby d7_174) hr)
  · show Q70 Z a w sh k b pr mv t h0 n0 _ U843.heap _
    rw [f843x]
    exact ⟨rfl, f846, f865, ⟨oo1, oo2, oo3, oo4, oo5, oo6, oo7, f847, f848, f849, f850, f851, f852, f853, f854, f855, f856, f857, f858, ⟨_, f859⟩, ⟨_, f860⟩, ⟨_, f861⟩, ⟨_, f864⟩, ⟨_, f862⟩, ⟨_, f863⟩, ⟨_, f845⟩⟩⟩
def own_NP (Z : State) (h : Heap) (a pr mv : Addr) (x y : Int32) : Prop := @LT.lt Nat instLTNat a pr ∧ @LT.lt Nat instLTNat pr mv ∧ Exa Z h a "com/example/tileshift/tileshift/NodeTable" ∧ Fld Z h a "com/example/tileshift/tileshift/NodeTable" "parent" "[I" (.ref pr) ∧ Fld Z h a "com/example/tileshift/tileshift/NodeTable" "move" "[B" (.ref mv) ∧ (∃ q, Arv Z h pr q .int 1024 [.int (-1), .int x] (.int 0)) ∧ (∃ q, Arv Z h mv q .byte 1024 [.int (-1), .int y] (.int 0))
def Q71 (Z : State) (a : Addr) (w : Addr) (sh : Addr) (k : Addr) (b : Addr) (pr : Addr) (mv : Addr) (t : Addr) (op : Int32) (om : Int32) (h0 : Heap) (n0 : Nat) (v : Option Value) (h : Heap) (L : List Loc) : Prop := v = some (.int 1) ∧ Fr n0 L ∧ Keep h0 h [a, b, pr, mv, t] ∧ ∃ y, own_NP Z h a pr mv op y
set_option maxRecDepth 65536 in
set_option maxHeartbeats 40000000 in
theorem rm71 (l : Launch) (Z : State) (a0 : Array Value) (hw : ∀ d ∈ tables_1, d.before a0 Z = true) (ws : List Jvm.Cond) (a : Addr) (w : Addr) (sh : Addr) (k : Addr) (b : Addr) (pr : Addr) (mv : Addr) (t : Addr) (op : Int32) (om : Int32) (h0 : Heap) (n0 : Nat) (Z0 : n0 ≤ h0.size) (NT : own_NT Z h0 a w sh k b pr mv t 1 [(.long (225 : Int64))] [(.long (0 : Int64))] [(.int (-1 : Int32))] [(.int (-1 : Int32))] [(.int (1 : Int32))]) (ha : @LE.le Nat instLENat (n0) a) :
    MetFree l (⟨"com/example/tileshift/tileshift/NodeTable", "add", "(III)I"⟩ : MethodName) (head1 (Jvm.Cond.code (⟨"com/example/tileshift/tileshift/NodeTable", "add", "(III)I"⟩ : MethodName) prog_40_method_8_code 5 (some .int) :: ws) ({ frames := 1, cells := 0, slots := 0, locals := 30 } : Room)) (fun aa_ U => aa_ = #[(.ref a), (.int (118 : Int32)), (.int op), (.int om)] ∧ Z.Warmed39 U.vm ∧ U.heap = h0) (fun _ _ _ _ _ => True) (fun _ U o U' => ∃ v L, o = .returned v ∧ Q71 Z a w sh k b pr mv t op om h0 n0 v U'.heap L ∧ FrameEnd U o U' L ({ frames := 1, cells := 0, slots := 0, locals := 30 } : Room).cells ({ frames := 1, cells := 0, slots := 0, locals := 30 } : Room).slots) := by
  refine MetFree.of_bodySF (plainFor_of_name pn2) hisR ?_
  intro p e s m args below meth c s₁ Bd hml0 hP hK
  obtain ⟨rfl, hZ, hh⟩ := hP
  have hx := Bd.exec
  have hby := Bd.bytes
  have hml : c.maxLocals = 5 := hml0
  have hown : s.vm.findClass "com/example/tileshift/tileshift/NodeTable" = some m.cls := findClass_of_methodNamed Bd.named
  have hnm := (name_of_methodNamed Bd.named Bd.method).1
  have X0 : Stand p l e ({ frames := 1, cells := 0, slots := 0, locals := 30 } : Room) s m #[(.ref a), (.int (118 : Int32)), (.int op), (.int om)] below meth c s₁ [] 0 0 := Stand.of_body Bd
  have e0 : s₁.heap = h0 := by rw [← hh, Bd.state]; rfl
  have N0 := Fr.nil n0
  obtain ⟨G, hG⟩ : ∃ G, G = entryFrame m #[(.ref a), (.int (118 : Int32)), (.int op), (.int om)] 5 := ⟨_, rfl⟩
  have S0 : own_Go p e below s₁ G s₁ (mkF m 0 #[.val (.ref a), .val (.int (118 : Int32)), .val (.int op), .val (.int om), .unset] []) := fun tg_ kk_ => castTop (by rw [hG]; first | (simp [entryFrame, mkF, argsToLocals, Value.category, maxLocals]; done) | rfl) kk_
  obtain ⟨oo1, oo2, oo3, oo4, oo5, oo6, oo7, xE, x_bits, x_width, x_word, x_shift, x_key, x_boards, x_parent, x_move, x_nodes, x_table, x_tableShift, ⟨q_word, y_word⟩, ⟨q_shift, y_shift⟩, ⟨q_key, y_key⟩, ⟨q_boards, y_boards⟩, ⟨q_parent, y_parent⟩, ⟨q_move, y_move⟩, ⟨q_table, y_table⟩⟩ := NT
  have S867 : own_Go p e below s₁ G s₁ (mkF m 1 #[.val (.ref a), .val (.int (118 : Int32)), .val (.int op), .val (.int om), .unset] [(.ref a)]) := fun tg_ kk_ => S0 tg_ (by
    refine XS.aloadN X0.here hx rfl (hb hby d7_0) rfl rfl ?_
    exact kk_)
  obtain ⟨T868, X868, e868, st868⟩ := getF X0 hx hZ hown (host := "") (Or.inl (hw _ (List.mem_of_getElem? (i := 55) rfl))) Via.refl e0 x_nodes (g := (mkF m 1 #[.val (.ref a), .val (.int (118 : Int32)), .val (.int op), .val (.int om), .unset] [(.ref a)])) rfl rfl (hb hby d7_1)
  have S869 : own_Go p e below s₁ G T868 (mkF m 4 #[.val (.ref a), .val (.int (118 : Int32)), .val (.int op), .val (.int om), .unset] [(.int (1 : Int32))]) := fun tg_ kk_ => S867 tg_ (st868 tg_ kk_)
  have S870 : own_Go p e below s₁ G T868 (mkF m 20 #[.val (.ref a), .val (.int (118 : Int32)), .val (.int op), .val (.int om), .unset] [(.ref a)]) := fun tg_ kk_ => S869 tg_ (by
    refine X868.ldcInt hx hown (mvT hZ (hw _ (List.mem_of_getElem? (i := 57) rfl))) (g := (mkF m 4 #[.val (.ref a), .val (.int (118 : Int32)), .val (.int op), .val (.int om), .unset] [(.int (1 : Int32))])) rfl (hb hby d7_4) _ ?_
    show Steps p.tables e below (T868.setTop (mkF m 6 #[.val (.ref a), .val (.int (118 : Int32)), .val (.int op), .val (.int om), .unset] [(.int (536870912 : Int32)), (.int (1 : Int32))])) _
    refine XS.icmpYes X868.here hx rfl (pc0 := 6) (pc' := 19) rfl (hb hby d7_6) rfl (XT.ii_ne_t (by decide)) (by decide) (by decide) ?_
    show Steps p.tables e below (T868.setTop (mkF m 19 #[.val (.ref a), .val (.int (118 : Int32)), .val (.int op), .val (.int om), .unset] [])) _
    refine XS.aloadN X868.here hx rfl (hb hby d7_19) rfl rfl ?_
    exact kk_)
  obtain ⟨T871, X871, e871, st871⟩ := getF X868 hx hZ hown (host := "") (Or.inl (hw _ (List.mem_of_getElem? (i := 55) rfl))) Via.refl e868 x_nodes (g := (mkF m 20 #[.val (.ref a), .val (.int (118 : Int32)), .val (.int op), .val (.int om), .unset] [(.ref a)])) rfl rfl (hb hby d7_20)
  have S872 : own_Go p e below s₁ G T871 (mkF m 23 #[.val (.ref a), .val (.int (118 : Int32)), .val (.int op), .val (.int om), .unset] [(.int (1 : Int32))]) := fun tg_ kk_ => S870 tg_ (st871 tg_ kk_)
  have S873 : own_Go p e below s₁ G T871 (mkF m 24 #[.val (.ref a), .val (.int (118 : Int32)), .val (.int op), .val (.int om), .unset] [(.ref a), (.int (1 : Int32))]) := fun tg_ kk_ => S872 tg_ (by
    refine XS.aloadN X871.here hx rfl (hb hby d7_23) rfl rfl ?_
    exact kk_)
  obtain ⟨T874, X874, e874, st874⟩ := getF X871 hx hZ hown (host := "") (Or.inl (hw _ (List.mem_of_getElem? (i := 28) rfl))) Via.refl e871 x_parent (g := (mkF m 24 #[.val (.ref a), .val (.int (118 : Int32)), .val (.int op), .val (.int om), .unset] [(.ref a), (.int (1 : Int32))])) rfl rfl (hb hby d7_24)
  have S875 : own_Go p e below s₁ G T874 (mkF m 27 #[.val (.ref a), .val (.int (118 : Int32)), .val (.int op), .val (.int om), .unset] [(.ref pr), (.int (1 : Int32))]) := fun tg_ kk_ => S873 tg_ (st874 tg_ kk_)
  obtain ⟨cl876, B876, -, z876, y876, -, -⟩ := id y_parent
  have S877 : own_Go p e below s₁ G T874 (mkF m 90 #[.val (.ref a), .val (.int (118 : Int32)), .val (.int op), .val (.int om), .unset] [(.ref a), (.ref a)]) := fun tg_ kk_ => S875 tg_ (by
    refine X874.arraylength hx (cell := cl876) (by rw [e874]; exact B876.1) (State.isArrayOf_alike hZ.alike B876.2.1) (g := (mkF m 27 #[.val (.ref a), .val (.int (118 : Int32)), .val (.int op), .val (.int om), .unset] [(.ref pr), (.int (1 : Int32))])) rfl (rest := [(.int (1 : Int32))]) rfl (hb hby d7_27) _ ?_
    rw [len_of z876 y876]
    show Steps p.tables e below (T874.setTop (mkF m 28 #[.val (.ref a), .val (.int (118 : Int32)), .val (.int op), .val (.int om), .unset] [(.int (1024 : Int32)), (.int (1 : Int32))])) _
    refine XS.icmpYes X874.here hx rfl (pc0 := 28) (pc' := 88) rfl (hb hby d7_28) rfl (XT.ii_ne_t (by decide)) (by decide) (by decide) ?_
    show Steps p.tables e below (T874.setTop (mkF m 88 #[.val (.ref a), .val (.int (118 : Int32)), .val (.int op), .val (.int om), .unset] [])) _
    refine XS.aloadN X874.here hx rfl (hb hby d7_88) rfl rfl ?_
    show Steps p.tables e below (T874.setTop (mkF m 89 #[.val (.ref a), .val (.int (118 : Int32)), .val (.int op), .val (.int om), .unset] [(.ref a)])) _
    refine XS.dup X874.here hx rfl (hb hby d7_89) rfl rfl ?_
    exact kk_)
  obtain ⟨T878, X878, e878, st878⟩ := getF X874 hx hZ hown (host := "") (Or.inl (hw _ (List.mem_of_getElem? (i := 55) rfl))) Via.refl e874 x_nodes (g := (mkF m 90 #[.val (.ref a), .val (.int (118 : Int32)), .val (.int op), .val (.int om), .unset] [(.ref a), (.ref a)])) rfl rfl (hb hby d7_90)
  have S879 : own_Go p e below s₁ G T878 (mkF m 93 #[.val (.ref a), .val (.int (118 : Int32)), .val (.int op), .val (.int om), .unset] [(.int (1 : Int32)), (.ref a)]) := fun tg_ kk_ => S877 tg_ (st878 tg_ kk_)
  have S880 : own_Go p e below s₁ G T878 (mkF m 96 #[.val (.ref a), .val (.int (118 : Int32)), .val (.int op), .val (.int om), .unset] [(.int ((1 : Int32) + (1 : Int32))), (.ref a), (.int (1 : Int32))]) := fun tg_ kk_ => S879 tg_ (by
    refine XT.dupX1 X878.here hx rfl (hb hby d7_93) rfl rfl rfl ?_
    show Steps p.tables e below (T878.setTop (mkF m 94 #[.val (.ref a), .val (.int (118 : Int32)), .val (.int op), .val (.int om), .unset] [(.int (1 : Int32)), (.ref a), (.int (1 : Int32))])) _
    refine XS.iconst X878.here hx rfl (hb hby d7_94) ?_
    show Steps p.tables e below (T878.setTop (mkF m 95 #[.val (.ref a), .val (.int (118 : Int32)), .val (.int op), .val (.int om), .unset] [(.int (1 : Int32)), (.int (1 : Int32)), (.ref a), (.int (1 : Int32))])) _
    refine XS.iadd X878.here hx rfl (hb hby d7_95) rfl ?_
    exact kk_)
  rw [show ((1 : Int32) + (1 : Int32)) = (2 : Int32) from by decide +kernel] at S880
  obtain ⟨T881, h881, X881, e881, W881, st881⟩ := putF X878 hx hZ hown (host := "") (Or.inl (hw _ (List.mem_of_getElem? (i := 55) rfl))) Via.refl e878 x_nodes xE (Or.inl (hw _ (List.mem_of_getElem? (i := 56) rfl))) (hw _ (List.mem_of_getElem? (i := 1) rfl)) (ty := .int) (by decide) rfl rfl (g := (mkF m 96 #[.val (.ref a), .val (.int (118 : Int32)), .val (.int op), .val (.int om), .unset] [(.int (2 : Int32)), (.ref a), (.int (1 : Int32))])) rfl rfl (hb hby d7_96)
  have S882 : own_Go p e below s₁ G T881 (mkF m 99 #[.val (.ref a), .val (.int (118 : Int32)), .val (.int op), .val (.int om), .unset] [(.int (1 : Int32))]) := fun tg_ kk_ => S880 tg_ (st881 tg_ kk_)
  have f883 := Fr.snoc X881 N0 (by omega)
  have f884 := xE.wr W881
  have f885 := x_bits.other W881 (Or.inr (slot_ne (C := "com/example/tileshift/tileshift/NodeTable") (a0 := a0) (Or.inr (hw _ (List.mem_of_getElem? (i := 15) rfl))) (Or.inl (hw _ (List.mem_of_getElem? (i := 56) rfl))) (by decide) (t := .int) (by decide) (t' := .int) (by decide)))
  have f886 := x_width.other W881 (Or.inr (slot_ne (C := "com/example/tileshift/tileshift/NodeTable") (a0 := a0) (Or.inr (hw _ (List.mem_of_getElem? (i := 17) rfl))) (Or.inl (hw _ (List.mem_of_getElem? (i := 56) rfl))) (by decide) (t := .int) (by decide) (t' := .int) (by decide)))
  have f887 := x_word.other W881 (Or.inr (slot_ne (C := "com/example/tileshift/tileshift/NodeTable") (a0 := a0) (Or.inr (hw _ (List.mem_of_getElem? (i := 20) rfl))) (Or.inl (hw _ (List.mem_of_getElem? (i := 56) rfl))) (by decide) (t := (.array .int)) (by decide) (t' := .int) (by decide)))
  have f888 := x_shift.other W881 (Or.inr (slot_ne (C := "com/example/tileshift/tileshift/NodeTable") (a0 := a0) (Or.inr (hw _ (List.mem_of_getElem? (i := 22) rfl))) (Or.inl (hw _ (List.mem_of_getElem? (i := 56) rfl))) (by decide) (t := (.array .int)) (by decide) (t' := .int) (by decide)))
  have f889 := x_key.other W881 (Or.inr (slot_ne (C := "com/example/tileshift/tileshift/NodeTable") (a0 := a0) (Or.inr (hw _ (List.mem_of_getElem? (i := 25) rfl))) (Or.inl (hw _ (List.mem_of_getElem? (i := 56) rfl))) (by decide) (t := (.array .long)) (by decide) (t' := .int) (by decide)))
  have f890 := x_boards.other W881 (Or.inr (slot_ne (C := "com/example/tileshift/tileshift/NodeTable") (a0 := a0) (Or.inl (hw _ (List.mem_of_getElem? (i := 27) rfl))) (Or.inl (hw _ (List.mem_of_getElem? (i := 56) rfl))) (by decide) (t := (.array .long)) (by decide) (t' := .int) (by decide)))
  have f891 := x_parent.other W881 (Or.inr (slot_ne (C := "com/example/tileshift/tileshift/NodeTable") (a0 := a0) (Or.inl (hw _ (List.mem_of_getElem? (i := 29) rfl))) (Or.inl (hw _ (List.mem_of_getElem? (i := 56) rfl))) (by decide) (t := (.array .int)) (by decide) (t' := .int) (by decide)))
  have f892 := x_move.other W881 (Or.inr (slot_ne (C := "com/example/tileshift/tileshift/NodeTable") (a0 := a0) (Or.inl (hw _ (List.mem_of_getElem? (i := 32) rfl))) (Or.inl (hw _ (List.mem_of_getElem? (i := 56) rfl))) (by decide) (t := (.array .byte)) (by decide) (t' := .int) (by decide)))
  have f893 := x_nodes.same W881
  have f894 := x_table.other W881 (Or.inr (slot_ne (C := "com/example/tileshift/tileshift/NodeTable") (a0 := a0) (Or.inl (hw _ (List.mem_of_getElem? (i := 37) rfl))) (Or.inl (hw _ (List.mem_of_getElem? (i := 56) rfl))) (by decide) (t := (.array .int)) (by decide) (t' := .int) (by decide)))
  have f895 := x_tableShift.other W881 (Or.inr (slot_ne (C := "com/example/tileshift/tileshift/NodeTable") (a0 := a0) (Or.inl (hw _ (List.mem_of_getElem? (i := 39) rfl))) (Or.inl (hw _ (List.mem_of_getElem? (i := 56) rfl))) (by decide) (t := .int) (by decide) (t' := .int) (by decide)))
  have f896 := y_word.other W881 (own_negt (by omega))
  have f897 := y_shift.other W881 (own_negt (by omega))
  have f898 := y_key.other W881 (own_negt (by omega))
  have f899 := y_boards.other W881 (own_negt (by omega))
  have f900 := y_parent.other W881 (own_negt (by omega))
  have f901 := y_move.other W881 (own_negt (by omega))
  have f902 := y_table.other W881 (own_negt (by omega))
  have f903 := Keep.wr (Keep.refl h0 [a, b, pr, mv, t]) W881 (Or.inl (by simp))
  have S904 : own_Go p e below s₁ G T881 (mkF m 102 #[.val (.ref a), .val (.int (118 : Int32)), .val (.int op), .val (.int om), .val (.int (1 : Int32))] [(.ref a)]) := fun tg_ kk_ => S882 tg_ (by
    refine XS.istore X881.here hx rfl (hb hby d7_99) rfl (l' := #[.val (.ref a), .val (.int (118 : Int32)), .val (.int op), .val (.int om), .val (.int (1 : Int32))]) rfl ?_
    show Steps p.tables e below (T881.setTop (mkF m 101 #[.val (.ref a), .val (.int (118 : Int32)), .val (.int op), .val (.int om), .val (.int (1 : Int32))] [])) _
    refine XS.aloadN X881.here hx rfl (hb hby d7_101) rfl rfl ?_
    exact kk_)
  obtain ⟨T905, X905, e905, st905⟩ := getF X881 hx hZ hown (host := "") (Or.inl (hw _ (List.mem_of_getElem? (i := 24) rfl))) Via.refl e881 f889 (g := (mkF m 102 #[.val (.ref a), .val (.int (118 : Int32)), .val (.int op), .val (.int om), .val (.int (1 : Int32))] [(.ref a)])) rfl rfl (hb hby d7_102)
  have S906 : own_Go p e below s₁ G T905 (mkF m 105 #[.val (.ref a), .val (.int (118 : Int32)), .val (.int op), .val (.int om), .val (.int (1 : Int32))] [(.ref k)]) := fun tg_ kk_ => S904 tg_ (st905 tg_ kk_)
  have S907 : own_Go p e below s₁ G T905 (mkF m 107 #[.val (.ref a), .val (.int (118 : Int32)), .val (.int op), .val (.int om), .val (.int (1 : Int32))] [(.ref a), (.int (0 : Int32)), (.ref k)]) := fun tg_ kk_ => S906 tg_ (by
    refine XS.iconst X905.here hx rfl (hb hby d7_105) ?_
    show Steps p.tables e below (T905.setTop (mkF m 106 #[.val (.ref a), .val (.int (118 : Int32)), .val (.int op), .val (.int om), .val (.int (1 : Int32))] [(.int (0 : Int32)), (.ref k)])) _
    refine XS.aloadN X905.here hx rfl (hb hby d7_106) rfl rfl ?_
    exact kk_)
  obtain ⟨T908, X908, e908, st908⟩ := getF X905 hx hZ hown (host := "") (Or.inl (hw _ (List.mem_of_getElem? (i := 26) rfl))) Via.refl e905 f890 (g := (mkF m 107 #[.val (.ref a), .val (.int (118 : Int32)), .val (.int op), .val (.int om), .val (.int (1 : Int32))] [(.ref a), (.int (0 : Int32)), (.ref k)])) rfl rfl (hb hby d7_107)
  have S909 : own_Go p e below s₁ G T908 (mkF m 110 #[.val (.ref a), .val (.int (118 : Int32)), .val (.int op), .val (.int om), .val (.int (1 : Int32))] [(.ref b), (.int (0 : Int32)), (.ref k)]) := fun tg_ kk_ => S907 tg_ (st908 tg_ kk_)
  have S910 : own_Go p e below s₁ G T908 (mkF m 113 #[.val (.ref a), .val (.int (118 : Int32)), .val (.int op), .val (.int om), .val (.int (1 : Int32))] [(.ref a), (.int (1 : Int32)), (.ref b), (.int (0 : Int32)), (.ref k)]) := fun tg_ kk_ => S909 tg_ (by
    refine XS.iload X908.here hx rfl (hb hby d7_110) rfl ?_
    show Steps p.tables e below (T908.setTop (mkF m 112 #[.val (.ref a), .val (.int (118 : Int32)), .val (.int op), .val (.int om), .val (.int (1 : Int32))] [(.int (1 : Int32)), (.ref b), (.int (0 : Int32)), (.ref k)])) _
    refine XS.aloadN X908.here hx rfl (hb hby d7_112) rfl rfl ?_
    exact kk_)
  obtain ⟨T911, X911, e911, st911⟩ := getF X908 hx hZ hown (host := "") (Or.inl (hw _ (List.mem_of_getElem? (i := 16) rfl))) Via.refl e908 f886 (g := (mkF m 113 #[.val (.ref a), .val (.int (118 : Int32)), .val (.int op), .val (.int om), .val (.int (1 : Int32))] [(.ref a), (.int (1 : Int32)), (.ref b), (.int (0 : Int32)), (.ref k)])) rfl rfl (hb hby d7_113)
  have S912 : own_Go p e below s₁ G T911 (mkF m 116 #[.val (.ref a), .val (.int (118 : Int32)), .val (.int op), .val (.int om), .val (.int (1 : Int32))] [(.int (1 : Int32)), (.int (1 : Int32)), (.ref b), (.int (0 : Int32)), (.ref k)]) := fun tg_ kk_ => S910 tg_ (st911 tg_ kk_)
  have S913 : own_Go p e below s₁ G T911 (mkF m 117 #[.val (.ref a), .val (.int (118 : Int32)), .val (.int op), .val (.int om), .val (.int (1 : Int32))] [(.int ((1 : Int32) * (1 : Int32))), (.ref b), (.int (0 : Int32)), (.ref k)]) := fun tg_ kk_ => S912 tg_ (by
    refine XS.imul X911.here hx rfl (hb hby d7_116) rfl ?_
    exact kk_)
  rw [show ((1 : Int32) * (1 : Int32)) = (1 : Int32) from by decide +kernel] at S913
  have S914 : own_Go p e below s₁ G T911 (mkF m 118 #[.val (.ref a), .val (.int (118 : Int32)), .val (.int op), .val (.int om), .val (.int (1 : Int32))] [(.ref a), (.int (1 : Int32)), (.ref b), (.int (0 : Int32)), (.ref k)]) := fun tg_ kk_ => S913 tg_ (by
    refine XS.aloadN X911.here hx rfl (hb hby d7_117) rfl rfl ?_
    exact kk_)
  obtain ⟨T915, X915, e915, st915⟩ := getF X911 hx hZ hown (host := "") (Or.inl (hw _ (List.mem_of_getElem? (i := 16) rfl))) Via.refl e911 f886 (g := (mkF m 118 #[.val (.ref a), .val (.int (118 : Int32)), .val (.int op), .val (.int om), .val (.int (1 : Int32))] [(.ref a), (.int (1 : Int32)), (.ref b), (.int (0 : Int32)), (.ref k)])) rfl rfl (hb hby d7_118)
  have S916 : own_Go p e below s₁ G T915 (mkF m 121 #[.val (.ref a), .val (.int (118 : Int32)), .val (.int op), .val (.int om), .val (.int (1 : Int32))] [(.int (1 : Int32)), (.int (1 : Int32)), (.ref b), (.int (0 : Int32)), (.ref k)]) := fun tg_ kk_ => S914 tg_ (st915 tg_ kk_)
  have pd917 : Arv Z h881 b q_boards .long (1024 : Int32) [(.long (0 : Int64)), (.long (0 : Int64))] (.long 0) := f899.pad (fun i => by match i with | 0 => rfl | 1 => rfl | _ + 2 => rfl)
  obtain ⟨T917, h917, L917, X917, e917, N917, K917, V917, st917⟩ := cpA X915 hx hZ hown (hw _ (List.mem_of_getElem? (i := 58) rfl)) (hw _ (List.mem_of_getElem? (i := 61) rfl)) (hw _ (List.mem_of_getElem? (i := 59) rfl)) (hw _ (List.mem_of_getElem? (i := 60) rfl)) e915 f898 pd917 (us := [(.long (225 : Int64))]) (Or.inl ⟨rfl, rfl⟩) (by decide) (by decide) (by decide) (by decide) (by decide) rfl (by decide) f883 (by omega) (g := (mkF m 121 #[.val (.ref a), .val (.int (118 : Int32)), .val (.int op), .val (.int om), .val (.int (1 : Int32))] [(.int (1 : Int32)), (.int (1 : Int32)), (.ref b), (.int (0 : Int32)), (.ref k)])) rfl (by rw [hml]; rfl) rfl (hb hby d7_121) (by decide) (W := 0) (by show 2 * 0 + _ ≤ _; exact Nat.le_of_eq rfl) (by decide)
  have S918 : own_Go p e below s₁ G T917 (mkF m 124 #[.val (.ref a), .val (.int (118 : Int32)), .val (.int op), .val (.int om), .val (.int (1 : Int32))] []) := fun tg_ kk_ => S916 tg_ (st917 tg_ kk_)
  have f919 := f884.keep K917
  have f920 := f885.keep K917 (ninS (own_nelt (by omega)) nin0)
  have f921 := f886.keep K917 (ninS (own_nelt (by omega)) nin0)
  have f922 := f887.keep K917 (ninS (own_nelt (by omega)) nin0)
  have f923 := f888.keep K917 (ninS (own_nelt (by omega)) nin0)
  have f924 := f889.keep K917 (ninS (own_nelt (by omega)) nin0)
  have f925 := f890.keep K917 (ninS (own_nelt (by omega)) nin0)
  have f926 := f891.keep K917 (ninS (own_nelt (by omega)) nin0)
  have f927 := f892.keep K917 (ninS (own_nelt (by omega)) nin0)
  have f928 := f893.keep K917 (ninS (own_nelt (by omega)) nin0)
  have f929 := f894.keep K917 (ninS (own_nelt (by omega)) nin0)
  have f930 := f895.keep K917 (ninS (own_nelt (by omega)) nin0)
  have f931 := f896.keep K917 (ninS (own_nelt (by omega)) nin0)
  have f932 := f897.keep K917 (ninS (own_nelt (by omega)) nin0)
  have f933 := f898.keep K917 (ninS (own_nelt (by omega)) nin0)
  have f934 := f900.keep K917 (ninS (own_negt (by omega)) nin0)
  have f935 := f901.keep K917 (ninS (own_negt (by omega)) nin0)
  have f936 := f902.keep K917 (ninS (own_negt (by omega)) nin0)
  have f937 := Keep.trans f903 K917 (allS (Or.inl (by simp)) all0)
  have S938 : own_Go p e below s₁ G T917 (mkF m 125 #[.val (.ref a), .val (.int (118 : Int32)), .val (.int op), .val (.int om), .val (.int (1 : Int32))] [(.ref a)]) := fun tg_ kk_ => S918 tg_ (by
    refine XS.aloadN X917.here hx rfl (hb hby d7_124) rfl rfl ?_
    exact kk_)
  obtain ⟨T939, X939, e939, st939⟩ := getF X917 hx hZ hown (host := "") (Or.inl (hw _ (List.mem_of_getElem? (i := 28) rfl))) Via.refl e917 f926 (g := (mkF m 125 #[.val (.ref a), .val (.int (118 : Int32)), .val (.int op), .val (.int om), .val (.int (1 : Int32))] [(.ref a)])) rfl rfl (hb hby d7_125)
  have S940 : own_Go p e below s₁ G T939 (mkF m 128 #[.val (.ref a), .val (.int (118 : Int32)), .val (.int op), .val (.int om), .val (.int (1 : Int32))] [(.ref pr)]) := fun tg_ kk_ => S938 tg_ (st939 tg_ kk_)
  have S941 : own_Go p e below s₁ G T939 (mkF m 131 #[.val (.ref a), .val (.int (118 : Int32)), .val (.int op), .val (.int om), .val (.int (1 : Int32))] [(.int op), (.int (1 : Int32)), (.ref pr)]) := fun tg_ kk_ => S940 tg_ (by
    refine XS.iload X939.here hx rfl (hb hby d7_128) rfl ?_
    show Steps p.tables e below (T939.setTop (mkF m 130 #[.val (.ref a), .val (.int (118 : Int32)), .val (.int op), .val (.int om), .val (.int (1 : Int32))] [(.int (1 : Int32)), (.ref pr)])) _
    refine XS.iloadN X939.here hx rfl (hb hby d7_130) rfl ?_
    exact kk_)
  obtain ⟨cl942, B942, b942, z942, y942, H942, F942⟩ := id f934
  obtain ⟨U942, u942, Y942, f942x, W942, su942⟩ := stI X939 hx hZ e939 B942 (j := (1 : Int32)) (inb_of z942 (by decide)) (g := (mkF m 131 #[.val (.ref a), .val (.int (118 : Int32)), .val (.int op), .val (.int om), .val (.int (1 : Int32))] [(.int op), (.int (1 : Int32)), (.ref pr)])) rfl rfl (hb hby d7_131)
  have S943 : own_Go p e below s₁ G U942 (mkF m 132 #[.val (.ref a), .val (.int (118 : Int32)), .val (.int op), .val (.int om), .val (.int (1 : Int32))] []) := fun tg_ kk_ => S941 tg_ (su942 tg_ kk_)
  have f944 : Arv Z u942 pr q_parent .int (1024 : Int32) [(.int (-1 : Int32)), (.int op)] (.int 0) := own_push f934 rfl W942 rfl
  have f945 := Fr.snoc Y942 N917 (by omega)
  have f946 := f919.wr W942
  have f947 := f920.other W942 (Or.inl (own_nelt (by omega)))
  have f948 := f921.other W942 (Or.inl (own_nelt (by omega)))
  have f949 := f922.other W942 (Or.inl (own_nelt (by omega)))
  have f950 := f923.other W942 (Or.inl (own_nelt (by omega)))
  have f951 := f924.other W942 (Or.inl (own_nelt (by omega)))
  have f952 := f925.other W942 (Or.inl (own_nelt (by omega)))
  have f953 := f926.other W942 (Or.inl (own_nelt (by omega)))
  have f954 := f927.other W942 (Or.inl (own_nelt (by omega)))
  have f955 := f928.other W942 (Or.inl (own_nelt (by omega)))
  have f956 := f929.other W942 (Or.inl (own_nelt (by omega)))
  have f957 := f930.other W942 (Or.inl (own_nelt (by omega)))
  have f958 := f931.other W942 (own_nelt (by omega))
  have f959 := f932.other W942 (own_nelt (by omega))
  have f960 := f933.other W942 (own_nelt (by omega))
  have f961 := f935.other W942 (own_negt (by omega))
  have f962 := f936.other W942 (own_negt (by omega))
  have f963 := V917.other W942 (own_nelt (by omega))
  have f964 := Keep.wr f937 W942 (Or.inl (by simp))
  have S965 : own_Go p e below s₁ G U942 (mkF m 133 #[.val (.ref a), .val (.int (118 : Int32)), .val (.int op), .val (.int om), .val (.int (1 : Int32))] [(.ref a)]) := fun tg_ kk_ => S943 tg_ (by
    refine XS.aloadN Y942.here hx rfl (hb hby d7_132) rfl rfl ?_
    exact kk_)
  obtain ⟨T966, X966, e966, st966⟩ := getF Y942 hx hZ hown (host := "") (Or.inl (hw _ (List.mem_of_getElem? (i := 31) rfl))) Via.refl f942x f954 (g := (mkF m 133 #[.val (.ref a), .val (.int (118 : Int32)), .val (.int op), .val (.int om), .val (.int (1 : Int32))] [(.ref a)])) rfl rfl (hb hby d7_133)
  have S967 : own_Go p e below s₁ G T966 (mkF m 136 #[.val (.ref a), .val (.int (118 : Int32)), .val (.int op), .val (.int om), .val (.int (1 : Int32))] [(.ref mv)]) := fun tg_ kk_ => S965 tg_ (st966 tg_ kk_)
  have S968 : own_Go p e below s₁ G T966 (mkF m 140 #[.val (.ref a), .val (.int (118 : Int32)), .val (.int op), .val (.int om), .val (.int (1 : Int32))] [(.int ((om).toInt8.toInt32)), (.int (1 : Int32)), (.ref mv)]) := fun tg_ kk_ => S967 tg_ (by
    refine XS.iload X966.here hx rfl (hb hby d7_136) rfl ?_
    show Steps p.tables e below (T966.setTop (mkF m 138 #[.val (.ref a), .val (.int (118 : Int32)), .val (.int op), .val (.int om), .val (.int (1 : Int32))] [(.int (1 : Int32)), (.ref mv)])) _
    refine XS.iloadN X966.here hx rfl (hb hby d7_138) rfl ?_
    show Steps p.tables e below (T966.setTop (mkF m 139 #[.val (.ref a), .val (.int (118 : Int32)), .val (.int op), .val (.int om), .val (.int (1 : Int32))] [(.int om), (.int (1 : Int32)), (.ref mv)])) _
    refine XT.i2b X966.here hx rfl (hb hby d7_139) rfl ?_
    exact kk_)
  obtain ⟨cl969, B969, b969, z969, y969, H969, F969⟩ := id f961
  obtain ⟨U969, u969, Y969, f969x, W969, su969⟩ := stB X966 hx hZ e966 B969 (j := (1 : Int32)) (inb_of z969 (by decide)) (g := (mkF m 140 #[.val (.ref a), .val (.int (118 : Int32)), .val (.int op), .val (.int om), .val (.int (1 : Int32))] [(.int ((om).toInt8.toInt32)), (.int (1 : Int32)), (.ref mv)])) rfl rfl (hb hby d7_140)
  have S970 : own_Go p e below s₁ G U969 (mkF m 141 #[.val (.ref a), .val (.int (118 : Int32)), .val (.int op), .val (.int om), .val (.int (1 : Int32))] []) := fun tg_ kk_ => S968 tg_ (su969 tg_ kk_)
  have f971 : Arv Z u969 mv q_move .byte (1024 : Int32) [(.int (-1 : Int32)), (.int (nar .byte (om).toInt8.toInt32))] (.int 0) := own_push f961 (fits_nar_byte _) W969 rfl
  have f972 := Fr.snoc Y969 f945 (by omega)
  have f973 := f946.wr W969
  have f974 := f947.other W969 (Or.inl (own_nelt (by omega)))
  have f975 := f948.other W969 (Or.inl (own_nelt (by omega)))
  have f976 := f949.other W969 (Or.inl (own_nelt (by omega)))
  have f977 := f950.other W969 (Or.inl (own_nelt (by omega)))
  have f978 := f951.other W969 (Or.inl (own_nelt (by omega)))
  have f979 := f952.other W969 (Or.inl (own_nelt (by omega)))
  have f980 := f953.other W969 (Or.inl (own_nelt (by omega)))
  have f981 := f954.other W969 (Or.inl (own_nelt (by omega)))
  have f982 := f955.other W969 (Or.inl (own_nelt (by omega)))
  have f983 := f956.other W969 (Or.inl (own_nelt (by omega)))
  have f984 := f957.other W969 (Or.inl (own_nelt (by omega)))
  have f985 := f958.other W969 (own_nelt (by omega))
  have f986 := f959.other W969 (own_nelt (by omega))
  have f987 := f960.other W969 (own_nelt (by omega))
  have f988 := f944.other W969 (own_nelt (by omega))
  have f989 := f962.other W969 (own_negt (by omega))
  have f990 := f963.other W969 (own_nelt (by omega))
  have f991 := Keep.wr f964 W969 (Or.inl (by simp))
  have S992 : own_Go p e below s₁ G U969 (mkF m 142 #[.val (.ref a), .val (.int (118 : Int32)), .val (.int op), .val (.int om), .val (.int (1 : Int32))] [(.ref a)]) := fun tg_ kk_ => S970 tg_ (by
    refine XS.aloadN Y969.here hx rfl (hb hby d7_141) rfl rfl ?_
    exact kk_)
  obtain ⟨T993, X993, e993, st993⟩ := getF Y969 hx hZ hown (host := "") (Or.inl (hw _ (List.mem_of_getElem? (i := 55) rfl))) Via.refl f969x f982 (g := (mkF m 142 #[.val (.ref a), .val (.int (118 : Int32)), .val (.int op), .val (.int om), .val (.int (1 : Int32))] [(.ref a)])) rfl rfl (hb hby d7_142)
  have S994 : own_Go p e below s₁ G T993 (mkF m 145 #[.val (.ref a), .val (.int (118 : Int32)), .val (.int op), .val (.int om), .val (.int (1 : Int32))] [(.int (2 : Int32))]) := fun tg_ kk_ => S992 tg_ (st993 tg_ kk_)
  have S995 : own_Go p e below s₁ G T993 (mkF m 147 #[.val (.ref a), .val (.int (118 : Int32)), .val (.int op), .val (.int om), .val (.int (1 : Int32))] [(.int ((2 : Int32) * (2 : Int32)))]) := fun tg_ kk_ => S994 tg_ (by
    refine XS.iconst X993.here hx rfl (hb hby d7_145) ?_
    show Steps p.tables e below (T993.setTop (mkF m 146 #[.val (.ref a), .val (.int (118 : Int32)), .val (.int op), .val (.int om), .val (.int (1 : Int32))] [(.int (2 : Int32)), (.int (2 : Int32))])) _
    refine XS.imul X993.here hx rfl (hb hby d7_146) rfl ?_
    exact kk_)
  rw [show ((2 : Int32) * (2 : Int32)) = (4 : Int32) from by decide +kernel] at S995
  have S996 : own_Go p e below s₁ G T993 (mkF m 148 #[.val (.ref a), .val (.int (118 : Int32)), .val (.int op), .val (.int om), .val (.int (1 : Int32))] [(.ref a), (.int (4 : Int32))]) := fun tg_ kk_ => S995 tg_ (by
    refine XS.aloadN X993.here hx rfl (hb hby d7_147) rfl rfl ?_
    exact kk_)
  obtain ⟨T997, X997, e997, st997⟩ := getF X993 hx hZ hown (host := "") (Or.inl (hw _ (List.mem_of_getElem? (i := 36) rfl))) Via.refl e993 f983 (g := (mkF m 148 #[.val (.ref a), .val (.int (118 : Int32)), .val (.int op), .val (.int om), .val (.int (1 : Int32))] [(.ref a), (.int (4 : Int32))])) rfl rfl (hb hby d7_148)
  have S998 : own_Go p e below s₁ G T997 (mkF m 151 #[.val (.ref a), .val (.int (118 : Int32)), .val (.int op), .val (.int om), .val (.int (1 : Int32))] [(.ref t), (.int (4 : Int32))]) := fun tg_ kk_ => S996 tg_ (st997 tg_ kk_)
  obtain ⟨cl999, B999, -, z999, y999, -, -⟩ := id f989
  have S1000 : own_Go p e below s₁ G T997 (mkF m 163 #[.val (.ref a), .val (.int (118 : Int32)), .val (.int op), .val (.int om), .val (.int (1 : Int32))] [(.ref a)]) := fun tg_ kk_ => S998 tg_ (by
    refine X997.arraylength hx (cell := cl999) (by rw [e997]; exact B999.1) (State.isArrayOf_alike hZ.alike B999.2.1) (g := (mkF m 151 #[.val (.ref a), .val (.int (118 : Int32)), .val (.int op), .val (.int om), .val (.int (1 : Int32))] [(.ref t), (.int (4 : Int32))])) rfl (rest := [(.int (4 : Int32))]) rfl (hb hby d7_151) _ ?_
    rw [len_of z999 y999]
    show Steps p.tables e below (T997.setTop (mkF m 152 #[.val (.ref a), .val (.int (118 : Int32)), .val (.int op), .val (.int om), .val (.int (1 : Int32))] [(.int (2048 : Int32)), (.int (4 : Int32))])) _
    refine XS.icmpYes X997.here hx rfl (pc0 := 152) (pc' := 162) rfl (hb hby d7_152) rfl (XT.ii_le_t (by decide)) (by decide) (by decide) ?_
    show Steps p.tables e below (T997.setTop (mkF m 162 #[.val (.ref a), .val (.int (118 : Int32)), .val (.int op), .val (.int om), .val (.int (1 : Int32))] [])) _
    refine XS.aloadN X997.here hx rfl (hb hby d7_162) rfl rfl ?_
    exact kk_)
  obtain ⟨T1001, X1001, e1001, st1001⟩ := getF X997 hx hZ hown (host := "") (Or.inl (hw _ (List.mem_of_getElem? (i := 36) rfl))) Via.refl e997 f983 (g := (mkF m 163 #[.val (.ref a), .val (.int (118 : Int32)), .val (.int op), .val (.int om), .val (.int (1 : Int32))] [(.ref a)])) rfl rfl (hb hby d7_163)
  have S1002 : own_Go p e below s₁ G T1001 (mkF m 166 #[.val (.ref a), .val (.int (118 : Int32)), .val (.int op), .val (.int om), .val (.int (1 : Int32))] [(.ref t)]) := fun tg_ kk_ => S1000 tg_ (st1001 tg_ kk_)
  have S1003 : own_Go p e below s₁ G T1001 (mkF m 171 #[.val (.ref a), .val (.int (118 : Int32)), .val (.int op), .val (.int om), .val (.int (1 : Int32))] [(.int ((1 : Int32) + (1 : Int32))), (.int (118 : Int32)), (.ref t)]) := fun tg_ kk_ => S1002 tg_ (by
    refine XS.iloadN X1001.here hx rfl (hb hby d7_166) rfl ?_
    show Steps p.tables e below (T1001.setTop (mkF m 167 #[.val (.ref a), .val (.int (118 : Int32)), .val (.int op), .val (.int om), .val (.int (1 : Int32))] [(.int (118 : Int32)), (.ref t)])) _
    refine XS.iload X1001.here hx rfl (hb hby d7_167) rfl ?_
    show Steps p.tables e below (T1001.setTop (mkF m 169 #[.val (.ref a), .val (.int (118 : Int32)), .val (.int op), .val (.int om), .val (.int (1 : Int32))] [(.int (1 : Int32)), (.int (118 : Int32)), (.ref t)])) _
    refine XS.iconst X1001.here hx rfl (hb hby d7_169) ?_
    show Steps p.tables e below (T1001.setTop (mkF m 170 #[.val (.ref a), .val (.int (118 : Int32)), .val (.int op), .val (.int om), .val (.int (1 : Int32))] [(.int (1 : Int32)), (.int (1 : Int32)), (.int (118 : Int32)), (.ref t)])) _
    refine XS.iadd X1001.here hx rfl (hb hby d7_170) rfl ?_
    exact kk_)
  rw [show ((1 : Int32) + (1 : Int32)) = (2 : Int32) from by decide +kernel] at S1003
  obtain ⟨cl1004, B1004, b1004, z1004, y1004, H1004, F1004⟩ := id f989
  obtain ⟨U1004, u1004, Y1004, f1004x, W1004, su1004⟩ := stI X1001 hx hZ e1001 B1004 (j := (118 : Int32)) (inb_of z1004 (by decide)) (g := (mkF m 171 #[.val (.ref a), .val (.int (118 : Int32)), .val (.int op), .val (.int om), .val (.int (1 : Int32))] [(.int (2 : Int32)), (.int (118 : Int32)), (.ref t)])) rfl rfl (hb hby d7_171)
  have S1005 : own_Go p e below s₁ G U1004 (mkF m 172 #[.val (.ref a), .val (.int (118 : Int32)), .val (.int op), .val (.int om), .val (.int (1 : Int32))] []) := fun tg_ kk_ => S1003 tg_ (su1004 tg_ kk_)
  have f1006 := Fr.snoc Y1004 f972 (by omega)
  have f1007 := f973.wr W1004
  have f1008 := f980.other W1004 (Or.inl (own_nelt (by omega)))
  have f1009 := f981.other W1004 (Or.inl (own_nelt (by omega)))
  have f1010 := f988.other W1004 (own_nelt (by omega))
  have f1011 := f971.other W1004 (own_nelt (by omega))
  have f1012 := Keep.wr f991 W1004 (Or.inl (by simp))
  have S1013 : own_Go p e below s₁ G U1004 (mkF m 174 #[.val (.ref a), .val (.int (118 : Int32)), .val (.int op), .val (.int om), .val (.int (1 : Int32))] [(.int (1 : Int32))]) := fun tg_ kk_ => S1005 tg_ (by
    refine XS.iload Y1004.here hx rfl (hb hby d7_172) rfl ?_
    exact kk_)
  obtain ⟨fs, hr, hrun, hended, hW, hsame⟩ := Y1004.leave (v := some (.int (1 : Int32))) (fun h => by rw [Bd.returns] at h; cases h)
  refine ⟨_, _, ?_, hrun, hended, _, _, rfl, ?_, ⟨_, rfl⟩, hW, hsame.mono (by decide) (by decide)⟩
  · rw [← hG]; exact S1013 _ (retI Y1004 hx Bd.returns (hb hby d7_174) hr)
  · show Q71 Z a w sh k b pr mv t op om h0 n0 _ U1004.heap _
    rw [f1004x]
    exact ⟨rfl, f1006, f1012, _, by omega, by omega, f1007, f1008, f1009, ⟨_, f1010⟩, ⟨_, f1011⟩⟩
theorem pn3 : plainName "java/util/Arrays" = true := by first | (simp [plainName, overriddenIn]; done) | decide +kernel
def Q9 (Z : State) (k : Addr) (q : ClassId) (h0 : Heap) (n0 : Nat) (v : Option Value) (h : Heap) (L : List Loc) : Prop := v = none ∧ Fr n0 L ∧ Keep h0 h [k] ∧ Arv Z h k q .long 1 [.long 0] (.long 0)
set_option maxRecDepth 65536 in
set_option maxHeartbeats 40000000 in
theorem rm9 (l : Launch) (Z : State) (a0 : Array Value) (hw : ∀ d ∈ tables_1, d.before a0 Z = true) (ws : List Jvm.Cond) (k : Addr) (q : ClassId) (h0 : Heap) (n0 : Nat) (Z0 : n0 ≤ h0.size) (V : Arv Z h0 k q .long 1 [] (.long 0)) (hk : @LE.le Nat instLENat (n0) k) :
    MetFree l (⟨"java/util/Arrays", "fill", "([JJ)V"⟩ : MethodName) (head1 (Jvm.Cond.code (⟨"java/util/Arrays", "fill", "([JJ)V"⟩ : MethodName) jdk_65_method_101_code 5 none :: ws) ({ frames := 0, cells := 0, slots := 0, locals := 0 } : Room)) (fun aa_ U => aa_ = #[(.ref k), (.long (0 : Int64))] ∧ Z.Warmed39 U.vm ∧ U.heap = h0) (fun _ _ _ _ _ => True) (fun _ U o U' => ∃ v L, o = .returned v ∧ Q9 Z k q h0 n0 v U'.heap L ∧ FrameEnd U o U' L ({ frames := 0, cells := 0, slots := 0, locals := 0 } : Room).cells ({ frames := 0, cells := 0, slots := 0, locals := 0 } : Room).slots) := by
  refine MetFree.of_bodySF (plainFor_of_name pn3) hisR ?_
  intro p e s m args below meth c s₁ Bd hml0 hP hK
  obtain ⟨rfl, hZ, hh⟩ := hP
  have hx := Bd.exec
  have hby := Bd.bytes
  have hml : c.maxLocals = 5 := hml0
  have hown : s.vm.findClass "java/util/Arrays" = some m.cls := findClass_of_methodNamed Bd.named
  have hnm := (name_of_methodNamed Bd.named Bd.method).1
  have X0 : Stand p l e ({ frames := 0, cells := 0, slots := 0, locals := 0 } : Room) s m #[(.ref k), (.long (0 : Int64))] below meth c s₁ [] 0 0 := Stand.of_body Bd
  have e0 : s₁.heap = h0 := by rw [← hh, Bd.state]; rfl
  have N0 := Fr.nil n0
  obtain ⟨G, hG⟩ : ∃ G, G = entryFrame m #[(.ref k), (.long (0 : Int64))] 5 := ⟨_, rfl⟩
  have S0 : own_Go p e below s₁ G s₁ (mkF m 0 #[.val (.ref k), .val (.long (0 : Int64)), .second, .unset, .unset] []) := fun tg_ kk_ => castTop (by rw [hG]; simp [entryFrame, mkF, argsToLocals, Value.category, maxLocals]) kk_
  have S1014 : own_Go p e below s₁ G s₁ (mkF m 3 #[.val (.ref k), .val (.long (0 : Int64)), .second, .val (.int (0 : Int32)), .unset] [(.ref k)]) := fun tg_ kk_ => S0 tg_ (by
    refine XS.iconst X0.here hx rfl (hb hby d9_0) ?_
    show Steps p.tables e below (s₁.setTop (mkF m 1 #[.val (.ref k), .val (.long (0 : Int64)), .second, .unset, .unset] [(.int (0 : Int32))])) _
    refine XS.istoreN X0.here hx rfl (hb hby d9_1) rfl (l' := #[.val (.ref k), .val (.long (0 : Int64)), .second, .val (.int (0 : Int32)), .unset]) rfl ?_
    show Steps p.tables e below (s₁.setTop (mkF m 2 #[.val (.ref k), .val (.long (0 : Int64)), .second, .val (.int (0 : Int32)), .unset] [])) _
    refine XS.aloadN X0.here hx rfl (hb hby d9_2) rfl rfl ?_
    exact kk_)
  obtain ⟨cl1015, B1015, -, z1015, y1015, -, -⟩ := id V
  have S1016 : own_Go p e below s₁ G s₁ (mkF m 15 #[.val (.ref k), .val (.long (0 : Int64)), .second, .val (.int (0 : Int32)), .val (.int (1 : Int32))] [(.long (0 : Int64)), (.int (0 : Int32)), (.ref k)]) := fun tg_ kk_ => S1014 tg_ (by
    refine X0.arraylength hx (cell := cl1015) (by rw [e0]; exact B1015.1) (State.isArrayOf_alike hZ.alike B1015.2.1) (g := (mkF m 3 #[.val (.ref k), .val (.long (0 : Int64)), .second, .val (.int (0 : Int32)), .unset] [(.ref k)])) rfl (rest := []) rfl (hb hby d9_3) _ ?_
    rw [len_of z1015 y1015]
    show Steps p.tables e below (s₁.setTop (mkF m 4 #[.val (.ref k), .val (.long (0 : Int64)), .second, .val (.int (0 : Int32)), .unset] [(.int (1 : Int32))])) _
    refine XS.istore X0.here hx rfl (hb hby d9_4) rfl (l' := #[.val (.ref k), .val (.long (0 : Int64)), .second, .val (.int (0 : Int32)), .val (.int (1 : Int32))]) rfl ?_
    show Steps p.tables e below (s₁.setTop (mkF m 6 #[.val (.ref k), .val (.long (0 : Int64)), .second, .val (.int (0 : Int32)), .val (.int (1 : Int32))] [])) _
    refine XS.iloadN X0.here hx rfl (hb hby d9_6) rfl ?_
    show Steps p.tables e below (s₁.setTop (mkF m 7 #[.val (.ref k), .val (.long (0 : Int64)), .second, .val (.int (0 : Int32)), .val (.int (1 : Int32))] [(.int (0 : Int32))])) _
    refine XS.iload X0.here hx rfl (hb hby d9_7) rfl ?_
    show Steps p.tables e below (s₁.setTop (mkF m 9 #[.val (.ref k), .val (.long (0 : Int64)), .second, .val (.int (0 : Int32)), .val (.int (1 : Int32))] [(.int (1 : Int32)), (.int (0 : Int32))])) _
    refine XS.icmpNo X0.here hx rfl (hb hby d9_9) rfl (XT.ii_ge_f (by decide)) ?_
    show Steps p.tables e below (s₁.setTop (mkF m 12 #[.val (.ref k), .val (.long (0 : Int64)), .second, .val (.int (0 : Int32)), .val (.int (1 : Int32))] [])) _
    refine XS.aloadN X0.here hx rfl (hb hby d9_12) rfl rfl ?_
    show Steps p.tables e below (s₁.setTop (mkF m 13 #[.val (.ref k), .val (.long (0 : Int64)), .second, .val (.int (0 : Int32)), .val (.int (1 : Int32))] [(.ref k)])) _
    refine XS.iloadN X0.here hx rfl (hb hby d9_13) rfl ?_
    show Steps p.tables e below (s₁.setTop (mkF m 14 #[.val (.ref k), .val (.long (0 : Int64)), .second, .val (.int (0 : Int32)), .val (.int (1 : Int32))] [(.int (0 : Int32)), (.ref k)])) _
    refine XT.lloadN X0.here hx rfl (hb hby d9_14) rfl ?_
    exact kk_)
  obtain ⟨cl1017, B1017, b1017, z1017, y1017, H1017, F1017⟩ := id V
  obtain ⟨U1017, u1017, Y1017, f1017x, W1017, su1017⟩ := stJ X0 hx hZ e0 B1017 (j := (0 : Int32)) (inb_of z1017 (by decide)) (g := (mkF m 15 #[.val (.ref k), .val (.long (0 : Int64)), .second, .val (.int (0 : Int32)), .val (.int (1 : Int32))] [(.long (0 : Int64)), (.int (0 : Int32)), (.ref k)])) rfl rfl (hb hby d9_15)
  have S1018 : own_Go p e below s₁ G U1017 (mkF m 16 #[.val (.ref k), .val (.long (0 : Int64)), .second, .val (.int (0 : Int32)), .val (.int (1 : Int32))] []) := fun tg_ kk_ => S1016 tg_ (su1017 tg_ kk_)
  have f1019 : Arv Z u1017 k q .long (1 : Int32) [(.long (0 : Int64))] (.long 0) := own_push V rfl W1017 rfl
  have f1020 := Fr.snoc Y1017 N0 (by omega)
  have f1021 := Keep.wr (Keep.refl h0 [k]) W1017 (Or.inl (by simp))
  have S1022 : own_Go p e below s₁ G U1017 (mkF m 19 #[.val (.ref k), .val (.long (0 : Int64)), .second, .val (.int ((0 : Int32) + (1 : Int32))), .val (.int (1 : Int32))] []) := fun tg_ kk_ => S1018 tg_ (by
    refine XS.iinc Y1017.here hx rfl (hb hby d9_16) rfl (l' := #[.val (.ref k), .val (.long (0 : Int64)), .second, .val (.int ((0 : Int32) + (1 : Int32))), .val (.int (1 : Int32))]) rfl ?_
    exact kk_)
  rw [show ((0 : Int32) + (1 : Int32)) = (1 : Int32) from by decide +kernel] at S1022
  have S1023 : own_Go p e below s₁ G U1017 (mkF m 22 #[.val (.ref k), .val (.long (0 : Int64)), .second, .val (.int (1 : Int32)), .val (.int (1 : Int32))] []) := fun tg_ kk_ => S1022 tg_ (by
    refine XS.goto Y1017.here hx rfl (pc0 := 19) (pc' := 6) rfl (hb hby d9_19) (by decide) (by decide) ?_
    show Steps p.tables e below (U1017.setTop (mkF m 6 #[.val (.ref k), .val (.long (0 : Int64)), .second, .val (.int (1 : Int32)), .val (.int (1 : Int32))] [])) _
    refine XS.iloadN Y1017.here hx rfl (hb hby d9_6) rfl ?_
    show Steps p.tables e below (U1017.setTop (mkF m 7 #[.val (.ref k), .val (.long (0 : Int64)), .second, .val (.int (1 : Int32)), .val (.int (1 : Int32))] [(.int (1 : Int32))])) _
    refine XS.iload Y1017.here hx rfl (hb hby d9_7) rfl ?_
    show Steps p.tables e below (U1017.setTop (mkF m 9 #[.val (.ref k), .val (.long (0 : Int64)), .second, .val (.int (1 : Int32)), .val (.int (1 : Int32))] [(.int (1 : Int32)), (.int (1 : Int32))])) _
    refine XS.icmpYes Y1017.here hx rfl (pc0 := 9) (pc' := 22) rfl (hb hby d9_9) rfl (XT.ii_ge_t (by decide)) (by decide) (by decide) ?_
    exact kk_)
  obtain ⟨fs, hr, hrun, hended, hW, hsame⟩ := Y1017.leave (v := none) (fun _ => rfl)
  refine ⟨_, _, ?_, hrun, hended, _, _, rfl, ?_, ⟨_, rfl⟩, hW, hsame.mono (by decide) (by decide)⟩
  · rw [← hG]; exact S1023 _ (Y1017.returnOut hx Bd.returns (hb hby d9_22) hr)
  · show Q9 Z k q h0 n0 _ U1017.heap _
    rw [f1017x]
    exact ⟨rfl, f1020, f1021, f1019⟩
def Q8 (Z : State) (a : Addr) (w : Addr) (sh : Addr) (k : Addr) (b : Addr) (pr : Addr) (mv : Addr) (t : Addr) (cy : Addr) (qc : ClassId) (h0 : Heap) (n0 : Nat) (v : Option Value) (h : Heap) (L : List Loc) : Prop := v = none ∧ Fr n0 L ∧ Keep h0 h [k] ∧ own_NT Z h a w sh k b pr mv t 1 [(.long (225 : Int64))] [(.long (0 : Int64))] [(.int (-1 : Int32))] [(.int (-1 : Int32))] [(.int (1 : Int32))]
set_option maxRecDepth 65536 in
set_option maxHeartbeats 40000000 in
theorem rm8 (l : Launch) (Z : State) (a0 : Array Value) (hw : ∀ d ∈ tables_1, d.before a0 Z = true) (ws : List Jvm.Cond) (a : Addr) (w : Addr) (sh : Addr) (k : Addr) (b : Addr) (pr : Addr) (mv : Addr) (t : Addr) (cy : Addr) (qc : ClassId) (h0 : Heap) (n0 : Nat) (Z0 : n0 ≤ h0.size) (NT : own_NT Z h0 a w sh k b pr mv t 1 [] [(.long (0 : Int64))] [(.int (-1 : Int32))] [(.int (-1 : Int32))] [(.int (1 : Int32))]) (VC : Arv Z h0 cy qc .byte 4 [(.int (1 : Int32)), (.int (0 : Int32)), (.int (2 : Int32)), (.int (3 : Int32))] (.int 0)) (hca : @LT.lt Nat instLTNat t cy) (ha : @LE.le Nat instLENat (n0) a) :
    MetFree l (⟨"com/example/tileshift/tileshift/NodeTable", "keyOf", "([B)V"⟩ : MethodName) (head1 (Jvm.Cond.code (⟨"com/example/tileshift/tileshift/NodeTable", "keyOf", "([B)V"⟩ : MethodName) prog_40_method_4_code 3 none :: ws) ({ frames := 1, cells := 0, slots := 0, locals := 30 } : Room)) (fun aa_ U => aa_ = #[(.ref a), (.ref cy)] ∧ Z.Warmed39 U.vm ∧ U.heap = h0) (fun _ _ _ _ _ => True) (fun _ U o U' => ∃ v L, o = .returned v ∧ Q8 Z a w sh k b pr mv t cy qc h0 n0 v U'.heap L ∧ FrameEnd U o U' L ({ frames := 1, cells := 0, slots := 0, locals := 30 } : Room).cells ({ frames := 1, cells := 0, slots := 0, locals := 30 } : Room).slots) := by
  refine MetFree.of_bodySF (plainFor_of_name pn2) hisR ?_
  intro p e s m args below meth c s₁ Bd hml0 hP hK
  obtain ⟨rfl, hZ, hh⟩ := hP
  have hx := Bd.exec
  have hby := Bd.bytes
  have hml : c.maxLocals = 3 := hml0
  have hown : s.vm.findClass "com/example/tileshift/tileshift/NodeTable" = some m.cls := findClass_of_methodNamed Bd.named
  have hnm := (name_of_methodNamed Bd.named Bd.method).1
  have X0 : Stand p l e ({ frames := 1, cells := 0, slots := 0, locals := 30 } : Room) s m #[(.ref a), (.ref cy)] below meth c s₁ [] 0 0 := Stand.of_body Bd
  have e0 : s₁.heap = h0 := by rw [← hh, Bd.state]; rfl
  have N0 := Fr.nil n0
  obtain ⟨G, hG⟩ : ∃ G, G = entryFrame m #[(.ref a), (.ref cy)] 3 := ⟨_, rfl⟩
  have S0 : own_Go p e below s₁ G s₁ (mkF m 0 #[.val (.ref a), .val (.ref cy), .unset] []) := fun tg_ kk_ => castTop (by rw [hG]; first | rfl | simp [entryFrame, mkF, argsToLocals, Value.category, maxLocals]) kk_
  obtain ⟨oo1, oo2, oo3, oo4, oo5, oo6, oo7, xE, x_bits, x_width, x_word, x_shift, x_key, x_boards, x_parent, x_move, x_nodes, x_table, x_tableShift, ⟨q_word, y_word⟩, ⟨q_shift, y_shift⟩, ⟨q_key, y_key⟩, ⟨q_boards, y_boards⟩, ⟨q_parent, y_parent⟩, ⟨q_move, y_move⟩, ⟨q_table, y_table⟩⟩ := NT
  have S1024 : own_Go p e below s₁ G s₁ (mkF m 1 #[.val (.ref a), .val (.ref cy), .unset] [(.ref a)]) := fun tg_ kk_ => S0 tg_ (by
    refine XS.aloadN X0.here hx rfl (hb hby d8_0) rfl rfl ?_
    exact kk_)
  obtain ⟨T1025, X1025, e1025, st1025⟩ := getF X0 hx hZ hown (host := "") (Or.inl (hw _ (List.mem_of_getElem? (i := 24) rfl))) Via.refl e0 x_key (g := (mkF m 1 #[.val (.ref a), .val (.ref cy), .unset] [(.ref a)])) rfl rfl (hb hby d8_1)
  have S1026 : own_Go p e below s₁ G T1025 (mkF m 4 #[.val (.ref a), .val (.ref cy), .unset] [(.ref k)]) := fun tg_ kk_ => S1024 tg_ (st1025 tg_ kk_)
  have S1027 : own_Go p e below s₁ G T1025 (mkF m 5 #[.val (.ref a), .val (.ref cy), .unset] [(.long (0 : Int64)), (.ref k)]) := fun tg_ kk_ => S1026 tg_ (by
    refine XT.lconst X1025.here hx rfl (hb hby d8_4) ?_
    exact kk_)
  obtain ⟨_, T1028, h1028, L1028, X1028, e1028, hQ1028, st1028⟩ := own_callS X1025 hx hZ (y := (⟨"java/util/Arrays", "fill", "([JJ)V"⟩ : MethodName)) hown (hw _ (List.mem_of_getElem? (i := 67) rfl)) (hw _ (List.mem_of_getElem? (i := 68) rfl)) (hw _ (List.mem_of_getElem? (i := 69) rfl)) (hw _ (List.mem_of_getElem? (i := 70) rfl)) (by decide) 0 (g := (mkF m 5 #[.val (.ref a), .val (.ref cy), .unset] [(.long (0 : Int64)), (.ref k)])) rfl (by rw [hml]; rfl) [(.ref k), (.long (0 : Int64))] [] (rm9 l Z a0 hw [] k q_key h0 n0 Z0 y_key (by omega)) (lenOf pd9 rfl) rfl (by show 2 * 0 + _ ≤ _; exact Nat.le_of_eq rfl) (hb hby d8_5) (by decide) (by decide) e1025 (by decide) (by decide)
  obtain ⟨rfl, N1028, K1028, V1028⟩ := hQ1028
  have S1029 : own_Go p e below s₁ G T1028 (mkF m 8 #[.val (.ref a), .val (.ref cy), .unset] []) := fun tg_ kk_ => S1027 tg_ (st1028 tg_ kk_)
  have f1030 := Fr.app N0 N1028
  have f1031 := xE.keep K1028
  have f1032 := x_bits.keep K1028 (ninS (own_nelt (by omega)) nin0)
  have f1033 := x_width.keep K1028 (ninS (own_nelt (by omega)) nin0)
  have f1034 := x_word.keep K1028 (ninS (own_nelt (by omega)) nin0)
  have f1035 := x_shift.keep K1028 (ninS (own_nelt (by omega)) nin0)
  have f1036 := x_key.keep K1028 (ninS (own_nelt (by omega)) nin0)
  have f1037 := x_boards.keep K1028 (ninS (own_nelt (by omega)) nin0)
  have f1038 := x_parent.keep K1028 (ninS (own_nelt (by omega)) nin0)
  have f1039 := x_move.keep K1028 (ninS (own_nelt (by omega)) nin0)
  have f1040 := x_nodes.keep K1028 (ninS (own_nelt (by omega)) nin0)
  have f1041 := x_table.keep K1028 (ninS (own_nelt (by omega)) nin0)
  have f1042 := x_tableShift.keep K1028 (ninS (own_nelt (by omega)) nin0)
  have f1043 := y_word.keep K1028 (ninS (own_nelt (by omega)) nin0)
  have f1044 := y_shift.keep K1028 (ninS (own_nelt (by omega)) nin0)
  have f1045 := y_boards.keep K1028 (ninS (own_negt (by omega)) nin0)
  have f1046 := y_parent.keep K1028 (ninS (own_negt (by omega)) nin0)
  have f1047 := y_move.keep K1028 (ninS (own_negt (by omega)) nin0)
  have f1048 := y_table.keep K1028 (ninS (own_negt (by omega)) nin0)
  have f1049 := VC.keep K1028 (ninS (own_negt (by omega)) nin0)
  have f1050 := Nat.le_trans Z0 K1028.1
  have f1051 := Keep.trans (Keep.refl h0 [k]) K1028 (allS (Or.inl (by simp)) all0)
  have S1052 : own_Go p e below s₁ G T1028 (mkF m 12 #[.val (.ref a), .val (.ref cy), .val (.int (0 : Int32))] [(.ref cy), (.int (0 : Int32))]) := fun tg_ kk_ => S1029 tg_ (by
    refine XS.iconst X1028.here hx rfl (hb hby d8_8) ?_
    show Steps p.tables e below (T1028.setTop (mkF m 9 #[.val (.ref a), .val (.ref cy), .unset] [(.int (0 : Int32))])) _
    refine XS.istoreN X1028.here hx rfl (hb hby d8_9) rfl (l' := #[.val (.ref a), .val (.ref cy), .val (.int (0 : Int32))]) rfl ?_
    show Steps p.tables e below (T1028.setTop (mkF m 10 #[.val (.ref a), .val (.ref cy), .val (.int (0 : Int32))] [])) _
    refine XS.iloadN X1028.here hx rfl (hb hby d8_10) rfl ?_
    show Steps p.tables e below (T1028.setTop (mkF m 11 #[.val (.ref a), .val (.ref cy), .val (.int (0 : Int32))] [(.int (0 : Int32))])) _
    refine XS.aloadN X1028.here hx rfl (hb hby d8_11) rfl rfl ?_
    exact kk_)
  obtain ⟨cl1053, B1053, -, z1053, y1053, -, -⟩ := id f1049
  have S1054 : own_Go p e below s₁ G T1028 (mkF m 17 #[.val (.ref a), .val (.ref cy), .val (.int (0 : Int32))] [(.ref a)]) := fun tg_ kk_ => S1052 tg_ (by
    refine X1028.arraylength hx (cell := cl1053) (by rw [e1028]; exact B1053.1) (State.isArrayOf_alike hZ.alike B1053.2.1) (g := (mkF m 12 #[.val (.ref a), .val (.ref cy), .val (.int (0 : Int32))] [(.ref cy), (.int (0 : Int32))])) rfl (rest := [(.int (0 : Int32))]) rfl (hb hby d8_12) _ ?_
    rw [len_of z1053 y1053]
    show Steps p.tables e below (T1028.setTop (mkF m 13 #[.val (.ref a), .val (.ref cy), .val (.int (0 : Int32))] [(.int (4 : Int32)), (.int (0 : Int32))])) _
    refine XS.icmpNo X1028.here hx rfl (hb hby d8_13) rfl (XT.ii_ge_f (by decide)) ?_
    show Steps p.tables e below (T1028.setTop (mkF m 16 #[.val (.ref a), .val (.ref cy), .val (.int (0 : Int32))] [])) _
    refine XS.aloadN X1028.here hx rfl (hb hby d8_16) rfl rfl ?_
    exact kk_)
  obtain ⟨T1055, X1055, e1055, st1055⟩ := getF X1028 hx hZ hown (host := "") (Or.inl (hw _ (List.mem_of_getElem? (i := 24) rfl))) Via.refl e1028 f1036 (g := (mkF m 17 #[.val (.ref a), .val (.ref cy), .val (.int (0 : Int32))] [(.ref a)])) rfl rfl (hb hby d8_17)
  have S1056 : own_Go p e below s₁ G T1055 (mkF m 20 #[.val (.ref a), .val (.ref cy), .val (.int (0 : Int32))] [(.ref k)]) := fun tg_ kk_ => S1054 tg_ (st1055 tg_ kk_)
  have S1057 : own_Go p e below s₁ G T1055 (mkF m 21 #[.val (.ref a), .val (.ref cy), .val (.int (0 : Int32))] [(.ref a), (.ref k)]) := fun tg_ kk_ => S1056 tg_ (by
    refine XS.aloadN X1055.here hx rfl (hb hby d8_20) rfl rfl ?_
    exact kk_)
  obtain ⟨T1058, X1058, e1058, st1058⟩ := getF X1055 hx hZ hown (host := "") (Or.inl (hw _ (List.mem_of_getElem? (i := 19) rfl))) Via.refl e1055 f1034 (g := (mkF m 21 #[.val (.ref a), .val (.ref cy), .val (.int (0 : Int32))] [(.ref a), (.ref k)])) rfl rfl (hb hby d8_21)
  have S1059 : own_Go p e below s₁ G T1058 (mkF m 24 #[.val (.ref a), .val (.ref cy), .val (.int (0 : Int32))] [(.ref w), (.ref k)]) := fun tg_ kk_ => S1057 tg_ (st1058 tg_ kk_)
  have S1060 : own_Go p e below s₁ G T1058 (mkF m 25 #[.val (.ref a), .val (.ref cy), .val (.int (0 : Int32))] [(.int (0 : Int32)), (.ref w), (.ref k)]) := fun tg_ kk_ => S1059 tg_ (by
    refine XS.iloadN X1058.here hx rfl (hb hby d8_24) rfl ?_
    exact kk_)
  obtain ⟨cl1061, B1061, -, z1061, -, H1061, -⟩ := id f1043
  have S1062 : own_Go p e below s₁ G T1058 (mkF m 27 #[.val (.ref a), .val (.ref cy), .val (.int (0 : Int32))] [(.int (0 : Int32)), (.ref k), (.int (0 : Int32)), (.ref k)]) := fun tg_ kk_ => S1060 tg_ (by
    refine X1058.iaload hx (j := (0 : Int32)) (v := (.int (0 : Int32))) (cell := cl1061) (by rw [e1058]; exact B1061.1) (State.isArrayOf_alike hZ.alike B1061.2.1) B1061.2.2 (inb_of z1061 (by decide)) (H1061.at (inb_of z1061 (by decide)) rfl) (g := (mkF m 25 #[.val (.ref a), .val (.ref cy), .val (.int (0 : Int32))] [(.int (0 : Int32)), (.ref w), (.ref k)])) rfl rfl (hb hby d8_25) _ ?_
    show Steps p.tables e below (T1058.setTop (mkF m 26 #[.val (.ref a), .val (.ref cy), .val (.int (0 : Int32))] [(.int (0 : Int32)), (.ref k)])) _
    refine XT.dup2 X1058.here hx rfl (hb hby d8_26) rfl rfl rfl ?_
    exact kk_)
  obtain ⟨cl1063, B1063, -, z1063, -, H1063, -⟩ := id V1028
  have S1064 : own_Go p e below s₁ G T1058 (mkF m 30 #[.val (.ref a), .val (.ref cy), .val (.int (0 : Int32))] [(.int (0 : Int32)), (.ref cy), (.long (0 : Int64)), (.int (0 : Int32)), (.ref k)]) := fun tg_ kk_ => S1062 tg_ (by
    refine X1058.laload hx (j := (0 : Int32)) (v := (.long (0 : Int64))) (cell := cl1063) (by rw [e1058]; exact B1063.1) (State.isArrayOf_alike hZ.alike B1063.2.1) B1063.2.2 (inb_of z1063 (by decide)) (H1063.at (inb_of z1063 (by decide)) rfl) (g := (mkF m 27 #[.val (.ref a), .val (.ref cy), .val (.int (0 : Int32))] [(.int (0 : Int32)), (.ref k), (.int (0 : Int32)), (.ref k)])) rfl rfl (hb hby d8_27) _ ?_
    show Steps p.tables e below (T1058.setTop (mkF m 28 #[.val (.ref a), .val (.ref cy), .val (.int (0 : Int32))] [(.long (0 : Int64)), (.int (0 : Int32)), (.ref k)])) _
    refine XS.aloadN X1058.here hx rfl (hb hby d8_28) rfl rfl ?_
    show Steps p.tables e below (T1058.setTop (mkF m 29 #[.val (.ref a), .val (.ref cy), .val (.int (0 : Int32))] [(.ref cy), (.long (0 : Int64)), (.int (0 : Int32)), (.ref k)])) _
    refine XS.iloadN X1058.here hx rfl (hb hby d8_29) rfl ?_
    exact kk_)
  obtain ⟨cl1065, B1065, -, z1065, -, H1065, -⟩ := id f1049
  have S1066 : own_Go p e below s₁ G T1058 (mkF m 32 #[.val (.ref a), .val (.ref cy), .val (.int (0 : Int32))] [(.long ((1 : Int32).toInt64)), (.long (0 : Int64)), (.int (0 : Int32)), (.ref k)]) := fun tg_ kk_ => S1064 tg_ (by
    refine X1058.baloadBytes hx (j := (0 : Int32)) (v := (.int (1 : Int32))) (cell := cl1065) (by rw [e1058]; exact B1065.1) (State.isArrayOf_alike hZ.alike B1065.2.1) B1065.2.2 (inb_of z1065 (by decide)) (H1065.at (inb_of z1065 (by decide)) rfl) (g := (mkF m 30 #[.val (.ref a), .val (.ref cy), .val (.int (0 : Int32))] [(.int (0 : Int32)), (.ref cy), (.long (0 : Int64)), (.int (0 : Int32)), (.ref k)])) rfl rfl (hb hby d8_30) _ ?_
    show Steps p.tables e below (T1058.setTop (mkF m 31 #[.val (.ref a), .val (.ref cy), .val (.int (0 : Int32))] [(.int (1 : Int32)), (.long (0 : Int64)), (.int (0 : Int32)), (.ref k)])) _
    refine XT.i2l X1058.here hx rfl (hb hby d8_31) rfl ?_
    exact kk_)
  rw [show ((1 : Int32).toInt64) = (1 : Int64) from by decide +kernel] at S1066
  have S1067 : own_Go p e below s₁ G T1058 (mkF m 33 #[.val (.ref a), .val (.ref cy), .val (.int (0 : Int32))] [(.ref a), (.long (1 : Int64)), (.long (0 : Int64)), (.int (0 : Int32)), (.ref k)]) := fun tg_ kk_ => S1066 tg_ (by
    refine XS.aloadN X1058.here hx rfl (hb hby d8_32) rfl rfl ?_
    exact kk_)
  obtain ⟨T1068, X1068, e1068, st1068⟩ := getF X1058 hx hZ hown (host := "") (Or.inl (hw _ (List.mem_of_getElem? (i := 21) rfl))) Via.refl e1058 f1035 (g := (mkF m 33 #[.val (.ref a), .val (.ref cy), .val (.int (0 : Int32))] [(.ref a), (.long (1 : Int64)), (.long (0 : Int64)), (.int (0 : Int32)), (.ref k)])) rfl rfl (hb hby d8_33)
  have S1069 : own_Go p e below s₁ G T1068 (mkF m 36 #[.val (.ref a), .val (.ref cy), .val (.int (0 : Int32))] [(.ref sh), (.long (1 : Int64)), (.long (0 : Int64)), (.int (0 : Int32)), (.ref k)]) := fun tg_ kk_ => S1067 tg_ (st1068 tg_ kk_)
  have S1070 : own_Go p e below s₁ G T1068 (mkF m 37 #[.val (.ref a), .val (.ref cy), .val (.int (0 : Int32))] [(.int (0 : Int32)), (.ref sh), (.long (1 : Int64)), (.long (0 : Int64)), (.int (0 : Int32)), (.ref k)]) := fun tg_ kk_ => S1069 tg_ (by
    refine XS.iloadN X1068.here hx rfl (hb hby d8_36) rfl ?_
    exact kk_)
  obtain ⟨cl1071, B1071, -, z1071, -, H1071, -⟩ := id f1044
  have S1072 : own_Go p e below s₁ G T1068 (mkF m 39 #[.val (.ref a), .val (.ref cy), .val (.int (0 : Int32))] [(.long ((1 : Int64) <<< (((0 : Int32)).toInt64 &&& 63))), (.long (0 : Int64)), (.int (0 : Int32)), (.ref k)]) := fun tg_ kk_ => S1070 tg_ (by
    refine X1068.iaload hx (j := (0 : Int32)) (v := (.int (0 : Int32))) (cell := cl1071) (by rw [e1068]; exact B1071.1) (State.isArrayOf_alike hZ.alike B1071.2.1) B1071.2.2 (inb_of z1071 (by decide)) (H1071.at (inb_of z1071 (by decide)) rfl) (g := (mkF m 37 #[.val (.ref a), .val (.ref cy), .val (.int (0 : Int32))] [(.int (0 : Int32)), (.ref sh), (.long (1 : Int64)), (.long (0 : Int64)), (.int (0 : Int32)), (.ref k)])) rfl rfl (hb hby d8_37) _ ?_
    show Steps p.tables e below (T1068.setTop (mkF m 38 #[.val (.ref a), .val (.ref cy), .val (.int (0 : Int32))] [(.int (0 : Int32)), (.long (1 : Int64)), (.long (0 : Int64)), (.int (0 : Int32)), (.ref k)])) _
    refine XT.lshl X1068.here hx rfl (hb hby d8_38) rfl ?_
    exact kk_)
  rw [show ((1 : Int64) <<< (((0 : Int32)).toInt64 &&& 63)) = (1 : Int64) from by decide +kernel] at S1072
  have S1073 : own_Go p e below s₁ G T1068 (mkF m 40 #[.val (.ref a), .val (.ref cy), .val (.int (0 : Int32))] [(.long ((0 : Int64) ||| (1 : Int64))), (.int (0 : Int32)), (.ref k)]) := fun tg_ kk_ => S1072 tg_ (by
    refine XT.lor X1068.here hx rfl (hb hby d8_39) rfl ?_
    exact kk_)
  rw [show ((0 : Int64) ||| (1 : Int64)) = (1 : Int64) from by decide +kernel] at S1073
  obtain ⟨cl1074, B1074, b1074, z1074, y1074, H1074, F1074⟩ := id V1028
  obtain ⟨U1074, u1074, Y1074, f1074x, W1074, su1074⟩ := stJ X1068 hx hZ e1068 B1074 (j := (0 : Int32)) (inb_of z1074 (by decide)) (g := (mkF m 40 #[.val (.ref a), .val (.ref cy), .val (.int (0 : Int32))] [(.long (1 : Int64)), (.int (0 : Int32)), (.ref k)])) rfl rfl (hb hby d8_40)
  have S1075 : own_Go p e below s₁ G U1074 (mkF m 41 #[.val (.ref a), .val (.ref cy), .val (.int (0 : Int32))] []) := fun tg_ kk_ => S1073 tg_ (su1074 tg_ kk_)
  have f1076 : Arv Z u1074 k q_key .long (1 : Int32) [(.long (1 : Int64))] (.long 0) := Arv.set B1074 b1074 z1074 y1074 H1074 F1074 rfl W1074 0 rfl (by simp)
  have f1077 := Fr.snoc Y1074 f1030 (by omega)
  have f1078 := f1031.wr W1074
  have f1079 := f1032.other W1074 (Or.inl (own_nelt (by omega)))
  have f1080 := f1033.other W1074 (Or.inl (own_nelt (by omega)))
  have f1081 := f1034.other W1074 (Or.inl (own_nelt (by omega)))
  have f1082 := f1035.other W1074 (Or.inl (own_nelt (by omega)))
  have f1083 := f1036.other W1074 (Or.inl (own_nelt (by omega)))
  have f1084 := f1037.other W1074 (Or.inl (own_nelt (by omega)))
  have f1085 := f1038.other W1074 (Or.inl (own_nelt (by omega)))
  have f1086 := f1039.other W1074 (Or.inl (own_nelt (by omega)))
  have f1087 := f1040.other W1074 (Or.inl (own_nelt (by omega)))
  have f1088 := f1041.other W1074 (Or.inl (own_nelt (by omega)))
  have f1089 := f1042.other W1074 (Or.inl (own_nelt (by omega)))
  have f1090 := f1043.other W1074 (own_nelt (by omega))
  have f1091 := f1044.other W1074 (own_nelt (by omega))
  have f1092 := f1045.other W1074 (own_negt (by omega))
  have f1093 := f1046.other W1074 (own_negt (by omega))
  have f1094 := f1047.other W1074 (own_negt (by omega))
  have f1095 := f1048.other W1074 (own_negt (by omega))
  have f1096 := f1049.other W1074 (own_negt (by omega))
  have f1097 : n0 ≤ u1074.size := by rw [W1074.size]; exact f1050
  have f1098 := Keep.wr f1051 W1074 (Or.inl (by simp))
  have S1099 : own_Go p e below s₁ G U1074 (mkF m 44 #[.val (.ref a), .val (.ref cy), .val (.int ((0 : Int32) + (1 : Int32)))] []) := fun tg_ kk_ => S1075 tg_ (by
    refine XS.iinc Y1074.here hx rfl (hb hby d8_41) rfl (l' := #[.val (.ref a), .val (.ref cy), .val (.int ((0 : Int32) + (1 : Int32)))]) rfl ?_
    exact kk_)
  rw [show ((0 : Int32) + (1 : Int32)) = (1 : Int32) from by decide +kernel] at S1099
  have S1100 : own_Go p e below s₁ G U1074 (mkF m 12 #[.val (.ref a), .val (.ref cy), .val (.int (1 : Int32))] [(.ref cy), (.int (1 : Int32))]) := fun tg_ kk_ => S1099 tg_ (by
    refine XS.goto Y1074.here hx rfl (pc0 := 44) (pc' := 10) rfl (hb hby d8_44) (by decide) (by decide) ?_
    show Steps p.tables e below (U1074.setTop (mkF m 10 #[.val (.ref a), .val (.ref cy), .val (.int (1 : Int32))] [])) _
    refine XS.iloadN Y1074.here hx rfl (hb hby d8_10) rfl ?_
    show Steps p.tables e below (U1074.setTop (mkF m 11 #[.val (.ref a), .val (.ref cy), .val (.int (1 : Int32))] [(.int (1 : Int32))])) _
    refine XS.aloadN Y1074.here hx rfl (hb hby d8_11) rfl rfl ?_
    exact kk_)
  obtain ⟨cl1101, B1101, -, z1101, y1101, -, -⟩ := id f1096
  have S1102 : own_Go p e below s₁ G U1074 (mkF m 17 #[.val (.ref a), .val (.ref cy), .val (.int (1 : Int32))] [(.ref a)]) := fun tg_ kk_ => S1100 tg_ (by
    refine Y1074.arraylength hx (cell := cl1101) (by rw [f1074x]; exact B1101.1) (State.isArrayOf_alike hZ.alike B1101.2.1) (g := (mkF m 12 #[.val (.ref a), .val (.ref cy), .val (.int (1 : Int32))] [(.ref cy), (.int (1 : Int32))])) rfl (rest := [(.int (1 : Int32))]) rfl (hb hby d8_12) _ ?_
    rw [len_of z1101 y1101]
    show Steps p.tables e below (U1074.setTop (mkF m 13 #[.val (.ref a), .val (.ref cy), .val (.int (1 : Int32))] [(.int (4 : Int32)), (.int (1 : Int32))])) _
    refine XS.icmpNo Y1074.here hx rfl (hb hby d8_13) rfl (XT.ii_ge_f (by decide)) ?_
    show Steps p.tables e below (U1074.setTop (mkF m 16 #[.val (.ref a), .val (.ref cy), .val (.int (1 : Int32))] [])) _
    refine XS.aloadN Y1074.here hx rfl (hb hby d8_16) rfl rfl ?_
    exact kk_)
  obtain ⟨T1103, X1103, e1103, st1103⟩ := getF Y1074 hx hZ hown (host := "") (Or.inl (hw _ (List.mem_of_getElem? (i := 24) rfl))) Via.refl f1074x f1083 (g := (mkF m 17 #[.val (.ref a), .val (.ref cy), .val (.int (1 : Int32))] [(.ref a)])) rfl rfl (hb hby d8_17)
  have S1104 : own_Go p e below s₁ G T1103 (mkF m 20 #[.val (.ref a), .val (.ref cy), .val (.int (1 : Int32))] [(.ref k)]) := fun tg_ kk_ => S1102 tg_ (st1103 tg_ kk_)
  have S1105 : own_Go p e below s₁ G T1103 (mkF m 21 #[.val (.ref a), .val (.ref cy), .val (.int (1 : Int32))] [(.ref a), (.ref k)]) := fun tg_ kk_ => S1104 tg_ (by
    refine XS.aloadN X1103.here hx rfl (hb hby d8_20) rfl rfl ?_
    exact kk_)
  obtain ⟨T1106, X1106, e1106, st1106⟩ := getF X1103 hx hZ hown (host := "") (Or.inl (hw _ (List.mem_of_getElem? (i := 19) rfl))) Via.refl e1103 f1081 (g := (mkF m 21 #[.val (.ref a), .val (.ref cy), .val (.int (1 : Int32))] [(.ref a), (.ref k)])) rfl rfl (hb hby d8_21)
  have S1107 : own_Go p e below s₁ G T1106 (mkF m 24 #[.val (.ref a), .val (.ref cy), .val (.int (1 : Int32))] [(.ref w), (.ref k)]) := fun tg_ kk_ => S1105 tg_ (st1106 tg_ kk_)
  have S1108 : own_Go p e below s₁ G T1106 (mkF m 25 #[.val (.ref a), .val (.ref cy), .val (.int (1 : Int32))] [(.int (1 : Int32)), (.ref w), (.ref k)]) := fun tg_ kk_ => S1107 tg_ (by
    refine XS.iloadN X1106.here hx rfl (hb hby d8_24) rfl ?_
    exact kk_)
  obtain ⟨cl1109, B1109, -, z1109, -, H1109, -⟩ := id f1090
  have S1110 : own_Go p e below s₁ G T1106 (mkF m 27 #[.val (.ref a), .val (.ref cy), .val (.int (1 : Int32))] [(.int (0 : Int32)), (.ref k), (.int (0 : Int32)), (.ref k)]) := fun tg_ kk_ => S1108 tg_ (by
    refine X1106.iaload hx (j := (1 : Int32)) (v := (.int (0 : Int32))) (cell := cl1109) (by rw [e1106]; exact B1109.1) (State.isArrayOf_alike hZ.alike B1109.2.1) B1109.2.2 (inb_of z1109 (by decide)) (H1109.at (inb_of z1109 (by decide)) rfl) (g := (mkF m 25 #[.val (.ref a), .val (.ref cy), .val (.int (1 : Int32))] [(.int (1 : Int32)), (.ref w), (.ref k)])) rfl rfl (hb hby d8_25) _ ?_
    show Steps p.tables e below (T1106.setTop (mkF m 26 #[.val (.ref a), .val (.ref cy), .val (.int (1 : Int32))] [(.int (0 : Int32)), (.ref k)])) _
    refine XT.dup2 X1106.here hx rfl (hb hby d8_26) rfl rfl rfl ?_
    exact kk_)
  obtain ⟨cl1111, B1111, -, z1111, -, H1111, -⟩ := id f1076
  have S1112 : own_Go p e below s₁ G T1106 (mkF m 30 #[.val (.ref a), .val (.ref cy), .val (.int (1 : Int32))] [(.int (1 : Int32)), (.ref cy), (.long (1 : Int64)), (.int (0 : Int32)), (.ref k)]) := fun tg_ kk_ => S1110 tg_ (by
    refine X1106.laload hx (j := (0 : Int32)) (v := (.long (1 : Int64))) (cell := cl1111) (by rw [e1106]; exact B1111.1) (State.isArrayOf_alike hZ.alike B1111.2.1) B1111.2.2 (inb_of z1111 (by decide)) (H1111.at (inb_of z1111 (by decide)) rfl) (g := (mkF m 27 #[.val (.ref a), .val (.ref cy), .val (.int (1 : Int32))] [(.int (0 : Int32)), (.ref k), (.int (0 : Int32)), (.ref k)])) rfl rfl (hb hby d8_27) _ ?_
    show Steps p.tables e below (T1106.setTop (mkF m 28 #[.val (.ref a), .val (.ref cy), .val (.int (1 : Int32))] [(.long (1 : Int64)), (.int (0 : Int32)), (.ref k)])) _
    refine XS.aloadN X1106.here hx rfl (hb hby d8_28) rfl rfl ?_
    show Steps p.tables e below (T1106.setTop (mkF m 29 #[.val (.ref a), .val (.ref cy), .val (.int (1 : Int32))] [(.ref cy), (.long (1 : Int64)), (.int (0 : Int32)), (.ref k)])) _
    refine XS.iloadN X1106.here hx rfl (hb hby d8_29) rfl ?_
    exact kk_)
  obtain ⟨cl1113, B1113, -, z1113, -, H1113, -⟩ := id f1096
  have S1114 : own_Go p e below s₁ G T1106 (mkF m 32 #[.val (.ref a), .val (.ref cy), .val (.int (1 : Int32))] [(.long ((0 : Int32).toInt64)), (.long (1 : Int64)), (.int (0 : Int32)), (.ref k)]) := fun tg_ kk_ => S1112 tg_ (by
    refine X1106.baloadBytes hx (j := (1 : Int32)) (v := (.int (0 : Int32))) (cell := cl1113) (by rw [e1106]; exact B1113.1) (State.isArrayOf_alike hZ.alike B1113.2.1) B1113.2.2 (inb_of z1113 (by decide)) (H1113.at (inb_of z1113 (by decide)) rfl) (g := (mkF m 30 #[.val (.ref a), .val (.ref cy), .val (.int (1 : Int32))] [(.int (1 : Int32)), (.ref cy), (.long (1 : Int64)), (.int (0 : Int32)), (.ref k)])) rfl rfl (hb hby d8_30) _ ?_
    show Steps p.tables e below (T1106.setTop (mkF m 31 #[.val (.ref a), .val (.ref cy), .val (.int (1 : Int32))] [(.int (0 : Int32)), (.long (1 : Int64)), (.int (0 : Int32)), (.ref k)])) _
    refine XT.i2l X1106.here hx rfl (hb hby d8_31) rfl ?_
    exact kk_)
  rw [show ((0 : Int32).toInt64) = (0 : Int64) from by decide +kernel] at S1114
  have S1115 : own_Go p e below s₁ G T1106 (mkF m 33 #[.val (.ref a), .val (.ref cy), .val (.int (1 : Int32))] [(.ref a), (.long (0 : Int64)), (.long (1 : Int64)), (.int (0 : Int32)), (.ref k)]) := fun tg_ kk_ => S1114 tg_ (by
    refine XS.aloadN X1106.here hx rfl (hb hby d8_32) rfl rfl ?_
    exact kk_)
  obtain ⟨T1116, X1116, e1116, st1116⟩ := getF X1106 hx hZ hown (host := "") (Or.inl (hw _ (List.mem_of_getElem? (i := 21) rfl))) Via.refl e1106 f1082 (g := (mkF m 33 #[.val (.ref a), .val (.ref cy), .val (.int (1 : Int32))] [(.ref a), (.long (0 : Int64)), (.long (1 : Int64)), (.int (0 : Int32)), (.ref k)])) rfl rfl (hb hby d8_33)
  have S1117 : own_Go p e below s₁ G T1116 (mkF m 36 #[.val (.ref a), .val (.ref cy), .val (.int (1 : Int32))] [(.ref sh), (.long (0 : Int64)), (.long (1 : Int64)), (.int (0 : Int32)), (.ref k)]) := fun tg_ kk_ => S1115 tg_ (st1116 tg_ kk_)
  have S1118 : own_Go p e below s₁ G T1116 (mkF m 37 #[.val (.ref a), .val (.ref cy), .val (.int (1 : Int32))] [(.int (1 : Int32)), (.ref sh), (.long (0 : Int64)), (.long (1 : Int64)), (.int (0 : Int32)), (.ref k)]) := fun tg_ kk_ => S1117 tg_ (by
    refine XS.iloadN X1116.here hx rfl (hb hby d8_36) rfl ?_
    exact kk_)
  obtain ⟨cl1119, B1119, -, z1119, -, H1119, -⟩ := id f1091
  have S1120 : own_Go p e below s₁ G T1116 (mkF m 39 #[.val (.ref a), .val (.ref cy), .val (.int (1 : Int32))] [(.long ((0 : Int64) <<< (((2 : Int32)).toInt64 &&& 63))), (.long (1 : Int64)), (.int (0 : Int32)), (.ref k)]) := fun tg_ kk_ => S1118 tg_ (by
    refine X1116.iaload hx (j := (1 : Int32)) (v := (.int (2 : Int32))) (cell := cl1119) (by rw [e1116]; exact B1119.1) (State.isArrayOf_alike hZ.alike B1119.2.1) B1119.2.2 (inb_of z1119 (by decide)) (H1119.at (inb_of z1119 (by decide)) rfl) (g := (mkF m 37 #[.val (.ref a), .val (.ref cy), .val (.int (1 : Int32))] [(.int (1 : Int32)), (.ref sh), (.long (0 : Int64)), (.long (1 : Int64)), (.int (0 : Int32)), (.ref k)])) rfl rfl (hb hby d8_37) _ ?_
    show Steps p.tables e below (T1116.setTop (mkF m 38 #[.val (.ref a), .val (.ref cy), .val (.int (1 : Int32))] [(.int (2 : Int32)), (.long (0 : Int64)), (.long (1 : Int64)), (.int (0 : Int32)), (.ref k)])) _
    refine XT.lshl X1116.here hx rfl (hb hby d8_38) rfl ?_
    exact kk_)
  rw [show ((0 : Int64) <<< (((2 : Int32)).toInt64 &&& 63)) = (0 : Int64) from by decide +kernel] at S1120
  have S1121 : own_Go p e below s₁ G T1116 (mkF m 40 #[.val (.ref a), .val (.ref cy), .val (.int (1 : Int32))] [(.long ((1 : Int64) ||| (0 : Int64))), (.int (0 : Int32)), (.ref k)]) := fun tg_ kk_ => S1120 tg_ (by
    refine XT.lor X1116.here hx rfl (hb hby d8_39) rfl ?_
    exact kk_)
  rw [show ((1 : Int64) ||| (0 : Int64)) = (1 : Int64) from by decide +kernel] at S1121
  obtain ⟨cl1122, B1122, b1122, z1122, y1122, H1122, F1122⟩ := id f1076
  obtain ⟨U1122, u1122, Y1122, f1122x, W1122, su1122⟩ := stJ X1116 hx hZ e1116 B1122 (j := (0 : Int32)) (inb_of z1122 (by decide)) (g := (mkF m 40 #[.val (.ref a), .val (.ref cy), .val (.int (1 : Int32))] [(.long (1 : Int64)), (.int (0 : Int32)), (.ref k)])) rfl rfl (hb hby d8_40)
  have S1123 : own_Go p e below s₁ G U1122 (mkF m 41 #[.val (.ref a), .val (.ref cy), .val (.int (1 : Int32))] []) := fun tg_ kk_ => S1121 tg_ (su1122 tg_ kk_)
  have f1124 : Arv Z u1122 k q_key .long (1 : Int32) [(.long (1 : Int64))] (.long 0) := Arv.set B1122 b1122 z1122 y1122 H1122 F1122 rfl W1122 0 rfl (by simp)
  have f1125 := Fr.snoc Y1122 f1077 (by omega)
  have f1126 := f1078.wr W1122
  have f1127 := f1079.other W1122 (Or.inl (own_nelt (by omega)))
  have f1128 := f1080.other W1122 (Or.inl (own_nelt (by omega)))
  have f1129 := f1081.other W1122 (Or.inl (own_nelt (by omega)))
  have f1130 := f1082.other W1122 (Or.inl (own_nelt (by omega)))
  have f1131 := f1083.other W1122 (Or.inl (own_nelt (by omega)))
  have f1132 := f1084.other W1122 (Or.inl (own_nelt (by omega)))
  have f1133 := f1085.other W1122 (Or.inl (own_nelt (by omega)))
  have f1134 := f1086.other W1122 (Or.inl (own_nelt (by omega)))
  have f1135 := f1087.other W1122 (Or.inl (own_nelt (by omega)))
  have f1136 := f1088.other W1122 (Or.inl (own_nelt (by omega)))
  have f1137 := f1089.other W1122 (Or.inl (own_nelt (by omega)))
  have f1138 := f1090.other W1122 (own_nelt (by omega))
  have f1139 := f1091.other W1122 (own_nelt (by omega))
  have f1140 := f1092.other W1122 (own_negt (by omega))
  have f1141 := f1093.other W1122 (own_negt (by omega))
  have f1142 := f1094.other W1122 (own_negt (by omega))
  have f1143 := f1095.other W1122 (own_negt (by omega))
  have f1144 := f1096.other W1122 (own_negt (by omega))
  have f1145 : n0 ≤ u1122.size := by rw [W1122.size]; exact f1097
  have f1146 := Keep.wr f1098 W1122 (Or.inl (by simp))
  have S1147 : own_Go p e below s₁ G U1122 (mkF m 44 #[.val (.ref a), .val (.ref cy), .val (.int ((1 : Int32) + (1 : Int32)))] []) := fun tg_ kk_ => S1123 tg_ (by
    refine XS.iinc Y1122.here hx rfl (hb hby d8_41) rfl (l' := #[.val (.ref a), .val (.ref cy), .val (.int ((1 : Int32) + (1 : Int32)))]) rfl ?_
    exact kk_)
  rw [show ((1 : Int32) + (1 : Int32)) = (2 : Int32) from by decide +kernel] at S1147
  have S1148 : own_Go p e below s₁ G U1122 (mkF m 12 #[.val (.ref a), .val (.ref cy), .val (.int (2 : Int32))] [(.ref cy), (.int (2 : Int32))]) := fun tg_ kk_ => S1147 tg_ (by
    refine XS.goto Y1122.here hx rfl (pc0 := 44) (pc' := 10) rfl (hb hby d8_44) (by decide) (by decide) ?_
    show Steps p.tables e below (U1122.setTop (mkF m 10 #[.val (.ref a), .val (.ref cy), .val (.int (2 : Int32))] [])) _
    refine XS.iloadN Y1122.here hx rfl (hb hby d8_10) rfl ?_
    show Steps p.tables e below (U1122.setTop (mkF m 11 #[.val (.ref a), .val (.ref cy), .val (.int (2 : Int32))] [(.int (2 : Int32))])) _
    refine XS.aloadN Y1122.here hx rfl (hb hby d8_11) rfl rfl ?_
    exact kk_)
  obtain ⟨cl1149, B1149, -, z1149, y1149, -, -⟩ := id f1144
  have S1150 : own_Go p e below s₁ G U1122 (mkF m 17 #[.val (.ref a), .val (.ref cy), .val (.int (2 : Int32))] [(.ref a)]) := fun tg_ kk_ => S1148 tg_ (by
    refine Y1122.arraylength hx (cell := cl1149) (by rw [f1122x]; exact B1149.1) (State.isArrayOf_alike hZ.alike B1149.2.1) (g := (mkF m 12 #[.val (.ref a), .val (.ref cy), .val (.int (2 : Int32))] [(.ref cy), (.int (2 : Int32))])) rfl (rest := [(.int (2 : Int32))]) rfl (hb hby d8_12) _ ?_
    rw [len_of z1149 y1149]
    show Steps p.tables e below (U1122.setTop (mkF m 13 #[.val (.ref a), .val (.ref cy), .val (.int (2 : Int32))] [(.int (4 : Int32)), (.int (2 : Int32))])) _
    refine XS.icmpNo Y1122.here hx rfl (hb hby d8_13) rfl (XT.ii_ge_f (by decide)) ?_
    show Steps p.tables e below (U1122.setTop (mkF m 16 #[.val (.ref a), .val (.ref cy), .val (.int (2 : Int32))] [])) _
    refine XS.aloadN Y1122.here hx rfl (hb hby d8_16) rfl rfl ?_
    exact kk_)
  obtain ⟨T1151, X1151, e1151, st1151⟩ := getF Y1122 hx hZ hown (host := "") (Or.inl (hw _ (List.mem_of_getElem? (i := 24) rfl))) Via.refl f1122x f1131 (g := (mkF m 17 #[.val (.ref a), .val (.ref cy), .val (.int (2 : Int32))] [(.ref a)])) rfl rfl (hb hby d8_17)
  have S1152 : own_Go p e below s₁ G T1151 (mkF m 20 #[.val (.ref a), .val (.ref cy), .val (.int (2 : Int32))] [(.ref k)]) := fun tg_ kk_ => S1150 tg_ (st1151 tg_ kk_)
  have S1153 : own_Go p e below s₁ G T1151 (mkF m 21 #[.val (.ref a), .val (.ref cy), .val (.int (2 : Int32))] [(.ref a), (.ref k)]) := fun tg_ kk_ => S1152 tg_ (by
    refine XS.aloadN X1151.here hx rfl (hb hby d8_20) rfl rfl ?_
    exact kk_)
  obtain ⟨T1154, X1154, e1154, st1154⟩ := getF X1151 hx hZ hown (host := "") (Or.inl (hw _ (List.mem_of_getElem? (i := 19) rfl))) Via.refl e1151 f1129 (g := (mkF m 21 #[.val (.ref a), .val (.ref cy), .val (.int (2 : Int32))] [(.ref a), (.ref k)])) rfl rfl (hb hby d8_21)
  have S1155 : own_Go p e below s₁ G T1154 (mkF m 24 #[.val (.ref a), .val (.ref cy), .val (.int (2 : Int32))] [(.ref w), (.ref k)]) := fun tg_ kk_ => S1153 tg_ (st1154 tg_ kk_)
  have S1156 : own_Go p e below s₁ G T1154 (mkF m 25 #[.val (.ref a), .val (.ref cy), .val (.int (2 : Int32))] [(.int (2 : Int32)), (.ref w), (.ref k)]) := fun tg_ kk_ => S1155 tg_ (by
    refine XS.iloadN X1154.here hx rfl (hb hby d8_24) rfl ?_
    exact kk_)
  obtain ⟨cl1157, B1157, -, z1157, -, H1157, -⟩ := id f1138
  have S1158 : own_Go p e below s₁ G T1154 (mkF m 27 #[.val (.ref a), .val (.ref cy), .val (.int (2 : Int32))] [(.int (0 : Int32)), (.ref k), (.int (0 : Int32)), (.ref k)]) := fun tg_ kk_ => S1156 tg_ (by
    refine X1154.iaload hx (j := (2 : Int32)) (v := (.int (0 : Int32))) (cell := cl1157) (by rw [e1154]; exact B1157.1) (State.isArrayOf_alike hZ.alike B1157.2.1) B1157.2.2 (inb_of z1157 (by decide)) (H1157.at (inb_of z1157 (by decide)) rfl) (g := (mkF m 25 #[.val (.ref a), .val (.ref cy), .val (.int (2 : Int32))] [(.int (2 : Int32)), (.ref w), (.ref k)])) rfl rfl (hb hby d8_25) _ ?_
    show Steps p.tables e below (T1154.setTop (mkF m 26 #[.val (.ref a), .val (.ref cy), .val (.int (2 : Int32))] [(.int (0 : Int32)), (.ref k)])) _
    refine XT.dup2 X1154.here hx rfl (hb hby d8_26) rfl rfl rfl ?_
    exact kk_)
  obtain ⟨cl1159, B1159, -, z1159, -, H1159, -⟩ := id f1124
  have S1160 : own_Go p e below s₁ G T1154 (mkF m 30 #[.val (.ref a), .val (.ref cy), .val (.int (2 : Int32))] [(.int (2 : Int32)), (.ref cy), (.long (1 : Int64)), (.int (0 : Int32)), (.ref k)]) := fun tg_ kk_ => S1158 tg_ (by
    refine X1154.laload hx (j := (0 : Int32)) (v := (.long (1 : Int64))) (cell := cl1159) (by rw [e1154]; exact B1159.1) (State.isArrayOf_alike hZ.alike B1159.2.1) B1159.2.2 (inb_of z1159 (by decide)) (H1159.at (inb_of z1159 (by decide)) rfl) (g := (mkF m 27 #[.val (.ref a), .val (.ref cy), .val (.int (2 : Int32))] [(.int (0 : Int32)), (.ref k), (.int (0 : Int32)), (.ref k)])) rfl rfl (hb hby d8_27) _ ?_
    show Steps p.tables e below (T1154.setTop (mkF m 28 #[.val (.ref a), .val (.ref cy), .val (.int (2 : Int32))] [(.long (1 : Int64)), (.int (0 : Int32)), (.ref k)])) _
    refine XS.aloadN X1154.here hx rfl (hb hby d8_28) rfl rfl ?_
    show Steps p.tables e below (T1154.setTop (mkF m 29 #[.val (.ref a), .val (.ref cy), .val (.int (2 : Int32))] [(.ref cy), (.long (1 : Int64)), (.int (0 : Int32)), (.ref k)])) _
    refine XS.iloadN X1154.here hx rfl (hb hby d8_29) rfl ?_
    exact kk_)
  obtain ⟨cl1161, B1161, -, z1161, -, H1161, -⟩ := id f1144
  have S1162 : own_Go p e below s₁ G T1154 (mkF m 32 #[.val (.ref a), .val (.ref cy), .val (.int (2 : Int32))] [(.long ((2 : Int32).toInt64)), (.long (1 : Int64)), (.int (0 : Int32)), (.ref k)]) := fun tg_ kk_ => S1160 tg_ (by
    refine X1154.baloadBytes hx (j := (2 : Int32)) (v := (.int (2 : Int32))) (cell := cl1161) (by rw [e1154]; exact B1161.1) (State.isArrayOf_alike hZ.alike B1161.2.1) B1161.2.2 (inb_of z1161 (by decide)) (H1161.at (inb_of z1161 (by decide)) rfl) (g := (mkF m 30 #[.val (.ref a), .val (.ref cy), .val (.int (2 : Int32))] [(.int (2 : Int32)), (.ref cy), (.long (1 : Int64)), (.int (0 : Int32)), (.ref k)])) rfl rfl (hb hby d8_30) _ ?_
    show Steps p.tables e below (T1154.setTop (mkF m 31 #[.val (.ref a), .val (.ref cy), .val (.int (2 : Int32))] [(.int (2 : Int32)), (.long (1 : Int64)), (.int (0 : Int32)), (.ref k)])) _
    refine XT.i2l X1154.here hx rfl (hb hby d8_31) rfl ?_
    exact kk_)
  rw [show ((2 : Int32).toInt64) = (2 : Int64) from by decide +kernel] at S1162
  have S1163 : own_Go p e below s₁ G T1154 (mkF m 33 #[.val (.ref a), .val (.ref cy), .val (.int (2 : Int32))] [(.ref a), (.long (2 : Int64)), (.long (1 : Int64)), (.int (0 : Int32)), (.ref k)]) := fun tg_ kk_ => S1162 tg_ (by
    refine XS.aloadN X1154.here hx rfl (hb hby d8_32) rfl rfl ?_
    exact kk_)
  obtain ⟨T1164, X1164, e1164, st1164⟩ := getF X1154 hx hZ hown (host := "") (Or.inl (hw _ (List.mem_of_getElem? (i := 21) rfl))) Via.refl e1154 f1130 (g := (mkF m 33 #[.val (.ref a), .val (.ref cy), .val (.int (2 : Int32))] [(.ref a), (.long (2 : Int64)), (.long (1 : Int64)), (.int (0 : Int32)), (.ref k)])) rfl rfl (hb hby d8_33)
  have S1165 : own_Go p e below s₁ G T1164 (mkF m 36 #[.val (.ref a), .val (.ref cy), .val (.int (2 : Int32))] [(.ref sh), (.long (2 : Int64)), (.long (1 : Int64)), (.int (0 : Int32)), (.ref k)]) := fun tg_ kk_ => S1163 tg_ (st1164 tg_ kk_)
  have S1166 : own_Go p e below s₁ G T1164 (mkF m 37 #[.val (.ref a), .val (.ref cy), .val (.int (2 : Int32))] [(.int (2 : Int32)), (.ref sh), (.long (2 : Int64)), (.long (1 : Int64)), (.int (0 : Int32)), (.ref k)]) := fun tg_ kk_ => S1165 tg_ (by
    refine XS.iloadN X1164.here hx rfl (hb hby d8_36) rfl ?_
    exact kk_)
  obtain ⟨cl1167, B1167, -, z1167, -, H1167, -⟩ := id f1139
  have S1168 : own_Go p e below s₁ G T1164 (mkF m 39 #[.val (.ref a), .val (.ref cy), .val (.int (2 : Int32))] [(.long ((2 : Int64) <<< (((4 : Int32)).toInt64 &&& 63))), (.long (1 : Int64)), (.int (0 : Int32)), (.ref k)]) := fun tg_ kk_ => S1166 tg_ (by
    refine X1164.iaload hx (j := (2 : Int32)) (v := (.int (4 : Int32))) (cell := cl1167) (by rw [e1164]; exact B1167.1) (State.isArrayOf_alike hZ.alike B1167.2.1) B1167.2.2 (inb_of z1167 (by decide)) (H1167.at (inb_of z1167 (by decide)) rfl) (g := (mkF m 37 #[.val (.ref a), .val (.ref cy), .val (.int (2 : Int32))] [(.int (2 : Int32)), (.ref sh), (.long (2 : Int64)), (.long (1 : Int64)), (.int (0 : Int32)), (.ref k)])) rfl rfl (hb hby d8_37) _ ?_
    show Steps p.tables e below (T1164.setTop (mkF m 38 #[.val (.ref a), .val (.ref cy), .val (.int (2 : Int32))] [(.int (4 : Int32)), (.long (2 : Int64)), (.long (1 : Int64)), (.int (0 : Int32)), (.ref k)])) _
    refine XT.lshl X1164.here hx rfl (hb hby d8_38) rfl ?_
    exact kk_)
  rw [show ((2 : Int64) <<< (((4 : Int32)).toInt64 &&& 63)) = (32 : Int64) from by decide +kernel] at S1168
  have S1169 : own_Go p e below s₁ G T1164 (mkF m 40 #[.val (.ref a), .val (.ref cy), .val (.int (2 : Int32))] [(.long ((1 : Int64) ||| (32 : Int64))), (.int (0 : Int32)), (.ref k)]) := fun tg_ kk_ => S1168 tg_ (by
    refine XT.lor X1164.here hx rfl (hb hby d8_39) rfl ?_
    exact kk_)
  rw [show ((1 : Int64) ||| (32 : Int64)) = (33 : Int64) from by decide +kernel] at S1169
  obtain ⟨cl1170, B1170, b1170, z1170, y1170, H1170, F1170⟩ := id f1124
  obtain ⟨U1170, u1170, Y1170, f1170x, W1170, su1170⟩ := stJ X1164 hx hZ e1164 B1170 (j := (0 : Int32)) (inb_of z1170 (by decide)) (g := (mkF m 40 #[.val (.ref a), .val (.ref cy), .val (.int (2 : Int32))] [(.long (33 : Int64)), (.int (0 : Int32)), (.ref k)])) rfl rfl (hb hby d8_40)
  have S1171 : own_Go p e below s₁ G U1170 (mkF m 41 #[.val (.ref a), .val (.ref cy), .val (.int (2 : Int32))] []) := fun tg_ kk_ => S1169 tg_ (su1170 tg_ kk_)
  have f1172 : Arv Z u1170 k q_key .long (1 : Int32) [(.long (33 : Int64))] (.long 0) := Arv.set B1170 b1170 z1170 y1170 H1170 F1170 rfl W1170 0 rfl (by simp)
  have f1173 := Fr.snoc Y1170 f1125 (by omega)
  have f1174 := f1126.wr W1170
  have f1175 := f1127.other W1170 (Or.inl (own_nelt (by omega)))
  have f1176 := f1128.other W1170 (Or.inl (own_nelt (by omega)))
  have f1177 := f1129.other W1170 (Or.inl (own_nelt (by omega)))
  have f1178 := f1130.other W1170 (Or.inl (own_nelt (by omega)))
  have f1179 := f1131.other W1170 (Or.inl (own_nelt (by omega)))
  have f1180 := f1132.other W1170 (Or.inl (own_nelt (by omega)))
  have f1181 := f1133.other W1170 (Or.inl (own_nelt (by omega)))
  have f1182 := f1134.other W1170 (Or.inl (own_nelt (by omega)))
  have f1183 := f1135.other W1170 (Or.inl (own_nelt (by omega)))
  have f1184 := f1136.other W1170 (Or.inl (own_nelt (by omega)))
  have f1185 := f1137.other W1170 (Or.inl (own_nelt (by omega)))
  have f1186 := f1138.other W1170 (own_nelt (by omega))
  have f1187 := f1139.other W1170 (own_nelt (by omega))
  have f1188 := f1140.other W1170 (own_negt (by omega))
  have f1189 := f1141.other W1170 (own_negt (by omega))
  have f1190 := f1142.other W1170 (own_negt (by omega))
  have f1191 := f1143.other W1170 (own_negt (by omega))
  have f1192 := f1144.other W1170 (own_negt (by omega))
  have f1193 : n0 ≤ u1170.size := by rw [W1170.size]; exact f1145
  have f1194 := Keep.wr f1146 W1170 (Or.inl (by simp))
  have S1195 : own_Go p e below s₁ G U1170 (mkF m 44 #[.val (.ref a), .val (.ref cy), .val (.int ((2 : Int32) + (1 : Int32)))] []) := fun tg_ kk_ => S1171 tg_ (by
    refine XS.iinc Y1170.here hx rfl (hb hby d8_41) rfl (l' := #[.val (.ref a), .val (.ref cy), .val (.int ((2 : Int32) + (1 : Int32)))]) rfl ?_
    exact kk_)
  rw [show ((2 : Int32) + (1 : Int32)) = (3 : Int32) from by decide +kernel] at S1195
  have S1196 : own_Go p e below s₁ G U1170 (mkF m 12 #[.val (.ref a), .val (.ref cy), .val (.int (3 : Int32))] [(.ref cy), (.int (3 : Int32))]) := fun tg_ kk_ => S1195 tg_ (by
    refine XS.goto Y1170.here hx rfl (pc0 := 44) (pc' := 10) rfl (hb hby d8_44) (by decide) (by decide) ?_
    show Steps p.tables e below (U1170.setTop (mkF m 10 #[.val (.ref a), .val (.ref cy), .val (.int (3 : Int32))] [])) _
    refine XS.iloadN Y1170.here hx rfl (hb hby d8_10) rfl ?_
    show Steps p.tables e below (U1170.setTop (mkF m 11 #[.val (.ref a), .val (.ref cy), .val (.int (3 : Int32))] [(.int (3 : Int32))])) _
    refine XS.aloadN Y1170.here hx rfl (hb hby d8_11) rfl rfl ?_
    exact kk_)
  obtain ⟨cl1197, B1197, -, z1197, y1197, -, -⟩ := id f1192
  have S1198 : own_Go p e below s₁ G U1170 (mkF m 17 #[.val (.ref a), .val (.ref cy), .val (.int (3 : Int32))] [(.ref a)]) := fun tg_ kk_ => S1196 tg_ (by
    refine Y1170.arraylength hx (cell := cl1197) (by rw [f1170x]; exact B1197.1) (State.isArrayOf_alike hZ.alike B1197.2.1) (g := (mkF m 12 #[.val (.ref a), .val (.ref cy), .val (.int (3 : Int32))] [(.ref cy), (.int (3 : Int32))])) rfl (rest := [(.int (3 : Int32))]) rfl (hb hby d8_12) _ ?_
    rw [len_of z1197 y1197]
    show Steps p.tables e below (U1170.setTop (mkF m 13 #[.val (.ref a), .val (.ref cy), .val (.int (3 : Int32))] [(.int (4 : Int32)), (.int (3 : Int32))])) _
    refine XS.icmpNo Y1170.here hx rfl (hb hby d8_13) rfl (XT.ii_ge_f (by decide)) ?_
    show Steps p.tables e below (U1170.setTop (mkF m 16 #[.val (.ref a), .val (.ref cy), .val (.int (3 : Int32))] [])) _
    refine XS.aloadN Y1170.here hx rfl (hb hby d8_16) rfl rfl ?_
    exact kk_)
  obtain ⟨T1199, X1199, e1199, st1199⟩ := getF Y1170 hx hZ hown (host := "") (Or.inl (hw _ (List.mem_of_getElem? (i := 24) rfl))) Via.refl f1170x f1179 (g := (mkF m 17 #[.val (.ref a), .val (.ref cy), .val (.int (3 : Int32))] [(.ref a)])) rfl rfl (hb hby d8_17)
  have S1200 : own_Go p e below s₁ G T1199 (mkF m 20 #[.val (.ref a), .val (.ref cy), .val (.int (3 : Int32))] [(.ref k)]) := fun tg_ kk_ => S1198 tg_ (st1199 tg_ kk_)
  have S1201 : own_Go p e below s₁ G T1199 (mkF m 21 #[.val (.ref a), .val (.ref cy), .val (.int (3 : Int32))] [(.ref a), (.ref k)]) := fun tg_ kk_ => S1200 tg_ (by
    refine XS.aloadN X1199.here hx rfl (hb hby d8_20) rfl rfl ?_
    exact kk_)
  obtain ⟨T1202, X1202, e1202, st1202⟩ := getF X1199 hx hZ hown (host := "") (Or.inl (hw _ (List.mem_of_getElem? (i := 19) rfl))) Via.refl e1199 f1177 (g := (mkF m 21 #[.val (.ref a), .val (.ref cy), .val (.int (3 : Int32))] [(.ref a), (.ref k)])) rfl rfl (hb hby d8_21)
  have S1203 : own_Go p e below s₁ G T1202 (mkF m 24 #[.val (.ref a), .val (.ref cy), .val (.int (3 : Int32))] [(.ref w), (.ref k)]) := fun tg_ kk_ => S1201 tg_ (st1202 tg_ kk_)
  have S1204 : own_Go p e below s₁ G T1202 (mkF m 25 #[.val (.ref a), .val (.ref cy), .val (.int (3 : Int32))] [(.int (3 : Int32)), (.ref w), (.ref k)]) := fun tg_ kk_ => S1203 tg_ (by
    refine XS.iloadN X1202.here hx rfl (hb hby d8_24) rfl ?_
    exact kk_)
  obtain ⟨cl1205, B1205, -, z1205, -, H1205, -⟩ := id f1186
  have S1206 : own_Go p e below s₁ G T1202 (mkF m 27 #[.val (.ref a), .val (.ref cy), .val (.int (3 : Int32))] [(.int (0 : Int32)), (.ref k), (.int (0 : Int32)), (.ref k)]) := fun tg_ kk_ => S1204 tg_ (by
    refine X1202.iaload hx (j := (3 : Int32)) (v := (.int (0 : Int32))) (cell := cl1205) (by rw [e1202]; exact B1205.1) (State.isArrayOf_alike hZ.alike B1205.2.1) B1205.2.2 (inb_of z1205 (by decide)) (H1205.at (inb_of z1205 (by decide)) rfl) (g := (mkF m 25 #[.val (.ref a), .val (.ref cy), .val (.int (3 : Int32))] [(.int (3 : Int32)), (.ref w), (.ref k)])) rfl rfl (hb hby d8_25) _ ?_
    show Steps p.tables e below (T1202.setTop (mkF m 26 #[.val (.ref a), .val (.ref cy), .val (.int (3 : Int32))] [(.int (0 : Int32)), (.ref k)])) _
    refine XT.dup2 X1202.here hx rfl (hb hby d8_26) rfl rfl rfl ?_
    exact kk_)
  obtain ⟨cl1207, B1207, -, z1207, -, H1207, -⟩ := id f1172
  have S1208 : own_Go p e below s₁ G T1202 (mkF m 30 #[.val (.ref a), .val (.ref cy), .val (.int (3 : Int32))] [(.int (3 : Int32)), (.ref cy), (.long (33 : Int64)), (.int (0 : Int32)), (.ref k)]) := fun tg_ kk_ => S1206 tg_ (by
    refine X1202.laload hx (j := (0 : Int32)) (v := (.long (33 : Int64))) (cell := cl1207) (by rw [e1202]; exact B1207.1) (State.isArrayOf_alike hZ.alike B1207.2.1) B1207.2.2 (inb_of z1207 (by decide)) (H1207.at (inb_of z1207 (by decide)) rfl) (g := (mkF m 27 #[.val (.ref a), .val (.ref cy), .val (.int (3 : Int32))] [(.int (0 : Int32)), (.ref k), (.int (0 : Int32)), (.ref k)])) rfl rfl (hb hby d8_27) _ ?_
    show Steps p.tables e below (T1202.setTop (mkF m 28 #[.val (.ref a), .val (.ref cy), .val (.int (3 : Int32))] [(.long (33 : Int64)), (.int (0 : Int32)), (.ref k)])) _
    refine XS.aloadN X1202.here hx rfl (hb hby d8_28) rfl rfl ?_
    show Steps p.tables e below (T1202.setTop (mkF m 29 #[.val (.ref a), .val (.ref cy), .val (.int (3 : Int32))] [(.ref cy), (.long (33 : Int64)), (.int (0 : Int32)), (.ref k)])) _
    refine XS.iloadN X1202.here hx rfl (hb hby d8_29) rfl ?_
    exact kk_)
  obtain ⟨cl1209, B1209, -, z1209, -, H1209, -⟩ := id f1192
  have S1210 : own_Go p e below s₁ G T1202 (mkF m 32 #[.val (.ref a), .val (.ref cy), .val (.int (3 : Int32))] [(.long ((3 : Int32).toInt64)), (.long (33 : Int64)), (.int (0 : Int32)), (.ref k)]) := fun tg_ kk_ => S1208 tg_ (by
    refine X1202.baloadBytes hx (j := (3 : Int32)) (v := (.int (3 : Int32))) (cell := cl1209) (by rw [e1202]; exact B1209.1) (State.isArrayOf_alike hZ.alike B1209.2.1) B1209.2.2 (inb_of z1209 (by decide)) (H1209.at (inb_of z1209 (by decide)) rfl) (g := (mkF m 30 #[.val (.ref a), .val (.ref cy), .val (.int (3 : Int32))] [(.int (3 : Int32)), (.ref cy), (.long (33 : Int64)), (.int (0 : Int32)), (.ref k)])) rfl rfl (hb hby d8_30) _ ?_
    show Steps p.tables e below (T1202.setTop (mkF m 31 #[.val (.ref a), .val (.ref cy), .val (.int (3 : Int32))] [(.int (3 : Int32)), (.long (33 : Int64)), (.int (0 : Int32)), (.ref k)])) _
    refine XT.i2l X1202.here hx rfl (hb hby d8_31) rfl ?_
    exact kk_)
  rw [show ((3 : Int32).toInt64) = (3 : Int64) from by decide +kernel] at S1210
  have S1211 : own_Go p e below s₁ G T1202 (mkF m 33 #[.val (.ref a), .val (.ref cy), .val (.int (3 : Int32))] [(.ref a), (.long (3 : Int64)), (.long (33 : Int64)), (.int (0 : Int32)), (.ref k)]) := fun tg_ kk_ => S1210 tg_ (by
    refine XS.aloadN X1202.here hx rfl (hb hby d8_32) rfl rfl ?_
    exact kk_)
  obtain ⟨T1212, X1212, e1212, st1212⟩ := getF X1202 hx hZ hown (host := "") (Or.inl (hw _ (List.mem_of_getElem? (i := 21) rfl))) Via.refl e1202 f1178 (g := (mkF m 33 #[.val (.ref a), .val (.ref cy), .val (.int (3 : Int32))] [(.ref a), (.long (3 : Int64)), (.long (33 : Int64)), (.int (0 : Int32)), (.ref k)])) rfl rfl (hb hby d8_33)
  have S1213 : own_Go p e below s₁ G T1212 (mkF m 36 #[.val (.ref a), .val (.ref cy), .val (.int (3 : Int32))] [(.ref sh), (.long (3 : Int64)), (.long (33 : Int64)), (.int (0 : Int32)), (.ref k)]) := fun tg_ kk_ => S1211 tg_ (st1212 tg_ kk_)
  have S1214 : own_Go p e below s₁ G T1212 (mkF m 37 #[.val (.ref a), .val (.ref cy), .val (.int (3 : Int32))] [(.int (3 : Int32)), (.ref sh), (.long (3 : Int64)), (.long (33 : Int64)), (.int (0 : Int32)), (.ref k)]) := fun tg_ kk_ => S1213 tg_ (by
    refine XS.iloadN X1212.here hx rfl (hb hby d8_36) rfl ?_
    exact kk_)
  obtain ⟨cl1215, B1215, -, z1215, -, H1215, -⟩ := id f1187
  have S1216 : own_Go p e below s₁ G T1212 (mkF m 39 #[.val (.ref a), .val (.ref cy), .val (.int (3 : Int32))] [(.long ((3 : Int64) <<< (((6 : Int32)).toInt64 &&& 63))), (.long (33 : Int64)), (.int (0 : Int32)), (.ref k)]) := fun tg_ kk_ => S1214 tg_ (by
    refine X1212.iaload hx (j := (3 : Int32)) (v := (.int (6 : Int32))) (cell := cl1215) (by rw [e1212]; exact B1215.1) (State.isArrayOf_alike hZ.alike B1215.2.1) B1215.2.2 (inb_of z1215 (by decide)) (H1215.at (inb_of z1215 (by decide)) rfl) (g := (mkF m 37 #[.val (.ref a), .val (.ref cy), .val (.int (3 : Int32))] [(.int (3 : Int32)), (.ref sh), (.long (3 : Int64)), (.long (33 : Int64)), (.int (0 : Int32)), (.ref k)])) rfl rfl (hb hby d8_37) _ ?_
    show Steps p.tables e below (T1212.setTop (mkF m 38 #[.val (.ref a), .val (.ref cy), .val (.int (3 : Int32))] [(.int (6 : Int32)), (.long (3 : Int64)), (.long (33 : Int64)), (.int (0 : Int32)), (.ref k)])) _
    refine XT.lshl X1212.here hx rfl (hb hby d8_38) rfl ?_
    exact kk_)
  rw [show ((3 : Int64) <<< (((6 : Int32)).toInt64 &&& 63)) = (192 : Int64) from by decide +kernel] at S1216
  have S1217 : own_Go p e below s₁ G T1212 (mkF m 40 #[.val (.ref a), .val (.ref cy), .val (.int (3 : Int32))] [(.long ((33 : Int64) ||| (192 : Int64))), (.int (0 : Int32)), (.ref k)]) := fun tg_ kk_ => S1216 tg_ (by
    refine XT.lor X1212.here hx rfl (hb hby d8_39) rfl ?_
    exact kk_)
  rw [show ((33 : Int64) ||| (192 : Int64)) = (225 : Int64) from by decide +kernel] at S1217
  obtain ⟨cl1218, B1218, b1218, z1218, y1218, H1218, F1218⟩ := id f1172
  obtain ⟨U1218, u1218, Y1218, f1218x, W1218, su1218⟩ := stJ X1212 hx hZ e1212 B1218 (j := (0 : Int32)) (inb_of z1218 (by decide)) (g := (mkF m 40 #[.val (.ref a), .val (.ref cy), .val (.int (3 : Int32))] [(.long (225 : Int64)), (.int (0 : Int32)), (.ref k)])) rfl rfl (hb hby d8_40)
  have S1219 : own_Go p e below s₁ G U1218 (mkF m 41 #[.val (.ref a), .val (.ref cy), .val (.int (3 : Int32))] []) := fun tg_ kk_ => S1217 tg_ (su1218 tg_ kk_)
  have f1220 : Arv Z u1218 k q_key .long (1 : Int32) [(.long (225 : Int64))] (.long 0) := Arv.set B1218 b1218 z1218 y1218 H1218 F1218 rfl W1218 0 rfl (by simp)
  have f1221 := Fr.snoc Y1218 f1173 (by omega)
  have f1222 := f1174.wr W1218
  have f1223 := f1175.other W1218 (Or.inl (own_nelt (by omega)))
  have f1224 := f1176.other W1218 (Or.inl (own_nelt (by omega)))
  have f1225 := f1177.other W1218 (Or.inl (own_nelt (by omega)))
  have f1226 := f1178.other W1218 (Or.inl (own_nelt (by omega)))
  have f1227 := f1179.other W1218 (Or.inl (own_nelt (by omega)))
  have f1228 := f1180.other W1218 (Or.inl (own_nelt (by omega)))
  have f1229 := f1181.other W1218 (Or.inl (own_nelt (by omega)))
  have f1230 := f1182.other W1218 (Or.inl (own_nelt (by omega)))
  have f1231 := f1183.other W1218 (Or.inl (own_nelt (by omega)))
  have f1232 := f1184.other W1218 (Or.inl (own_nelt (by omega)))
  have f1233 := f1185.other W1218 (Or.inl (own_nelt (by omega)))
  have f1234 := f1186.other W1218 (own_nelt (by omega))
  have f1235 := f1187.other W1218 (own_nelt (by omega))
  have f1236 := f1188.other W1218 (own_negt (by omega))
  have f1237 := f1189.other W1218 (own_negt (by omega))
  have f1238 := f1190.other W1218 (own_negt (by omega))
  have f1239 := f1191.other W1218 (own_negt (by omega))
  have f1240 := f1192.other W1218 (own_negt (by omega))
  have f1241 : n0 ≤ u1218.size := by rw [W1218.size]; exact f1193
  have f1242 := Keep.wr f1194 W1218 (Or.inl (by simp))
  have S1243 : own_Go p e below s₁ G U1218 (mkF m 44 #[.val (.ref a), .val (.ref cy), .val (.int ((3 : Int32) + (1 : Int32)))] []) := fun tg_ kk_ => S1219 tg_ (by
    refine XS.iinc Y1218.here hx rfl (hb hby d8_41) rfl (l' := #[.val (.ref a), .val (.ref cy), .val (.int ((3 : Int32) + (1 : Int32)))]) rfl ?_
    exact kk_)
  rw [show ((3 : Int32) + (1 : Int32)) = (4 : Int32) from by decide +kernel] at S1243
  have S1244 : own_Go p e below s₁ G U1218 (mkF m 12 #[.val (.ref a), .val (.ref cy), .val (.int (4 : Int32))] [(.ref cy), (.int (4 : Int32))]) := fun tg_ kk_ => S1243 tg_ (by
    refine XS.goto Y1218.here hx rfl (pc0 := 44) (pc' := 10) rfl (hb hby d8_44) (by decide) (by decide) ?_
    show Steps p.tables e below (U1218.setTop (mkF m 10 #[.val (.ref a), .val (.ref cy), .val (.int (4 : Int32))] [])) _
    refine XS.iloadN Y1218.here hx rfl (hb hby d8_10) rfl ?_
    show Steps p.tables e below (U1218.setTop (mkF m 11 #[.val (.ref a), .val (.ref cy), .val (.int (4 : Int32))] [(.int (4 : Int32))])) _
    refine XS.aloadN Y1218.here hx rfl (hb hby d8_11) rfl rfl ?_
    exact kk_)
  obtain ⟨cl1245, B1245, -, z1245, y1245, -, -⟩ := id f1240
  have S1246 : own_Go p e below s₁ G U1218 (mkF m 47 #[.val (.ref a), .val (.ref cy), .val (.int (4 : Int32))] []) := fun tg_ kk_ => S1244 tg_ (by
    refine Y1218.arraylength hx (cell := cl1245) (by rw [f1218x]; exact B1245.1) (State.isArrayOf_alike hZ.alike B1245.2.1) (g := (mkF m 12 #[.val (.ref a), .val (.ref cy), .val (.int (4 : Int32))] [(.ref cy), (.int (4 : Int32))])) rfl (rest := [(.int (4 : Int32))]) rfl (hb hby d8_12) _ ?_
    rw [len_of z1245 y1245]
    show Steps p.tables e below (U1218.setTop (mkF m 13 #[.val (.ref a), .val (.ref cy), .val (.int (4 : Int32))] [(.int (4 : Int32)), (.int (4 : Int32))])) _
    refine XS.icmpYes Y1218.here hx rfl (pc0 := 13) (pc' := 47) rfl (hb hby d8_13) rfl (XT.ii_ge_t (by decide)) (by decide) (by decide) ?_
    exact kk_)
  obtain ⟨fs, hr, hrun, hended, hW, hsame⟩ := Y1218.leave (v := none) (fun _ => rfl)
  refine ⟨_, _, ?_, hrun, hended, _, _, rfl, ?_, ⟨_, rfl⟩, hW, hsame.mono (by decide) (by decide)⟩
  · rw [← hG]; exact S1246 _ (Y1218.returnOut hx Bd.returns (hb hby d8_47) hr)
  · show Q8 Z a w sh k b pr mv t cy qc h0 n0 _ U1218.heap _
    rw [f1218x]
    exact ⟨rfl, f1221, f1242, ⟨oo1, oo2, oo3, oo4, oo5, oo6, oo7, f1222, f1223, f1224, f1225, f1226, f1227, f1228, f1229, f1230, f1231, f1232, f1233, ⟨_, f1234⟩, ⟨_, f1235⟩, ⟨_, f1220⟩, ⟨_, f1236⟩, ⟨_, f1237⟩, ⟨_, f1238⟩, ⟨_, f1239⟩⟩⟩
def Q10 (Z : State) (a : Addr) (pr : Addr) (mv : Addr) (np : Int32) (nm : Int32) (h0 : Heap) (n0 : Nat) (v : Option Value) (h : Heap) (L : List Loc) : Prop := v = none ∧ Fr n0 L ∧ Keep h0 h [pr, mv] ∧ own_NP Z h a pr mv np nm
set_option maxRecDepth 65536 in
set_option maxHeartbeats 40000000 in
theorem rm10 (l : Launch) (Z : State) (a0 : Array Value) (hw : ∀ d ∈ tables_1, d.before a0 Z = true) (ws : List Jvm.Cond) (a : Addr) (pr : Addr) (mv : Addr) (np : Int32) (nm : Int32) (h0 : Heap) (n0 : Nat) (Z0 : n0 ≤ h0.size) (x y : Int32) (NP : own_NP Z h0 a pr mv x y) (ha : @LE.le Nat instLENat (n0) a) (hnmv : nar .byte (nm).toInt8.toInt32 = nm) :
    MetFree l (⟨"com/example/tileshift/tileshift/NodeTable", "reachedFrom", "(III)V"⟩ : MethodName) (head1 (Jvm.Cond.code (⟨"com/example/tileshift/tileshift/NodeTable", "reachedFrom", "(III)V"⟩ : MethodName) prog_40_method_10_code 4 none :: ws) ({ frames := 0, cells := 0, slots := 0, locals := 0 } : Room)) (fun aa_ U => aa_ = #[(.ref a), (.int (1 : Int32)), (.int np), (.int nm)] ∧ Z.Warmed39 U.vm ∧ U.heap = h0) (fun _ _ _ _ _ => True) (fun _ U o U' => ∃ v L, o = .returned v ∧ Q10 Z a pr mv np nm h0 n0 v U'.heap L ∧ FrameEnd U o U' L ({ frames := 0, cells := 0, slots := 0, locals := 0 } : Room).cells ({ frames := 0, cells := 0, slots := 0, locals := 0 } : Room).slots) := by
  refine MetFree.of_bodySF (plainFor_of_name pn2) hisR ?_
  intro p e s m args below meth c s₁ Bd hml0 hP hK
  obtain ⟨rfl, hZ, hh⟩ := hP
  have hx := Bd.exec
  have hby := Bd.bytes
  have hml : c.maxLocals = 4 := hml0
  have hown : s.vm.findClass "com/example/tileshift/tileshift/NodeTable" = some m.cls := findClass_of_methodNamed Bd.named
  have hnm := (name_of_methodNamed Bd.named Bd.method).1
  have X0 : Stand p l e ({ frames := 0, cells := 0, slots := 0, locals := 0 } : Room) s m #[(.ref a), (.int (1 : Int32)), (.int np), (.int nm)] below meth c s₁ [] 0 0 := Stand.of_body Bd
  have e0 : s₁.heap = h0 := by rw [← hh, Bd.state]; rfl
  have N0 := Fr.nil n0
  obtain ⟨G, hG⟩ : ∃ G, G = entryFrame m #[(.ref a), (.int (1 : Int32)), (.int np), (.int nm)] 4 := ⟨_, rfl⟩
  have S0 : own_Go p e below s₁ G s₁ (mkF m 0 #[.val (.ref a), .val (.int (1 : Int32)), .val (.int np), .val (.int nm)] []) := fun tg_ kk_ => castTop (by rw [hG]; first | (simp [entryFrame, mkF, argsToLocals, Value.category, maxLocals]; done) | rfl) kk_
  obtain ⟨oo1, oo2, xE, xp, xm, ⟨qp, yp⟩, ⟨qm, ym⟩⟩ := NP
  have S1247 : own_Go p e below s₁ G s₁ (mkF m 1 #[.val (.ref a), .val (.int (1 : Int32)), .val (.int np), .val (.int nm)] [(.ref a)]) := fun tg_ kk_ => S0 tg_ (by
    refine XS.aloadN X0.here hx rfl (hb hby d10_0) rfl rfl ?_
    exact kk_)
  obtain ⟨T1248, X1248, e1248, st1248⟩ := getF X0 hx hZ hown (host := "") (Or.inl (hw _ (List.mem_of_getElem? (i := 28) rfl))) Via.refl e0 xp (g := (mkF m 1 #[.val (.ref a), .val (.int (1 : Int32)), .val (.int np), .val (.int nm)] [(.ref a)])) rfl rfl (hb hby d10_1)
  have S1249 : own_Go p e below s₁ G T1248 (mkF m 4 #[.val (.ref a), .val (.int (1 : Int32)), .val (.int np), .val (.int nm)] [(.ref pr)]) := fun tg_ kk_ => S1247 tg_ (st1248 tg_ kk_)
  have S1250 : own_Go p e below s₁ G T1248 (mkF m 6 #[.val (.ref a), .val (.int (1 : Int32)), .val (.int np), .val (.int nm)] [(.int np), (.int (1 : Int32)), (.ref pr)]) := fun tg_ kk_ => S1249 tg_ (by
    refine XS.iloadN X1248.here hx rfl (hb hby d10_4) rfl ?_
    show Steps p.tables e below (T1248.setTop (mkF m 5 #[.val (.ref a), .val (.int (1 : Int32)), .val (.int np), .val (.int nm)] [(.int (1 : Int32)), (.ref pr)])) _
    refine XS.iloadN X1248.here hx rfl (hb hby d10_5) rfl ?_
    exact kk_)
  obtain ⟨cl1251, B1251, b1251, z1251, y1251, H1251, F1251⟩ := id yp
  obtain ⟨U1251, u1251, Y1251, f1251x, W1251, su1251⟩ := stI X1248 hx hZ e1248 B1251 (j := (1 : Int32)) (inb_of z1251 (by decide)) (g := (mkF m 6 #[.val (.ref a), .val (.int (1 : Int32)), .val (.int np), .val (.int nm)] [(.int np), (.int (1 : Int32)), (.ref pr)])) rfl rfl (hb hby d10_6)
  have S1252 : own_Go p e below s₁ G U1251 (mkF m 7 #[.val (.ref a), .val (.int (1 : Int32)), .val (.int np), .val (.int nm)] []) := fun tg_ kk_ => S1250 tg_ (su1251 tg_ kk_)
  have f1253 : Arv Z u1251 pr qp .int (1024 : Int32) [(.int (-1 : Int32)), (.int np)] (.int 0) := Arv.set B1251 b1251 z1251 y1251 H1251 F1251 rfl W1251 1 rfl (by simp)
  have f1254 := Fr.snoc Y1251 N0 (by omega)
  have f1255 := xE.wr W1251
  have f1256 := xp.other W1251 (Or.inl (own_nelt (by omega)))
  have f1257 := xm.other W1251 (Or.inl (own_nelt (by omega)))
  have f1258 := ym.other W1251 (own_negt (by omega))
  have f1259 := Keep.wr (Keep.refl h0 [pr, mv]) W1251 (Or.inl (by simp))
  have S1260 : own_Go p e below s₁ G U1251 (mkF m 8 #[.val (.ref a), .val (.int (1 : Int32)), .val (.int np), .val (.int nm)] [(.ref a)]) := fun tg_ kk_ => S1252 tg_ (by
    refine XS.aloadN Y1251.here hx rfl (hb hby d10_7) rfl rfl ?_
    exact kk_)
  obtain ⟨T1261, X1261, e1261, st1261⟩ := getF Y1251 hx hZ hown (host := "") (Or.inl (hw _ (List.mem_of_getElem? (i := 31) rfl))) Via.refl f1251x f1257 (g := (mkF m 8 #[.val (.ref a), .val (.int (1 : Int32)), .val (.int np), .val (.int nm)] [(.ref a)])) rfl rfl (hb hby d10_8)
  have S1262 : own_Go p e below s₁ G T1261 (mkF m 11 #[.val (.ref a), .val (.int (1 : Int32)), .val (.int np), .val (.int nm)] [(.ref mv)]) := fun tg_ kk_ => S1260 tg_ (st1261 tg_ kk_)
  have S1263 : own_Go p e below s₁ G T1261 (mkF m 14 #[.val (.ref a), .val (.int (1 : Int32)), .val (.int np), .val (.int nm)] [(.int ((nm).toInt8.toInt32)), (.int (1 : Int32)), (.ref mv)]) := fun tg_ kk_ => S1262 tg_ (by
    refine XS.iloadN X1261.here hx rfl (hb hby d10_11) rfl ?_
    show Steps p.tables e below (T1261.setTop (mkF m 12 #[.val (.ref a), .val (.int (1 : Int32)), .val (.int np), .val (.int nm)] [(.int (1 : Int32)), (.ref mv)])) _
    refine XS.iloadN X1261.here hx rfl (hb hby d10_12) rfl ?_
    show Steps p.tables e below (T1261.setTop (mkF m 13 #[.val (.ref a), .val (.int (1 : Int32)), .val (.int np), .val (.int nm)] [(.int nm), (.int (1 : Int32)), (.ref mv)])) _
    refine XT.i2b X1261.here hx rfl (hb hby d10_13) rfl ?_
    exact kk_)
  obtain ⟨cl1264, B1264, b1264, z1264, y1264, H1264, F1264⟩ := id f1258
  obtain ⟨U1264, u1264, Y1264, f1264x, W1264, su1264⟩ := stB X1261 hx hZ e1261 B1264 (j := (1 : Int32)) (inb_of z1264 (by decide)) (g := (mkF m 14 #[.val (.ref a), .val (.int (1 : Int32)), .val (.int np), .val (.int nm)] [(.int ((nm).toInt8.toInt32)), (.int (1 : Int32)), (.ref mv)])) rfl rfl (hb hby d10_14)
  have S1265 : own_Go p e below s₁ G U1264 (mkF m 15 #[.val (.ref a), .val (.int (1 : Int32)), .val (.int np), .val (.int nm)] []) := fun tg_ kk_ => S1263 tg_ (su1264 tg_ kk_)
  rw [hnmv] at W1264
  have f1266 : Arv Z u1264 mv qm .byte (1024 : Int32) [(.int (-1 : Int32)), (.int nm)] (.int 0) := Arv.set B1264 b1264 z1264 y1264 H1264 F1264 (by rw [← hnmv]; exact fits_nar_byte _) W1264 1 rfl (by simp)
  have f1267 := Fr.snoc Y1264 f1254 (by omega)
  have f1268 := f1255.wr W1264
  have f1269 := f1256.other W1264 (Or.inl (own_nelt (by omega)))
  have f1270 := f1257.other W1264 (Or.inl (own_nelt (by omega)))
  have f1271 := f1253.other W1264 (own_nelt (by omega))
  have f1272 := Keep.wr f1259 W1264 (Or.inl (by simp))
  obtain ⟨fs, hr, hrun, hended, hW, hsame⟩ := Y1264.leave (v := none) (fun _ => rfl)
  refine ⟨_, _, ?_, hrun, hended, _, _, rfl, ?_, ⟨_, rfl⟩, hW, hsame.mono (by decide) (by decide)⟩
  · rw [← hG]; exact S1265 _ (Y1264.returnOut hx Bd.returns (hb hby d10_15) hr)
  · show Q10 Z a pr mv np nm h0 n0 _ U1264.heap _
    rw [f1264x]
    exact ⟨rfl, f1267, f1272, ⟨oo1, oo2, f1268, f1269, f1270, ⟨_, f1271⟩, ⟨_, f1266⟩⟩⟩
def Q170 (Z : State) (a : Addr) (pr : Addr) (mv : Addr) (np : Int32) (nm : Int32) (h0 : Heap) (n0 : Nat) (v : Option Value) (h : Heap) (L : List Loc) : Prop := v = some (.int (-1 : Int32)) ∧ Fr n0 L ∧ h0 = h
set_option maxRecDepth 65536 in
set_option maxHeartbeats 40000000 in
theorem rm170 (l : Launch) (Z : State) (a0 : Array Value) (hw : ∀ d ∈ tables_1, d.before a0 Z = true) (ws : List Jvm.Cond) (a : Addr) (pr : Addr) (mv : Addr) (np : Int32) (nm : Int32) (h0 : Heap) (n0 : Nat) (Z0 : n0 ≤ h0.size) (NP : own_NP Z h0 a pr mv np nm) :
    MetFree l (⟨"com/example/tileshift/tileshift/NodeTable", "move", "(I)I"⟩ : MethodName) (head1 (Jvm.Cond.code (⟨"com/example/tileshift/tileshift/NodeTable", "move", "(I)I"⟩ : MethodName) prog_40_method_9_code 2 (some .int) :: ws) ({ frames := 0, cells := 0, slots := 0, locals := 0 } : Room)) (fun aa_ U => aa_ = #[(.ref a), (.int (0 : Int32))] ∧ Z.Warmed39 U.vm ∧ U.heap = h0) (fun _ _ _ _ _ => True) (fun _ U o U' => ∃ v L, o = .returned v ∧ Q170 Z a pr mv np nm h0 n0 v U'.heap L ∧ FrameEnd U o U' L ({ frames := 0, cells := 0, slots := 0, locals := 0 } : Room).cells ({ frames := 0, cells := 0, slots := 0, locals := 0 } : Room).slots) := by
  refine MetFree.of_bodySF (plainFor_of_name pn2) hisR ?_
  intro p e s m args below meth c s₁ Bd hml0 hP hK
  obtain ⟨rfl, hZ, hh⟩ := hP
  have hx := Bd.exec
  have hby := Bd.bytes
  have hml : c.maxLocals = 2 := hml0
  have hown : s.vm.findClass "com/example/tileshift/tileshift/NodeTable" = some m.cls := findClass_of_methodNamed Bd.named
  have hnm := (name_of_methodNamed Bd.named Bd.method).1
  have X0 : Stand p l e ({ frames := 0, cells := 0, slots := 0, locals := 0 } : Room) s m #[(.ref a), (.int (0 : Int32))] below meth c s₁ [] 0 0 := Stand.of_body Bd
  have e0 : s₁.heap = h0 := by rw [← hh, Bd.state]; rfl
  have N0 := Fr.nil n0
  obtain ⟨G, hG⟩ : ∃ G, G = entryFrame m #[(.ref a), (.int (0 : Int32))] 2 := ⟨_, rfl⟩
  have S0 : own_Go p e below s₁ G s₁ (mkF m 0 #[.val (.ref a), .val (.int (0 : Int32))] []) := fun tg_ kk_ => castTop (by rw [hG]; first | rfl | simp [entryFrame, mkF, argsToLocals, Value.category, maxLocals]) kk_
  obtain ⟨oo1, oo2, xE, xp, xm, ⟨qp, yp⟩, ⟨qm, ym⟩⟩ := NP
  have S1273 : own_Go p e below s₁ G s₁ (mkF m 1 #[.val (.ref a), .val (.int (0 : Int32))] [(.ref a)]) := fun tg_ kk_ => S0 tg_ (by
    refine XS.aloadN X0.here hx rfl (hb hby d17_0) rfl rfl ?_
    exact kk_)
  obtain ⟨T1274, X1274, e1274, st1274⟩ := getF X0 hx hZ hown (host := "") (Or.inl (hw _ (List.mem_of_getElem? (i := 31) rfl))) Via.refl e0 xm (g := (mkF m 1 #[.val (.ref a), .val (.int (0 : Int32))] [(.ref a)])) rfl rfl (hb hby d17_1)
  have S1275 : own_Go p e below s₁ G T1274 (mkF m 4 #[.val (.ref a), .val (.int (0 : Int32))] [(.ref mv)]) := fun tg_ kk_ => S1273 tg_ (st1274 tg_ kk_)
  have S1276 : own_Go p e below s₁ G T1274 (mkF m 5 #[.val (.ref a), .val (.int (0 : Int32))] [(.int (0 : Int32)), (.ref mv)]) := fun tg_ kk_ => S1275 tg_ (by
    refine XS.iloadN X1274.here hx rfl (hb hby d17_4) rfl ?_
    exact kk_)
  obtain ⟨cl1277, B1277, -, z1277, -, H1277, -⟩ := id ym
  have S1278 : own_Go p e below s₁ G T1274 (mkF m 6 #[.val (.ref a), .val (.int (0 : Int32))] [(.int (-1 : Int32))]) := fun tg_ kk_ => S1276 tg_ (by
    refine X1274.baloadBytes hx (j := (0 : Int32)) (v := (.int (-1 : Int32))) (cell := cl1277) (by rw [e1274]; exact B1277.1) (State.isArrayOf_alike hZ.alike B1277.2.1) B1277.2.2 (inb_of z1277 (by decide)) (H1277.at (inb_of z1277 (by decide)) rfl) (g := (mkF m 5 #[.val (.ref a), .val (.int (0 : Int32))] [(.int (0 : Int32)), (.ref mv)])) rfl rfl (hb hby d17_5) _ ?_
    exact kk_)
  obtain ⟨fs, hr, hrun, hended, hW, hsame⟩ := X1274.leave (v := some (.int (-1 : Int32))) (fun h => by rw [Bd.returns] at h; cases h)
  refine ⟨_, _, ?_, hrun, hended, _, _, rfl, ?_, ⟨_, rfl⟩, hW, hsame.mono (by decide) (by decide)⟩
  · rw [← hG]; exact S1278 _ (retI X1274 hx Bd.returns (hb hby d17_6) hr)
  · show Q170 Z a pr mv np nm h0 n0 _ T1274.heap _
    rw [e1274]
    exact ⟨rfl, N0, rfl⟩
def Q171 (Z : State) (a : Addr) (pr : Addr) (mv : Addr) (np : Int32) (nm : Int32) (h0 : Heap) (n0 : Nat) (v : Option Value) (h : Heap) (L : List Loc) : Prop := v = some (.int nm) ∧ Fr n0 L ∧ h0 = h
set_option maxRecDepth 65536 in
set_option maxHeartbeats 40000000 in
theorem rm171 (l : Launch) (Z : State) (a0 : Array Value) (hw : ∀ d ∈ tables_1, d.before a0 Z = true) (ws : List Jvm.Cond) (a : Addr) (pr : Addr) (mv : Addr) (np : Int32) (nm : Int32) (h0 : Heap) (n0 : Nat) (Z0 : n0 ≤ h0.size) (NP : own_NP Z h0 a pr mv np nm) :
    MetFree l (⟨"com/example/tileshift/tileshift/NodeTable", "move", "(I)I"⟩ : MethodName) (head1 (Jvm.Cond.code (⟨"com/example/tileshift/tileshift/NodeTable", "move", "(I)I"⟩ : MethodName) prog_40_method_9_code 2 (some .int) :: ws) ({ frames := 0, cells := 0, slots := 0, locals := 0 } : Room)) (fun aa_ U => aa_ = #[(.ref a), (.int (1 : Int32))] ∧ Z.Warmed39 U.vm ∧ U.heap = h0) (fun _ _ _ _ _ => True) (fun _ U o U' => ∃ v L, o = .returned v ∧ Q171 Z a pr mv np nm h0 n0 v U'.heap L ∧ FrameEnd U o U' L ({ frames := 0, cells := 0, slots := 0, locals := 0 } : Room).cells ({ frames := 0, cells := 0, slots := 0, locals := 0 } : Room).slots) := by
  refine MetFree.of_bodySF (plainFor_of_name pn2) hisR ?_
  intro p e s m args below meth c s₁ Bd hml0 hP hK
  obtain ⟨rfl, hZ, hh⟩ := hP
  have hx := Bd.exec
  have hby := Bd.bytes
  have hml : c.maxLocals = 2 := hml0
  have hown : s.vm.findClass "com/example/tileshift/tileshift/NodeTable" = some m.cls := findClass_of_methodNamed Bd.named
  have hnm := (name_of_methodNamed Bd.named Bd.method).1
  have X0 : Stand p l e ({ frames := 0, cells := 0, slots := 0, locals := 0 } : Room) s m #[(.ref a), (.int (1 : Int32))] below meth c s₁ [] 0 0 := Stand.of_body Bd
  have e0 : s₁.heap = h0 := by rw [← hh, Bd.state]; rfl
  have N0 := Fr.nil n0
  obtain ⟨G, hG⟩ : ∃ G, G = entryFrame m #[(.ref a), (.int (1 : Int32))] 2 := ⟨_, rfl⟩
  have S0 : own_Go p e below s₁ G s₁ (mkF m 0 #[.val (.ref a), .val (.int (1 : Int32))] []) := fun tg_ kk_ => castTop (by rw [hG]; first | rfl | simp [entryFrame, mkF, argsToLocals, Value.category, maxLocals]) kk_
  obtain ⟨oo1, oo2, xE, xp, xm, ⟨qp, yp⟩, ⟨qm, ym⟩⟩ := NP
  have S1279 : own_Go p e below s₁ G s₁ (mkF m 1 #[.val (.ref a), .val (.int (1 : Int32))] [(.ref a)]) := fun tg_ kk_ => S0 tg_ (by
    refine XS.aloadN X0.here hx rfl (hb hby d17_0) rfl rfl ?_
    exact kk_)
  obtain ⟨T1280, X1280, e1280, st1280⟩ := getF X0 hx hZ hown (host := "") (Or.inl (hw _ (List.mem_of_getElem? (i := 31) rfl))) Via.refl e0 xm (g := (mkF m 1 #[.val (.ref a), .val (.int (1 : Int32))] [(.ref a)])) rfl rfl (hb hby d17_1)
  have S1281 : own_Go p e below s₁ G T1280 (mkF m 4 #[.val (.ref a), .val (.int (1 : Int32))] [(.ref mv)]) := fun tg_ kk_ => S1279 tg_ (st1280 tg_ kk_)
  have S1282 : own_Go p e below s₁ G T1280 (mkF m 5 #[.val (.ref a), .val (.int (1 : Int32))] [(.int (1 : Int32)), (.ref mv)]) := fun tg_ kk_ => S1281 tg_ (by
    refine XS.iloadN X1280.here hx rfl (hb hby d17_4) rfl ?_
    exact kk_)
  obtain ⟨cl1283, B1283, -, z1283, -, H1283, -⟩ := id ym
  have S1284 : own_Go p e below s₁ G T1280 (mkF m 6 #[.val (.ref a), .val (.int (1 : Int32))] [(.int nm)]) := fun tg_ kk_ => S1282 tg_ (by
    refine X1280.baloadBytes hx (j := (1 : Int32)) (v := (.int nm)) (cell := cl1283) (by rw [e1280]; exact B1283.1) (State.isArrayOf_alike hZ.alike B1283.2.1) B1283.2.2 (inb_of z1283 (by decide)) (H1283.at (inb_of z1283 (by decide)) rfl) (g := (mkF m 5 #[.val (.ref a), .val (.int (1 : Int32))] [(.int (1 : Int32)), (.ref mv)])) rfl rfl (hb hby d17_5) _ ?_
    exact kk_)
  obtain ⟨fs, hr, hrun, hended, hW, hsame⟩ := X1280.leave (v := some (.int nm)) (fun h => by rw [Bd.returns] at h; cases h)
  refine ⟨_, _, ?_, hrun, hended, _, _, rfl, ?_, ⟨_, rfl⟩, hW, hsame.mono (by decide) (by decide)⟩
  · rw [← hG]; exact S1284 _ (retI X1280 hx Bd.returns (hb hby d17_6) hr)
  · show Q171 Z a pr mv np nm h0 n0 _ T1280.heap _
    rw [e1280]
    exact ⟨rfl, N0, rfl⟩
theorem pn4 : plainName "java/util/AbstractCollection" = true := by first | (simp [plainName, overriddenIn]; done) | decide +kernel
def Q14 (Z : State) (x : Addr) (h0 : Heap) (n0 : Nat) (v : Option Value) (h : Heap) (L : List Loc) : Prop := v = none ∧ Fr n0 L ∧ h0 = h
set_option maxRecDepth 65536 in
set_option maxHeartbeats 40000000 in
theorem rm14 (l : Launch) (Z : State) (a0 : Array Value) (hw : ∀ d ∈ tables_1, d.before a0 Z = true) (ws : List Jvm.Cond) (x : Addr) (h0 : Heap) (n0 : Nat) (Z0 : n0 ≤ h0.size)  :
    MetFree l (⟨"java/util/AbstractCollection", "<init>", "()V"⟩ : MethodName) (head1 (Jvm.Cond.code (⟨"java/util/AbstractCollection", "<init>", "()V"⟩ : MethodName) jdk_22_method_1_code 1 none :: ws) ({ frames := 1, cells := 0, slots := 0, locals := 14 } : Room)) (fun aa_ U => aa_ = #[(.ref x)] ∧ Z.Warmed39 U.vm ∧ U.heap = h0) (fun _ _ _ _ _ => True) (fun _ U o U' => ∃ v L, o = .returned v ∧ Q14 Z x h0 n0 v U'.heap L ∧ FrameEnd U o U' L ({ frames := 1, cells := 0, slots := 0, locals := 14 } : Room).cells ({ frames := 1, cells := 0, slots := 0, locals := 14 } : Room).slots) := by
  refine MetFree.of_bodySF (plainFor_of_name pn4) hisR ?_
  intro p e s m args below meth c s₁ Bd hml0 hP hK
  obtain ⟨rfl, hZ, hh⟩ := hP
  have hx := Bd.exec
  have hby := Bd.bytes
  have hml : c.maxLocals = 1 := hml0
  have hown : s.vm.findClass "java/util/AbstractCollection" = some m.cls := findClass_of_methodNamed Bd.named
  have hnm := (name_of_methodNamed Bd.named Bd.method).1
  have X0 : Stand p l e ({ frames := 1, cells := 0, slots := 0, locals := 14 } : Room) s m #[(.ref x)] below meth c s₁ [] 0 0 := Stand.of_body Bd
  have e0 : s₁.heap = h0 := by rw [← hh, Bd.state]; rfl
  have N0 := Fr.nil n0
  obtain ⟨G, hG⟩ : ∃ G, G = entryFrame m #[(.ref x)] 1 := ⟨_, rfl⟩
  have S0 : own_Go p e below s₁ G s₁ (mkF m 0 #[.val (.ref x)] []) := fun tg_ kk_ => castTop (by rw [hG]; first | rfl | simp [entryFrame, mkF, argsToLocals, Value.category, maxLocals]) kk_
  have S1285 : own_Go p e below s₁ G s₁ (mkF m 1 #[.val (.ref x)] [(.ref x)]) := fun tg_ kk_ => S0 tg_ (by
    refine XS.aloadN X0.here hx rfl (hb hby d14_0) rfl rfl ?_
    exact kk_)
  obtain ⟨T1286, X1286, e1286, st1286⟩ := initO X0 hx hZ hown (hw _ (List.mem_of_getElem? (i := 99) rfl)) (hw _ (List.mem_of_getElem? (i := 7) rfl)) (hw _ (List.mem_of_getElem? (i := 8) rfl)) e0 (g := (mkF m 1 #[.val (.ref x)] [(.ref x)])) rfl (by rw [hml]; rfl) rfl (hb hby d14_1) (by decide) (W := 0) (by show 2 * 0 + _ ≤ _; exact Nat.le_of_eq rfl) (by decide)
  have S1287 : own_Go p e below s₁ G T1286 (mkF m 4 #[.val (.ref x)] []) := fun tg_ kk_ => S1285 tg_ (st1286 tg_ kk_)
  obtain ⟨fs, hr, hrun, hended, hW, hsame⟩ := X1286.leave (v := none) (fun _ => rfl)
  refine ⟨_, _, ?_, hrun, hended, _, _, rfl, ?_, ⟨_, rfl⟩, hW, hsame.mono (by decide) (by decide)⟩
  · rw [← hG]; exact S1287 _ (X1286.returnOut hx Bd.returns (hb hby d14_4) hr)
  · show Q14 Z x h0 n0 _ T1286.heap _
    rw [e1286]
    exact ⟨rfl, N0, rfl⟩
theorem pn5 : plainName "java/util/AbstractList" = true := by first | (simp [plainName, overriddenIn]; done) | decide +kernel
def Q13 (Z : State) (x : Addr) (h0 : Heap) (n0 : Nat) (v : Option Value) (h : Heap) (L : List Loc) : Prop := v = none ∧ Fr n0 L ∧ Keep h0 h [x] ∧ Fld Z h x "java/util/ArrayList" "elementData" "[Ljava/lang/Object;" .null ∧ Fld Z h x "java/util/ArrayList" "size" "I" (.int 0) ∧ Fld Z h x "java/util/AbstractList" "modCount" "I" (.int 0)
set_option maxRecDepth 65536 in
set_option maxHeartbeats 40000000 in
theorem rm13 (l : Launch) (Z : State) (a0 : Array Value) (hw : ∀ d ∈ tables_1, d.before a0 Z = true) (ws : List Jvm.Cond) (x : Addr) (h0 : Heap) (n0 : Nat) (Z0 : n0 ≤ h0.size) (Ex : Exa Z h0 x "java/util/ArrayList") (hx0 : @LE.le Nat instLENat (n0) x) (Fe : Fld Z h0 x "java/util/ArrayList" "elementData" "[Ljava/lang/Object;" .null) (Fs : Fld Z h0 x "java/util/ArrayList" "size" "I" (.int 0)) (Fm : Fld Z h0 x "java/util/AbstractList" "modCount" "I" (.int 0)) :
    MetFree l (⟨"java/util/AbstractList", "<init>", "()V"⟩ : MethodName) (head1 (Jvm.Cond.code (⟨"java/util/AbstractList", "<init>", "()V"⟩ : MethodName) jdk_39_method_1_code 1 none :: ws) ({ frames := 2, cells := 0, slots := 0, locals := 28 } : Room)) (fun aa_ U => aa_ = #[(.ref x)] ∧ Z.Warmed39 U.vm ∧ U.heap = h0) (fun _ _ _ _ _ => True) (fun _ U o U' => ∃ v L, o = .returned v ∧ Q13 Z x h0 n0 v U'.heap L ∧ FrameEnd U o U' L ({ frames := 2, cells := 0, slots := 0, locals := 28 } : Room).cells ({ frames := 2, cells := 0, slots := 0, locals := 28 } : Room).slots) := by
  refine MetFree.of_bodySF (plainFor_of_name pn5) hisR ?_
  intro p e s m args below meth c s₁ Bd hml0 hP hK
  obtain ⟨rfl, hZ, hh⟩ := hP
  have hx := Bd.exec
  have hby := Bd.bytes
  have hml : c.maxLocals = 1 := hml0
  have hown : s.vm.findClass "java/util/AbstractList" = some m.cls := findClass_of_methodNamed Bd.named
  have hnm := (name_of_methodNamed Bd.named Bd.method).1
  have X0 : Stand p l e ({ frames := 2, cells := 0, slots := 0, locals := 28 } : Room) s m #[(.ref x)] below meth c s₁ [] 0 0 := Stand.of_body Bd
  have e0 : s₁.heap = h0 := by rw [← hh, Bd.state]; rfl
  have N0 := Fr.nil n0
  obtain ⟨G, hG⟩ : ∃ G, G = entryFrame m #[(.ref x)] 1 := ⟨_, rfl⟩
  have S0 : own_Go p e below s₁ G s₁ (mkF m 0 #[.val (.ref x)] []) := fun tg_ kk_ => castTop (by rw [hG]; first | rfl | simp [entryFrame, mkF, argsToLocals, Value.category, maxLocals]) kk_
  have S1288 : own_Go p e below s₁ G s₁ (mkF m 1 #[.val (.ref x)] [(.ref x)]) := fun tg_ kk_ => S0 tg_ (by
    refine XS.aloadN X0.here hx rfl (hb hby d13_0) rfl rfl ?_
    exact kk_)
  obtain ⟨_, T1289, h1289, L1289, X1289, e1289, hQ1289, st1289⟩ := own_callI X0 hx hZ (y := (⟨"java/util/AbstractCollection", "<init>", "()V"⟩ : MethodName)) rfl hown (hw _ (List.mem_of_getElem? (i := 93) rfl)) (hw _ (List.mem_of_getElem? (i := 94) rfl)) (hw _ (List.mem_of_getElem? (i := 97) rfl)) (hw _ (List.mem_of_getElem? (i := 98) rfl)) (by decide) 0 (g := (mkF m 1 #[.val (.ref x)] [(.ref x)])) rfl (by rw [hml]; rfl) x [] [] (rm14 l Z a0 hw [] x h0 n0 Z0) (lenOf pd3 rfl) rfl (by show 2 * 0 + _ ≤ _; exact Nat.le_of_eq rfl) (hb hby d13_1) (by decide) (by decide) e0 (by decide) (by decide)
  obtain ⟨rfl, N1289, rfl⟩ := hQ1289
  have S1290 : own_Go p e below s₁ G T1289 (mkF m 4 #[.val (.ref x)] []) := fun tg_ kk_ => S1288 tg_ (st1289 tg_ kk_)
  have M1289 := Fr.app N0 N1289
  have S1291 : own_Go p e below s₁ G T1289 (mkF m 6 #[.val (.ref x)] [(.int (0 : Int32)), (.ref x)]) := fun tg_ kk_ => S1290 tg_ (by
    refine XS.aloadN X1289.here hx rfl (hb hby d13_4) rfl rfl ?_
    show Steps p.tables e below (T1289.setTop (mkF m 5 #[.val (.ref x)] [(.ref x)])) _
    refine XS.iconst X1289.here hx rfl (hb hby d13_5) ?_
    exact kk_)
  obtain ⟨T1292, h1292, X1292, e1292, W1292, st1292⟩ := putF X1289 hx hZ hown (host := "") (Or.inl (hw _ (List.mem_of_getElem? (i := 100) rfl))) Via.refl e1289 Fm Ex (Or.inl (hw _ (List.mem_of_getElem? (i := 101) rfl))) (hw _ (List.mem_of_getElem? (i := 82) rfl)) (ty := .int) (by decide) rfl rfl (g := (mkF m 6 #[.val (.ref x)] [(.int (0 : Int32)), (.ref x)])) rfl rfl (hb hby d13_6)
  have S1293 : own_Go p e below s₁ G T1292 (mkF m 9 #[.val (.ref x)] []) := fun tg_ kk_ => S1291 tg_ (st1292 tg_ kk_)
  have f1294 := Fr.snoc X1292 M1289 (by omega)
  have f1295 := Ex.wr W1292
  have f1296 := Fe.other W1292 (Or.inr (slot_ne (C := "java/util/ArrayList") (a0 := a0) (Or.inl (hw _ (List.mem_of_getElem? (i := 104) rfl))) (Or.inl (hw _ (List.mem_of_getElem? (i := 101) rfl))) (by decide) (t := (.array (.object "java/lang/Object"))) (by decide) (t' := .int) (by decide)))
  have f1297 := Fs.other W1292 (Or.inr (slot_ne (C := "java/util/ArrayList") (a0 := a0) (Or.inl (hw _ (List.mem_of_getElem? (i := 119) rfl))) (Or.inl (hw _ (List.mem_of_getElem? (i := 101) rfl))) (by decide) (t := .int) (by decide) (t' := .int) (by decide)))
  have f1298 := Fm.same W1292
  have f1299 := Keep.wr (Keep.refl h0 [x]) W1292 (Or.inl (by simp))
  obtain ⟨fs, hr, hrun, hended, hW, hsame⟩ := X1292.leave (v := none) (fun _ => rfl)
  refine ⟨_, _, ?_, hrun, hended, _, _, rfl, ?_, ⟨_, rfl⟩, hW, hsame.mono (by decide) (by decide)⟩
  · rw [← hG]; exact S1293 _ (X1292.returnOut hx Bd.returns (hb hby d13_9) hr)
  · show Q13 Z x h0 n0 _ T1292.heap _
    rw [e1292]
    exact ⟨rfl, f1294, f1299, f1296, f1297, f1298⟩
theorem pn6 : plainName "java/util/ArrayList" = true := by first | (simp [plainName, overriddenIn]; done) | decide +kernel
def Q12 (Z : State) (x : Addr) (dd : Addr) (h0 : Heap) (n0 : Nat) (v : Option Value) (h : Heap) (L : List Loc) : Prop := v = none ∧ Fr n0 L ∧ Keep h0 h [x] ∧ Fld Z h x "java/util/ArrayList" "elementData" "[Ljava/lang/Object;" (.ref dd) ∧ Fld Z h x "java/util/ArrayList" "size" "I" (.int 0) ∧ Fld Z h x "java/util/AbstractList" "modCount" "I" (.int 0)
set_option maxRecDepth 65536 in
set_option maxHeartbeats 40000000 in
theorem rm12 (l : Launch) (Z : State) (a0 : Array Value) (hw : ∀ d ∈ tables_1, d.before a0 Z = true) (ws : List Jvm.Cond) (x : Addr) (dd : Addr) (h0 : Heap) (n0 : Nat) (Z0 : n0 ≤ h0.size) (Ex : Exa Z h0 x "java/util/ArrayList") (hx0 : @LE.le Nat instLENat (n0) x) (Fe : Fld Z h0 x "java/util/ArrayList" "elementData" "[Ljava/lang/Object;" .null) (Fs : Fld Z h0 x "java/util/ArrayList" "size" "I" (.int 0)) (Fm : Fld Z h0 x "java/util/AbstractList" "modCount" "I" (.int 0)) (O : Old Z n0 h0) (SD : Sta Z Z.heap "java/util/ArrayList" "DEFAULTCAPACITY_EMPTY_ELEMENTDATA" "[Ljava/lang/Object;" (.ref dd)) (qd : ClassId) (VD : Arv Z Z.heap dd qd (.object "java/lang/Object") 0 [] .null) :
    MetFree l (⟨"java/util/ArrayList", "<init>", "()V"⟩ : MethodName) (head1 (Jvm.Cond.code (⟨"java/util/ArrayList", "<init>", "()V"⟩ : MethodName) jdk_38_method_2_code 1 none :: ws) ({ frames := 3, cells := 0, slots := 0, locals := 42 } : Room)) (fun aa_ U => aa_ = #[(.ref x)] ∧ Z.Warmed39 U.vm ∧ U.heap = h0) (fun _ _ _ _ _ => True) (fun _ U o U' => ∃ v L, o = .returned v ∧ Q12 Z x dd h0 n0 v U'.heap L ∧ FrameEnd U o U' L ({ frames := 3, cells := 0, slots := 0, locals := 42 } : Room).cells ({ frames := 3, cells := 0, slots := 0, locals := 42 } : Room).slots) := by
  refine MetFree.of_bodySF (plainFor_of_name pn6) hisR ?_
  intro p e s m args below meth c s₁ Bd hml0 hP hK
  obtain ⟨rfl, hZ, hh⟩ := hP
  have hx := Bd.exec
  have hby := Bd.bytes
  have hml : c.maxLocals = 1 := hml0
  have hown : s.vm.findClass "java/util/ArrayList" = some m.cls := findClass_of_methodNamed Bd.named
  have hnm := (name_of_methodNamed Bd.named Bd.method).1
  have X0 : Stand p l e ({ frames := 3, cells := 0, slots := 0, locals := 42 } : Room) s m #[(.ref x)] below meth c s₁ [] 0 0 := Stand.of_body Bd
  have e0 : s₁.heap = h0 := by rw [← hh, Bd.state]; rfl
  have N0 := Fr.nil n0
  obtain ⟨G, hG⟩ : ∃ G, G = entryFrame m #[(.ref x)] 1 := ⟨_, rfl⟩
  have S0 : own_Go p e below s₁ G s₁ (mkF m 0 #[.val (.ref x)] []) := fun tg_ kk_ => castTop (by rw [hG]; first | rfl | simp [entryFrame, mkF, argsToLocals, Value.category, maxLocals]) kk_
  have S1300 : own_Go p e below s₁ G s₁ (mkF m 1 #[.val (.ref x)] [(.ref x)]) := fun tg_ kk_ => S0 tg_ (by
    refine XS.aloadN X0.here hx rfl (hb hby d12_0) rfl rfl ?_
    exact kk_)
  obtain ⟨_, T1301, h1301, L1301, X1301, e1301, hQ1301, st1301⟩ := own_callI X0 hx hZ (y := (⟨"java/util/AbstractList", "<init>", "()V"⟩ : MethodName)) rfl hown (hw _ (List.mem_of_getElem? (i := 87) rfl)) (hw _ (List.mem_of_getElem? (i := 88) rfl)) (hw _ (List.mem_of_getElem? (i := 91) rfl)) (hw _ (List.mem_of_getElem? (i := 92) rfl)) (by decide) 0 (g := (mkF m 1 #[.val (.ref x)] [(.ref x)])) rfl (by rw [hml]; rfl) x [] [] (rm13 l Z a0 hw [] x h0 n0 Z0 Ex hx0 Fe Fs Fm) (lenOf pd3 rfl) rfl (by show 2 * 0 + _ ≤ _; exact Nat.le_of_eq rfl) (hb hby d12_1) (by decide) (by decide) e0 (by decide) (by decide)
  obtain ⟨rfl, N1301, K1301, Fe1301, Fs1301, Fm1301⟩ := hQ1301
  have S1302 : own_Go p e below s₁ G T1301 (mkF m 4 #[.val (.ref x)] []) := fun tg_ kk_ => S1300 tg_ (st1301 tg_ kk_)
  have f1303 := Fr.app N0 N1301
  have f1304 := Ex.keep K1301
  have f1305 := O.keep K1301 (allS (by omega) all0)
  have f1306 := Keep.trans (Keep.refl h0 [x]) K1301 (allS (Or.inl (by simp)) all0)
  have S1307 : own_Go p e below s₁ G T1301 (mkF m 5 #[.val (.ref x)] [(.ref x)]) := fun tg_ kk_ => S1302 tg_ (by
    refine XS.aloadN X1301.here hx rfl (hb hby d12_4) rfl rfl ?_
    exact kk_)
  obtain ⟨T1308, X1308, e1308, st1308⟩ := getS X1301 hx hZ (host := "") hown (hw _ (List.mem_of_getElem? (i := 102) rfl)) Via.refl e1301 (SD.ext f1305.2) (g := (mkF m 5 #[.val (.ref x)] [(.ref x)])) rfl (hb hby d12_5)
  have S1309 : own_Go p e below s₁ G T1308 (mkF m 8 #[.val (.ref x)] [(.ref dd), (.ref x)]) := fun tg_ kk_ => S1307 tg_ (st1308 tg_ kk_)
  obtain ⟨T1310, h1310, X1310, e1310, W1310, st1310⟩ := putF X1308 hx hZ hown (host := "") (Or.inl (hw _ (List.mem_of_getElem? (i := 103) rfl))) Via.refl e1308 Fe1301 f1304 (Or.inl (hw _ (List.mem_of_getElem? (i := 104) rfl))) (hw _ (List.mem_of_getElem? (i := 82) rfl)) (ty := (.array (.object "java/lang/Object"))) (by decide) rfl rfl (g := (mkF m 8 #[.val (.ref x)] [(.ref dd), (.ref x)])) rfl rfl (hb hby d12_8)
  have S1311 : own_Go p e below s₁ G T1310 (mkF m 11 #[.val (.ref x)] []) := fun tg_ kk_ => S1309 tg_ (st1310 tg_ kk_)
  have f1312 := Fr.snoc X1310 f1303 (by omega)
  have f1313 := f1304.wr W1310
  have f1314 := f1305.wr W1310 (by omega)
  have f1315 := Fe1301.same W1310
  have f1316 := Fs1301.other W1310 (Or.inr (slot_ne (C := "java/util/ArrayList") (a0 := a0) (Or.inl (hw _ (List.mem_of_getElem? (i := 119) rfl))) (Or.inl (hw _ (List.mem_of_getElem? (i := 104) rfl))) (by decide) (t := .int) (by decide) (t' := (.array (.object "java/lang/Object"))) (by decide)))
  have f1317 := Fm1301.other W1310 (Or.inr (slot_ne (C := "java/util/ArrayList") (a0 := a0) (Or.inl (hw _ (List.mem_of_getElem? (i := 101) rfl))) (Or.inl (hw _ (List.mem_of_getElem? (i := 104) rfl))) (by decide) (t := .int) (by decide) (t' := (.array (.object "java/lang/Object"))) (by decide)))
  have f1318 := Keep.wr f1306 W1310 (Or.inl (by simp))
  obtain ⟨fs, hr, hrun, hended, hW, hsame⟩ := X1310.leave (v := none) (fun _ => rfl)
  refine ⟨_, _, ?_, hrun, hended, _, _, rfl, ?_, ⟨_, rfl⟩, hW, hsame.mono (by decide) (by decide)⟩
  · rw [← hG]; exact S1311 _ (X1310.returnOut hx Bd.returns (hb hby d12_11) hr)
  · show Q12 Z x dd h0 n0 _ T1310.heap _
    rw [e1310]
    exact ⟨rfl, f1312, f1318, f1315, f1316, f1317⟩
def Q16 (Z : State) (x : Addr) (n : Int32) (h0 : Heap) (n0 : Nat) (v : Option Value) (h : Heap) (L : List Loc) : Prop := v = some (.int n) ∧ Fr n0 L ∧ h0 = h
set_option maxRecDepth 65536 in
set_option maxHeartbeats 40000000 in
theorem rm16 (l : Launch) (Z : State) (a0 : Array Value) (hw : ∀ d ∈ tables_1, d.before a0 Z = true) (ws : List Jvm.Cond) (x : Addr) (n : Int32) (h0 : Heap) (n0 : Nat) (Z0 : n0 ≤ h0.size) (Fs : Fld Z h0 x "java/util/ArrayList" "size" "I" (.int n)) :
    MetFree l (⟨"java/util/ArrayList", "size", "()I"⟩ : MethodName) (head1 (Jvm.Cond.code (⟨"java/util/ArrayList", "size", "()I"⟩ : MethodName) jdk_38_method_8_code 1 (some .int) :: ws) ({ frames := 0, cells := 0, slots := 0, locals := 0 } : Room)) (fun aa_ U => aa_ = #[(.ref x)] ∧ Z.Warmed39 U.vm ∧ U.heap = h0) (fun _ _ _ _ _ => True) (fun _ U o U' => ∃ v L, o = .returned v ∧ Q16 Z x n h0 n0 v U'.heap L ∧ FrameEnd U o U' L ({ frames := 0, cells := 0, slots := 0, locals := 0 } : Room).cells ({ frames := 0, cells := 0, slots := 0, locals := 0 } : Room).slots) := by
  refine MetFree.of_bodySF (plainFor_of_name pn6) hisR ?_
  intro p e s m args below meth c s₁ Bd hml0 hP hK
  obtain ⟨rfl, hZ, hh⟩ := hP
  have hx := Bd.exec
  have hby := Bd.bytes
  have hml : c.maxLocals = 1 := hml0
  have hown : s.vm.findClass "java/util/ArrayList" = some m.cls := findClass_of_methodNamed Bd.named
  have hnm := (name_of_methodNamed Bd.named Bd.method).1
  have X0 : Stand p l e ({ frames := 0, cells := 0, slots := 0, locals := 0 } : Room) s m #[(.ref x)] below meth c s₁ [] 0 0 := Stand.of_body Bd
  have e0 : s₁.heap = h0 := by rw [← hh, Bd.state]; rfl
  have N0 := Fr.nil n0
  obtain ⟨G, hG⟩ : ∃ G, G = entryFrame m #[(.ref x)] 1 := ⟨_, rfl⟩
  have S0 : own_Go p e below s₁ G s₁ (mkF m 0 #[.val (.ref x)] []) := fun tg_ kk_ => castTop (by rw [hG]; first | rfl | simp [entryFrame, mkF, argsToLocals, Value.category, maxLocals]) kk_
  have S1319 : own_Go p e below s₁ G s₁ (mkF m 1 #[.val (.ref x)] [(.ref x)]) := fun tg_ kk_ => S0 tg_ (by
    refine XS.aloadN X0.here hx rfl (hb hby d16_0) rfl rfl ?_
    exact kk_)
  obtain ⟨T1320, X1320, e1320, st1320⟩ := getF X0 hx hZ hown (host := "") (Or.inl (hw _ (List.mem_of_getElem? (i := 118) rfl))) Via.refl e0 Fs (g := (mkF m 1 #[.val (.ref x)] [(.ref x)])) rfl rfl (hb hby d16_1)
  have S1321 : own_Go p e below s₁ G T1320 (mkF m 4 #[.val (.ref x)] [(.int n)]) := fun tg_ kk_ => S1319 tg_ (st1320 tg_ kk_)
  obtain ⟨fs, hr, hrun, hended, hW, hsame⟩ := X1320.leave (v := some (.int n)) (fun h => by rw [Bd.returns] at h; cases h)
  refine ⟨_, _, ?_, hrun, hended, _, _, rfl, ?_, ⟨_, rfl⟩, hW, hsame.mono (by decide) (by decide)⟩
  · rw [← hG]; exact S1321 _ (retI X1320 hx Bd.returns (hb hby d16_4) hr)
  · show Q16 Z x n h0 n0 _ T1320.heap _
    rw [e1320]
    exact ⟨rfl, N0, rfl⟩
def Q22 (Z : State)  (h0 : Heap) (n0 : Nat) (v : Option Value) (h : Heap) (L : List Loc) : Prop := v = some (.int 10) ∧ Fr n0 L ∧ h0 = h
set_option maxRecDepth 65536 in
set_option maxHeartbeats 40000000 in
theorem rm22 (l : Launch) (Z : State) (a0 : Array Value) (hw : ∀ d ∈ tables_1, d.before a0 Z = true) (ws : List Jvm.Cond)  (h0 : Heap) (n0 : Nat) (Z0 : n0 ≤ h0.size)  :
    MetFree l (⟨"java/lang/Math", "max", "(II)I"⟩ : MethodName) (head1 (Jvm.Cond.code (⟨"java/lang/Math", "max", "(II)I"⟩ : MethodName) jdk_29_method_65_code 2 (some .int) :: ws) ({ frames := 0, cells := 0, slots := 0, locals := 0 } : Room)) (fun aa_ U => aa_ = #[(.int (10 : Int32)), (.int (1 : Int32))] ∧ Z.Warmed39 U.vm ∧ U.heap = h0) (fun _ _ _ _ _ => True) (fun _ U o U' => ∃ v L, o = .returned v ∧ Q22 Z h0 n0 v U'.heap L ∧ FrameEnd U o U' L ({ frames := 0, cells := 0, slots := 0, locals := 0 } : Room).cells ({ frames := 0, cells := 0, slots := 0, locals := 0 } : Room).slots) := by
  refine MetFree.of_bodySF (Jvm.Free.JP.mathPlain rfl (by decide +kernel)) hisR ?_
  intro p e s m args below meth c s₁ Bd hml0 hP hK
  obtain ⟨rfl, hZ, hh⟩ := hP
  have hx := Bd.exec
  have hby := Bd.bytes
  have hml : c.maxLocals = 2 := hml0
  have hown : s.vm.findClass "java/lang/Math" = some m.cls := findClass_of_methodNamed Bd.named
  have hnm := (name_of_methodNamed Bd.named Bd.method).1
  have X0 : Stand p l e ({ frames := 0, cells := 0, slots := 0, locals := 0 } : Room) s m #[(.int (10 : Int32)), (.int (1 : Int32))] below meth c s₁ [] 0 0 := Stand.of_body Bd
  have e0 : s₁.heap = h0 := by rw [← hh, Bd.state]; rfl
  have N0 := Fr.nil n0
  obtain ⟨G, hG⟩ : ∃ G, G = entryFrame m #[(.int (10 : Int32)), (.int (1 : Int32))] 2 := ⟨_, rfl⟩
  have S0 : own_Go p e below s₁ G s₁ (mkF m 0 #[.val (.int (10 : Int32)), .val (.int (1 : Int32))] []) := fun tg_ kk_ => castTop (by rw [hG]; first | rfl | simp [entryFrame, mkF, argsToLocals, Value.category, maxLocals]) kk_
  have S1322 : own_Go p e below s₁ G s₁ (mkF m 10 #[.val (.int (10 : Int32)), .val (.int (1 : Int32))] [(.int (10 : Int32))]) := fun tg_ kk_ => S0 tg_ (by
    refine XS.iloadN X0.here hx rfl (hb hby d22_0) rfl ?_
    show Steps p.tables e below (s₁.setTop (mkF m 1 #[.val (.int (10 : Int32)), .val (.int (1 : Int32))] [(.int (10 : Int32))])) _
    refine XS.iloadN X0.here hx rfl (hb hby d22_1) rfl ?_
    show Steps p.tables e below (s₁.setTop (mkF m 2 #[.val (.int (10 : Int32)), .val (.int (1 : Int32))] [(.int (1 : Int32)), (.int (10 : Int32))])) _
    refine XS.icmpNo X0.here hx rfl (hb hby d22_2) rfl (XT.ii_lt_f (by decide)) ?_
    show Steps p.tables e below (s₁.setTop (mkF m 5 #[.val (.int (10 : Int32)), .val (.int (1 : Int32))] [])) _
    refine XS.iloadN X0.here hx rfl (hb hby d22_5) rfl ?_
    show Steps p.tables e below (s₁.setTop (mkF m 6 #[.val (.int (10 : Int32)), .val (.int (1 : Int32))] [(.int (10 : Int32))])) _
    refine XS.goto X0.here hx rfl (pc0 := 6) (pc' := 10) rfl (hb hby d22_6) (by decide) (by decide) ?_
    exact kk_)
  obtain ⟨fs, hr, hrun, hended, hW, hsame⟩ := X0.leave (v := some (.int (10 : Int32))) (fun h => by rw [Bd.returns] at h; cases h)
  refine ⟨_, _, ?_, hrun, hended, _, _, rfl, ?_, ⟨_, rfl⟩, hW, hsame.mono (by decide) (by decide)⟩
  · rw [← hG]; exact S1322 _ (retI X0 hx Bd.returns (hb hby d22_10) hr)
  · show Q22 Z h0 n0 _ s₁.heap _
    rw [e0]
    exact ⟨rfl, N0, rfl⟩
def Q21 (Z : State) (x : Addr) (dd : Addr) (mm : Int32) (h0 : Heap) (n0 : Nat) (v : Option Value) (h : Heap) (L : List Loc) : Prop := v = some (.ref h0.size) ∧ Fr n0 L ∧ Keep h0 h [x] ∧ Fld Z h x "java/util/ArrayList" "elementData" "[Ljava/lang/Object;" (.ref h0.size) ∧ Fld Z h x "java/util/ArrayList" "size" "I" (.int 0) ∧ (∃ q, Arv Z h h0.size q (.object "java/lang/Object") 10 [] .null ∧ Ovr Z q "java/lang/Object")
set_option maxRecDepth 65536 in
set_option maxHeartbeats 40000000 in
theorem rm21 (l : Launch) (Z : State) (a0 : Array Value) (hw : ∀ d ∈ tables_1, d.before a0 Z = true) (ws : List Jvm.Cond) (x : Addr) (dd : Addr) (mm : Int32) (h0 : Heap) (n0 : Nat) (Z0 : n0 ≤ h0.size) (Ex : Exa Z h0 x "java/util/ArrayList") (hx0 : @LE.le Nat instLENat (n0) x) (Fe : Fld Z h0 x "java/util/ArrayList" "elementData" "[Ljava/lang/Object;" (.ref dd)) (Fs : Fld Z h0 x "java/util/ArrayList" "size" "I" (.int 0)) (Fm : Fld Z h0 x "java/util/AbstractList" "modCount" "I" (.int mm)) (O : Old Z n0 h0) (SD : Sta Z Z.heap "java/util/ArrayList" "DEFAULTCAPACITY_EMPTY_ELEMENTDATA" "[Ljava/lang/Object;" (.ref dd)) (qd : ClassId) (VD : Arv Z Z.heap dd qd (.object "java/lang/Object") 0 [] .null) :
    MetFree l (⟨"java/util/ArrayList", "grow", "(I)[Ljava/lang/Object;"⟩ : MethodName) (head1 (Jvm.Cond.code (⟨"java/util/ArrayList", "grow", "(I)[Ljava/lang/Object;"⟩ : MethodName) jdk_38_method_6_code 4 (some (.array (.object "java/lang/Object"))) :: ws) ({ frames := 1, cells := 1, slots := 10, locals := 20 } : Room)) (fun aa_ U => aa_ = #[(.ref x), (.int (1 : Int32))] ∧ Z.Warmed39 U.vm ∧ U.heap = h0) (fun _ _ _ _ _ => True) (fun _ U o U' => ∃ v L, o = .returned v ∧ Q21 Z x dd mm h0 n0 v U'.heap L ∧ FrameEnd U o U' L ({ frames := 1, cells := 1, slots := 10, locals := 20 } : Room).cells ({ frames := 1, cells := 1, slots := 10, locals := 20 } : Room).slots) := by
  refine MetFree.of_bodySF (plainFor_of_name pn6) hisR ?_
  intro p e s m args below meth c s₁ Bd hml0 hP hK
  obtain ⟨rfl, hZ, hh⟩ := hP
  have hx := Bd.exec
  have hby := Bd.bytes
  have hml : c.maxLocals = 4 := hml0
  have hown : s.vm.findClass "java/util/ArrayList" = some m.cls := findClass_of_methodNamed Bd.named
  have hnm := (name_of_methodNamed Bd.named Bd.method).1
  have X0 : Stand p l e ({ frames := 1, cells := 1, slots := 10, locals := 20 } : Room) s m #[(.ref x), (.int (1 : Int32))] below meth c s₁ [] 0 0 := Stand.of_body Bd
  have e0 : s₁.heap = h0 := by rw [← hh, Bd.state]; rfl
  have N0 := Fr.nil n0
  obtain ⟨G, hG⟩ : ∃ G, G = entryFrame m #[(.ref x), (.int (1 : Int32))] 4 := ⟨_, rfl⟩
  have S0 : own_Go p e below s₁ G s₁ (mkF m 0 #[.val (.ref x), .val (.int (1 : Int32)), .unset, .unset] []) := fun tg_ kk_ => castTop (by rw [hG]; first | rfl | simp [entryFrame, mkF, argsToLocals, Value.category, maxLocals]) kk_
  have S1323 : own_Go p e below s₁ G s₁ (mkF m 1 #[.val (.ref x), .val (.int (1 : Int32)), .unset, .unset] [(.ref x)]) := fun tg_ kk_ => S0 tg_ (by
    refine XS.aloadN X0.here hx rfl (hb hby d21_0) rfl rfl ?_
    exact kk_)
  obtain ⟨T1324, X1324, e1324, st1324⟩ := getF X0 hx hZ hown (host := "") (Or.inl (hw _ (List.mem_of_getElem? (i := 103) rfl))) Via.refl e0 Fe (g := (mkF m 1 #[.val (.ref x), .val (.int (1 : Int32)), .unset, .unset] [(.ref x)])) rfl rfl (hb hby d21_1)
  have S1325 : own_Go p e below s₁ G T1324 (mkF m 4 #[.val (.ref x), .val (.int (1 : Int32)), .unset, .unset] [(.ref dd)]) := fun tg_ kk_ => S1323 tg_ (st1324 tg_ kk_)
  obtain ⟨cld, Bd0, -, zd, yd, -, -⟩ := VD.ext O.2
  have S1326 : own_Go p e below s₁ G T1324 (mkF m 11 #[.val (.ref x), .val (.int (1 : Int32)), .val (.int (0 : Int32)), .unset] [(.ref x)]) := fun tg_ kk_ => S1325 tg_ (by
    refine X1324.arraylength hx (cell := cld) (by rw [e1324]; exact Bd0.1) (State.isArrayOf_alike hZ.alike Bd0.2.1) (g := (mkF m 4 #[.val (.ref x), .val (.int (1 : Int32)), .unset, .unset] [(.ref dd)])) rfl (rest := []) rfl (hb hby d21_4) _ ?_
    rw [len_of zd yd]
    show Steps p.tables e below (T1324.setTop (mkF m 5 #[.val (.ref x), .val (.int (1 : Int32)), .unset, .unset] [(.int (0 : Int32))])) _
    refine XS.istoreN X1324.here hx rfl (hb hby d21_5) rfl (l' := #[.val (.ref x), .val (.int (1 : Int32)), .val (.int (0 : Int32)), .unset]) rfl ?_
    show Steps p.tables e below (T1324.setTop (mkF m 6 #[.val (.ref x), .val (.int (1 : Int32)), .val (.int (0 : Int32)), .unset] [])) _
    refine XS.iloadN X1324.here hx rfl (hb hby d21_6) rfl ?_
    show Steps p.tables e below (T1324.setTop (mkF m 7 #[.val (.ref x), .val (.int (1 : Int32)), .val (.int (0 : Int32)), .unset] [(.int (0 : Int32))])) _
    refine XS.ifNo X1324.here hx rfl (hb hby d21_7) rfl (XT.i0_gt_f (by decide)) ?_
    show Steps p.tables e below (T1324.setTop (mkF m 10 #[.val (.ref x), .val (.int (1 : Int32)), .val (.int (0 : Int32)), .unset] [])) _
    refine XS.aloadN X1324.here hx rfl (hb hby d21_10) rfl rfl ?_
    exact kk_)
  obtain ⟨T1327, X1327, e1327, st1327⟩ := getF X1324 hx hZ hown (host := "") (Or.inl (hw _ (List.mem_of_getElem? (i := 103) rfl))) Via.refl e1324 Fe (g := (mkF m 11 #[.val (.ref x), .val (.int (1 : Int32)), .val (.int (0 : Int32)), .unset] [(.ref x)])) rfl rfl (hb hby d21_11)
  have S1328 : own_Go p e below s₁ G T1327 (mkF m 14 #[.val (.ref x), .val (.int (1 : Int32)), .val (.int (0 : Int32)), .unset] [(.ref dd)]) := fun tg_ kk_ => S1326 tg_ (st1327 tg_ kk_)
  obtain ⟨T1329, X1329, e1329, st1329⟩ := getS X1327 hx hZ (host := "") hown (hw _ (List.mem_of_getElem? (i := 102) rfl)) Via.refl e1327 (SD.ext O.2) (g := (mkF m 14 #[.val (.ref x), .val (.int (1 : Int32)), .val (.int (0 : Int32)), .unset] [(.ref dd)])) rfl (hb hby d21_14)
  have S1330 : own_Go p e below s₁ G T1329 (mkF m 17 #[.val (.ref x), .val (.int (1 : Int32)), .val (.int (0 : Int32)), .unset] [(.ref dd), (.ref dd)]) := fun tg_ kk_ => S1328 tg_ (st1329 tg_ kk_)
  have S1331 : own_Go p e below s₁ G T1329 (mkF m 49 #[.val (.ref x), .val (.int (1 : Int32)), .val (.int (0 : Int32)), .unset] [(.int (1 : Int32)), (.int (10 : Int32)), (.ref x)]) := fun tg_ kk_ => S1330 tg_ (by
    refine XT.acmpYes X1329.here hx rfl (pc0 := 17) (pc' := 45) rfl (hb hby d21_17) rfl (rfl) (rfl) (XT.aa_eq_t rfl) (by decide) (by decide) ?_
    show Steps p.tables e below (T1329.setTop (mkF m 45 #[.val (.ref x), .val (.int (1 : Int32)), .val (.int (0 : Int32)), .unset] [])) _
    refine XS.aloadN X1329.here hx rfl (hb hby d21_45) rfl rfl ?_
    show Steps p.tables e below (T1329.setTop (mkF m 46 #[.val (.ref x), .val (.int (1 : Int32)), .val (.int (0 : Int32)), .unset] [(.ref x)])) _
    refine XS.bipush X1329.here hx rfl (hb hby d21_46) ?_
    show Steps p.tables e below (T1329.setTop (mkF m 48 #[.val (.ref x), .val (.int (1 : Int32)), .val (.int (0 : Int32)), .unset] [(.int (10 : Int32)), (.ref x)])) _
    refine XS.iloadN X1329.here hx rfl (hb hby d21_48) rfl ?_
    exact kk_)
  obtain ⟨_, T1332, h1332, L1332, X1332, e1332, hQ1332, st1332⟩ := own_callS X1329 hx hZ (y := (⟨"java/lang/Math", "max", "(II)I"⟩ : MethodName)) hown (hw _ (List.mem_of_getElem? (i := 155) rfl)) (hw _ (List.mem_of_getElem? (i := 156) rfl)) (hw _ (List.mem_of_getElem? (i := 157) rfl)) (hw _ (List.mem_of_getElem? (i := 158) rfl)) (by decide) 1 (g := (mkF m 49 #[.val (.ref x), .val (.int (1 : Int32)), .val (.int (0 : Int32)), .unset] [(.int (1 : Int32)), (.int (10 : Int32)), (.ref x)])) rfl (by rw [hml]; rfl) [(.int (10 : Int32)), (.int (1 : Int32))] [(.ref x)] (rm22 l Z a0 hw [] h0 n0 Z0) (lenOf pd17 rfl) rfl (by show 2 * 0 + _ ≤ _; exact Nat.le_of_eq rfl) (hb hby d21_49) (by decide) (by decide) e1329 (by decide) (by decide)
  obtain ⟨rfl, N1332, rfl⟩ := hQ1332
  have S1333 : own_Go p e below s₁ G T1332 (mkF m 52 #[.val (.ref x), .val (.int (1 : Int32)), .val (.int (0 : Int32)), .unset] [(.int (10 : Int32)), (.ref x)]) := fun tg_ kk_ => S1331 tg_ (st1332 tg_ kk_)
  have M1332 := Fr.app N0 N1332
  obtain ⟨T1334, h1334, k1334, X1334, e1334, E1334, A1334, Ov1334, st1334⟩ := newR X1332 hx hZ hown (hw _ (List.mem_of_getElem? (i := 159) rfl)) (hw _ (List.mem_of_getElem? (i := 160) rfl)) e1332 (g := (mkF m 52 #[.val (.ref x), .val (.int (1 : Int32)), .val (.int (0 : Int32)), .unset] [(.int (10 : Int32)), (.ref x)])) rfl (hb hby d21_52) rfl (by decide) (cap := 10) (by decide) (by decide) (by decide) (by decide)
  have S1335 : own_Go p e below s₁ G T1334 (mkF m 55 #[.val (.ref x), .val (.int (1 : Int32)), .val (.int (0 : Int32)), .unset] [(.ref h0.size), (.ref x)]) := fun tg_ kk_ => S1333 tg_ (st1334 tg_ kk_)
  obtain ⟨d, gd⟩ : ∃ z, z = h0.size := ⟨_, rfl⟩
  rw [← gd] at S1335
  rw [← gd] at A1334
  have o1336 : @LT.lt Nat instLTNat x d := Nat.lt_of_lt_of_le Ex.lt (Nat.le_of_eq gd.symm)
  have o1337 : @LE.le Nat instLENat (n0) d := Nat.le_trans Z0 (Nat.le_of_eq gd.symm)
  have o1338 : @LE.le Nat instLENat (h0.size) d := Nat.le_trans (Keep.refl h0 [x]).1 (Nat.le_of_eq gd.symm)
  have f1339 := Ex.ext E1334
  have f1340 := Fe.ext E1334
  have f1341 := Fs.ext E1334
  have f1342 := Fm.ext E1334
  have f1343 := O.ext E1334
  have f1344 := own_sub Z0 E1334
  have f1345 := Keep.ext (Keep.refl h0 [x]) E1334
  have vd : Arv Z h1334 d k1334 (.object "java/lang/Object") 10 [] .null := Arv.new A1334 (by decide)
  have S1346 : own_Go p e below s₁ G T1334 (mkF m 56 #[.val (.ref x), .val (.int (1 : Int32)), .val (.int (0 : Int32)), .unset] [(.ref d), (.ref x), (.ref d)]) := fun tg_ kk_ => S1335 tg_ (by
    refine XT.dupX1 X1334.here hx rfl (hb hby d21_55) rfl rfl rfl ?_
    exact kk_)
  obtain ⟨T1347, h1347, X1347, e1347, W1347, st1347⟩ := putF X1334 hx hZ hown (host := "") (Or.inl (hw _ (List.mem_of_getElem? (i := 103) rfl))) Via.refl e1334 f1340 f1339 (Or.inl (hw _ (List.mem_of_getElem? (i := 104) rfl))) (hw _ (List.mem_of_getElem? (i := 82) rfl)) (ty := (.array (.object "java/lang/Object"))) (by decide) rfl rfl (g := (mkF m 56 #[.val (.ref x), .val (.int (1 : Int32)), .val (.int (0 : Int32)), .unset] [(.ref d), (.ref x), (.ref d)])) rfl rfl (hb hby d21_56)
  have S1348 : own_Go p e below s₁ G T1347 (mkF m 59 #[.val (.ref x), .val (.int (1 : Int32)), .val (.int (0 : Int32)), .unset] [(.ref d)]) := fun tg_ kk_ => S1346 tg_ (st1347 tg_ kk_)
  have f1349 := Fr.snoc X1347 M1332 (by omega)
  have f1350 := f1339.wr W1347
  have f1351 := f1340.same W1347
  have f1352 := f1341.other W1347 (Or.inr (slot_ne (C := "java/util/ArrayList") (a0 := a0) (Or.inl (hw _ (List.mem_of_getElem? (i := 119) rfl))) (Or.inl (hw _ (List.mem_of_getElem? (i := 104) rfl))) (by decide) (t := .int) (by decide) (t' := (.array (.object "java/lang/Object"))) (by decide)))
  have f1353 := f1342.other W1347 (Or.inr (slot_ne (C := "java/util/ArrayList") (a0 := a0) (Or.inl (hw _ (List.mem_of_getElem? (i := 101) rfl))) (Or.inl (hw _ (List.mem_of_getElem? (i := 104) rfl))) (by decide) (t := .int) (by decide) (t' := (.array (.object "java/lang/Object"))) (by decide)))
  have f1354 := f1343.wr W1347 (by omega)
  have f1355 : n0 ≤ h1347.size := by rw [W1347.size]; exact f1344
  have f1356 := vd.other W1347 (own_negt (by omega))
  have f1357 := Keep.wr f1345 W1347 (Or.inl (by simp))
  subst gd
  obtain ⟨fs, hr, hrun, hended, hW, hsame⟩ := X1347.leave (v := some (.ref h0.size)) (fun h => by rw [Bd.returns] at h; cases h)
  refine ⟨_, _, ?_, hrun, hended, _, _, rfl, ?_, ⟨_, rfl⟩, hW, hsame.mono (by decide) (by decide)⟩
  · rw [← hG]; exact S1348 _ (retOut X1347 hx Bd.returns (by first | rfl | cases (.ref h0.size) <;> rfl) (Or.inr (Or.inr (Or.inr (Or.inr ⟨rfl, rfl, rfl⟩)))) (hb hby d21_59) hr)
  · show Q21 Z x dd mm h0 n0 _ T1347.heap _
    rw [e1347]
    exact ⟨rfl, f1349, f1357, f1351, f1352, _, f1356, Ov1334⟩
def Q20 (Z : State) (x : Addr) (dd : Addr) (mm : Int32) (h0 : Heap) (n0 : Nat) (v : Option Value) (h : Heap) (L : List Loc) : Prop := v = some (.ref h0.size) ∧ Fr n0 L ∧ Keep h0 h [x] ∧ Fld Z h x "java/util/ArrayList" "elementData" "[Ljava/lang/Object;" (.ref h0.size) ∧ Fld Z h x "java/util/ArrayList" "size" "I" (.int 0) ∧ (∃ q, Arv Z h h0.size q (.object "java/lang/Object") 10 [] .null ∧ Ovr Z q "java/lang/Object")
set_option maxRecDepth 65536 in
set_option maxHeartbeats 40000000 in
theorem rm20 (l : Launch) (Z : State) (a0 : Array Value) (hw : ∀ d ∈ tables_1, d.before a0 Z = true) (ws : List Jvm.Cond) (x : Addr) (dd : Addr) (mm : Int32) (h0 : Heap) (n0 : Nat) (Z0 : n0 ≤ h0.size) (Ex : Exa Z h0 x "java/util/ArrayList") (hx0 : @LE.le Nat instLENat (n0) x) (Fe : Fld Z h0 x "java/util/ArrayList" "elementData" "[Ljava/lang/Object;" (.ref dd)) (Fs : Fld Z h0 x "java/util/ArrayList" "size" "I" (.int 0)) (Fm : Fld Z h0 x "java/util/AbstractList" "modCount" "I" (.int mm)) (O : Old Z n0 h0) (SD : Sta Z Z.heap "java/util/ArrayList" "DEFAULTCAPACITY_EMPTY_ELEMENTDATA" "[Ljava/lang/Object;" (.ref dd)) (qd : ClassId) (VD : Arv Z Z.heap dd qd (.object "java/lang/Object") 0 [] .null) :
    MetFree l (⟨"java/util/ArrayList", "grow", "()[Ljava/lang/Object;"⟩ : MethodName) (head1 (Jvm.Cond.code (⟨"java/util/ArrayList", "grow", "()[Ljava/lang/Object;"⟩ : MethodName) jdk_38_method_7_code 1 (some (.array (.object "java/lang/Object"))) :: ws) ({ frames := 2, cells := 1, slots := 10, locals := 36 } : Room)) (fun aa_ U => aa_ = #[(.ref x)] ∧ Z.Warmed39 U.vm ∧ U.heap = h0) (fun _ _ _ _ _ => True) (fun _ U o U' => ∃ v L, o = .returned v ∧ Q20 Z x dd mm h0 n0 v U'.heap L ∧ FrameEnd U o U' L ({ frames := 2, cells := 1, slots := 10, locals := 36 } : Room).cells ({ frames := 2, cells := 1, slots := 10, locals := 36 } : Room).slots) := by
  refine MetFree.of_bodySF (plainFor_of_name pn6) hisR ?_
  intro p e s m args below meth c s₁ Bd hml0 hP hK
  obtain ⟨rfl, hZ, hh⟩ := hP
  have hx := Bd.exec
  have hby := Bd.bytes
  have hml : c.maxLocals = 1 := hml0
  have hown : s.vm.findClass "java/util/ArrayList" = some m.cls := findClass_of_methodNamed Bd.named
  have hnm := (name_of_methodNamed Bd.named Bd.method).1
  have X0 : Stand p l e ({ frames := 2, cells := 1, slots := 10, locals := 36 } : Room) s m #[(.ref x)] below meth c s₁ [] 0 0 := Stand.of_body Bd
  have e0 : s₁.heap = h0 := by rw [← hh, Bd.state]; rfl
  have N0 := Fr.nil n0
  obtain ⟨G, hG⟩ : ∃ G, G = entryFrame m #[(.ref x)] 1 := ⟨_, rfl⟩
  have S0 : own_Go p e below s₁ G s₁ (mkF m 0 #[.val (.ref x)] []) := fun tg_ kk_ => castTop (by rw [hG]; first | rfl | simp [entryFrame, mkF, argsToLocals, Value.category, maxLocals]) kk_
  have S1358 : own_Go p e below s₁ G s₁ (mkF m 2 #[.val (.ref x)] [(.ref x), (.ref x)]) := fun tg_ kk_ => S0 tg_ (by
    refine XS.aloadN X0.here hx rfl (hb hby d20_0) rfl rfl ?_
    show Steps p.tables e below (s₁.setTop (mkF m 1 #[.val (.ref x)] [(.ref x)])) _
    refine XS.aloadN X0.here hx rfl (hb hby d20_1) rfl rfl ?_
    exact kk_)
  obtain ⟨T1359, X1359, e1359, st1359⟩ := getF X0 hx hZ hown (host := "") (Or.inl (hw _ (List.mem_of_getElem? (i := 118) rfl))) Via.refl e0 Fs (g := (mkF m 2 #[.val (.ref x)] [(.ref x), (.ref x)])) rfl rfl (hb hby d20_2)
  have S1360 : own_Go p e below s₁ G T1359 (mkF m 5 #[.val (.ref x)] [(.int (0 : Int32)), (.ref x)]) := fun tg_ kk_ => S1358 tg_ (st1359 tg_ kk_)
  have S1361 : own_Go p e below s₁ G T1359 (mkF m 7 #[.val (.ref x)] [(.int ((0 : Int32) + (1 : Int32))), (.ref x)]) := fun tg_ kk_ => S1360 tg_ (by
    refine XS.iconst X1359.here hx rfl (hb hby d20_5) ?_
    show Steps p.tables e below (T1359.setTop (mkF m 6 #[.val (.ref x)] [(.int (1 : Int32)), (.int (0 : Int32)), (.ref x)])) _
    refine XS.iadd X1359.here hx rfl (hb hby d20_6) rfl ?_
    exact kk_)
  rw [show ((0 : Int32) + (1 : Int32)) = (1 : Int32) from by decide +kernel] at S1361
  obtain ⟨_, T1362, h1362, L1362, X1362, e1362, hQ1362, st1362⟩ := own_callP X1359 hx hZ (y := (⟨"java/util/ArrayList", "grow", "(I)[Ljava/lang/Object;"⟩ : MethodName)) hown (hw _ (List.mem_of_getElem? (i := 150) rfl)) (hw _ (List.mem_of_getElem? (i := 151) rfl)) (hw _ (List.mem_of_getElem? (i := 152) rfl)) (hw _ (List.mem_of_getElem? (i := 82) rfl)) (hw _ (List.mem_of_getElem? (i := 83) rfl)) (hw _ (List.mem_of_getElem? (i := 154) rfl)) (by decide) 0 (g := (mkF m 7 #[.val (.ref x)] [(.int (1 : Int32)), (.ref x)])) rfl (by rw [hml]; rfl) x Ex [(.int (1 : Int32))] [] (rm21 l Z a0 hw [] x dd mm h0 n0 Z0 Ex hx0 Fe Fs Fm O SD qd VD) (lenOf pd16 rfl) rfl (by show 2 * 0 + _ ≤ _; exact Nat.le_of_eq rfl) (hb hby d20_7) (by decide) (by decide) e1359 (by decide) (by decide)
  obtain ⟨rfl, N1362, K1362, Fe1362, Fs1362, Va1362⟩ := hQ1362
  have S1363 : own_Go p e below s₁ G T1362 (mkF m 10 #[.val (.ref x)] [(.ref h0.size)]) := fun tg_ kk_ => S1361 tg_ (st1362 tg_ kk_)
  have M1 := Fr.app N0 N1362
  obtain ⟨fs, hr, hrun, hended, hW, hsame⟩ := X1362.leave (v := some (.ref h0.size)) (fun h => by rw [Bd.returns] at h; cases h)
  refine ⟨_, _, ?_, hrun, hended, _, _, rfl, ?_, ⟨_, rfl⟩, hW, hsame.mono (by decide) (by decide)⟩
  · rw [← hG]; exact S1363 _ (retOut X1362 hx Bd.returns (by first | rfl | cases (.ref h0.size) <;> rfl) (Or.inr (Or.inr (Or.inr (Or.inr ⟨rfl, rfl, rfl⟩)))) (hb hby d20_10) hr)
  · show Q20 Z x dd mm h0 n0 _ T1362.heap _
    rw [e1362]
    exact ⟨rfl, M1, K1362, Fe1362, Fs1362, Va1362⟩
def Q19 (Z : State) (x : Addr) (y : Addr) (dd : Addr) (mm : Int32) (h0 : Heap) (n0 : Nat) (v : Option Value) (h : Heap) (L : List Loc) : Prop := v = none ∧ Fr n0 L ∧ Keep h0 h [x] ∧ ∃ d, @LE.le Nat instLENat (h0.size) d ∧ Fld Z h x "java/util/ArrayList" "elementData" "[Ljava/lang/Object;" (.ref d) ∧ Fld Z h x "java/util/ArrayList" "size" "I" (.int 1) ∧ (∃ q, Arv Z h d q (.object "java/lang/Object") 10 [.ref y] .null)
set_option maxRecDepth 65536 in
set_option maxHeartbeats 40000000 in
theorem rm19 (l : Launch) (Z : State) (a0 : Array Value) (hw : ∀ d ∈ tables_1, d.before a0 Z = true) (ws : List Jvm.Cond) (x : Addr) (y : Addr) (dd : Addr) (mm : Int32) (h0 : Heap) (n0 : Nat) (Z0 : n0 ≤ h0.size) (Ex : Exa Z h0 x "java/util/ArrayList") (hx0 : @LE.le Nat instLENat (n0) x) (Fe : Fld Z h0 x "java/util/ArrayList" "elementData" "[Ljava/lang/Object;" (.ref dd)) (Fs : Fld Z h0 x "java/util/ArrayList" "size" "I" (.int 0)) (Fm : Fld Z h0 x "java/util/AbstractList" "modCount" "I" (.int mm)) (O : Old Z n0 h0) (SD : Sta Z Z.heap "java/util/ArrayList" "DEFAULTCAPACITY_EMPTY_ELEMENTDATA" "[Ljava/lang/Object;" (.ref dd)) (qd : ClassId) (VD : Arv Z Z.heap dd qd (.object "java/lang/Object") 0 [] .null) (Ey : Exa Z Z.heap y "com/example/tileshift/tileshift/Move") :
    MetFree l (⟨"java/util/ArrayList", "add", "(Ljava/lang/Object;[Ljava/lang/Object;I)V"⟩ : MethodName) (head1 (Jvm.Cond.code (⟨"java/util/ArrayList", "add", "(Ljava/lang/Object;[Ljava/lang/Object;I)V"⟩ : MethodName) jdk_38_method_24_code 4 none :: ws) ({ frames := 3, cells := 1, slots := 10, locals := 50 } : Room)) (fun aa_ U => aa_ = #[(.ref x), (.ref y), (.ref dd), (.int (0 : Int32))] ∧ Z.Warmed39 U.vm ∧ U.heap = h0) (fun _ _ _ _ _ => True) (fun _ U o U' => ∃ v L, o = .returned v ∧ Q19 Z x y dd mm h0 n0 v U'.heap L ∧ FrameEnd U o U' L ({ frames := 3, cells := 1, slots := 10, locals := 50 } : Room).cells ({ frames := 3, cells := 1, slots := 10, locals := 50 } : Room).slots) := by
  refine MetFree.of_bodySF (plainFor_of_name pn6) hisR ?_
  intro p e s m args below meth c s₁ Bd hml0 hP hK
  obtain ⟨rfl, hZ, hh⟩ := hP
  have hx := Bd.exec
  have hby := Bd.bytes
  have hml : c.maxLocals = 4 := hml0
  have hown : s.vm.findClass "java/util/ArrayList" = some m.cls := findClass_of_methodNamed Bd.named
  have hnm := (name_of_methodNamed Bd.named Bd.method).1
  have X0 : Stand p l e ({ frames := 3, cells := 1, slots := 10, locals := 50 } : Room) s m #[(.ref x), (.ref y), (.ref dd), (.int (0 : Int32))] below meth c s₁ [] 0 0 := Stand.of_body Bd
  have e0 : s₁.heap = h0 := by rw [← hh, Bd.state]; rfl
  have N0 := Fr.nil n0
  obtain ⟨G, hG⟩ : ∃ G, G = entryFrame m #[(.ref x), (.ref y), (.ref dd), (.int (0 : Int32))] 4 := ⟨_, rfl⟩
  have S0 : own_Go p e below s₁ G s₁ (mkF m 0 #[.val (.ref x), .val (.ref y), .val (.ref dd), .val (.int (0 : Int32))] []) := fun tg_ kk_ => castTop (by rw [hG]; first | (simp [entryFrame, mkF, argsToLocals, Value.category, maxLocals]; done) | rfl) kk_
  have S1364 : own_Go p e below s₁ G s₁ (mkF m 2 #[.val (.ref x), .val (.ref y), .val (.ref dd), .val (.int (0 : Int32))] [(.ref dd), (.int (0 : Int32))]) := fun tg_ kk_ => S0 tg_ (by
    refine XS.iloadN X0.here hx rfl (hb hby d19_0) rfl ?_
    show Steps p.tables e below (s₁.setTop (mkF m 1 #[.val (.ref x), .val (.ref y), .val (.ref dd), .val (.int (0 : Int32))] [(.int (0 : Int32))])) _
    refine XS.aloadN X0.here hx rfl (hb hby d19_1) rfl rfl ?_
    exact kk_)
  obtain ⟨cld, Bd0, -, zd, yd, -, -⟩ := VD.ext O.2
  have S1365 : own_Go p e below s₁ G s₁ (mkF m 7 #[.val (.ref x), .val (.ref y), .val (.ref dd), .val (.int (0 : Int32))] [(.ref x)]) := fun tg_ kk_ => S1364 tg_ (by
    refine X0.arraylength hx (cell := cld) (by rw [e0]; exact Bd0.1) (State.isArrayOf_alike hZ.alike Bd0.2.1) (g := (mkF m 2 #[.val (.ref x), .val (.ref y), .val (.ref dd), .val (.int (0 : Int32))] [(.ref dd), (.int (0 : Int32))])) rfl (rest := [(.int (0 : Int32))]) rfl (hb hby d19_2) _ ?_
    rw [len_of zd yd]
    show Steps p.tables e below (s₁.setTop (mkF m 3 #[.val (.ref x), .val (.ref y), .val (.ref dd), .val (.int (0 : Int32))] [(.int (0 : Int32)), (.int (0 : Int32))])) _
    refine XS.icmpNo X0.here hx rfl (hb hby d19_3) rfl (XT.ii_ne_f (by decide)) ?_
    show Steps p.tables e below (s₁.setTop (mkF m 6 #[.val (.ref x), .val (.ref y), .val (.ref dd), .val (.int (0 : Int32))] [])) _
    refine XS.aloadN X0.here hx rfl (hb hby d19_6) rfl rfl ?_
    exact kk_)
  obtain ⟨_, T1366, h1366, L1366, X1366, e1366, hQ1366, st1366⟩ := own_callP X0 hx hZ (y := (⟨"java/util/ArrayList", "grow", "()[Ljava/lang/Object;"⟩ : MethodName)) hown (hw _ (List.mem_of_getElem? (i := 145) rfl)) (hw _ (List.mem_of_getElem? (i := 146) rfl)) (hw _ (List.mem_of_getElem? (i := 147) rfl)) (hw _ (List.mem_of_getElem? (i := 82) rfl)) (hw _ (List.mem_of_getElem? (i := 83) rfl)) (hw _ (List.mem_of_getElem? (i := 149) rfl)) (by decide) 0 (g := (mkF m 7 #[.val (.ref x), .val (.ref y), .val (.ref dd), .val (.int (0 : Int32))] [(.ref x)])) rfl (by rw [hml]; rfl) x Ex [] [] (rm20 l Z a0 hw [] x dd mm h0 n0 Z0 Ex hx0 Fe Fs Fm O SD qd VD) (lenOf pd15 rfl) rfl (by show 2 * 0 + _ ≤ _; exact Nat.le_of_eq rfl) (hb hby d19_7) (by decide) (by decide) e0 (by decide) (by decide)
  obtain ⟨rfl, N1366, K1366, Fe1366, Fs1366, qa, Va, Ov⟩ := hQ1366
  have S1367 : own_Go p e below s₁ G T1366 (mkF m 10 #[.val (.ref x), .val (.ref y), .val (.ref dd), .val (.int (0 : Int32))] [(.ref h0.size)]) := fun tg_ kk_ => S1365 tg_ (st1366 tg_ kk_)
  have f1368 := Fr.app N0 N1366
  have f1369 := Ex.keep K1366
  have f1370 := O.keep K1366 (allS (by omega) all0)
  have f1371 := Nat.le_trans Z0 K1366.1
  have f1372 := Keep.trans (Keep.refl h0 [x]) K1366 (allS (Or.inl (by simp)) all0)
  obtain ⟨d, gd⟩ : ∃ z, z = h0.size := ⟨_, rfl⟩
  rw [← gd] at S1367
  rw [← gd] at Va Fe1366
  have od : @LT.lt Nat instLTNat x d := Nat.lt_of_lt_of_le Ex.lt (Nat.le_of_eq gd.symm)
  have od2 : @LE.le Nat instLENat (n0) d := Nat.le_trans Z0 (Nat.le_of_eq gd.symm)
  have od3 : @LE.le Nat instLENat (h0.size) d := Nat.le_of_eq gd.symm
  have S1373 : own_Go p e below s₁ G T1366 (mkF m 14 #[.val (.ref x), .val (.ref y), .val (.ref d), .val (.int (0 : Int32))] [(.ref y), (.int (0 : Int32)), (.ref d)]) := fun tg_ kk_ => S1367 tg_ (by
    refine XS.astoreN X1366.here hx rfl (hb hby d19_10) rfl rfl (l' := #[.val (.ref x), .val (.ref y), .val (.ref d), .val (.int (0 : Int32))]) rfl ?_
    show Steps p.tables e below (T1366.setTop (mkF m 11 #[.val (.ref x), .val (.ref y), .val (.ref d), .val (.int (0 : Int32))] [])) _
    refine XS.aloadN X1366.here hx rfl (hb hby d19_11) rfl rfl ?_
    show Steps p.tables e below (T1366.setTop (mkF m 12 #[.val (.ref x), .val (.ref y), .val (.ref d), .val (.int (0 : Int32))] [(.ref d)])) _
    refine XS.iloadN X1366.here hx rfl (hb hby d19_12) rfl ?_
    show Steps p.tables e below (T1366.setTop (mkF m 13 #[.val (.ref x), .val (.ref y), .val (.ref d), .val (.int (0 : Int32))] [(.int (0 : Int32)), (.ref d)])) _
    refine XS.aloadN X1366.here hx rfl (hb hby d19_13) rfl rfl ?_
    exact kk_)
  obtain ⟨cl1374, B1374, b1374, z1374, y1374, H1374, F1374⟩ := id Va
  have Iy := Ins.of_exa (Ey.ext f1370.2) (hw _ (List.mem_of_getElem? (i := 161) rfl))
  obtain ⟨U1374, u1374, Y1374, f1374x, W1374, su1374⟩ := stR X1366 hx hZ e1366 B1374 (j := (0 : Int32)) (v := .ref y) (inb_of z1374 (by decide)) rfl (Sto.ofV B1374 b1374 Ov Iy) (g := (mkF m 14 #[.val (.ref x), .val (.ref y), .val (.ref d), .val (.int (0 : Int32))] [(.ref y), (.int (0 : Int32)), (.ref d)])) rfl rfl (hb hby d19_14)
  have S1375 : own_Go p e below s₁ G U1374 (mkF m 15 #[.val (.ref x), .val (.ref y), .val (.ref d), .val (.int (0 : Int32))] []) := fun tg_ kk_ => S1373 tg_ (su1374 tg_ kk_)
  have va2 : Arv Z u1374 d qa (.object "java/lang/Object") 10 [.ref y] .null := own_push Va rfl W1374 rfl
  have f1376 := Fr.snoc Y1374 f1368 (by omega)
  have f1377 := f1369.wr W1374
  have f1378 := f1370.wr W1374 (by omega)
  have f1379 : n0 ≤ u1374.size := by rw [W1374.size]; exact f1371
  have f1380 := Fe1366.other W1374 (Or.inl (own_nelt (by omega)))
  have f1381 := Fs1366.other W1374 (Or.inl (own_nelt (by omega)))
  have f1382 := Keep.wr f1372 W1374 (Or.inr (by omega))
  have S1383 : own_Go p e below s₁ G U1374 (mkF m 19 #[.val (.ref x), .val (.ref y), .val (.ref d), .val (.int (0 : Int32))] [(.int ((0 : Int32) + (1 : Int32))), (.ref x)]) := fun tg_ kk_ => S1375 tg_ (by
    refine XS.aloadN Y1374.here hx rfl (hb hby d19_15) rfl rfl ?_
    show Steps p.tables e below (U1374.setTop (mkF m 16 #[.val (.ref x), .val (.ref y), .val (.ref d), .val (.int (0 : Int32))] [(.ref x)])) _
    refine XS.iloadN Y1374.here hx rfl (hb hby d19_16) rfl ?_
    show Steps p.tables e below (U1374.setTop (mkF m 17 #[.val (.ref x), .val (.ref y), .val (.ref d), .val (.int (0 : Int32))] [(.int (0 : Int32)), (.ref x)])) _
    refine XS.iconst Y1374.here hx rfl (hb hby d19_17) ?_
    show Steps p.tables e below (U1374.setTop (mkF m 18 #[.val (.ref x), .val (.ref y), .val (.ref d), .val (.int (0 : Int32))] [(.int (1 : Int32)), (.int (0 : Int32)), (.ref x)])) _
    refine XS.iadd Y1374.here hx rfl (hb hby d19_18) rfl ?_
    exact kk_)
  rw [show ((0 : Int32) + (1 : Int32)) = (1 : Int32) from by decide +kernel] at S1383
  obtain ⟨T1384, h1384, X1384, e1384, W1384, st1384⟩ := putF Y1374 hx hZ hown (host := "") (Or.inl (hw _ (List.mem_of_getElem? (i := 118) rfl))) Via.refl f1374x f1381 f1377 (Or.inl (hw _ (List.mem_of_getElem? (i := 119) rfl))) (hw _ (List.mem_of_getElem? (i := 82) rfl)) (ty := .int) (by decide) rfl rfl (g := (mkF m 19 #[.val (.ref x), .val (.ref y), .val (.ref d), .val (.int (0 : Int32))] [(.int (1 : Int32)), (.ref x)])) rfl rfl (hb hby d19_19)
  have S1385 : own_Go p e below s₁ G T1384 (mkF m 22 #[.val (.ref x), .val (.ref y), .val (.ref d), .val (.int (0 : Int32))] []) := fun tg_ kk_ => S1383 tg_ (st1384 tg_ kk_)
  have f1386 := Fr.snoc X1384 f1376 (by omega)
  have f1387 := f1377.wr W1384
  have f1388 := f1378.wr W1384 (by omega)
  have f1389 : n0 ≤ h1384.size := by rw [W1384.size]; exact f1379
  have f1390 := f1380.other W1384 (Or.inr (slot_ne (C := "java/util/ArrayList") (a0 := a0) (Or.inl (hw _ (List.mem_of_getElem? (i := 104) rfl))) (Or.inl (hw _ (List.mem_of_getElem? (i := 119) rfl))) (by decide) (t := (.array (.object "java/lang/Object"))) (by decide) (t' := .int) (by decide)))
  have f1391 := f1381.same W1384
  have f1392 := va2.other W1384 (own_negt (by omega))
  have f1393 := Keep.wr f1382 W1384 (Or.inl (by simp))
  obtain ⟨fs, hr, hrun, hended, hW, hsame⟩ := X1384.leave (v := none) (fun _ => rfl)
  refine ⟨_, _, ?_, hrun, hended, _, _, rfl, ?_, ⟨_, rfl⟩, hW, hsame.mono (by decide) (by decide)⟩
  · rw [← hG]; exact S1385 _ (X1384.returnOut hx Bd.returns (hb hby d19_22) hr)
  · show Q19 Z x y dd mm h0 n0 _ T1384.heap _
    rw [e1384]
    exact ⟨rfl, f1386, f1393, d, od3, f1390, f1391, _, f1392⟩
def Q18 (Z : State) (x : Addr) (y : Addr) (dd : Addr) (h0 : Heap) (n0 : Nat) (v : Option Value) (h : Heap) (L : List Loc) : Prop := v = some (.int 1) ∧ Fr n0 L ∧ Keep h0 h [x] ∧ ∃ d, @LE.le Nat instLENat (h0.size) d ∧ Fld Z h x "java/util/ArrayList" "elementData" "[Ljava/lang/Object;" (.ref d) ∧ Fld Z h x "java/util/ArrayList" "size" "I" (.int 1) ∧ (∃ q, Arv Z h d q (.object "java/lang/Object") 10 [.ref y] .null)
set_option maxRecDepth 65536 in
set_option maxHeartbeats 40000000 in
theorem rm18 (l : Launch) (Z : State) (a0 : Array Value) (hw : ∀ d ∈ tables_1, d.before a0 Z = true) (ws : List Jvm.Cond) (x : Addr) (y : Addr) (dd : Addr) (h0 : Heap) (n0 : Nat) (Z0 : n0 ≤ h0.size) (Ex : Exa Z h0 x "java/util/ArrayList") (hx0 : @LE.le Nat instLENat (n0) x) (Fe : Fld Z h0 x "java/util/ArrayList" "elementData" "[Ljava/lang/Object;" (.ref dd)) (Fs : Fld Z h0 x "java/util/ArrayList" "size" "I" (.int 0)) (Fm : Fld Z h0 x "java/util/AbstractList" "modCount" "I" (.int 0)) (O : Old Z n0 h0) (SD : Sta Z Z.heap "java/util/ArrayList" "DEFAULTCAPACITY_EMPTY_ELEMENTDATA" "[Ljava/lang/Object;" (.ref dd)) (qd : ClassId) (VD : Arv Z Z.heap dd qd (.object "java/lang/Object") 0 [] .null) (Ey : Exa Z Z.heap y "com/example/tileshift/tileshift/Move") :
    MetFree l (⟨"java/util/ArrayList", "add", "(Ljava/lang/Object;)Z"⟩ : MethodName) (head1 (Jvm.Cond.code (⟨"java/util/ArrayList", "add", "(Ljava/lang/Object;)Z"⟩ : MethodName) jdk_38_method_25_code 2 (some .boolean) :: ws) ({ frames := 4, cells := 1, slots := 10, locals := 66 } : Room)) (fun aa_ U => aa_ = #[(.ref x), (.ref y)] ∧ Z.Warmed39 U.vm ∧ U.heap = h0) (fun _ _ _ _ _ => True) (fun _ U o U' => ∃ v L, o = .returned v ∧ Q18 Z x y dd h0 n0 v U'.heap L ∧ FrameEnd U o U' L ({ frames := 4, cells := 1, slots := 10, locals := 66 } : Room).cells ({ frames := 4, cells := 1, slots := 10, locals := 66 } : Room).slots) := by
  refine MetFree.of_bodySF (plainFor_of_name pn6) hisR ?_
  intro p e s m args below meth c s₁ Bd hml0 hP hK
  obtain ⟨rfl, hZ, hh⟩ := hP
  have hx := Bd.exec
  have hby := Bd.bytes
  have hml : c.maxLocals = 2 := hml0
  have hown : s.vm.findClass "java/util/ArrayList" = some m.cls := findClass_of_methodNamed Bd.named
  have hnm := (name_of_methodNamed Bd.named Bd.method).1
  have X0 : Stand p l e ({ frames := 4, cells := 1, slots := 10, locals := 66 } : Room) s m #[(.ref x), (.ref y)] below meth c s₁ [] 0 0 := Stand.of_body Bd
  have e0 : s₁.heap = h0 := by rw [← hh, Bd.state]; rfl
  have N0 := Fr.nil n0
  obtain ⟨G, hG⟩ : ∃ G, G = entryFrame m #[(.ref x), (.ref y)] 2 := ⟨_, rfl⟩
  have S0 : own_Go p e below s₁ G s₁ (mkF m 0 #[.val (.ref x), .val (.ref y)] []) := fun tg_ kk_ => castTop (by rw [hG]; first | rfl | simp [entryFrame, mkF, argsToLocals, Value.category, maxLocals]) kk_
  have S1394 : own_Go p e below s₁ G s₁ (mkF m 2 #[.val (.ref x), .val (.ref y)] [(.ref x), (.ref x)]) := fun tg_ kk_ => S0 tg_ (by
    refine XS.aloadN X0.here hx rfl (hb hby d18_0) rfl rfl ?_
    show Steps p.tables e below (s₁.setTop (mkF m 1 #[.val (.ref x), .val (.ref y)] [(.ref x)])) _
    refine XS.dup X0.here hx rfl (hb hby d18_1) rfl rfl ?_
    exact kk_)
  obtain ⟨T1395, X1395, e1395, st1395⟩ := getF X0 hx hZ hown (host := "") (Or.inl (hw _ (List.mem_of_getElem? (i := 138) rfl))) (Via.of (hw _ (List.mem_of_getElem? (i := 139) rfl))) e0 Fm (g := (mkF m 2 #[.val (.ref x), .val (.ref y)] [(.ref x), (.ref x)])) rfl rfl (hb hby d18_2)
  have S1396 : own_Go p e below s₁ G T1395 (mkF m 5 #[.val (.ref x), .val (.ref y)] [(.int (0 : Int32)), (.ref x)]) := fun tg_ kk_ => S1394 tg_ (st1395 tg_ kk_)
  have S1397 : own_Go p e below s₁ G T1395 (mkF m 7 #[.val (.ref x), .val (.ref y)] [(.int ((0 : Int32) + (1 : Int32))), (.ref x)]) := fun tg_ kk_ => S1396 tg_ (by
    refine XS.iconst X1395.here hx rfl (hb hby d18_5) ?_
    show Steps p.tables e below (T1395.setTop (mkF m 6 #[.val (.ref x), .val (.ref y)] [(.int (1 : Int32)), (.int (0 : Int32)), (.ref x)])) _
    refine XS.iadd X1395.here hx rfl (hb hby d18_6) rfl ?_
    exact kk_)
  rw [show ((0 : Int32) + (1 : Int32)) = (1 : Int32) from by decide +kernel] at S1397
  obtain ⟨T1398, h1398, X1398, e1398, W1398, st1398⟩ := putF X1395 hx hZ hown (host := "") (Or.inl (hw _ (List.mem_of_getElem? (i := 138) rfl))) (Via.of (hw _ (List.mem_of_getElem? (i := 139) rfl))) e1395 Fm Ex (Or.inl (hw _ (List.mem_of_getElem? (i := 101) rfl))) (hw _ (List.mem_of_getElem? (i := 82) rfl)) (ty := .int) (by decide) rfl rfl (g := (mkF m 7 #[.val (.ref x), .val (.ref y)] [(.int (1 : Int32)), (.ref x)])) rfl rfl (hb hby d18_7)
  have S1399 : own_Go p e below s₁ G T1398 (mkF m 10 #[.val (.ref x), .val (.ref y)] []) := fun tg_ kk_ => S1397 tg_ (st1398 tg_ kk_)
  have f1400 := Fr.snoc X1398 N0 (by omega)
  have f1401 := Ex.wr W1398
  have f1402 := Fe.other W1398 (Or.inr (slot_ne (C := "java/util/ArrayList") (a0 := a0) (Or.inl (hw _ (List.mem_of_getElem? (i := 104) rfl))) (Or.inl (hw _ (List.mem_of_getElem? (i := 101) rfl))) (by decide) (t := (.array (.object "java/lang/Object"))) (by decide) (t' := .int) (by decide)))
  have f1403 := Fs.other W1398 (Or.inr (slot_ne (C := "java/util/ArrayList") (a0 := a0) (Or.inl (hw _ (List.mem_of_getElem? (i := 119) rfl))) (Or.inl (hw _ (List.mem_of_getElem? (i := 101) rfl))) (by decide) (t := .int) (by decide) (t' := .int) (by decide)))
  have f1404 := Fm.same W1398
  have f1405 := O.wr W1398 (by omega)
  have f1406 : n0 ≤ h1398.size := by rw [W1398.size]; exact Z0
  have f1407 := Keep.wr (Keep.refl h0 [x]) W1398 (Or.inl (by simp))
  have S1408 : own_Go p e below s₁ G T1398 (mkF m 13 #[.val (.ref x), .val (.ref y)] [(.ref x), (.ref y), (.ref x)]) := fun tg_ kk_ => S1399 tg_ (by
    refine XS.aloadN X1398.here hx rfl (hb hby d18_10) rfl rfl ?_
    show Steps p.tables e below (T1398.setTop (mkF m 11 #[.val (.ref x), .val (.ref y)] [(.ref x)])) _
    refine XS.aloadN X1398.here hx rfl (hb hby d18_11) rfl rfl ?_
    show Steps p.tables e below (T1398.setTop (mkF m 12 #[.val (.ref x), .val (.ref y)] [(.ref y), (.ref x)])) _
    refine XS.aloadN X1398.here hx rfl (hb hby d18_12) rfl rfl ?_
    exact kk_)
  obtain ⟨T1409, X1409, e1409, st1409⟩ := getF X1398 hx hZ hown (host := "") (Or.inl (hw _ (List.mem_of_getElem? (i := 103) rfl))) Via.refl e1398 f1402 (g := (mkF m 13 #[.val (.ref x), .val (.ref y)] [(.ref x), (.ref y), (.ref x)])) rfl rfl (hb hby d18_13)
  have S1410 : own_Go p e below s₁ G T1409 (mkF m 16 #[.val (.ref x), .val (.ref y)] [(.ref dd), (.ref y), (.ref x)]) := fun tg_ kk_ => S1408 tg_ (st1409 tg_ kk_)
  have S1411 : own_Go p e below s₁ G T1409 (mkF m 17 #[.val (.ref x), .val (.ref y)] [(.ref x), (.ref dd), (.ref y), (.ref x)]) := fun tg_ kk_ => S1410 tg_ (by
    refine XS.aloadN X1409.here hx rfl (hb hby d18_16) rfl rfl ?_
    exact kk_)
  obtain ⟨T1412, X1412, e1412, st1412⟩ := getF X1409 hx hZ hown (host := "") (Or.inl (hw _ (List.mem_of_getElem? (i := 118) rfl))) Via.refl e1409 f1403 (g := (mkF m 17 #[.val (.ref x), .val (.ref y)] [(.ref x), (.ref dd), (.ref y), (.ref x)])) rfl rfl (hb hby d18_17)
  have S1413 : own_Go p e below s₁ G T1412 (mkF m 20 #[.val (.ref x), .val (.ref y)] [(.int (0 : Int32)), (.ref dd), (.ref y), (.ref x)]) := fun tg_ kk_ => S1411 tg_ (st1412 tg_ kk_)
  obtain ⟨_, T1414, h1414, L1414, X1414, e1414, hQ1414, st1414⟩ := own_callP X1412 hx hZ (y := (⟨"java/util/ArrayList", "add", "(Ljava/lang/Object;[Ljava/lang/Object;I)V"⟩ : MethodName)) hown (hw _ (List.mem_of_getElem? (i := 140) rfl)) (hw _ (List.mem_of_getElem? (i := 141) rfl)) (hw _ (List.mem_of_getElem? (i := 142) rfl)) (hw _ (List.mem_of_getElem? (i := 82) rfl)) (hw _ (List.mem_of_getElem? (i := 83) rfl)) (hw _ (List.mem_of_getElem? (i := 144) rfl)) (by decide) 0 (g := (mkF m 20 #[.val (.ref x), .val (.ref y)] [(.int (0 : Int32)), (.ref dd), (.ref y), (.ref x)])) rfl (by rw [hml]; rfl) x f1401 [(.ref y), (.ref dd), (.int (0 : Int32))] [] (rm19 l Z a0 hw [] x y dd 1 h1398 n0 f1406 f1401 hx0 f1402 f1403 f1404 f1405 SD qd VD Ey) (lenOf pd14 rfl) rfl (by show 2 * 0 + _ ≤ _; exact Nat.le_of_eq rfl) (hb hby d18_20) (by decide) (by decide) e1412 (by decide) (by decide)
  obtain ⟨rfl, N1414, K1414, d, hd, Fe1414, Fs1414, Va1414⟩ := hQ1414
  have S1415 : own_Go p e below s₁ G T1414 (mkF m 23 #[.val (.ref x), .val (.ref y)] []) := fun tg_ kk_ => S1413 tg_ (st1414 tg_ kk_)
  have f1416 := Fr.app f1400 N1414
  have f1417 := f1401.keep K1414
  have f1418 := f1405.keep K1414 (allS (by omega) all0)
  have f1419 := Nat.le_trans f1406 K1414.1
  have f1420 := Keep.trans f1407 K1414 (allS (Or.inl (by simp)) all0)
  have S1421 : own_Go p e below s₁ G T1414 (mkF m 24 #[.val (.ref x), .val (.ref y)] [(.int (1 : Int32))]) := fun tg_ kk_ => S1415 tg_ (by
    refine XS.iconst X1414.here hx rfl (hb hby d18_23) ?_
    exact kk_)
  obtain ⟨fs, hr, hrun, hended, hW, hsame⟩ := X1414.leave (v := some (.int (1 : Int32))) (fun h => by rw [Bd.returns] at h; cases h)
  refine ⟨_, _, ?_, hrun, hended, _, _, rfl, ?_, ⟨_, rfl⟩, hW, hsame.mono (by decide) (by decide)⟩
  · rw [← hG]; exact S1421 _ (retN X1414 hx (t := .boolean) Bd.returns (by simp) (hb hby d18_24) hr)
  · show Q18 Z x y dd h0 n0 _ T1414.heap _
    rw [e1414]
    exact ⟨rfl, f1416, f1420, d, Nat.le_trans f1407.1 hd, Fe1414, Fs1414, Va1414⟩
theorem pn7 : plainName "java/util/Collections" = true := by first | (simp [plainName, overriddenIn]; done) | decide +kernel
def Q150 (Z : State) (x : Addr) (h0 : Heap) (n0 : Nat) (v : Option Value) (h : Heap) (L : List Loc) : Prop := v = none ∧ Fr n0 L ∧ h0 = h
set_option maxRecDepth 65536 in
set_option maxHeartbeats 40000000 in
theorem rm150 (l : Launch) (Z : State) (a0 : Array Value) (hw : ∀ d ∈ tables_1, d.before a0 Z = true) (ws : List Jvm.Cond) (x : Addr) (h0 : Heap) (n0 : Nat) (Z0 : n0 ≤ h0.size) (Ex : Exa Z h0 x "java/util/ArrayList") (Fs : Fld Z h0 x "java/util/ArrayList" "size" "I" (.int (0 : Int32))) :
    MetFree l (⟨"java/util/Collections", "reverse", "(Ljava/util/List;)V"⟩ : MethodName) (head1 (Jvm.Cond.code (⟨"java/util/Collections", "reverse", "(Ljava/util/List;)V"⟩ : MethodName) jdk_79_method_11_code 7 none :: ws) ({ frames := 1, cells := 0, slots := 0, locals := 13 } : Room)) (fun aa_ U => aa_ = #[(.ref x)] ∧ Z.Warmed39 U.vm ∧ U.heap = h0) (fun _ _ _ _ _ => True) (fun _ U o U' => ∃ v L, o = .returned v ∧ Q150 Z x h0 n0 v U'.heap L ∧ FrameEnd U o U' L ({ frames := 1, cells := 0, slots := 0, locals := 13 } : Room).cells ({ frames := 1, cells := 0, slots := 0, locals := 13 } : Room).slots) := by
  refine MetFree.of_bodySF (plainFor_of_name pn7) hisR ?_
  intro p e s m args below meth c s₁ Bd hml0 hP hK
  obtain ⟨rfl, hZ, hh⟩ := hP
  have hx := Bd.exec
  have hby := Bd.bytes
  have hml : c.maxLocals = 7 := hml0
  have hown : s.vm.findClass "java/util/Collections" = some m.cls := findClass_of_methodNamed Bd.named
  have hnm := (name_of_methodNamed Bd.named Bd.method).1
  have X0 : Stand p l e ({ frames := 1, cells := 0, slots := 0, locals := 13 } : Room) s m #[(.ref x)] below meth c s₁ [] 0 0 := Stand.of_body Bd
  have e0 : s₁.heap = h0 := by rw [← hh, Bd.state]; rfl
  have N0 := Fr.nil n0
  obtain ⟨G, hG⟩ : ∃ G, G = entryFrame m #[(.ref x)] 7 := ⟨_, rfl⟩
  have S0 : own_Go p e below s₁ G s₁ (mkF m 0 #[.val (.ref x), .unset, .unset, .unset, .unset, .unset, .unset] []) := fun tg_ kk_ => castTop (by rw [hG]; first | rfl | simp [entryFrame, mkF, argsToLocals, Value.category, maxLocals]) kk_
  have S1422 : own_Go p e below s₁ G s₁ (mkF m 1 #[.val (.ref x), .unset, .unset, .unset, .unset, .unset, .unset] [(.ref x)]) := fun tg_ kk_ => S0 tg_ (by
    refine XS.aloadN X0.here hx rfl (hb hby d15_0) rfl rfl ?_
    exact kk_)
  obtain ⟨_, T1423, h1423, L1423, X1423, e1423, hQ1423, st1423⟩ := own_callF X0 hx hZ (y := (⟨"java/util/List", "size", "()I"⟩ : MethodName)) (z := (⟨"java/util/ArrayList", "size", "()I"⟩ : MethodName)) hown (hw _ (List.mem_of_getElem? (i := 109) rfl)) (hw _ (List.mem_of_getElem? (i := 110) rfl)) (mvT hZ (hw _ (List.mem_of_getElem? (i := 111) rfl))) (hw _ (List.mem_of_getElem? (i := 112) rfl)) (hw _ (List.mem_of_getElem? (i := 113) rfl)) (hw _ (List.mem_of_getElem? (i := 114) rfl)) (hw _ (List.mem_of_getElem? (i := 115) rfl)) (hw _ (List.mem_of_getElem? (i := 116) rfl)) (hw _ (List.mem_of_getElem? (i := 83) rfl)) (hw _ (List.mem_of_getElem? (i := 117) rfl)) (by decide) 0 (g := (mkF m 1 #[.val (.ref x), .unset, .unset, .unset, .unset, .unset, .unset] [(.ref x)])) rfl (by rw [hml]; rfl) x Ex [] [] (rm16 l Z a0 hw [] x (0 : Int32) h0 n0 Z0 Fs) (lenOf pd5 rfl) rfl (by show 2 * 0 + _ ≤ _; exact Nat.le_of_eq rfl) (hb hby d15_1) (by decide) (by decide) e0 (by decide) (by decide)
  obtain ⟨rfl, N1423, rfl⟩ := hQ1423
  have S1424 : own_Go p e below s₁ G T1423 (mkF m 6 #[.val (.ref x), .unset, .unset, .unset, .unset, .unset, .unset] [(.int (0 : Int32))]) := fun tg_ kk_ => S1422 tg_ (st1423 tg_ kk_)
  have M1423 := Fr.app N0 N1423
  have S1425 : own_Go p e below s₁ G T1423 (mkF m 25 #[.val (.ref x), .val (.int (0 : Int32)), .val (.int (0 : Int32)), .unset, .unset, .unset, .unset] [(.int ((0 : Int32) >>> ((1 : Int32) &&& 31)))]) := fun tg_ kk_ => S1424 tg_ (by
    refine XS.istoreN X1423.here hx rfl (hb hby d15_6) rfl (l' := #[.val (.ref x), .val (.int (0 : Int32)), .unset, .unset, .unset, .unset, .unset]) rfl ?_
    show Steps p.tables e below (T1423.setTop (mkF m 7 #[.val (.ref x), .val (.int (0 : Int32)), .unset, .unset, .unset, .unset, .unset] [])) _
    refine XS.iloadN X1423.here hx rfl (hb hby d15_7) rfl ?_
    show Steps p.tables e below (T1423.setTop (mkF m 8 #[.val (.ref x), .val (.int (0 : Int32)), .unset, .unset, .unset, .unset, .unset] [(.int (0 : Int32))])) _
    refine XS.bipush X1423.here hx rfl (hb hby d15_8) ?_
    show Steps p.tables e below (T1423.setTop (mkF m 10 #[.val (.ref x), .val (.int (0 : Int32)), .unset, .unset, .unset, .unset, .unset] [(.int (18 : Int32)), (.int (0 : Int32))])) _
    refine XS.icmpYes X1423.here hx rfl (pc0 := 10) (pc' := 20) rfl (hb hby d15_10) rfl (XT.ii_lt_t (by decide)) (by decide) (by decide) ?_
    show Steps p.tables e below (T1423.setTop (mkF m 20 #[.val (.ref x), .val (.int (0 : Int32)), .unset, .unset, .unset, .unset, .unset] [])) _
    refine XS.iconst X1423.here hx rfl (hb hby d15_20) ?_
    show Steps p.tables e below (T1423.setTop (mkF m 21 #[.val (.ref x), .val (.int (0 : Int32)), .unset, .unset, .unset, .unset, .unset] [(.int (0 : Int32))])) _
    refine XS.istoreN X1423.here hx rfl (hb hby d15_21) rfl (l' := #[.val (.ref x), .val (.int (0 : Int32)), .val (.int (0 : Int32)), .unset, .unset, .unset, .unset]) rfl ?_
    show Steps p.tables e below (T1423.setTop (mkF m 22 #[.val (.ref x), .val (.int (0 : Int32)), .val (.int (0 : Int32)), .unset, .unset, .unset, .unset] [])) _
    refine XS.iloadN X1423.here hx rfl (hb hby d15_22) rfl ?_
    show Steps p.tables e below (T1423.setTop (mkF m 23 #[.val (.ref x), .val (.int (0 : Int32)), .val (.int (0 : Int32)), .unset, .unset, .unset, .unset] [(.int (0 : Int32))])) _
    refine XS.iconst X1423.here hx rfl (hb hby d15_23) ?_
    show Steps p.tables e below (T1423.setTop (mkF m 24 #[.val (.ref x), .val (.int (0 : Int32)), .val (.int (0 : Int32)), .unset, .unset, .unset, .unset] [(.int (1 : Int32)), (.int (0 : Int32))])) _
    refine XT.ishr X1423.here hx rfl (hb hby d15_24) rfl ?_
    exact kk_)
  rw [show ((0 : Int32) >>> ((1 : Int32) &&& 31)) = (0 : Int32) from by decide +kernel] at S1425
  have S1426 : own_Go p e below s₁ G T1423 (mkF m 29 #[.val (.ref x), .val (.int (0 : Int32)), .val (.int (0 : Int32)), .val (.int (0 : Int32)), .unset, .unset, .unset] [(.int ((0 : Int32) - (1 : Int32)))]) := fun tg_ kk_ => S1425 tg_ (by
    refine XS.istoreN X1423.here hx rfl (hb hby d15_25) rfl (l' := #[.val (.ref x), .val (.int (0 : Int32)), .val (.int (0 : Int32)), .val (.int (0 : Int32)), .unset, .unset, .unset]) rfl ?_
    show Steps p.tables e below (T1423.setTop (mkF m 26 #[.val (.ref x), .val (.int (0 : Int32)), .val (.int (0 : Int32)), .val (.int (0 : Int32)), .unset, .unset, .unset] [])) _
    refine XS.iloadN X1423.here hx rfl (hb hby d15_26) rfl ?_
    show Steps p.tables e below (T1423.setTop (mkF m 27 #[.val (.ref x), .val (.int (0 : Int32)), .val (.int (0 : Int32)), .val (.int (0 : Int32)), .unset, .unset, .unset] [(.int (0 : Int32))])) _
    refine XS.iconst X1423.here hx rfl (hb hby d15_27) ?_
    show Steps p.tables e below (T1423.setTop (mkF m 28 #[.val (.ref x), .val (.int (0 : Int32)), .val (.int (0 : Int32)), .val (.int (0 : Int32)), .unset, .unset, .unset] [(.int (1 : Int32)), (.int (0 : Int32))])) _
    refine XS.isub X1423.here hx rfl (hb hby d15_28) rfl ?_
    exact kk_)
  rw [show ((0 : Int32) - (1 : Int32)) = (-1 : Int32) from by decide +kernel] at S1426
  have S1427 : own_Go p e below s₁ G T1423 (mkF m 124 #[.val (.ref x), .val (.int (0 : Int32)), .val (.int (0 : Int32)), .val (.int (0 : Int32)), .val (.int (-1 : Int32)), .unset, .unset] []) := fun tg_ kk_ => S1426 tg_ (by
    refine XS.istore X1423.here hx rfl (hb hby d15_29) rfl (l' := #[.val (.ref x), .val (.int (0 : Int32)), .val (.int (0 : Int32)), .val (.int (0 : Int32)), .val (.int (-1 : Int32)), .unset, .unset]) rfl ?_
    show Steps p.tables e below (T1423.setTop (mkF m 31 #[.val (.ref x), .val (.int (0 : Int32)), .val (.int (0 : Int32)), .val (.int (0 : Int32)), .val (.int (-1 : Int32)), .unset, .unset] [])) _
    refine XS.iloadN X1423.here hx rfl (hb hby d15_31) rfl ?_
    show Steps p.tables e below (T1423.setTop (mkF m 32 #[.val (.ref x), .val (.int (0 : Int32)), .val (.int (0 : Int32)), .val (.int (0 : Int32)), .val (.int (-1 : Int32)), .unset, .unset] [(.int (0 : Int32))])) _
    refine XS.iloadN X1423.here hx rfl (hb hby d15_32) rfl ?_
    show Steps p.tables e below (T1423.setTop (mkF m 33 #[.val (.ref x), .val (.int (0 : Int32)), .val (.int (0 : Int32)), .val (.int (0 : Int32)), .val (.int (-1 : Int32)), .unset, .unset] [(.int (0 : Int32)), (.int (0 : Int32))])) _
    refine XS.icmpYes X1423.here hx rfl (pc0 := 33) (pc' := 52) rfl (hb hby d15_33) rfl (XT.ii_ge_t (by decide)) (by decide) (by decide) ?_
    show Steps p.tables e below (T1423.setTop (mkF m 52 #[.val (.ref x), .val (.int (0 : Int32)), .val (.int (0 : Int32)), .val (.int (0 : Int32)), .val (.int (-1 : Int32)), .unset, .unset] [])) _
    refine XS.goto X1423.here hx rfl (pc0 := 52) (pc' := 124) rfl (hb hby d15_52) (by decide) (by decide) ?_
    exact kk_)
  obtain ⟨fs, hr, hrun, hended, hW, hsame⟩ := X1423.leave (v := none) (fun _ => rfl)
  refine ⟨_, _, ?_, hrun, hended, _, _, rfl, ?_, ⟨_, rfl⟩, hW, hsame.mono (by decide) (by decide)⟩
  · rw [← hG]; exact S1427 _ (X1423.returnOut hx Bd.returns (hb hby d15_124) hr)
  · show Q150 Z x h0 n0 _ T1423.heap _
    rw [e1423]
    exact ⟨rfl, M1423, rfl⟩
def Q151 (Z : State) (x : Addr) (h0 : Heap) (n0 : Nat) (v : Option Value) (h : Heap) (L : List Loc) : Prop := v = none ∧ Fr n0 L ∧ h0 = h
set_option maxRecDepth 65536 in
set_option maxHeartbeats 40000000 in
theorem rm151 (l : Launch) (Z : State) (a0 : Array Value) (hw : ∀ d ∈ tables_1, d.before a0 Z = true) (ws : List Jvm.Cond) (x : Addr) (h0 : Heap) (n0 : Nat) (Z0 : n0 ≤ h0.size) (Ex : Exa Z h0 x "java/util/ArrayList") (Fs : Fld Z h0 x "java/util/ArrayList" "size" "I" (.int (1 : Int32))) :
    MetFree l (⟨"java/util/Collections", "reverse", "(Ljava/util/List;)V"⟩ : MethodName) (head1 (Jvm.Cond.code (⟨"java/util/Collections", "reverse", "(Ljava/util/List;)V"⟩ : MethodName) jdk_79_method_11_code 7 none :: ws) ({ frames := 1, cells := 0, slots := 0, locals := 13 } : Room)) (fun aa_ U => aa_ = #[(.ref x)] ∧ Z.Warmed39 U.vm ∧ U.heap = h0) (fun _ _ _ _ _ => True) (fun _ U o U' => ∃ v L, o = .returned v ∧ Q151 Z x h0 n0 v U'.heap L ∧ FrameEnd U o U' L ({ frames := 1, cells := 0, slots := 0, locals := 13 } : Room).cells ({ frames := 1, cells := 0, slots := 0, locals := 13 } : Room).slots) := by
  refine MetFree.of_bodySF (plainFor_of_name pn7) hisR ?_
  intro p e s m args below meth c s₁ Bd hml0 hP hK
  obtain ⟨rfl, hZ, hh⟩ := hP
  have hx := Bd.exec
  have hby := Bd.bytes
  have hml : c.maxLocals = 7 := hml0
  have hown : s.vm.findClass "java/util/Collections" = some m.cls := findClass_of_methodNamed Bd.named
  have hnm := (name_of_methodNamed Bd.named Bd.method).1
  have X0 : Stand p l e ({ frames := 1, cells := 0, slots := 0, locals := 13 } : Room) s m #[(.ref x)] below meth c s₁ [] 0 0 := Stand.of_body Bd
  have e0 : s₁.heap = h0 := by rw [← hh, Bd.state]; rfl
  have N0 := Fr.nil n0
  obtain ⟨G, hG⟩ : ∃ G, G = entryFrame m #[(.ref x)] 7 := ⟨_, rfl⟩
  have S0 : own_Go p e below s₁ G s₁ (mkF m 0 #[.val (.ref x), .unset, .unset, .unset, .unset, .unset, .unset] []) := fun tg_ kk_ => castTop (by rw [hG]; first | rfl | simp [entryFrame, mkF, argsToLocals, Value.category, maxLocals]) kk_
  have S1428 : own_Go p e below s₁ G s₁ (mkF m 1 #[.val (.ref x), .unset, .unset, .unset, .unset, .unset, .unset] [(.ref x)]) := fun tg_ kk_ => S0 tg_ (by
    refine XS.aloadN X0.here hx rfl (hb hby d15_0) rfl rfl ?_
    exact kk_)
  obtain ⟨_, T1429, h1429, L1429, X1429, e1429, hQ1429, st1429⟩ := own_callF X0 hx hZ (y := (⟨"java/util/List", "size", "()I"⟩ : MethodName)) (z := (⟨"java/util/ArrayList", "size", "()I"⟩ : MethodName)) hown (hw _ (List.mem_of_getElem? (i := 109) rfl)) (hw _ (List.mem_of_getElem? (i := 110) rfl)) (mvT hZ (hw _ (List.mem_of_getElem? (i := 111) rfl))) (hw _ (List.mem_of_getElem? (i := 112) rfl)) (hw _ (List.mem_of_getElem? (i := 113) rfl)) (hw _ (List.mem_of_getElem? (i := 114) rfl)) (hw _ (List.mem_of_getElem? (i := 115) rfl)) (hw _ (List.mem_of_getElem? (i := 116) rfl)) (hw _ (List.mem_of_getElem? (i := 83) rfl)) (hw _ (List.mem_of_getElem? (i := 117) rfl)) (by decide) 0 (g := (mkF m 1 #[.val (.ref x), .unset, .unset, .unset, .unset, .unset, .unset] [(.ref x)])) rfl (by rw [hml]; rfl) x Ex [] [] (rm16 l Z a0 hw [] x (1 : Int32) h0 n0 Z0 Fs) (lenOf pd5 rfl) rfl (by show 2 * 0 + _ ≤ _; exact Nat.le_of_eq rfl) (hb hby d15_1) (by decide) (by decide) e0 (by decide) (by decide)
  obtain ⟨rfl, N1429, rfl⟩ := hQ1429
  have S1430 : own_Go p e below s₁ G T1429 (mkF m 6 #[.val (.ref x), .unset, .unset, .unset, .unset, .unset, .unset] [(.int (1 : Int32))]) := fun tg_ kk_ => S1428 tg_ (st1429 tg_ kk_)
  have M1429 := Fr.app N0 N1429
  have S1431 : own_Go p e below s₁ G T1429 (mkF m 25 #[.val (.ref x), .val (.int (1 : Int32)), .val (.int (0 : Int32)), .unset, .unset, .unset, .unset] [(.int ((1 : Int32) >>> ((1 : Int32) &&& 31)))]) := fun tg_ kk_ => S1430 tg_ (by
    refine XS.istoreN X1429.here hx rfl (hb hby d15_6) rfl (l' := #[.val (.ref x), .val (.int (1 : Int32)), .unset, .unset, .unset, .unset, .unset]) rfl ?_
    show Steps p.tables e below (T1429.setTop (mkF m 7 #[.val (.ref x), .val (.int (1 : Int32)), .unset, .unset, .unset, .unset, .unset] [])) _
    refine XS.iloadN X1429.here hx rfl (hb hby d15_7) rfl ?_
    show Steps p.tables e below (T1429.setTop (mkF m 8 #[.val (.ref x), .val (.int (1 : Int32)), .unset, .unset, .unset, .unset, .unset] [(.int (1 : Int32))])) _
    refine XS.bipush X1429.here hx rfl (hb hby d15_8) ?_
    show Steps p.tables e below (T1429.setTop (mkF m 10 #[.val (.ref x), .val (.int (1 : Int32)), .unset, .unset, .unset, .unset, .unset] [(.int (18 : Int32)), (.int (1 : Int32))])) _
    refine XS.icmpYes X1429.here hx rfl (pc0 := 10) (pc' := 20) rfl (hb hby d15_10) rfl (XT.ii_lt_t (by decide)) (by decide) (by decide) ?_
    show Steps p.tables e below (T1429.setTop (mkF m 20 #[.val (.ref x), .val (.int (1 : Int32)), .unset, .unset, .unset, .unset, .unset] [])) _
    refine XS.iconst X1429.here hx rfl (hb hby d15_20) ?_
    show Steps p.tables e below (T1429.setTop (mkF m 21 #[.val (.ref x), .val (.int (1 : Int32)), .unset, .unset, .unset, .unset, .unset] [(.int (0 : Int32))])) _
    refine XS.istoreN X1429.here hx rfl (hb hby d15_21) rfl (l' := #[.val (.ref x), .val (.int (1 : Int32)), .val (.int (0 : Int32)), .unset, .unset, .unset, .unset]) rfl ?_
    show Steps p.tables e below (T1429.setTop (mkF m 22 #[.val (.ref x), .val (.int (1 : Int32)), .val (.int (0 : Int32)), .unset, .unset, .unset, .unset] [])) _
    refine XS.iloadN X1429.here hx rfl (hb hby d15_22) rfl ?_
    show Steps p.tables e below (T1429.setTop (mkF m 23 #[.val (.ref x), .val (.int (1 : Int32)), .val (.int (0 : Int32)), .unset, .unset, .unset, .unset] [(.int (1 : Int32))])) _
    refine XS.iconst X1429.here hx rfl (hb hby d15_23) ?_
    show Steps p.tables e below (T1429.setTop (mkF m 24 #[.val (.ref x), .val (.int (1 : Int32)), .val (.int (0 : Int32)), .unset, .unset, .unset, .unset] [(.int (1 : Int32)), (.int (1 : Int32))])) _
    refine XT.ishr X1429.here hx rfl (hb hby d15_24) rfl ?_
    exact kk_)
  rw [show ((1 : Int32) >>> ((1 : Int32) &&& 31)) = (0 : Int32) from by decide +kernel] at S1431
  have S1432 : own_Go p e below s₁ G T1429 (mkF m 29 #[.val (.ref x), .val (.int (1 : Int32)), .val (.int (0 : Int32)), .val (.int (0 : Int32)), .unset, .unset, .unset] [(.int ((1 : Int32) - (1 : Int32)))]) := fun tg_ kk_ => S1431 tg_ (by
    refine XS.istoreN X1429.here hx rfl (hb hby d15_25) rfl (l' := #[.val (.ref x), .val (.int (1 : Int32)), .val (.int (0 : Int32)), .val (.int (0 : Int32)), .unset, .unset, .unset]) rfl ?_
    show Steps p.tables e below (T1429.setTop (mkF m 26 #[.val (.ref x), .val (.int (1 : Int32)), .val (.int (0 : Int32)), .val (.int (0 : Int32)), .unset, .unset, .unset] [])) _
    refine XS.iloadN X1429.here hx rfl (hb hby d15_26) rfl ?_
    show Steps p.tables e below (T1429.setTop (mkF m 27 #[.val (.ref x), .val (.int (1 : Int32)), .val (.int (0 : Int32)), .val (.int (0 : Int32)), .unset, .unset, .unset] [(.int (1 : Int32))])) _
    refine XS.iconst X1429.here hx rfl (hb hby d15_27) ?_
    show Steps p.tables e below (T1429.setTop (mkF m 28 #[.val (.ref x), .val (.int (1 : Int32)), .val (.int (0 : Int32)), .val (.int (0 : Int32)), .unset, .unset, .unset] [(.int (1 : Int32)), (.int (1 : Int32))])) _
    refine XS.isub X1429.here hx rfl (hb hby d15_28) rfl ?_
    exact kk_)
  rw [show ((1 : Int32) - (1 : Int32)) = (0 : Int32) from by decide +kernel] at S1432
  have S1433 : own_Go p e below s₁ G T1429 (mkF m 124 #[.val (.ref x), .val (.int (1 : Int32)), .val (.int (0 : Int32)), .val (.int (0 : Int32)), .val (.int (0 : Int32)), .unset, .unset] []) := fun tg_ kk_ => S1432 tg_ (by
    refine XS.istore X1429.here hx rfl (hb hby d15_29) rfl (l' := #[.val (.ref x), .val (.int (1 : Int32)), .val (.int (0 : Int32)), .val (.int (0 : Int32)), .val (.int (0 : Int32)), .unset, .unset]) rfl ?_
    show Steps p.tables e below (T1429.setTop (mkF m 31 #[.val (.ref x), .val (.int (1 : Int32)), .val (.int (0 : Int32)), .val (.int (0 : Int32)), .val (.int (0 : Int32)), .unset, .unset] [])) _
    refine XS.iloadN X1429.here hx rfl (hb hby d15_31) rfl ?_
    show Steps p.tables e below (T1429.setTop (mkF m 32 #[.val (.ref x), .val (.int (1 : Int32)), .val (.int (0 : Int32)), .val (.int (0 : Int32)), .val (.int (0 : Int32)), .unset, .unset] [(.int (0 : Int32))])) _
    refine XS.iloadN X1429.here hx rfl (hb hby d15_32) rfl ?_
    show Steps p.tables e below (T1429.setTop (mkF m 33 #[.val (.ref x), .val (.int (1 : Int32)), .val (.int (0 : Int32)), .val (.int (0 : Int32)), .val (.int (0 : Int32)), .unset, .unset] [(.int (0 : Int32)), (.int (0 : Int32))])) _
    refine XS.icmpYes X1429.here hx rfl (pc0 := 33) (pc' := 52) rfl (hb hby d15_33) rfl (XT.ii_ge_t (by decide)) (by decide) (by decide) ?_
    show Steps p.tables e below (T1429.setTop (mkF m 52 #[.val (.ref x), .val (.int (1 : Int32)), .val (.int (0 : Int32)), .val (.int (0 : Int32)), .val (.int (0 : Int32)), .unset, .unset] [])) _
    refine XS.goto X1429.here hx rfl (pc0 := 52) (pc' := 124) rfl (hb hby d15_52) (by decide) (by decide) ?_
    exact kk_)
  obtain ⟨fs, hr, hrun, hended, hW, hsame⟩ := X1429.leave (v := none) (fun _ => rfl)
  refine ⟨_, _, ?_, hrun, hended, _, _, rfl, ?_, ⟨_, rfl⟩, hW, hsame.mono (by decide) (by decide)⟩
  · rw [← hG]; exact S1433 _ (X1429.returnOut hx Bd.returns (hb hby d15_124) hr)
  · show Q151 Z x h0 n0 _ T1429.heap _
    rw [e1429]
    exact ⟨rfl, M1429, rfl⟩
theorem pn8 : plainName "jdk/internal/util/Preconditions" = true := by first | (simp [plainName, overriddenIn]; done) | decide +kernel
def Q25 (Z : State)  (h0 : Heap) (n0 : Nat) (v : Option Value) (h : Heap) (L : List Loc) : Prop := v = some (.int 0) ∧ Fr n0 L ∧ h0 = h
set_option maxRecDepth 65536 in
set_option maxHeartbeats 40000000 in
theorem rm25 (l : Launch) (Z : State) (a0 : Array Value) (hw : ∀ d ∈ tables_1, d.before a0 Z = true) (ws : List Jvm.Cond)  (h0 : Heap) (n0 : Nat) (Z0 : n0 ≤ h0.size)  :
    MetFree l (⟨"jdk/internal/util/Preconditions", "checkIndex", "(IILjava/util/function/BiFunction;)I"⟩ : MethodName) (head1 (Jvm.Cond.code (⟨"jdk/internal/util/Preconditions", "checkIndex", "(IILjava/util/function/BiFunction;)I"⟩ : MethodName) jdk_41_method_11_code 3 (some .int) :: ws) ({ frames := 0, cells := 0, slots := 0, locals := 0 } : Room)) (fun aa_ U => aa_ = #[(.int (0 : Int32)), (.int (1 : Int32)), .null] ∧ Z.Warmed39 U.vm ∧ U.heap = h0) (fun _ _ _ _ _ => True) (fun _ U o U' => ∃ v L, o = .returned v ∧ Q25 Z h0 n0 v U'.heap L ∧ FrameEnd U o U' L ({ frames := 0, cells := 0, slots := 0, locals := 0 } : Room).cells ({ frames := 0, cells := 0, slots := 0, locals := 0 } : Room).slots) := by
  refine MetFree.of_bodySF (plainFor_of_name pn8) hisR ?_
  intro p e s m args below meth c s₁ Bd hml0 hP hK
  obtain ⟨rfl, hZ, hh⟩ := hP
  have hx := Bd.exec
  have hby := Bd.bytes
  have hml : c.maxLocals = 3 := hml0
  have hown : s.vm.findClass "jdk/internal/util/Preconditions" = some m.cls := findClass_of_methodNamed Bd.named
  have hnm := (name_of_methodNamed Bd.named Bd.method).1
  have X0 : Stand p l e ({ frames := 0, cells := 0, slots := 0, locals := 0 } : Room) s m #[(.int (0 : Int32)), (.int (1 : Int32)), .null] below meth c s₁ [] 0 0 := Stand.of_body Bd
  have e0 : s₁.heap = h0 := by rw [← hh, Bd.state]; rfl
  have N0 := Fr.nil n0
  obtain ⟨G, hG⟩ : ∃ G, G = entryFrame m #[(.int (0 : Int32)), (.int (1 : Int32)), .null] 3 := ⟨_, rfl⟩
  have S0 : own_Go p e below s₁ G s₁ (mkF m 0 #[.val (.int (0 : Int32)), .val (.int (1 : Int32)), .val .null] []) := fun tg_ kk_ => castTop (by rw [hG]; first | rfl | simp [entryFrame, mkF, argsToLocals, Value.category, maxLocals]) kk_
  have S1434 : own_Go p e below s₁ G s₁ (mkF m 17 #[.val (.int (0 : Int32)), .val (.int (1 : Int32)), .val .null] [(.int (0 : Int32))]) := fun tg_ kk_ => S0 tg_ (by
    refine XS.iloadN X0.here hx rfl (hb hby d25_0) rfl ?_
    show Steps p.tables e below (s₁.setTop (mkF m 1 #[.val (.int (0 : Int32)), .val (.int (1 : Int32)), .val .null] [(.int (0 : Int32))])) _
    refine XS.ifNo X0.here hx rfl (hb hby d25_1) rfl (XT.i0_lt_f (by decide)) ?_
    show Steps p.tables e below (s₁.setTop (mkF m 4 #[.val (.int (0 : Int32)), .val (.int (1 : Int32)), .val .null] [])) _
    refine XS.iloadN X0.here hx rfl (hb hby d25_4) rfl ?_
    show Steps p.tables e below (s₁.setTop (mkF m 5 #[.val (.int (0 : Int32)), .val (.int (1 : Int32)), .val .null] [(.int (0 : Int32))])) _
    refine XS.iloadN X0.here hx rfl (hb hby d25_5) rfl ?_
    show Steps p.tables e below (s₁.setTop (mkF m 6 #[.val (.int (0 : Int32)), .val (.int (1 : Int32)), .val .null] [(.int (1 : Int32)), (.int (0 : Int32))])) _
    refine XS.icmpYes X0.here hx rfl (pc0 := 6) (pc' := 16) rfl (hb hby d25_6) rfl (XT.ii_lt_t (by decide)) (by decide) (by decide) ?_
    show Steps p.tables e below (s₁.setTop (mkF m 16 #[.val (.int (0 : Int32)), .val (.int (1 : Int32)), .val .null] [])) _
    refine XS.iloadN X0.here hx rfl (hb hby d25_16) rfl ?_
    exact kk_)
  obtain ⟨fs, hr, hrun, hended, hW, hsame⟩ := X0.leave (v := some (.int (0 : Int32))) (fun h => by rw [Bd.returns] at h; cases h)
  refine ⟨_, _, ?_, hrun, hended, _, _, rfl, ?_, ⟨_, rfl⟩, hW, hsame.mono (by decide) (by decide)⟩
  · rw [← hG]; exact S1434 _ (retI X0 hx Bd.returns (hb hby d25_17) hr)
  · show Q25 Z h0 n0 _ s₁.heap _
    rw [e0]
    exact ⟨rfl, N0, rfl⟩
theorem pn9 : plainName "java/util/Objects" = true := by first | (simp [plainName, overriddenIn]; done) | decide +kernel
def Q24 (Z : State)  (h0 : Heap) (n0 : Nat) (v : Option Value) (h : Heap) (L : List Loc) : Prop := v = some (.int 0) ∧ Fr n0 L ∧ h0 = h
set_option maxRecDepth 65536 in
set_option maxHeartbeats 40000000 in
theorem rm24 (l : Launch) (Z : State) (a0 : Array Value) (hw : ∀ d ∈ tables_1, d.before a0 Z = true) (ws : List Jvm.Cond)  (h0 : Heap) (n0 : Nat) (Z0 : n0 ≤ h0.size)  :
    MetFree l (⟨"java/util/Objects", "checkIndex", "(II)I"⟩ : MethodName) (head1 (Jvm.Cond.code (⟨"java/util/Objects", "checkIndex", "(II)I"⟩ : MethodName) jdk_31_method_17_code 2 (some .int) :: ws) ({ frames := 1, cells := 0, slots := 0, locals := 15 } : Room)) (fun aa_ U => aa_ = #[(.int (0 : Int32)), (.int (1 : Int32))] ∧ Z.Warmed39 U.vm ∧ U.heap = h0) (fun _ _ _ _ _ => True) (fun _ U o U' => ∃ v L, o = .returned v ∧ Q24 Z h0 n0 v U'.heap L ∧ FrameEnd U o U' L ({ frames := 1, cells := 0, slots := 0, locals := 15 } : Room).cells ({ frames := 1, cells := 0, slots := 0, locals := 15 } : Room).slots) := by
  refine MetFree.of_bodySF (plainFor_of_name pn9) hisR ?_
  intro p e s m args below meth c s₁ Bd hml0 hP hK
  obtain ⟨rfl, hZ, hh⟩ := hP
  have hx := Bd.exec
  have hby := Bd.bytes
  have hml : c.maxLocals = 2 := hml0
  have hown : s.vm.findClass "java/util/Objects" = some m.cls := findClass_of_methodNamed Bd.named
  have hnm := (name_of_methodNamed Bd.named Bd.method).1
  have X0 : Stand p l e ({ frames := 1, cells := 0, slots := 0, locals := 15 } : Room) s m #[(.int (0 : Int32)), (.int (1 : Int32))] below meth c s₁ [] 0 0 := Stand.of_body Bd
  have e0 : s₁.heap = h0 := by rw [← hh, Bd.state]; rfl
  have N0 := Fr.nil n0
  obtain ⟨G, hG⟩ : ∃ G, G = entryFrame m #[(.int (0 : Int32)), (.int (1 : Int32))] 2 := ⟨_, rfl⟩
  have S0 : own_Go p e below s₁ G s₁ (mkF m 0 #[.val (.int (0 : Int32)), .val (.int (1 : Int32))] []) := fun tg_ kk_ => castTop (by rw [hG]; first | rfl | simp [entryFrame, mkF, argsToLocals, Value.category, maxLocals]) kk_
  have S1435 : own_Go p e below s₁ G s₁ (mkF m 3 #[.val (.int (0 : Int32)), .val (.int (1 : Int32))] [.null, (.int (1 : Int32)), (.int (0 : Int32))]) := fun tg_ kk_ => S0 tg_ (by
    refine XS.iloadN X0.here hx rfl (hb hby d24_0) rfl ?_
    show Steps p.tables e below (s₁.setTop (mkF m 1 #[.val (.int (0 : Int32)), .val (.int (1 : Int32))] [(.int (0 : Int32))])) _
    refine XS.iloadN X0.here hx rfl (hb hby d24_1) rfl ?_
    show Steps p.tables e below (s₁.setTop (mkF m 2 #[.val (.int (0 : Int32)), .val (.int (1 : Int32))] [(.int (1 : Int32)), (.int (0 : Int32))])) _
    refine XS.aconstNull X0.here hx rfl (hb hby d24_2) ?_
    exact kk_)
  obtain ⟨_, T1436, h1436, L1436, X1436, e1436, hQ1436, st1436⟩ := own_callS X0 hx hZ (y := (⟨"jdk/internal/util/Preconditions", "checkIndex", "(IILjava/util/function/BiFunction;)I"⟩ : MethodName)) hown (hw _ (List.mem_of_getElem? (i := 174) rfl)) (hw _ (List.mem_of_getElem? (i := 175) rfl)) (hw _ (List.mem_of_getElem? (i := 176) rfl)) (hw _ (List.mem_of_getElem? (i := 177) rfl)) (by decide) 0 (g := (mkF m 3 #[.val (.int (0 : Int32)), .val (.int (1 : Int32))] [.null, (.int (1 : Int32)), (.int (0 : Int32))])) rfl (by rw [hml]; rfl) [(.int (0 : Int32)), (.int (1 : Int32)), .null] [] (rm25 l Z a0 hw [] h0 n0 Z0) (lenOf pd19 rfl) rfl (by show 2 * 0 + _ ≤ _; exact Nat.le_of_eq rfl) (hb hby d24_3) (by decide) (by decide) e0 (by decide) (by decide)
  obtain ⟨rfl, N1436, rfl⟩ := hQ1436
  have S1437 : own_Go p e below s₁ G T1436 (mkF m 6 #[.val (.int (0 : Int32)), .val (.int (1 : Int32))] [(.int (0 : Int32))]) := fun tg_ kk_ => S1435 tg_ (st1436 tg_ kk_)
  have M1436 := Fr.app N0 N1436
  obtain ⟨fs, hr, hrun, hended, hW, hsame⟩ := X1436.leave (v := some (.int (0 : Int32))) (fun h => by rw [Bd.returns] at h; cases h)
  refine ⟨_, _, ?_, hrun, hended, _, _, rfl, ?_, ⟨_, rfl⟩, hW, hsame.mono (by decide) (by decide)⟩
  · rw [← hG]; exact S1437 _ (retI X1436 hx Bd.returns (hb hby d24_6) hr)
  · show Q24 Z h0 n0 _ T1436.heap _
    rw [e1436]
    exact ⟨rfl, M1436, rfl⟩
def Q26 (Z : State) (x : Addr) (d : Addr) (y : Addr) (h0 : Heap) (n0 : Nat) (v : Option Value) (h : Heap) (L : List Loc) : Prop := v = some (.ref y) ∧ Fr n0 L ∧ h0 = h
set_option maxRecDepth 65536 in
set_option maxHeartbeats 40000000 in
theorem rm26 (l : Launch) (Z : State) (a0 : Array Value) (hw : ∀ d ∈ tables_1, d.before a0 Z = true) (ws : List Jvm.Cond) (x : Addr) (d : Addr) (y : Addr) (h0 : Heap) (n0 : Nat) (Z0 : n0 ≤ h0.size) (Ex : Exa Z h0 x "java/util/ArrayList") (Fe : Fld Z h0 x "java/util/ArrayList" "elementData" "[Ljava/lang/Object;" (.ref d)) (Fs : Fld Z h0 x "java/util/ArrayList" "size" "I" (.int (1 : Int32))) (qa : ClassId) (Va : Arv Z h0 d qa (.object "java/lang/Object") 10 [.ref y] .null) :
    MetFree l (⟨"java/util/ArrayList", "elementData", "(I)Ljava/lang/Object;"⟩ : MethodName) (head1 (Jvm.Cond.code (⟨"java/util/ArrayList", "elementData", "(I)Ljava/lang/Object;"⟩ : MethodName) jdk_38_method_18_code 2 (some (.object "java/lang/Object")) :: ws) ({ frames := 0, cells := 0, slots := 0, locals := 0 } : Room)) (fun aa_ U => aa_ = #[(.ref x), (.int (0 : Int32))] ∧ Z.Warmed39 U.vm ∧ U.heap = h0) (fun _ _ _ _ _ => True) (fun _ U o U' => ∃ v L, o = .returned v ∧ Q26 Z x d y h0 n0 v U'.heap L ∧ FrameEnd U o U' L ({ frames := 0, cells := 0, slots := 0, locals := 0 } : Room).cells ({ frames := 0, cells := 0, slots := 0, locals := 0 } : Room).slots) := by
  refine MetFree.of_bodySF (plainFor_of_name pn6) hisR ?_
  intro p e s m args below meth c s₁ Bd hml0 hP hK
  obtain ⟨rfl, hZ, hh⟩ := hP
  have hx := Bd.exec
  have hby := Bd.bytes
  have hml : c.maxLocals = 2 := hml0
  have hown : s.vm.findClass "java/util/ArrayList" = some m.cls := findClass_of_methodNamed Bd.named
  have hnm := (name_of_methodNamed Bd.named Bd.method).1
  have X0 : Stand p l e ({ frames := 0, cells := 0, slots := 0, locals := 0 } : Room) s m #[(.ref x), (.int (0 : Int32))] below meth c s₁ [] 0 0 := Stand.of_body Bd
  have e0 : s₁.heap = h0 := by rw [← hh, Bd.state]; rfl
  have N0 := Fr.nil n0
  obtain ⟨G, hG⟩ : ∃ G, G = entryFrame m #[(.ref x), (.int (0 : Int32))] 2 := ⟨_, rfl⟩
  have S0 : own_Go p e below s₁ G s₁ (mkF m 0 #[.val (.ref x), .val (.int (0 : Int32))] []) := fun tg_ kk_ => castTop (by rw [hG]; first | rfl | simp [entryFrame, mkF, argsToLocals, Value.category, maxLocals]) kk_
  have S1438 : own_Go p e below s₁ G s₁ (mkF m 1 #[.val (.ref x), .val (.int (0 : Int32))] [(.ref x)]) := fun tg_ kk_ => S0 tg_ (by
    refine XS.aloadN X0.here hx rfl (hb hby d26_0) rfl rfl ?_
    exact kk_)
  obtain ⟨T1439, X1439, e1439, st1439⟩ := getF X0 hx hZ hown (host := "") (Or.inl (hw _ (List.mem_of_getElem? (i := 103) rfl))) Via.refl e0 Fe (g := (mkF m 1 #[.val (.ref x), .val (.int (0 : Int32))] [(.ref x)])) rfl rfl (hb hby d26_1)
  have S1440 : own_Go p e below s₁ G T1439 (mkF m 4 #[.val (.ref x), .val (.int (0 : Int32))] [(.ref d)]) := fun tg_ kk_ => S1438 tg_ (st1439 tg_ kk_)
  have S1441 : own_Go p e below s₁ G T1439 (mkF m 5 #[.val (.ref x), .val (.int (0 : Int32))] [(.int (0 : Int32)), (.ref d)]) := fun tg_ kk_ => S1440 tg_ (by
    refine XS.iloadN X1439.here hx rfl (hb hby d26_4) rfl ?_
    exact kk_)
  obtain ⟨cl1442, B1442, -, z1442, -, H1442, -⟩ := id (Va)
  have S1443 : own_Go p e below s₁ G T1439 (mkF m 6 #[.val (.ref x), .val (.int (0 : Int32))] [(.ref y)]) := fun tg_ kk_ => S1441 tg_ (by
    refine X1439.aaload hx (j := (0 : Int32)) (v := (.ref y)) (cell := cl1442) (by rw [e1439]; exact B1442.1) (State.isArrayOf_alike hZ.alike B1442.2.1) rfl B1442.2.2 (inb_of z1442 (by decide)) (H1442.at (inb_of z1442 (by decide)) rfl) (g := (mkF m 5 #[.val (.ref x), .val (.int (0 : Int32))] [(.int (0 : Int32)), (.ref d)])) rfl rfl (hb hby d26_5) _ ?_
    exact kk_)
  obtain ⟨fs, hr, hrun, hended, hW, hsame⟩ := X1439.leave (v := some (.ref y)) (fun h => by rw [Bd.returns] at h; cases h)
  refine ⟨_, _, ?_, hrun, hended, _, _, rfl, ?_, ⟨_, rfl⟩, hW, hsame.mono (by decide) (by decide)⟩
  · rw [← hG]; exact S1443 _ (retOut X1439 hx Bd.returns (by first | rfl | cases (.ref y) <;> rfl) (Or.inr (Or.inr (Or.inr (Or.inr ⟨rfl, rfl, rfl⟩)))) (hb hby d26_6) hr)
  · show Q26 Z x d y h0 n0 _ T1439.heap _
    rw [e1439]
    exact ⟨rfl, N0, rfl⟩
def Q23 (Z : State) (x : Addr) (d : Addr) (y : Addr) (h0 : Heap) (n0 : Nat) (v : Option Value) (h : Heap) (L : List Loc) : Prop := v = some (.ref y) ∧ Fr n0 L ∧ h0 = h
set_option maxRecDepth 65536 in
set_option maxHeartbeats 40000000 in
theorem rm23 (l : Launch) (Z : State) (a0 : Array Value) (hw : ∀ d ∈ tables_1, d.before a0 Z = true) (ws : List Jvm.Cond) (x : Addr) (d : Addr) (y : Addr) (h0 : Heap) (n0 : Nat) (Z0 : n0 ≤ h0.size) (Ex : Exa Z h0 x "java/util/ArrayList") (Fe : Fld Z h0 x "java/util/ArrayList" "elementData" "[Ljava/lang/Object;" (.ref d)) (Fs : Fld Z h0 x "java/util/ArrayList" "size" "I" (.int (1 : Int32))) (qa : ClassId) (Va : Arv Z h0 d qa (.object "java/lang/Object") 10 [.ref y] .null) :
    MetFree l (⟨"java/util/ArrayList", "get", "(I)Ljava/lang/Object;"⟩ : MethodName) (head1 (Jvm.Cond.code (⟨"java/util/ArrayList", "get", "(I)Ljava/lang/Object;"⟩ : MethodName) jdk_38_method_20_code 2 (some (.object "java/lang/Object")) :: ws) ({ frames := 2, cells := 0, slots := 0, locals := 29 } : Room)) (fun aa_ U => aa_ = #[(.ref x), (.int (0 : Int32))] ∧ Z.Warmed39 U.vm ∧ U.heap = h0) (fun _ _ _ _ _ => True) (fun _ U o U' => ∃ v L, o = .returned v ∧ Q23 Z x d y h0 n0 v U'.heap L ∧ FrameEnd U o U' L ({ frames := 2, cells := 0, slots := 0, locals := 29 } : Room).cells ({ frames := 2, cells := 0, slots := 0, locals := 29 } : Room).slots) := by
  refine MetFree.of_bodySF (plainFor_of_name pn6) hisR ?_
  intro p e s m args below meth c s₁ Bd hml0 hP hK
  obtain ⟨rfl, hZ, hh⟩ := hP
  have hx := Bd.exec
  have hby := Bd.bytes
  have hml : c.maxLocals = 2 := hml0
  have hown : s.vm.findClass "java/util/ArrayList" = some m.cls := findClass_of_methodNamed Bd.named
  have hnm := (name_of_methodNamed Bd.named Bd.method).1
  have X0 : Stand p l e ({ frames := 2, cells := 0, slots := 0, locals := 29 } : Room) s m #[(.ref x), (.int (0 : Int32))] below meth c s₁ [] 0 0 := Stand.of_body Bd
  have e0 : s₁.heap = h0 := by rw [← hh, Bd.state]; rfl
  have N0 := Fr.nil n0
  obtain ⟨G, hG⟩ : ∃ G, G = entryFrame m #[(.ref x), (.int (0 : Int32))] 2 := ⟨_, rfl⟩
  have S0 : own_Go p e below s₁ G s₁ (mkF m 0 #[.val (.ref x), .val (.int (0 : Int32))] []) := fun tg_ kk_ => castTop (by rw [hG]; first | rfl | simp [entryFrame, mkF, argsToLocals, Value.category, maxLocals]) kk_
  have S1444 : own_Go p e below s₁ G s₁ (mkF m 2 #[.val (.ref x), .val (.int (0 : Int32))] [(.ref x), (.int (0 : Int32))]) := fun tg_ kk_ => S0 tg_ (by
    refine XS.iloadN X0.here hx rfl (hb hby d23_0) rfl ?_
    show Steps p.tables e below (s₁.setTop (mkF m 1 #[.val (.ref x), .val (.int (0 : Int32))] [(.int (0 : Int32))])) _
    refine XS.aloadN X0.here hx rfl (hb hby d23_1) rfl rfl ?_
    exact kk_)
  obtain ⟨T1445, X1445, e1445, st1445⟩ := getF X0 hx hZ hown (host := "") (Or.inl (hw _ (List.mem_of_getElem? (i := 118) rfl))) Via.refl e0 Fs (g := (mkF m 2 #[.val (.ref x), .val (.int (0 : Int32))] [(.ref x), (.int (0 : Int32))])) rfl rfl (hb hby d23_2)
  have S1446 : own_Go p e below s₁ G T1445 (mkF m 5 #[.val (.ref x), .val (.int (0 : Int32))] [(.int (1 : Int32)), (.int (0 : Int32))]) := fun tg_ kk_ => S1444 tg_ (st1445 tg_ kk_)
  obtain ⟨_, T1447, h1447, L1447, X1447, e1447, hQ1447, st1447⟩ := own_callS X1445 hx hZ (y := (⟨"java/util/Objects", "checkIndex", "(II)I"⟩ : MethodName)) hown (hw _ (List.mem_of_getElem? (i := 170) rfl)) (hw _ (List.mem_of_getElem? (i := 171) rfl)) (hw _ (List.mem_of_getElem? (i := 172) rfl)) (hw _ (List.mem_of_getElem? (i := 173) rfl)) (by decide) 0 (g := (mkF m 5 #[.val (.ref x), .val (.int (0 : Int32))] [(.int (1 : Int32)), (.int (0 : Int32))])) rfl (by rw [hml]; rfl) [(.int (0 : Int32)), (.int (1 : Int32))] [] (rm24 l Z a0 hw [] h0 n0 Z0) (lenOf pd17 rfl) rfl (by show 2 * 0 + _ ≤ _; exact Nat.le_of_eq rfl) (hb hby d23_5) (by decide) (by decide) e1445 (by decide) (by decide)
  obtain ⟨rfl, N1447, rfl⟩ := hQ1447
  have S1448 : own_Go p e below s₁ G T1447 (mkF m 8 #[.val (.ref x), .val (.int (0 : Int32))] [(.int (0 : Int32))]) := fun tg_ kk_ => S1446 tg_ (st1447 tg_ kk_)
  have M1447 := Fr.app N0 N1447
  have S1449 : own_Go p e below s₁ G T1447 (mkF m 11 #[.val (.ref x), .val (.int (0 : Int32))] [(.int (0 : Int32)), (.ref x)]) := fun tg_ kk_ => S1448 tg_ (by
    refine XT.pop X1447.here hx rfl (hb hby d23_8) rfl rfl ?_
    show Steps p.tables e below (T1447.setTop (mkF m 9 #[.val (.ref x), .val (.int (0 : Int32))] [])) _
    refine XS.aloadN X1447.here hx rfl (hb hby d23_9) rfl rfl ?_
    show Steps p.tables e below (T1447.setTop (mkF m 10 #[.val (.ref x), .val (.int (0 : Int32))] [(.ref x)])) _
    refine XS.iloadN X1447.here hx rfl (hb hby d23_10) rfl ?_
    exact kk_)
  obtain ⟨_, T1450, h1450, L1450, X1450, e1450, hQ1450, st1450⟩ := own_callV X1447 hx hZ (y := (⟨"java/util/ArrayList", "elementData", "(I)Ljava/lang/Object;"⟩ : MethodName)) hown (hw _ (List.mem_of_getElem? (i := 178) rfl)) (hw _ (List.mem_of_getElem? (i := 179) rfl)) (hw _ (List.mem_of_getElem? (i := 181) rfl)) (hw _ (List.mem_of_getElem? (i := 180) rfl)) (hw _ (List.mem_of_getElem? (i := 83) rfl)) (hw _ (List.mem_of_getElem? (i := 182) rfl)) (by decide) 0 (g := (mkF m 11 #[.val (.ref x), .val (.int (0 : Int32))] [(.int (0 : Int32)), (.ref x)])) rfl (by rw [hml]; rfl) x Ex [(.int (0 : Int32))] [] (rm26 l Z a0 hw [] x d y h0 n0 Z0 Ex Fe Fs qa Va) (lenOf pd18 rfl) rfl (by show 2 * 0 + _ ≤ _; exact Nat.le_of_eq rfl) (hb hby d23_11) (by decide) (by decide) e1447 (by decide) (by decide)
  obtain ⟨rfl, N1450, rfl⟩ := hQ1450
  have S1451 : own_Go p e below s₁ G T1450 (mkF m 14 #[.val (.ref x), .val (.int (0 : Int32))] [(.ref y)]) := fun tg_ kk_ => S1449 tg_ (st1450 tg_ kk_)
  have M1450 := Fr.app M1447 N1450
  obtain ⟨fs, hr, hrun, hended, hW, hsame⟩ := X1450.leave (v := some (.ref y)) (fun h => by rw [Bd.returns] at h; cases h)
  refine ⟨_, _, ?_, hrun, hended, _, _, rfl, ?_, ⟨_, rfl⟩, hW, hsame.mono (by decide) (by decide)⟩
  · rw [← hG]; exact S1451 _ (retOut X1450 hx Bd.returns (by first | rfl | cases (.ref y) <;> rfl) (Or.inr (Or.inr (Or.inr (Or.inr ⟨rfl, rfl, rfl⟩)))) (hb hby d23_14) hr)
  · show Q23 Z x d y h0 n0 _ T1450.heap _
    rw [e1450]
    exact ⟨rfl, M1450, rfl⟩
def Q11e (Z : State) (a : Addr) (pr : Addr) (mv : Addr) (dd : Addr) (nm : Int32) (h0 : Heap) (n0 : Nat) (v : Option Value) (h : Heap) (L : List Loc) : Prop := ∃ x, v = some (.ref x) ∧ Fr n0 L ∧ Keep h0 h [] ∧ Exa Z h x "java/util/ArrayList" ∧ Fld Z h x "java/util/ArrayList" "size" "I" (.int (0 : Int32))
set_option maxRecDepth 65536 in
set_option maxHeartbeats 40000000 in
theorem rm11e (l : Launch) (Z : State) (a0 : Array Value) (hw : ∀ d ∈ tables_1, d.before a0 Z = true) (ws : List Jvm.Cond) (a : Addr) (pr : Addr) (mv : Addr) (dd : Addr) (nm : Int32) (h0 : Heap) (n0 : Nat) (Z0 : n0 ≤ h0.size) (NP : own_NP Z h0 a pr mv (-1 : Int32) nm) (O : Old Z n0 h0) (SD : Sta Z Z.heap "java/util/ArrayList" "DEFAULTCAPACITY_EMPTY_ELEMENTDATA" "[Ljava/lang/Object;" (.ref dd)) (qd : ClassId) (VD : Arv Z Z.heap dd qd (.object "java/lang/Object") 0 [] .null)  :
    MetFree l (⟨"com/example/tileshift/tileshift/NodeTable", "path", "(I)Ljava/util/List;"⟩ : MethodName) (head1 (Jvm.Cond.code (⟨"com/example/tileshift/tileshift/NodeTable", "path", "(I)Ljava/util/List;"⟩ : MethodName) prog_40_method_12_code 4 (some (.object "java/util/List")) :: ws) ({ frames := 5, cells := 2, slots := 13, locals := 90 } : Room)) (fun aa_ U => aa_ = #[(.ref a), (.int (1 : Int32))] ∧ Z.Warmed39 U.vm ∧ U.heap = h0) (fun _ _ _ _ _ => True) (fun _ U o U' => ∃ v L, o = .returned v ∧ Q11e Z a pr mv dd nm h0 n0 v U'.heap L ∧ FrameEnd U o U' L ({ frames := 5, cells := 2, slots := 13, locals := 90 } : Room).cells ({ frames := 5, cells := 2, slots := 13, locals := 90 } : Room).slots) := by
  refine MetFree.of_bodySF (plainFor_of_name pn2) hisR ?_
  intro p e s m args below meth c s₁ Bd hml0 hP hK
  obtain ⟨rfl, hZ, hh⟩ := hP
  have hx := Bd.exec
  have hby := Bd.bytes
  have hml : c.maxLocals = 4 := hml0
  have hown : s.vm.findClass "com/example/tileshift/tileshift/NodeTable" = some m.cls := findClass_of_methodNamed Bd.named
  have hnm := (name_of_methodNamed Bd.named Bd.method).1
  have X0 : Stand p l e ({ frames := 5, cells := 2, slots := 13, locals := 90 } : Room) s m #[(.ref a), (.int (1 : Int32))] below meth c s₁ [] 0 0 := Stand.of_body Bd
  have e0 : s₁.heap = h0 := by rw [← hh, Bd.state]; rfl
  have N0 := Fr.nil n0
  obtain ⟨G, hG⟩ : ∃ G, G = entryFrame m #[(.ref a), (.int (1 : Int32))] 4 := ⟨_, rfl⟩
  have S0 : own_Go p e below s₁ G s₁ (mkF m 0 #[.val (.ref a), .val (.int (1 : Int32)), .unset, .unset] []) := fun tg_ kk_ => castTop (by rw [hG]; first | rfl | simp [entryFrame, mkF, argsToLocals, Value.category, maxLocals]) kk_
  obtain ⟨oo1, oo2, xE, xp, xm, ⟨qp, yp⟩, ⟨qm, ym⟩⟩ := NP
  obtain ⟨T1452, h1452, X1452, e1452, E1452, A1452, D1452, -, st1452⟩ := newO X0 hx hZ hown (hw _ (List.mem_of_getElem? (i := 81) rfl)) (hw _ (List.mem_of_getElem? (i := 82) rfl)) (hw _ (List.mem_of_getElem? (i := 83) rfl)) e0 (g := (mkF m 0 #[.val (.ref a), .val (.int (1 : Int32)), .unset, .unset] [])) rfl (hb hby d11_0) (by decide) (by decide)
  obtain ⟨a1452, g1452⟩ : ∃ z, z = h0.size := ⟨_, rfl⟩
  rw [← g1452] at A1452 D1452 st1452
  have S1453 : own_Go p e below s₁ G T1452 (mkF m 3 #[.val (.ref a), .val (.int (1 : Int32)), .unset, .unset] [(.ref a1452)]) := fun tg_ kk_ => S0 tg_ (st1452 tg_ kk_)
  have o1454 : @LT.lt Nat instLTNat a a1452 := Nat.lt_of_lt_of_le xE.lt (Nat.le_of_eq g1452.symm)
  have o1455 : @LT.lt Nat instLTNat pr a1452 := Nat.lt_of_lt_of_le yp.lt (Nat.le_of_eq g1452.symm)
  have o1456 : @LT.lt Nat instLTNat mv a1452 := Nat.lt_of_lt_of_le ym.lt (Nat.le_of_eq g1452.symm)
  have o1457 : @LE.le Nat instLENat (n0) a1452 := Nat.le_trans Z0 (Nat.le_of_eq g1452.symm)
  have o1458 : @LE.le Nat instLENat (h0.size) a1452 := Nat.le_trans (Keep.refl h0 []).1 (Nat.le_of_eq g1452.symm)
  have f1459 := xE.ext E1452
  have f1460 := xp.ext E1452
  have f1461 := xm.ext E1452
  have f1462 := yp.ext E1452
  have f1463 := ym.ext E1452
  have f1464 := O.ext E1452
  have f1465 := own_sub Z0 E1452
  have f1466 := Keep.ext (Keep.refl h0 []) E1452
  have f1467 : Fld Z h1452 a1452 "java/util/ArrayList" "elementData" "[Ljava/lang/Object;" .null := D1452 (Or.inl (hw _ (List.mem_of_getElem? (i := 104) rfl))) (ty := (.array (.object "java/lang/Object"))) (by decide)
  have f1468 : Fld Z h1452 a1452 "java/util/ArrayList" "size" "I" (.int 0) := D1452 (Or.inl (hw _ (List.mem_of_getElem? (i := 119) rfl))) (ty := .int) (by decide)
  have f1469 : Fld Z h1452 a1452 "java/util/AbstractList" "modCount" "I" (.int 0) := D1452 (Or.inl (hw _ (List.mem_of_getElem? (i := 101) rfl))) (ty := .int) (by decide)
  have hx0 : @LE.le Nat instLENat (n0) a1452 := by omega
  have S1470 : own_Go p e below s₁ G T1452 (mkF m 4 #[.val (.ref a), .val (.int (1 : Int32)), .unset, .unset] [(.ref a1452), (.ref a1452)]) := fun tg_ kk_ => S1453 tg_ (by
    refine XS.dup X1452.here hx rfl (hb hby d11_3) rfl rfl ?_
    exact kk_)
  obtain ⟨_, T1471, h1471, L1471, X1471, e1471, hQ1471, st1471⟩ := own_callI X1452 hx hZ (y := (⟨"java/util/ArrayList", "<init>", "()V"⟩ : MethodName)) rfl hown (hw _ (List.mem_of_getElem? (i := 84) rfl)) (hw _ (List.mem_of_getElem? (i := 85) rfl)) (hw _ (List.mem_of_getElem? (i := 83) rfl)) (hw _ (List.mem_of_getElem? (i := 86) rfl)) (by decide) 1 (g := (mkF m 4 #[.val (.ref a), .val (.int (1 : Int32)), .unset, .unset] [(.ref a1452), (.ref a1452)])) rfl (by rw [hml]; rfl) a1452 [] [(.ref a1452)] (rm12 l Z a0 hw [] a1452 dd h1452 n0 f1465 A1452 hx0 f1467 f1468 f1469 f1464 SD qd VD) (lenOf pd3 rfl) rfl (by show 2 * 0 + _ ≤ _; exact Nat.le_of_eq rfl) (hb hby d11_4) (by decide) (by decide) e1452 (by decide) (by decide)
  obtain ⟨rfl, N1471, K1471, Fe1471, Fs1471, Fm1471⟩ := hQ1471
  have S1472 : own_Go p e below s₁ G T1471 (mkF m 7 #[.val (.ref a), .val (.int (1 : Int32)), .unset, .unset] [(.ref a1452)]) := fun tg_ kk_ => S1470 tg_ (st1471 tg_ kk_)
  have f1473 := Fr.app N0 N1471
  have f1474 := f1459.keep K1471
  have f1475 := f1460.keep K1471 (ninS (own_nelt (by omega)) nin0)
  have f1476 := f1461.keep K1471 (ninS (own_nelt (by omega)) nin0)
  have f1477 := f1462.keep K1471 (ninS (own_nelt (by omega)) nin0)
  have f1478 := f1463.keep K1471 (ninS (own_nelt (by omega)) nin0)
  have f1479 := f1464.keep K1471 (allS (by omega) all0)
  have f1480 := Nat.le_trans f1465 K1471.1
  have f1481 := A1452.keep K1471
  have f1482 := Keep.trans f1466 K1471 (allS (Or.inr (by omega)) all0)
  have S1483 : own_Go p e below s₁ G T1471 (mkF m 11 #[.val (.ref a), .val (.int (1 : Int32)), .val (.ref a1452), .val (.int (1 : Int32))] [(.ref a)]) := fun tg_ kk_ => S1472 tg_ (by
    refine XS.astoreN X1471.here hx rfl (hb hby d11_7) rfl rfl (l' := #[.val (.ref a), .val (.int (1 : Int32)), .val (.ref a1452), .unset]) rfl ?_
    show Steps p.tables e below (T1471.setTop (mkF m 8 #[.val (.ref a), .val (.int (1 : Int32)), .val (.ref a1452), .unset] [])) _
    refine XS.iloadN X1471.here hx rfl (hb hby d11_8) rfl ?_
    show Steps p.tables e below (T1471.setTop (mkF m 9 #[.val (.ref a), .val (.int (1 : Int32)), .val (.ref a1452), .unset] [(.int (1 : Int32))])) _
    refine XS.istoreN X1471.here hx rfl (hb hby d11_9) rfl (l' := #[.val (.ref a), .val (.int (1 : Int32)), .val (.ref a1452), .val (.int (1 : Int32))]) rfl ?_
    show Steps p.tables e below (T1471.setTop (mkF m 10 #[.val (.ref a), .val (.int (1 : Int32)), .val (.ref a1452), .val (.int (1 : Int32))] [])) _
    refine XS.aloadN X1471.here hx rfl (hb hby d11_10) rfl rfl ?_
    exact kk_)
  obtain ⟨T1484, X1484, e1484, st1484⟩ := getF X1471 hx hZ hown (host := "") (Or.inl (hw _ (List.mem_of_getElem? (i := 28) rfl))) Via.refl e1471 f1475 (g := (mkF m 11 #[.val (.ref a), .val (.int (1 : Int32)), .val (.ref a1452), .val (.int (1 : Int32))] [(.ref a)])) rfl rfl (hb hby d11_11)
  have S1485 : own_Go p e below s₁ G T1484 (mkF m 14 #[.val (.ref a), .val (.int (1 : Int32)), .val (.ref a1452), .val (.int (1 : Int32))] [(.ref pr)]) := fun tg_ kk_ => S1483 tg_ (st1484 tg_ kk_)
  have S1486 : own_Go p e below s₁ G T1484 (mkF m 15 #[.val (.ref a), .val (.int (1 : Int32)), .val (.ref a1452), .val (.int (1 : Int32))] [(.int (1 : Int32)), (.ref pr)]) := fun tg_ kk_ => S1485 tg_ (by
    refine XS.iloadN X1484.here hx rfl (hb hby d11_14) rfl ?_
    exact kk_)
  obtain ⟨cl1487, B1487, -, z1487, -, H1487, -⟩ := id f1477
  have S1488 : own_Go p e below s₁ G T1484 (mkF m 47 #[.val (.ref a), .val (.int (1 : Int32)), .val (.ref a1452), .val (.int (1 : Int32))] [(.ref a1452)]) := fun tg_ kk_ => S1486 tg_ (by
    refine X1484.iaload hx (j := (1 : Int32)) (v := (.int (-1 : Int32))) (cell := cl1487) (by rw [e1484]; exact B1487.1) (State.isArrayOf_alike hZ.alike B1487.2.1) B1487.2.2 (inb_of z1487 (by decide)) (H1487.at (inb_of z1487 (by decide)) rfl) (g := (mkF m 15 #[.val (.ref a), .val (.int (1 : Int32)), .val (.ref a1452), .val (.int (1 : Int32))] [(.int (1 : Int32)), (.ref pr)])) rfl rfl (hb hby d11_15) _ ?_
    show Steps p.tables e below (T1484.setTop (mkF m 16 #[.val (.ref a), .val (.int (1 : Int32)), .val (.ref a1452), .val (.int (1 : Int32))] [(.int (-1 : Int32))])) _
    refine XS.ifYes X1484.here hx rfl (pc0 := 16) (pc' := 46) rfl (hb hby d11_16) rfl (XT.i0_lt_t (by decide)) (by decide) (by decide) ?_
    show Steps p.tables e below (T1484.setTop (mkF m 46 #[.val (.ref a), .val (.int (1 : Int32)), .val (.ref a1452), .val (.int (1 : Int32))] [])) _
    refine XS.aloadN X1484.here hx rfl (hb hby d11_46) rfl rfl ?_
    exact kk_)
  obtain ⟨_, T1489, h1489, L1489, X1489, e1489, hQ1489, st1489⟩ := own_callS X1484 hx hZ (y := (⟨"java/util/Collections", "reverse", "(Ljava/util/List;)V"⟩ : MethodName)) hown (hw _ (List.mem_of_getElem? (i := 105) rfl)) (hw _ (List.mem_of_getElem? (i := 106) rfl)) (hw _ (List.mem_of_getElem? (i := 107) rfl)) (hw _ (List.mem_of_getElem? (i := 108) rfl)) (by decide) 0 (g := (mkF m 47 #[.val (.ref a), .val (.int (1 : Int32)), .val (.ref a1452), .val (.int (1 : Int32))] [(.ref a1452)])) rfl (by rw [hml]; rfl) [(.ref a1452)] [] (rm150 l Z a0 hw [] a1452 h1471 n0 f1480 f1481 Fs1471) (lenOf pd12 rfl) rfl (by show 2 * 0 + _ ≤ _; exact Nat.le_of_eq rfl) (hb hby d11_47) (by decide) (by decide) e1484 (by decide) (by decide)
  obtain ⟨rfl, N1489, rfl⟩ := hQ1489
  have S1490 : own_Go p e below s₁ G T1489 (mkF m 50 #[.val (.ref a), .val (.int (1 : Int32)), .val (.ref a1452), .val (.int (1 : Int32))] []) := fun tg_ kk_ => S1488 tg_ (st1489 tg_ kk_)
  have M1489 := Fr.app f1473 N1489
  have S1491 : own_Go p e below s₁ G T1489 (mkF m 51 #[.val (.ref a), .val (.int (1 : Int32)), .val (.ref a1452), .val (.int (1 : Int32))] [(.ref a1452)]) := fun tg_ kk_ => S1490 tg_ (by
    refine XS.aloadN X1489.here hx rfl (hb hby d11_50) rfl rfl ?_
    exact kk_)
  obtain ⟨fs, hr, hrun, hended, hW, hsame⟩ := X1489.leave (v := some (.ref a1452)) (fun h => by rw [Bd.returns] at h; cases h)
  refine ⟨_, _, ?_, hrun, hended, _, _, rfl, ?_, ⟨_, rfl⟩, hW, hsame.mono (by decide) (by decide)⟩
  · rw [← hG]; exact S1491 _ (retOut X1489 hx Bd.returns (by first | rfl | cases (.ref a1452) <;> rfl) (Or.inr (Or.inr (Or.inr (Or.inr ⟨rfl, rfl, rfl⟩)))) (hb hby d11_51) hr)
  · show Q11e Z a pr mv dd nm h0 n0 _ T1489.heap _
    rw [e1489]
    exact ⟨a1452, rfl, M1489, f1482, f1481, Fs1471⟩
def Q11o (Z : State) (a : Addr) (pr : Addr) (mv : Addr) (dd : Addr) (nm : Int32) (y : Addr) (h0 : Heap) (n0 : Nat) (v : Option Value) (h : Heap) (L : List Loc) : Prop := ∃ x d, v = some (.ref x) ∧ Fr n0 L ∧ Keep h0 h [] ∧ Exa Z h x "java/util/ArrayList" ∧ Fld Z h x "java/util/ArrayList" "elementData" "[Ljava/lang/Object;" (.ref d) ∧ Fld Z h x "java/util/ArrayList" "size" "I" (.int (1 : Int32)) ∧ ∃ q, Arv Z h d q (.object "java/lang/Object") 10 [.ref y] .null
set_option maxRecDepth 65536 in
set_option maxHeartbeats 40000000 in
theorem rm11o (l : Launch) (Z : State) (a0 : Array Value) (hw : ∀ d ∈ tables_1, d.before a0 Z = true) (ws : List Jvm.Cond) (a : Addr) (pr : Addr) (mv : Addr) (dd : Addr) (nm : Int32) (y : Addr) (h0 : Heap) (n0 : Nat) (Z0 : n0 ≤ h0.size) (NP : own_NP Z h0 a pr mv (0 : Int32) nm) (O : Old Z n0 h0) (SD : Sta Z Z.heap "java/util/ArrayList" "DEFAULTCAPACITY_EMPTY_ELEMENTDATA" "[Ljava/lang/Object;" (.ref dd)) (qd : ClassId) (VD : Arv Z Z.heap dd qd (.object "java/lang/Object") 0 [] .null) (m0 : Addr) (qm0 : ClassId) (vm0 : List Value) (SM : Sta Z Z.heap "com/example/tileshift/tileshift/NodeTable" "MOVES" "[Lcom/example/tileshift/tileshift/Move;" (.ref m0)) (VM : Arv Z Z.heap m0 qm0 (.object "com/example/tileshift/tileshift/Move") 4 vm0 .null) (hin : ¬ nm < 0 ∧ nm < 4) (hy : vm0.getD nm.toNatClampNeg .null = .ref y) (Ey : Exa Z Z.heap y "com/example/tileshift/tileshift/Move") :
    MetFree l (⟨"com/example/tileshift/tileshift/NodeTable", "path", "(I)Ljava/util/List;"⟩ : MethodName) (head1 (Jvm.Cond.code (⟨"com/example/tileshift/tileshift/NodeTable", "path", "(I)Ljava/util/List;"⟩ : MethodName) prog_40_method_12_code 4 (some (.object "java/util/List")) :: ws) ({ frames := 5, cells := 2, slots := 13, locals := 90 } : Room)) (fun aa_ U => aa_ = #[(.ref a), (.int (1 : Int32))] ∧ Z.Warmed39 U.vm ∧ U.heap = h0) (fun _ _ _ _ _ => True) (fun _ U o U' => ∃ v L, o = .returned v ∧ Q11o Z a pr mv dd nm y h0 n0 v U'.heap L ∧ FrameEnd U o U' L ({ frames := 5, cells := 2, slots := 13, locals := 90 } : Room).cells ({ frames := 5, cells := 2, slots := 13, locals := 90 } : Room).slots) := by
  refine MetFree.of_bodySF (plainFor_of_name pn2) hisR ?_
  intro p e s m args below meth c s₁ Bd hml0 hP hK
  obtain ⟨rfl, hZ, hh⟩ := hP
  have hx := Bd.exec
  have hby := Bd.bytes
  have hml : c.maxLocals = 4 := hml0
  have hown : s.vm.findClass "com/example/tileshift/tileshift/NodeTable" = some m.cls := findClass_of_methodNamed Bd.named
  have hnm := (name_of_methodNamed Bd.named Bd.method).1
  have X0 : Stand p l e ({ frames := 5, cells := 2, slots := 13, locals := 90 } : Room) s m #[(.ref a), (.int (1 : Int32))] below meth c s₁ [] 0 0 := Stand.of_body Bd
  have e0 : s₁.heap = h0 := by rw [← hh, Bd.state]; rfl
  have N0 := Fr.nil n0
  obtain ⟨G, hG⟩ : ∃ G, G = entryFrame m #[(.ref a), (.int (1 : Int32))] 4 := ⟨_, rfl⟩
  have S0 : own_Go p e below s₁ G s₁ (mkF m 0 #[.val (.ref a), .val (.int (1 : Int32)), .unset, .unset] []) := fun tg_ kk_ => castTop (by rw [hG]; first | rfl | simp [entryFrame, mkF, argsToLocals, Value.category, maxLocals]) kk_
  obtain ⟨oo1, oo2, xE, xp, xm, ⟨qp, yp⟩, ⟨qm, ym⟩⟩ := NP
  obtain ⟨T1492, h1492, X1492, e1492, E1492, A1492, D1492, -, st1492⟩ := newO X0 hx hZ hown (hw _ (List.mem_of_getElem? (i := 81) rfl)) (hw _ (List.mem_of_getElem? (i := 82) rfl)) (hw _ (List.mem_of_getElem? (i := 83) rfl)) e0 (g := (mkF m 0 #[.val (.ref a), .val (.int (1 : Int32)), .unset, .unset] [])) rfl (hb hby d11_0) (by decide) (by decide)
  obtain ⟨a1492, g1492⟩ : ∃ z, z = h0.size := ⟨_, rfl⟩
  rw [← g1492] at A1492 D1492 st1492
  have S1493 : own_Go p e below s₁ G T1492 (mkF m 3 #[.val (.ref a), .val (.int (1 : Int32)), .unset, .unset] [(.ref a1492)]) := fun tg_ kk_ => S0 tg_ (st1492 tg_ kk_)
  have o1494 : @LT.lt Nat instLTNat a a1492 := Nat.lt_of_lt_of_le xE.lt (Nat.le_of_eq g1492.symm)
  have o1495 : @LT.lt Nat instLTNat pr a1492 := Nat.lt_of_lt_of_le yp.lt (Nat.le_of_eq g1492.symm)
  have o1496 : @LT.lt Nat instLTNat mv a1492 := Nat.lt_of_lt_of_le ym.lt (Nat.le_of_eq g1492.symm)
  have o1497 : @LE.le Nat instLENat (n0) a1492 := Nat.le_trans Z0 (Nat.le_of_eq g1492.symm)
  have o1498 : @LE.le Nat instLENat (h0.size) a1492 := Nat.le_trans (Keep.refl h0 []).1 (Nat.le_of_eq g1492.symm)
  have f1499 := xE.ext E1492
  have f1500 := xp.ext E1492
  have f1501 := xm.ext E1492
  have f1502 := yp.ext E1492
  have f1503 := ym.ext E1492
  have f1504 := O.ext E1492
  have f1505 := own_sub Z0 E1492
  have f1506 := Keep.ext (Keep.refl h0 []) E1492
  have f1507 : Fld Z h1492 a1492 "java/util/ArrayList" "elementData" "[Ljava/lang/Object;" .null := D1492 (Or.inl (hw _ (List.mem_of_getElem? (i := 104) rfl))) (ty := (.array (.object "java/lang/Object"))) (by decide)
  have f1508 : Fld Z h1492 a1492 "java/util/ArrayList" "size" "I" (.int 0) := D1492 (Or.inl (hw _ (List.mem_of_getElem? (i := 119) rfl))) (ty := .int) (by decide)
  have f1509 : Fld Z h1492 a1492 "java/util/AbstractList" "modCount" "I" (.int 0) := D1492 (Or.inl (hw _ (List.mem_of_getElem? (i := 101) rfl))) (ty := .int) (by decide)
  have hx0 : @LE.le Nat instLENat (n0) a1492 := by omega
  have S1510 : own_Go p e below s₁ G T1492 (mkF m 4 #[.val (.ref a), .val (.int (1 : Int32)), .unset, .unset] [(.ref a1492), (.ref a1492)]) := fun tg_ kk_ => S1493 tg_ (by
    refine XS.dup X1492.here hx rfl (hb hby d11_3) rfl rfl ?_
    exact kk_)
  obtain ⟨_, T1511, h1511, L1511, X1511, e1511, hQ1511, st1511⟩ := own_callI X1492 hx hZ (y := (⟨"java/util/ArrayList", "<init>", "()V"⟩ : MethodName)) rfl hown (hw _ (List.mem_of_getElem? (i := 84) rfl)) (hw _ (List.mem_of_getElem? (i := 85) rfl)) (hw _ (List.mem_of_getElem? (i := 83) rfl)) (hw _ (List.mem_of_getElem? (i := 86) rfl)) (by decide) 1 (g := (mkF m 4 #[.val (.ref a), .val (.int (1 : Int32)), .unset, .unset] [(.ref a1492), (.ref a1492)])) rfl (by rw [hml]; rfl) a1492 [] [(.ref a1492)] (rm12 l Z a0 hw [] a1492 dd h1492 n0 f1505 A1492 hx0 f1507 f1508 f1509 f1504 SD qd VD) (lenOf pd3 rfl) rfl (by show 2 * 0 + _ ≤ _; exact Nat.le_of_eq rfl) (hb hby d11_4) (by decide) (by decide) e1492 (by decide) (by decide)
  obtain ⟨rfl, N1511, K1511, Fe1511, Fs1511, Fm1511⟩ := hQ1511
  have S1512 : own_Go p e below s₁ G T1511 (mkF m 7 #[.val (.ref a), .val (.int (1 : Int32)), .unset, .unset] [(.ref a1492)]) := fun tg_ kk_ => S1510 tg_ (st1511 tg_ kk_)
  have f1513 := Fr.app N0 N1511
  have f1514 := f1499.keep K1511
  have f1515 := f1500.keep K1511 (ninS (own_nelt (by omega)) nin0)
  have f1516 := f1501.keep K1511 (ninS (own_nelt (by omega)) nin0)
  have f1517 := f1502.keep K1511 (ninS (own_nelt (by omega)) nin0)
  have f1518 := f1503.keep K1511 (ninS (own_nelt (by omega)) nin0)
  have f1519 := f1504.keep K1511 (allS (by omega) all0)
  have f1520 := Nat.le_trans f1505 K1511.1
  have f1521 := A1492.keep K1511
  have f1522 := Keep.trans f1506 K1511 (allS (Or.inr (by omega)) all0)
  have S1523 : own_Go p e below s₁ G T1511 (mkF m 11 #[.val (.ref a), .val (.int (1 : Int32)), .val (.ref a1492), .val (.int (1 : Int32))] [(.ref a)]) := fun tg_ kk_ => S1512 tg_ (by
    refine XS.astoreN X1511.here hx rfl (hb hby d11_7) rfl rfl (l' := #[.val (.ref a), .val (.int (1 : Int32)), .val (.ref a1492), .unset]) rfl ?_
    show Steps p.tables e below (T1511.setTop (mkF m 8 #[.val (.ref a), .val (.int (1 : Int32)), .val (.ref a1492), .unset] [])) _
    refine XS.iloadN X1511.here hx rfl (hb hby d11_8) rfl ?_
    show Steps p.tables e below (T1511.setTop (mkF m 9 #[.val (.ref a), .val (.int (1 : Int32)), .val (.ref a1492), .unset] [(.int (1 : Int32))])) _
    refine XS.istoreN X1511.here hx rfl (hb hby d11_9) rfl (l' := #[.val (.ref a), .val (.int (1 : Int32)), .val (.ref a1492), .val (.int (1 : Int32))]) rfl ?_
    show Steps p.tables e below (T1511.setTop (mkF m 10 #[.val (.ref a), .val (.int (1 : Int32)), .val (.ref a1492), .val (.int (1 : Int32))] [])) _
    refine XS.aloadN X1511.here hx rfl (hb hby d11_10) rfl rfl ?_
    exact kk_)
  obtain ⟨T1524, X1524, e1524, st1524⟩ := getF X1511 hx hZ hown (host := "") (Or.inl (hw _ (List.mem_of_getElem? (i := 28) rfl))) Via.refl e1511 f1515 (g := (mkF m 11 #[.val (.ref a), .val (.int (1 : Int32)), .val (.ref a1492), .val (.int (1 : Int32))] [(.ref a)])) rfl rfl (hb hby d11_11)
  have S1525 : own_Go p e below s₁ G T1524 (mkF m 14 #[.val (.ref a), .val (.int (1 : Int32)), .val (.ref a1492), .val (.int (1 : Int32))] [(.ref pr)]) := fun tg_ kk_ => S1523 tg_ (st1524 tg_ kk_)
  have S1526 : own_Go p e below s₁ G T1524 (mkF m 15 #[.val (.ref a), .val (.int (1 : Int32)), .val (.ref a1492), .val (.int (1 : Int32))] [(.int (1 : Int32)), (.ref pr)]) := fun tg_ kk_ => S1525 tg_ (by
    refine XS.iloadN X1524.here hx rfl (hb hby d11_14) rfl ?_
    exact kk_)
  obtain ⟨cl1527, B1527, -, z1527, -, H1527, -⟩ := id f1517
  have S1528 : own_Go p e below s₁ G T1524 (mkF m 20 #[.val (.ref a), .val (.int (1 : Int32)), .val (.ref a1492), .val (.int (1 : Int32))] [(.ref a1492)]) := fun tg_ kk_ => S1526 tg_ (by
    refine X1524.iaload hx (j := (1 : Int32)) (v := (.int (0 : Int32))) (cell := cl1527) (by rw [e1524]; exact B1527.1) (State.isArrayOf_alike hZ.alike B1527.2.1) B1527.2.2 (inb_of z1527 (by decide)) (H1527.at (inb_of z1527 (by decide)) rfl) (g := (mkF m 15 #[.val (.ref a), .val (.int (1 : Int32)), .val (.ref a1492), .val (.int (1 : Int32))] [(.int (1 : Int32)), (.ref pr)])) rfl rfl (hb hby d11_15) _ ?_
    show Steps p.tables e below (T1524.setTop (mkF m 16 #[.val (.ref a), .val (.int (1 : Int32)), .val (.ref a1492), .val (.int (1 : Int32))] [(.int (0 : Int32))])) _
    refine XS.ifNo X1524.here hx rfl (hb hby d11_16) rfl (XT.i0_lt_f (by decide)) ?_
    show Steps p.tables e below (T1524.setTop (mkF m 19 #[.val (.ref a), .val (.int (1 : Int32)), .val (.ref a1492), .val (.int (1 : Int32))] [])) _
    refine XS.aloadN X1524.here hx rfl (hb hby d11_19) rfl rfl ?_
    exact kk_)
  obtain ⟨T1529, X1529, e1529, st1529⟩ := getS X1524 hx hZ (host := "") hown (hw _ (List.mem_of_getElem? (i := 126) rfl)) Via.refl e1524 (SM.ext f1519.2) (g := (mkF m 20 #[.val (.ref a), .val (.int (1 : Int32)), .val (.ref a1492), .val (.int (1 : Int32))] [(.ref a1492)])) rfl (hb hby d11_20)
  have S1530 : own_Go p e below s₁ G T1529 (mkF m 23 #[.val (.ref a), .val (.int (1 : Int32)), .val (.ref a1492), .val (.int (1 : Int32))] [(.ref m0), (.ref a1492)]) := fun tg_ kk_ => S1528 tg_ (st1529 tg_ kk_)
  have S1531 : own_Go p e below s₁ G T1529 (mkF m 24 #[.val (.ref a), .val (.int (1 : Int32)), .val (.ref a1492), .val (.int (1 : Int32))] [(.ref a), (.ref m0), (.ref a1492)]) := fun tg_ kk_ => S1530 tg_ (by
    refine XS.aloadN X1529.here hx rfl (hb hby d11_23) rfl rfl ?_
    exact kk_)
  obtain ⟨T1532, X1532, e1532, st1532⟩ := getF X1529 hx hZ hown (host := "") (Or.inl (hw _ (List.mem_of_getElem? (i := 31) rfl))) Via.refl e1529 f1516 (g := (mkF m 24 #[.val (.ref a), .val (.int (1 : Int32)), .val (.ref a1492), .val (.int (1 : Int32))] [(.ref a), (.ref m0), (.ref a1492)])) rfl rfl (hb hby d11_24)
  have S1533 : own_Go p e below s₁ G T1532 (mkF m 27 #[.val (.ref a), .val (.int (1 : Int32)), .val (.ref a1492), .val (.int (1 : Int32))] [(.ref mv), (.ref m0), (.ref a1492)]) := fun tg_ kk_ => S1531 tg_ (st1532 tg_ kk_)
  have S1534 : own_Go p e below s₁ G T1532 (mkF m 28 #[.val (.ref a), .val (.int (1 : Int32)), .val (.ref a1492), .val (.int (1 : Int32))] [(.int (1 : Int32)), (.ref mv), (.ref m0), (.ref a1492)]) := fun tg_ kk_ => S1533 tg_ (by
    refine XS.iloadN X1532.here hx rfl (hb hby d11_27) rfl ?_
    exact kk_)
  obtain ⟨cl1535, B1535, -, z1535, -, H1535, -⟩ := id f1518
  have S1536 : own_Go p e below s₁ G T1532 (mkF m 29 #[.val (.ref a), .val (.int (1 : Int32)), .val (.ref a1492), .val (.int (1 : Int32))] [(.int nm), (.ref m0), (.ref a1492)]) := fun tg_ kk_ => S1534 tg_ (by
    refine X1532.baloadBytes hx (j := (1 : Int32)) (v := (.int nm)) (cell := cl1535) (by rw [e1532]; exact B1535.1) (State.isArrayOf_alike hZ.alike B1535.2.1) B1535.2.2 (inb_of z1535 (by decide)) (H1535.at (inb_of z1535 (by decide)) rfl) (g := (mkF m 28 #[.val (.ref a), .val (.int (1 : Int32)), .val (.ref a1492), .val (.int (1 : Int32))] [(.int (1 : Int32)), (.ref mv), (.ref m0), (.ref a1492)])) rfl rfl (hb hby d11_28) _ ?_
    exact kk_)
  obtain ⟨cl1537, B1537, -, z1537, -, H1537, -⟩ := id (VM.ext f1519.2)
  have S1538 : own_Go p e below s₁ G T1532 (mkF m 30 #[.val (.ref a), .val (.int (1 : Int32)), .val (.ref a1492), .val (.int (1 : Int32))] [(.ref y), (.ref a1492)]) := fun tg_ kk_ => S1536 tg_ (by
    refine X1532.aaload hx (j := nm) (v := (.ref y)) (cell := cl1537) (by rw [e1532]; exact B1537.1) (State.isArrayOf_alike hZ.alike B1537.2.1) rfl B1537.2.2 (inb_of z1537 hin) (H1537.at (inb_of z1537 hin) hy) (g := (mkF m 29 #[.val (.ref a), .val (.int (1 : Int32)), .val (.ref a1492), .val (.int (1 : Int32))] [(.int nm), (.ref m0), (.ref a1492)])) rfl rfl (hb hby d11_29) _ ?_
    exact kk_)
  obtain ⟨_, T1539, h1539, L1539, X1539, e1539, hQ1539, st1539⟩ := own_callF X1532 hx hZ (y := (⟨"java/util/List", "add", "(Ljava/lang/Object;)Z"⟩ : MethodName)) (z := (⟨"java/util/ArrayList", "add", "(Ljava/lang/Object;)Z"⟩ : MethodName)) hown (hw _ (List.mem_of_getElem? (i := 130) rfl)) (hw _ (List.mem_of_getElem? (i := 131) rfl)) (mvT hZ (hw _ (List.mem_of_getElem? (i := 132) rfl))) (hw _ (List.mem_of_getElem? (i := 133) rfl)) (hw _ (List.mem_of_getElem? (i := 134) rfl)) (hw _ (List.mem_of_getElem? (i := 135) rfl)) (hw _ (List.mem_of_getElem? (i := 136) rfl)) (hw _ (List.mem_of_getElem? (i := 116) rfl)) (hw _ (List.mem_of_getElem? (i := 83) rfl)) (hw _ (List.mem_of_getElem? (i := 137) rfl)) (by decide) 0 (g := (mkF m 30 #[.val (.ref a), .val (.int (1 : Int32)), .val (.ref a1492), .val (.int (1 : Int32))] [(.ref y), (.ref a1492)])) rfl (by rw [hml]; rfl) a1492 f1521 [(.ref y)] [] (rm18 l Z a0 hw [] a1492 y dd h1511 n0 f1520 f1521 hx0 Fe1511 Fs1511 Fm1511 f1519 SD qd VD Ey) (lenOf pd13 rfl) rfl (by show 2 * 0 + _ ≤ _; exact Nat.le_of_eq rfl) (hb hby d11_30) (by decide) (by decide) e1532 (by decide) (by decide)
  obtain ⟨rfl, N1539, K1539, d, hd, Fe1539, Fs1539, Va1539⟩ := hQ1539
  have S1540 : own_Go p e below s₁ G T1539 (mkF m 35 #[.val (.ref a), .val (.int (1 : Int32)), .val (.ref a1492), .val (.int (1 : Int32))] [(.int (1 : Int32))]) := fun tg_ kk_ => S1538 tg_ (st1539 tg_ kk_)
  have f1541 := Fr.app f1513 N1539
  have f1542 := f1514.keep K1539
  have f1543 := f1515.keep K1539 (ninS (own_nelt (by omega)) nin0)
  have f1544 := f1516.keep K1539 (ninS (own_nelt (by omega)) nin0)
  have f1545 := f1517.keep K1539 (ninS (own_nelt (by omega)) nin0)
  have f1546 := f1518.keep K1539 (ninS (own_nelt (by omega)) nin0)
  have f1547 := f1519.keep K1539 (allS (by omega) all0)
  have f1548 := Nat.le_trans f1520 K1539.1
  have f1549 := f1521.keep K1539
  have f1550 := Keep.trans f1522 K1539 (allS (Or.inr (by omega)) all0)
  have S1551 : own_Go p e below s₁ G T1539 (mkF m 37 #[.val (.ref a), .val (.int (1 : Int32)), .val (.ref a1492), .val (.int (1 : Int32))] [(.ref a)]) := fun tg_ kk_ => S1540 tg_ (by
    refine XT.pop X1539.here hx rfl (hb hby d11_35) rfl rfl ?_
    show Steps p.tables e below (T1539.setTop (mkF m 36 #[.val (.ref a), .val (.int (1 : Int32)), .val (.ref a1492), .val (.int (1 : Int32))] [])) _
    refine XS.aloadN X1539.here hx rfl (hb hby d11_36) rfl rfl ?_
    exact kk_)
  obtain ⟨T1552, X1552, e1552, st1552⟩ := getF X1539 hx hZ hown (host := "") (Or.inl (hw _ (List.mem_of_getElem? (i := 28) rfl))) Via.refl e1539 f1543 (g := (mkF m 37 #[.val (.ref a), .val (.int (1 : Int32)), .val (.ref a1492), .val (.int (1 : Int32))] [(.ref a)])) rfl rfl (hb hby d11_37)
  have S1553 : own_Go p e below s₁ G T1552 (mkF m 40 #[.val (.ref a), .val (.int (1 : Int32)), .val (.ref a1492), .val (.int (1 : Int32))] [(.ref pr)]) := fun tg_ kk_ => S1551 tg_ (st1552 tg_ kk_)
  have S1554 : own_Go p e below s₁ G T1552 (mkF m 41 #[.val (.ref a), .val (.int (1 : Int32)), .val (.ref a1492), .val (.int (1 : Int32))] [(.int (1 : Int32)), (.ref pr)]) := fun tg_ kk_ => S1553 tg_ (by
    refine XS.iloadN X1552.here hx rfl (hb hby d11_40) rfl ?_
    exact kk_)
  obtain ⟨cl1555, B1555, -, z1555, -, H1555, -⟩ := id f1545
  have S1556 : own_Go p e below s₁ G T1552 (mkF m 11 #[.val (.ref a), .val (.int (1 : Int32)), .val (.ref a1492), .val (.int (0 : Int32))] [(.ref a)]) := fun tg_ kk_ => S1554 tg_ (by
    refine X1552.iaload hx (j := (1 : Int32)) (v := (.int (0 : Int32))) (cell := cl1555) (by rw [e1552]; exact B1555.1) (State.isArrayOf_alike hZ.alike B1555.2.1) B1555.2.2 (inb_of z1555 (by decide)) (H1555.at (inb_of z1555 (by decide)) rfl) (g := (mkF m 41 #[.val (.ref a), .val (.int (1 : Int32)), .val (.ref a1492), .val (.int (1 : Int32))] [(.int (1 : Int32)), (.ref pr)])) rfl rfl (hb hby d11_41) _ ?_
    show Steps p.tables e below (T1552.setTop (mkF m 42 #[.val (.ref a), .val (.int (1 : Int32)), .val (.ref a1492), .val (.int (1 : Int32))] [(.int (0 : Int32))])) _
    refine XS.istoreN X1552.here hx rfl (hb hby d11_42) rfl (l' := #[.val (.ref a), .val (.int (1 : Int32)), .val (.ref a1492), .val (.int (0 : Int32))]) rfl ?_
    show Steps p.tables e below (T1552.setTop (mkF m 43 #[.val (.ref a), .val (.int (1 : Int32)), .val (.ref a1492), .val (.int (0 : Int32))] [])) _
    refine XS.goto X1552.here hx rfl (pc0 := 43) (pc' := 10) rfl (hb hby d11_43) (by decide) (by decide) ?_
    show Steps p.tables e below (T1552.setTop (mkF m 10 #[.val (.ref a), .val (.int (1 : Int32)), .val (.ref a1492), .val (.int (0 : Int32))] [])) _
    refine XS.aloadN X1552.here hx rfl (hb hby d11_10) rfl rfl ?_
    exact kk_)
  obtain ⟨T1557, X1557, e1557, st1557⟩ := getF X1552 hx hZ hown (host := "") (Or.inl (hw _ (List.mem_of_getElem? (i := 28) rfl))) Via.refl e1552 f1543 (g := (mkF m 11 #[.val (.ref a), .val (.int (1 : Int32)), .val (.ref a1492), .val (.int (0 : Int32))] [(.ref a)])) rfl rfl (hb hby d11_11)
  have S1558 : own_Go p e below s₁ G T1557 (mkF m 14 #[.val (.ref a), .val (.int (1 : Int32)), .val (.ref a1492), .val (.int (0 : Int32))] [(.ref pr)]) := fun tg_ kk_ => S1556 tg_ (st1557 tg_ kk_)
  have S1559 : own_Go p e below s₁ G T1557 (mkF m 15 #[.val (.ref a), .val (.int (1 : Int32)), .val (.ref a1492), .val (.int (0 : Int32))] [(.int (0 : Int32)), (.ref pr)]) := fun tg_ kk_ => S1558 tg_ (by
    refine XS.iloadN X1557.here hx rfl (hb hby d11_14) rfl ?_
    exact kk_)
  obtain ⟨cl1560, B1560, -, z1560, -, H1560, -⟩ := id f1545
  have S1561 : own_Go p e below s₁ G T1557 (mkF m 47 #[.val (.ref a), .val (.int (1 : Int32)), .val (.ref a1492), .val (.int (0 : Int32))] [(.ref a1492)]) := fun tg_ kk_ => S1559 tg_ (by
    refine X1557.iaload hx (j := (0 : Int32)) (v := (.int (-1 : Int32))) (cell := cl1560) (by rw [e1557]; exact B1560.1) (State.isArrayOf_alike hZ.alike B1560.2.1) B1560.2.2 (inb_of z1560 (by decide)) (H1560.at (inb_of z1560 (by decide)) rfl) (g := (mkF m 15 #[.val (.ref a), .val (.int (1 : Int32)), .val (.ref a1492), .val (.int (0 : Int32))] [(.int (0 : Int32)), (.ref pr)])) rfl rfl (hb hby d11_15) _ ?_
    show Steps p.tables e below (T1557.setTop (mkF m 16 #[.val (.ref a), .val (.int (1 : Int32)), .val (.ref a1492), .val (.int (0 : Int32))] [(.int (-1 : Int32))])) _
    refine XS.ifYes X1557.here hx rfl (pc0 := 16) (pc' := 46) rfl (hb hby d11_16) rfl (XT.i0_lt_t (by decide)) (by decide) (by decide) ?_
    show Steps p.tables e below (T1557.setTop (mkF m 46 #[.val (.ref a), .val (.int (1 : Int32)), .val (.ref a1492), .val (.int (0 : Int32))] [])) _
    refine XS.aloadN X1557.here hx rfl (hb hby d11_46) rfl rfl ?_
    exact kk_)
  obtain ⟨_, T1562, h1562, L1562, X1562, e1562, hQ1562, st1562⟩ := own_callS X1557 hx hZ (y := (⟨"java/util/Collections", "reverse", "(Ljava/util/List;)V"⟩ : MethodName)) hown (hw _ (List.mem_of_getElem? (i := 105) rfl)) (hw _ (List.mem_of_getElem? (i := 106) rfl)) (hw _ (List.mem_of_getElem? (i := 107) rfl)) (hw _ (List.mem_of_getElem? (i := 108) rfl)) (by decide) 0 (g := (mkF m 47 #[.val (.ref a), .val (.int (1 : Int32)), .val (.ref a1492), .val (.int (0 : Int32))] [(.ref a1492)])) rfl (by rw [hml]; rfl) [(.ref a1492)] [] (rm151 l Z a0 hw [] a1492 h1539 n0 f1548 f1549 Fs1539) (lenOf pd12 rfl) rfl (by show 2 * 0 + _ ≤ _; exact Nat.le_of_eq rfl) (hb hby d11_47) (by decide) (by decide) e1557 (by decide) (by decide)
  obtain ⟨rfl, N1562, rfl⟩ := hQ1562
  have S1563 : own_Go p e below s₁ G T1562 (mkF m 50 #[.val (.ref a), .val (.int (1 : Int32)), .val (.ref a1492), .val (.int (0 : Int32))] []) := fun tg_ kk_ => S1561 tg_ (st1562 tg_ kk_)
  have M1562 := Fr.app f1541 N1562
  have S1564 : own_Go p e below s₁ G T1562 (mkF m 51 #[.val (.ref a), .val (.int (1 : Int32)), .val (.ref a1492), .val (.int (0 : Int32))] [(.ref a1492)]) := fun tg_ kk_ => S1563 tg_ (by
    refine XS.aloadN X1562.here hx rfl (hb hby d11_50) rfl rfl ?_
    exact kk_)
  obtain ⟨fs, hr, hrun, hended, hW, hsame⟩ := X1562.leave (v := some (.ref a1492)) (fun h => by rw [Bd.returns] at h; cases h)
  refine ⟨_, _, ?_, hrun, hended, _, _, rfl, ?_, ⟨_, rfl⟩, hW, hsame.mono (by decide) (by decide)⟩
  · rw [← hG]; exact S1564 _ (retOut X1562 hx Bd.returns (by first | rfl | cases (.ref a1492) <;> rfl) (Or.inr (Or.inr (Or.inr (Or.inr ⟨rfl, rfl, rfl⟩)))) (hb hby d11_51) hr)
  · show Q11o Z a pr mv dd nm y h0 n0 _ T1562.heap _
    rw [e1562]
    exact ⟨a1492, d, rfl, M1562, f1550, f1549, Fe1539, Fs1539, Va1539⟩
theorem pn10 : plainName "com/example/tileshift/tileshift/NodeTableReachedFromPinLaw" = true := by first | (simp [plainName, overriddenIn]; done) | decide +kernel
def Q270 (Z : State) (y : Addr) (h0 : Heap) (n0 : Nat) (v : Option Value) (h : Heap) (L : List Loc) : Prop := v = some (.ref y) ∧ Fr n0 L ∧ h0 = h
set_option maxRecDepth 65536 in
set_option maxHeartbeats 40000000 in
theorem rm270 (l : Launch) (Z : State) (a0 : Array Value) (hw : ∀ d ∈ tables_1, d.before a0 Z = true) (ws : List Jvm.Cond) (y : Addr) (h0 : Heap) (n0 : Nat) (Z0 : n0 ≤ h0.size) (O : Old Z n0 h0) (SU : Sta Z Z.heap "com/example/tileshift/tileshift/Move" "U" "Lcom/example/tileshift/tileshift/Move;" (.ref y)) :
    MetFree l (⟨"com/example/tileshift/tileshift/NodeTableReachedFromPinLaw", "moveOf", "(I)Lcom/example/tileshift/tileshift/Move;"⟩ : MethodName) (head1 (Jvm.Cond.code (⟨"com/example/tileshift/tileshift/NodeTableReachedFromPinLaw", "moveOf", "(I)Lcom/example/tileshift/tileshift/Move;"⟩ : MethodName) method_2_code 1 (some (.object "com/example/tileshift/tileshift/Move")) :: ws) ({ frames := 0, cells := 0, slots := 0, locals := 0 } : Room)) (fun aa_ U => aa_ = #[(.int (0 : Int32))] ∧ Z.Warmed39 U.vm ∧ U.heap = h0) (fun _ _ _ _ _ => True) (fun _ U o U' => ∃ v L, o = .returned v ∧ Q270 Z y h0 n0 v U'.heap L ∧ FrameEnd U o U' L ({ frames := 0, cells := 0, slots := 0, locals := 0 } : Room).cells ({ frames := 0, cells := 0, slots := 0, locals := 0 } : Room).slots) := by
  refine MetFree.of_bodySF (plainFor_of_name pn10) hisR ?_
  intro p e s m args below meth c s₁ Bd hml0 hP hK
  obtain ⟨rfl, hZ, hh⟩ := hP
  have hx := Bd.exec
  have hby := Bd.bytes
  have hml : c.maxLocals = 1 := hml0
  have hown : s.vm.findClass "com/example/tileshift/tileshift/NodeTableReachedFromPinLaw" = some m.cls := findClass_of_methodNamed Bd.named
  have hnm := (name_of_methodNamed Bd.named Bd.method).1
  have X0 : Stand p l e ({ frames := 0, cells := 0, slots := 0, locals := 0 } : Room) s m #[(.int (0 : Int32))] below meth c s₁ [] 0 0 := Stand.of_body Bd
  have e0 : s₁.heap = h0 := by rw [← hh, Bd.state]; rfl
  have N0 := Fr.nil n0
  obtain ⟨G, hG⟩ : ∃ G, G = entryFrame m #[(.int (0 : Int32))] 1 := ⟨_, rfl⟩
  have S0 : own_Go p e below s₁ G s₁ (mkF m 0 #[.val (.int (0 : Int32))] []) := fun tg_ kk_ => castTop (by rw [hG]; first | rfl | simp [entryFrame, mkF, argsToLocals, Value.category, maxLocals]) kk_
  have S1565 : own_Go p e below s₁ G s₁ (mkF m 4 #[.val (.int (0 : Int32))] []) := fun tg_ kk_ => S0 tg_ (by
    refine XS.iloadN X0.here hx rfl (hb hby d27_0) rfl ?_
    show Steps p.tables e below (s₁.setTop (mkF m 1 #[.val (.int (0 : Int32))] [(.int (0 : Int32))])) _
    refine XS.ifNo X0.here hx rfl (hb hby d27_1) rfl (XT.i0_ne_f (by decide)) ?_
    exact kk_)
  obtain ⟨T1566, X1566, e1566, st1566⟩ := getS X0 hx hZ (host := "") hown (hw _ (List.mem_of_getElem? (i := 189) rfl)) Via.refl e0 (SU.ext O.2) (g := (mkF m 4 #[.val (.int (0 : Int32))] [])) rfl (hb hby d27_4)
  have S1567 : own_Go p e below s₁ G T1566 (mkF m 7 #[.val (.int (0 : Int32))] [(.ref y)]) := fun tg_ kk_ => S1565 tg_ (st1566 tg_ kk_)
  have S1568 : own_Go p e below s₁ G T1566 (mkF m 35 #[.val (.int (0 : Int32))] [(.ref y)]) := fun tg_ kk_ => S1567 tg_ (by
    refine XS.goto X1566.here hx rfl (pc0 := 7) (pc' := 35) rfl (hb hby d27_7) (by decide) (by decide) ?_
    exact kk_)
  obtain ⟨fs, hr, hrun, hended, hW, hsame⟩ := X1566.leave (v := some (.ref y)) (fun h => by rw [Bd.returns] at h; cases h)
  refine ⟨_, _, ?_, hrun, hended, _, _, rfl, ?_, ⟨_, rfl⟩, hW, hsame.mono (by decide) (by decide)⟩
  · rw [← hG]; exact S1568 _ (retOut X1566 hx Bd.returns (by first | rfl | cases (.ref y) <;> rfl) (Or.inr (Or.inr (Or.inr (Or.inr ⟨rfl, rfl, rfl⟩)))) (hb hby d27_35) hr)
  · show Q270 Z y h0 n0 _ T1566.heap _
    rw [e1566]
    exact ⟨rfl, N0, rfl⟩
def Q271 (Z : State) (y : Addr) (h0 : Heap) (n0 : Nat) (v : Option Value) (h : Heap) (L : List Loc) : Prop := v = some (.ref y) ∧ Fr n0 L ∧ h0 = h
set_option maxRecDepth 65536 in
set_option maxHeartbeats 40000000 in
theorem rm271 (l : Launch) (Z : State) (a0 : Array Value) (hw : ∀ d ∈ tables_1, d.before a0 Z = true) (ws : List Jvm.Cond) (y : Addr) (h0 : Heap) (n0 : Nat) (Z0 : n0 ≤ h0.size) (O : Old Z n0 h0) (SU : Sta Z Z.heap "com/example/tileshift/tileshift/Move" "D" "Lcom/example/tileshift/tileshift/Move;" (.ref y)) :
    MetFree l (⟨"com/example/tileshift/tileshift/NodeTableReachedFromPinLaw", "moveOf", "(I)Lcom/example/tileshift/tileshift/Move;"⟩ : MethodName) (head1 (Jvm.Cond.code (⟨"com/example/tileshift/tileshift/NodeTableReachedFromPinLaw", "moveOf", "(I)Lcom/example/tileshift/tileshift/Move;"⟩ : MethodName) method_2_code 1 (some (.object "com/example/tileshift/tileshift/Move")) :: ws) ({ frames := 0, cells := 0, slots := 0, locals := 0 } : Room)) (fun aa_ U => aa_ = #[(.int (1 : Int32))] ∧ Z.Warmed39 U.vm ∧ U.heap = h0) (fun _ _ _ _ _ => True) (fun _ U o U' => ∃ v L, o = .returned v ∧ Q271 Z y h0 n0 v U'.heap L ∧ FrameEnd U o U' L ({ frames := 0, cells := 0, slots := 0, locals := 0 } : Room).cells ({ frames := 0, cells := 0, slots := 0, locals := 0 } : Room).slots) := by
  refine MetFree.of_bodySF (plainFor_of_name pn10) hisR ?_
  intro p e s m args below meth c s₁ Bd hml0 hP hK
  obtain ⟨rfl, hZ, hh⟩ := hP
  have hx := Bd.exec
  have hby := Bd.bytes
  have hml : c.maxLocals = 1 := hml0
  have hown : s.vm.findClass "com/example/tileshift/tileshift/NodeTableReachedFromPinLaw" = some m.cls := findClass_of_methodNamed Bd.named
  have hnm := (name_of_methodNamed Bd.named Bd.method).1
  have X0 : Stand p l e ({ frames := 0, cells := 0, slots := 0, locals := 0 } : Room) s m #[(.int (1 : Int32))] below meth c s₁ [] 0 0 := Stand.of_body Bd
  have e0 : s₁.heap = h0 := by rw [← hh, Bd.state]; rfl
  have N0 := Fr.nil n0
  obtain ⟨G, hG⟩ : ∃ G, G = entryFrame m #[(.int (1 : Int32))] 1 := ⟨_, rfl⟩
  have S0 : own_Go p e below s₁ G s₁ (mkF m 0 #[.val (.int (1 : Int32))] []) := fun tg_ kk_ => castTop (by rw [hG]; first | rfl | simp [entryFrame, mkF, argsToLocals, Value.category, maxLocals]) kk_
  have S1569 : own_Go p e below s₁ G s₁ (mkF m 15 #[.val (.int (1 : Int32))] []) := fun tg_ kk_ => S0 tg_ (by
    refine XS.iloadN X0.here hx rfl (hb hby d27_0) rfl ?_
    show Steps p.tables e below (s₁.setTop (mkF m 1 #[.val (.int (1 : Int32))] [(.int (1 : Int32))])) _
    refine XS.ifYes X0.here hx rfl (pc0 := 1) (pc' := 10) rfl (hb hby d27_1) rfl (XT.i0_ne_t (by decide)) (by decide) (by decide) ?_
    show Steps p.tables e below (s₁.setTop (mkF m 10 #[.val (.int (1 : Int32))] [])) _
    refine XS.iloadN X0.here hx rfl (hb hby d27_10) rfl ?_
    show Steps p.tables e below (s₁.setTop (mkF m 11 #[.val (.int (1 : Int32))] [(.int (1 : Int32))])) _
    refine XS.iconst X0.here hx rfl (hb hby d27_11) ?_
    show Steps p.tables e below (s₁.setTop (mkF m 12 #[.val (.int (1 : Int32))] [(.int (1 : Int32)), (.int (1 : Int32))])) _
    refine XS.icmpNo X0.here hx rfl (hb hby d27_12) rfl (XT.ii_ne_f (by decide)) ?_
    exact kk_)
  obtain ⟨T1570, X1570, e1570, st1570⟩ := getS X0 hx hZ (host := "") hown (hw _ (List.mem_of_getElem? (i := 191) rfl)) Via.refl e0 (SU.ext O.2) (g := (mkF m 15 #[.val (.int (1 : Int32))] [])) rfl (hb hby d27_15)
  have S1571 : own_Go p e below s₁ G T1570 (mkF m 18 #[.val (.int (1 : Int32))] [(.ref y)]) := fun tg_ kk_ => S1569 tg_ (st1570 tg_ kk_)
  have S1572 : own_Go p e below s₁ G T1570 (mkF m 35 #[.val (.int (1 : Int32))] [(.ref y)]) := fun tg_ kk_ => S1571 tg_ (by
    refine XS.goto X1570.here hx rfl (pc0 := 18) (pc' := 35) rfl (hb hby d27_18) (by decide) (by decide) ?_
    exact kk_)
  obtain ⟨fs, hr, hrun, hended, hW, hsame⟩ := X1570.leave (v := some (.ref y)) (fun h => by rw [Bd.returns] at h; cases h)
  refine ⟨_, _, ?_, hrun, hended, _, _, rfl, ?_, ⟨_, rfl⟩, hW, hsame.mono (by decide) (by decide)⟩
  · rw [← hG]; exact S1572 _ (retOut X1570 hx Bd.returns (by first | rfl | cases (.ref y) <;> rfl) (Or.inr (Or.inr (Or.inr (Or.inr ⟨rfl, rfl, rfl⟩)))) (hb hby d27_35) hr)
  · show Q271 Z y h0 n0 _ T1570.heap _
    rw [e1570]
    exact ⟨rfl, N0, rfl⟩
def Q272 (Z : State) (y : Addr) (h0 : Heap) (n0 : Nat) (v : Option Value) (h : Heap) (L : List Loc) : Prop := v = some (.ref y) ∧ Fr n0 L ∧ h0 = h
set_option maxRecDepth 65536 in
set_option maxHeartbeats 40000000 in
theorem rm272 (l : Launch) (Z : State) (a0 : Array Value) (hw : ∀ d ∈ tables_1, d.before a0 Z = true) (ws : List Jvm.Cond) (y : Addr) (h0 : Heap) (n0 : Nat) (Z0 : n0 ≤ h0.size) (O : Old Z n0 h0) (SU : Sta Z Z.heap "com/example/tileshift/tileshift/Move" "L" "Lcom/example/tileshift/tileshift/Move;" (.ref y)) :
    MetFree l (⟨"com/example/tileshift/tileshift/NodeTableReachedFromPinLaw", "moveOf", "(I)Lcom/example/tileshift/tileshift/Move;"⟩ : MethodName) (head1 (Jvm.Cond.code (⟨"com/example/tileshift/tileshift/NodeTableReachedFromPinLaw", "moveOf", "(I)Lcom/example/tileshift/tileshift/Move;"⟩ : MethodName) method_2_code 1 (some (.object "com/example/tileshift/tileshift/Move")) :: ws) ({ frames := 0, cells := 0, slots := 0, locals := 0 } : Room)) (fun aa_ U => aa_ = #[(.int (2 : Int32))] ∧ Z.Warmed39 U.vm ∧ U.heap = h0) (fun _ _ _ _ _ => True) (fun _ U o U' => ∃ v L, o = .returned v ∧ Q272 Z y h0 n0 v U'.heap L ∧ FrameEnd U o U' L ({ frames := 0, cells := 0, slots := 0, locals := 0 } : Room).cells ({ frames := 0, cells := 0, slots := 0, locals := 0 } : Room).slots) := by
  refine MetFree.of_bodySF (plainFor_of_name pn10) hisR ?_
  intro p e s m args below meth c s₁ Bd hml0 hP hK
  obtain ⟨rfl, hZ, hh⟩ := hP
  have hx := Bd.exec
  have hby := Bd.bytes
  have hml : c.maxLocals = 1 := hml0
  have hown : s.vm.findClass "com/example/tileshift/tileshift/NodeTableReachedFromPinLaw" = some m.cls := findClass_of_methodNamed Bd.named
  have hnm := (name_of_methodNamed Bd.named Bd.method).1
  have X0 : Stand p l e ({ frames := 0, cells := 0, slots := 0, locals := 0 } : Room) s m #[(.int (2 : Int32))] below meth c s₁ [] 0 0 := Stand.of_body Bd
  have e0 : s₁.heap = h0 := by rw [← hh, Bd.state]; rfl
  have N0 := Fr.nil n0
  obtain ⟨G, hG⟩ : ∃ G, G = entryFrame m #[(.int (2 : Int32))] 1 := ⟨_, rfl⟩
  have S0 : own_Go p e below s₁ G s₁ (mkF m 0 #[.val (.int (2 : Int32))] []) := fun tg_ kk_ => castTop (by rw [hG]; first | rfl | simp [entryFrame, mkF, argsToLocals, Value.category, maxLocals]) kk_
  have S1573 : own_Go p e below s₁ G s₁ (mkF m 26 #[.val (.int (2 : Int32))] []) := fun tg_ kk_ => S0 tg_ (by
    refine XS.iloadN X0.here hx rfl (hb hby d27_0) rfl ?_
    show Steps p.tables e below (s₁.setTop (mkF m 1 #[.val (.int (2 : Int32))] [(.int (2 : Int32))])) _
    refine XS.ifYes X0.here hx rfl (pc0 := 1) (pc' := 10) rfl (hb hby d27_1) rfl (XT.i0_ne_t (by decide)) (by decide) (by decide) ?_
    show Steps p.tables e below (s₁.setTop (mkF m 10 #[.val (.int (2 : Int32))] [])) _
    refine XS.iloadN X0.here hx rfl (hb hby d27_10) rfl ?_
    show Steps p.tables e below (s₁.setTop (mkF m 11 #[.val (.int (2 : Int32))] [(.int (2 : Int32))])) _
    refine XS.iconst X0.here hx rfl (hb hby d27_11) ?_
    show Steps p.tables e below (s₁.setTop (mkF m 12 #[.val (.int (2 : Int32))] [(.int (1 : Int32)), (.int (2 : Int32))])) _
    refine XS.icmpYes X0.here hx rfl (pc0 := 12) (pc' := 21) rfl (hb hby d27_12) rfl (XT.ii_ne_t (by decide)) (by decide) (by decide) ?_
    show Steps p.tables e below (s₁.setTop (mkF m 21 #[.val (.int (2 : Int32))] [])) _
    refine XS.iloadN X0.here hx rfl (hb hby d27_21) rfl ?_
    show Steps p.tables e below (s₁.setTop (mkF m 22 #[.val (.int (2 : Int32))] [(.int (2 : Int32))])) _
    refine XS.iconst X0.here hx rfl (hb hby d27_22) ?_
    show Steps p.tables e below (s₁.setTop (mkF m 23 #[.val (.int (2 : Int32))] [(.int (2 : Int32)), (.int (2 : Int32))])) _
    refine XS.icmpNo X0.here hx rfl (hb hby d27_23) rfl (XT.ii_ne_f (by decide)) ?_
    exact kk_)
  obtain ⟨T1574, X1574, e1574, st1574⟩ := getS X0 hx hZ (host := "") hown (hw _ (List.mem_of_getElem? (i := 193) rfl)) Via.refl e0 (SU.ext O.2) (g := (mkF m 26 #[.val (.int (2 : Int32))] [])) rfl (hb hby d27_26)
  have S1575 : own_Go p e below s₁ G T1574 (mkF m 29 #[.val (.int (2 : Int32))] [(.ref y)]) := fun tg_ kk_ => S1573 tg_ (st1574 tg_ kk_)
  have S1576 : own_Go p e below s₁ G T1574 (mkF m 35 #[.val (.int (2 : Int32))] [(.ref y)]) := fun tg_ kk_ => S1575 tg_ (by
    refine XS.goto X1574.here hx rfl (pc0 := 29) (pc' := 35) rfl (hb hby d27_29) (by decide) (by decide) ?_
    exact kk_)
  obtain ⟨fs, hr, hrun, hended, hW, hsame⟩ := X1574.leave (v := some (.ref y)) (fun h => by rw [Bd.returns] at h; cases h)
  refine ⟨_, _, ?_, hrun, hended, _, _, rfl, ?_, ⟨_, rfl⟩, hW, hsame.mono (by decide) (by decide)⟩
  · rw [← hG]; exact S1576 _ (retOut X1574 hx Bd.returns (by first | rfl | cases (.ref y) <;> rfl) (Or.inr (Or.inr (Or.inr (Or.inr ⟨rfl, rfl, rfl⟩)))) (hb hby d27_35) hr)
  · show Q272 Z y h0 n0 _ T1574.heap _
    rw [e1574]
    exact ⟨rfl, N0, rfl⟩
def Q273 (Z : State) (y : Addr) (h0 : Heap) (n0 : Nat) (v : Option Value) (h : Heap) (L : List Loc) : Prop := v = some (.ref y) ∧ Fr n0 L ∧ h0 = h
set_option maxRecDepth 65536 in
set_option maxHeartbeats 40000000 in
theorem rm273 (l : Launch) (Z : State) (a0 : Array Value) (hw : ∀ d ∈ tables_1, d.before a0 Z = true) (ws : List Jvm.Cond) (y : Addr) (h0 : Heap) (n0 : Nat) (Z0 : n0 ≤ h0.size) (O : Old Z n0 h0) (SU : Sta Z Z.heap "com/example/tileshift/tileshift/Move" "R" "Lcom/example/tileshift/tileshift/Move;" (.ref y)) :
    MetFree l (⟨"com/example/tileshift/tileshift/NodeTableReachedFromPinLaw", "moveOf", "(I)Lcom/example/tileshift/tileshift/Move;"⟩ : MethodName) (head1 (Jvm.Cond.code (⟨"com/example/tileshift/tileshift/NodeTableReachedFromPinLaw", "moveOf", "(I)Lcom/example/tileshift/tileshift/Move;"⟩ : MethodName) method_2_code 1 (some (.object "com/example/tileshift/tileshift/Move")) :: ws) ({ frames := 0, cells := 0, slots := 0, locals := 0 } : Room)) (fun aa_ U => aa_ = #[(.int (3 : Int32))] ∧ Z.Warmed39 U.vm ∧ U.heap = h0) (fun _ _ _ _ _ => True) (fun _ U o U' => ∃ v L, o = .returned v ∧ Q273 Z y h0 n0 v U'.heap L ∧ FrameEnd U o U' L ({ frames := 0, cells := 0, slots := 0, locals := 0 } : Room).cells ({ frames := 0, cells := 0, slots := 0, locals := 0 } : Room).slots) := by
  refine MetFree.of_bodySF (plainFor_of_name pn10) hisR ?_
  intro p e s m args below meth c s₁ Bd hml0 hP hK
  obtain ⟨rfl, hZ, hh⟩ := hP
  have hx := Bd.exec
  have hby := Bd.bytes
  have hml : c.maxLocals = 1 := hml0
  have hown : s.vm.findClass "com/example/tileshift/tileshift/NodeTableReachedFromPinLaw" = some m.cls := findClass_of_methodNamed Bd.named
  have hnm := (name_of_methodNamed Bd.named Bd.method).1
  have X0 : Stand p l e ({ frames := 0, cells := 0, slots := 0, locals := 0 } : Room) s m #[(.int (3 : Int32))] below meth c s₁ [] 0 0 := Stand.of_body Bd
  have e0 : s₁.heap = h0 := by rw [← hh, Bd.state]; rfl
  have N0 := Fr.nil n0
  obtain ⟨G, hG⟩ : ∃ G, G = entryFrame m #[(.int (3 : Int32))] 1 := ⟨_, rfl⟩
  have S0 : own_Go p e below s₁ G s₁ (mkF m 0 #[.val (.int (3 : Int32))] []) := fun tg_ kk_ => castTop (by rw [hG]; first | rfl | simp [entryFrame, mkF, argsToLocals, Value.category, maxLocals]) kk_
  have S1577 : own_Go p e below s₁ G s₁ (mkF m 32 #[.val (.int (3 : Int32))] []) := fun tg_ kk_ => S0 tg_ (by
    refine XS.iloadN X0.here hx rfl (hb hby d27_0) rfl ?_
    show Steps p.tables e below (s₁.setTop (mkF m 1 #[.val (.int (3 : Int32))] [(.int (3 : Int32))])) _
    refine XS.ifYes X0.here hx rfl (pc0 := 1) (pc' := 10) rfl (hb hby d27_1) rfl (XT.i0_ne_t (by decide)) (by decide) (by decide) ?_
    show Steps p.tables e below (s₁.setTop (mkF m 10 #[.val (.int (3 : Int32))] [])) _
    refine XS.iloadN X0.here hx rfl (hb hby d27_10) rfl ?_
    show Steps p.tables e below (s₁.setTop (mkF m 11 #[.val (.int (3 : Int32))] [(.int (3 : Int32))])) _
    refine XS.iconst X0.here hx rfl (hb hby d27_11) ?_
    show Steps p.tables e below (s₁.setTop (mkF m 12 #[.val (.int (3 : Int32))] [(.int (1 : Int32)), (.int (3 : Int32))])) _
    refine XS.icmpYes X0.here hx rfl (pc0 := 12) (pc' := 21) rfl (hb hby d27_12) rfl (XT.ii_ne_t (by decide)) (by decide) (by decide) ?_
    show Steps p.tables e below (s₁.setTop (mkF m 21 #[.val (.int (3 : Int32))] [])) _
    refine XS.iloadN X0.here hx rfl (hb hby d27_21) rfl ?_
    show Steps p.tables e below (s₁.setTop (mkF m 22 #[.val (.int (3 : Int32))] [(.int (3 : Int32))])) _
    refine XS.iconst X0.here hx rfl (hb hby d27_22) ?_
    show Steps p.tables e below (s₁.setTop (mkF m 23 #[.val (.int (3 : Int32))] [(.int (2 : Int32)), (.int (3 : Int32))])) _
    refine XS.icmpYes X0.here hx rfl (pc0 := 23) (pc' := 32) rfl (hb hby d27_23) rfl (XT.ii_ne_t (by decide)) (by decide) (by decide) ?_
    exact kk_)
  obtain ⟨T1578, X1578, e1578, st1578⟩ := getS X0 hx hZ (host := "") hown (hw _ (List.mem_of_getElem? (i := 187) rfl)) Via.refl e0 (SU.ext O.2) (g := (mkF m 32 #[.val (.int (3 : Int32))] [])) rfl (hb hby d27_32)
  have S1579 : own_Go p e below s₁ G T1578 (mkF m 35 #[.val (.int (3 : Int32))] [(.ref y)]) := fun tg_ kk_ => S1577 tg_ (st1578 tg_ kk_)
  obtain ⟨fs, hr, hrun, hended, hW, hsame⟩ := X1578.leave (v := some (.ref y)) (fun h => by rw [Bd.returns] at h; cases h)
  refine ⟨_, _, ?_, hrun, hended, _, _, rfl, ?_, ⟨_, rfl⟩, hW, hsame.mono (by decide) (by decide)⟩
  · rw [← hG]; exact S1579 _ (retOut X1578 hx Bd.returns (by first | rfl | cases (.ref y) <;> rfl) (Or.inr (Or.inr (Or.inr (Or.inr ⟨rfl, rfl, rfl⟩)))) (hb hby d27_35) hr)
  · show Q273 Z y h0 n0 _ T1578.heap _
    rw [e1578]
    exact ⟨rfl, N0, rfl⟩
theorem own_NT.ext {Z : State} {h h' : Heap} {a w sh k b pr mv t : Addr} {nd : Int32} {ks bs ps ms ts : List Value} (N : own_NT Z h a w sh k b pr mv t nd ks bs ps ms ts) (E : Ext h h') : own_NT Z h' a w sh k b pr mv t nd ks bs ps ms ts := by
  have n1 := N.1; have n2 := N.2.1; have n3 := N.2.2.1; have n4 := N.2.2.2.1; have n5 := N.2.2.2.2.1; have n6 := N.2.2.2.2.2.1; have n7 := N.2.2.2.2.2.2.1
  exact ⟨N.1, N.2.1, N.2.2.1, N.2.2.2.1, N.2.2.2.2.1, N.2.2.2.2.2.1, N.2.2.2.2.2.2.1, N.2.2.2.2.2.2.2.1.ext E, N.2.2.2.2.2.2.2.2.1.ext E, N.2.2.2.2.2.2.2.2.2.1.ext E, N.2.2.2.2.2.2.2.2.2.2.1.ext E, N.2.2.2.2.2.2.2.2.2.2.2.1.ext E, N.2.2.2.2.2.2.2.2.2.2.2.2.1.ext E, N.2.2.2.2.2.2.2.2.2.2.2.2.2.1.ext E, N.2.2.2.2.2.2.2.2.2.2.2.2.2.2.1.ext E, N.2.2.2.2.2.2.2.2.2.2.2.2.2.2.2.1.ext E, N.2.2.2.2.2.2.2.2.2.2.2.2.2.2.2.2.1.ext E, N.2.2.2.2.2.2.2.2.2.2.2.2.2.2.2.2.2.1.ext E, N.2.2.2.2.2.2.2.2.2.2.2.2.2.2.2.2.2.2.1.ext E, N.2.2.2.2.2.2.2.2.2.2.2.2.2.2.2.2.2.2.2.1.imp fun _ z => z.ext E, N.2.2.2.2.2.2.2.2.2.2.2.2.2.2.2.2.2.2.2.2.1.imp fun _ z => z.ext E, N.2.2.2.2.2.2.2.2.2.2.2.2.2.2.2.2.2.2.2.2.2.1.imp fun _ z => z.ext E, N.2.2.2.2.2.2.2.2.2.2.2.2.2.2.2.2.2.2.2.2.2.2.1.imp fun _ z => z.ext E, N.2.2.2.2.2.2.2.2.2.2.2.2.2.2.2.2.2.2.2.2.2.2.2.1.imp fun _ z => z.ext E, N.2.2.2.2.2.2.2.2.2.2.2.2.2.2.2.2.2.2.2.2.2.2.2.2.1.imp fun _ z => z.ext E, N.2.2.2.2.2.2.2.2.2.2.2.2.2.2.2.2.2.2.2.2.2.2.2.2.2.imp fun _ z => z.ext E⟩
theorem own_NT.wr {Z : State} {h h' : Heap} {a w sh k b pr mv t : Addr} {nd : Int32} {ks bs ps ms ts : List Value} (N : own_NT Z h a w sh k b pr mv t nd ks bs ps ms ts) {c : Addr} {sl : Nat} {v : Value} (W : Wr h h' c sl v) (hc : @LT.lt Nat instLTNat t c) : own_NT Z h' a w sh k b pr mv t nd ks bs ps ms ts := by
  have n1 := N.1; have n2 := N.2.1; have n3 := N.2.2.1; have n4 := N.2.2.2.1; have n5 := N.2.2.2.2.1; have n6 := N.2.2.2.2.2.1; have n7 := N.2.2.2.2.2.2.1
  exact ⟨N.1, N.2.1, N.2.2.1, N.2.2.2.1, N.2.2.2.2.1, N.2.2.2.2.2.1, N.2.2.2.2.2.2.1, N.2.2.2.2.2.2.2.1.wr W, N.2.2.2.2.2.2.2.2.1.other W (Or.inl (own_nelt (by omega))), N.2.2.2.2.2.2.2.2.2.1.other W (Or.inl (own_nelt (by omega))), N.2.2.2.2.2.2.2.2.2.2.1.other W (Or.inl (own_nelt (by omega))), N.2.2.2.2.2.2.2.2.2.2.2.1.other W (Or.inl (own_nelt (by omega))), N.2.2.2.2.2.2.2.2.2.2.2.2.1.other W (Or.inl (own_nelt (by omega))), N.2.2.2.2.2.2.2.2.2.2.2.2.2.1.other W (Or.inl (own_nelt (by omega))), N.2.2.2.2.2.2.2.2.2.2.2.2.2.2.1.other W (Or.inl (own_nelt (by omega))), N.2.2.2.2.2.2.2.2.2.2.2.2.2.2.2.1.other W (Or.inl (own_nelt (by omega))), N.2.2.2.2.2.2.2.2.2.2.2.2.2.2.2.2.1.other W (Or.inl (own_nelt (by omega))), N.2.2.2.2.2.2.2.2.2.2.2.2.2.2.2.2.2.1.other W (Or.inl (own_nelt (by omega))), N.2.2.2.2.2.2.2.2.2.2.2.2.2.2.2.2.2.2.1.other W (Or.inl (own_nelt (by omega))), N.2.2.2.2.2.2.2.2.2.2.2.2.2.2.2.2.2.2.2.1.imp fun _ z => z.other W (own_nelt (by omega)), N.2.2.2.2.2.2.2.2.2.2.2.2.2.2.2.2.2.2.2.2.1.imp fun _ z => z.other W (own_nelt (by omega)), N.2.2.2.2.2.2.2.2.2.2.2.2.2.2.2.2.2.2.2.2.2.1.imp fun _ z => z.other W (own_nelt (by omega)), N.2.2.2.2.2.2.2.2.2.2.2.2.2.2.2.2.2.2.2.2.2.2.1.imp fun _ z => z.other W (own_nelt (by omega)), N.2.2.2.2.2.2.2.2.2.2.2.2.2.2.2.2.2.2.2.2.2.2.2.1.imp fun _ z => z.other W (own_nelt (by omega)), N.2.2.2.2.2.2.2.2.2.2.2.2.2.2.2.2.2.2.2.2.2.2.2.2.1.imp fun _ z => z.other W (own_nelt (by omega)), N.2.2.2.2.2.2.2.2.2.2.2.2.2.2.2.2.2.2.2.2.2.2.2.2.2.imp fun _ z => z.other W (own_nelt (by omega))⟩
theorem own_NP.keep {Z : State} {h h' : Heap} {a pr mv : Addr} {x y : Int32} (N : own_NP Z h a pr mv x y) (K : Keep h h' []) : own_NP Z h' a pr mv x y := ⟨N.1, N.2.1, N.2.2.1.keep K, N.2.2.2.1.keep K nin0, N.2.2.2.2.1.keep K nin0, N.2.2.2.2.2.1.imp fun _ z => z.keep K nin0, N.2.2.2.2.2.2.imp fun _ z => z.keep K nin0⟩
theorem own_and3 (x : Int32) : x &&& 3 = 0 ∨ x &&& 3 = 1 ∨ x &&& 3 = 2 ∨ x &&& 3 = 3 := by
  have h := c_mask x 3 2 (by decide) (by decide)
  have q : (x &&& 3).toInt = 0 ∨ (x &&& 3).toInt = 1 ∨ (x &&& 3).toInt = 2 ∨ (x &&& 3).toInt = 3 := by omega
  rcases q with q | q | q | q
  · exact Or.inl (Int32.toInt_inj.mp q)
  · exact Or.inr (Or.inl (Int32.toInt_inj.mp q))
  · exact Or.inr (Or.inr (Or.inl (Int32.toInt_inj.mp q)))
  · exact Or.inr (Or.inr (Or.inr (Int32.toInt_inj.mp q)))
def Q0 (Z : State) (p0 : Int32) (p1 : Int32) (p2 : Int32) (p3 : Int32) (h0 : Heap) (n0 : Nat) (v : Option Value) (h : Heap) (L : List Loc) : Prop := v = some (.int 1) ∧ Fr n0 L
set_option maxRecDepth 65536 in
set_option maxHeartbeats 40000000 in
theorem rm0 (l : Launch) (Z : State) (a0 : Array Value) (hw : ∀ d ∈ tables_1, d.before a0 Z = true) (ws : List Jvm.Cond) (p0 : Int32) (p1 : Int32) (p2 : Int32) (p3 : Int32) (h0 : Heap) (n0 : Nat) (Z0 : n0 ≤ h0.size) (dd m0 yU yD yL yR : Addr) (O : Old Z n0 h0) (SD : Sta Z Z.heap "java/util/ArrayList" "DEFAULTCAPACITY_EMPTY_ELEMENTDATA" "[Ljava/lang/Object;" (.ref dd)) (qd : ClassId) (VD : Arv Z Z.heap dd qd (.object "java/lang/Object") 0 [] .null) (qm0 : ClassId) (SM : Sta Z Z.heap "com/example/tileshift/tileshift/NodeTable" "MOVES" "[Lcom/example/tileshift/tileshift/Move;" (.ref m0)) (VM : Arv Z Z.heap m0 qm0 (.object "com/example/tileshift/tileshift/Move") 4 [.ref yU, .ref yD, .ref yL, .ref yR] .null) (SmU : Sta Z Z.heap "com/example/tileshift/tileshift/Move" "U" "Lcom/example/tileshift/tileshift/Move;" (.ref yU)) (EmU : Exa Z Z.heap yU "com/example/tileshift/tileshift/Move") (SmD : Sta Z Z.heap "com/example/tileshift/tileshift/Move" "D" "Lcom/example/tileshift/tileshift/Move;" (.ref yD)) (EmD : Exa Z Z.heap yD "com/example/tileshift/tileshift/Move") (SmL : Sta Z Z.heap "com/example/tileshift/tileshift/Move" "L" "Lcom/example/tileshift/tileshift/Move;" (.ref yL)) (EmL : Exa Z Z.heap yL "com/example/tileshift/tileshift/Move") (SmR : Sta Z Z.heap "com/example/tileshift/tileshift/Move" "R" "Lcom/example/tileshift/tileshift/Move;" (.ref yR)) (EmR : Exa Z Z.heap yR "com/example/tileshift/tileshift/Move") :
    MetFree l x (head1 (Jvm.Cond.code x code maxLocals ret :: ws) room_1) (fun aa_ U => aa_ = #[(.int p0), (.int p1), (.int p2), (.int p3)] ∧ Z.Warmed39 U.vm ∧ U.heap = h0) (fun _ _ _ _ _ => True) (fun _ U o U' => ∃ v L, o = .returned v ∧ Q0 Z p0 p1 p2 p3 h0 n0 v U'.heap L ∧ FrameEnd U o U' L 32 10432) := by
  refine MetFree.of_bodySF (plainFor_of_name pn10) hisR ?_
  intro p e s m args below meth c s₁ Bd hml0 hP hK
  obtain ⟨rfl, hZ, hh⟩ := hP
  have hx := Bd.exec
  have hby := Bd.bytes
  have hml : c.maxLocals = 13 := hml0
  have hown : s.vm.findClass "com/example/tileshift/tileshift/NodeTableReachedFromPinLaw" = some m.cls := findClass_of_methodNamed Bd.named
  have hnm := (name_of_methodNamed Bd.named Bd.method).1
  have X0 : Stand p l e room_1 s m #[(.int p0), (.int p1), (.int p2), (.int p3)] below meth c s₁ [] 0 0 := Stand.of_body Bd
  have e0 : s₁.heap = h0 := by rw [← hh, Bd.state]; rfl
  have N0 := Fr.nil n0
  obtain ⟨G, hG⟩ : ∃ G, G = entryFrame m #[(.int p0), (.int p1), (.int p2), (.int p3)] maxLocals := ⟨_, rfl⟩
  have S0 : own_Go p e below s₁ G s₁ (mkF m 0 #[.val (.int p0), .val (.int p1), .val (.int p2), .val (.int p3), .unset, .unset, .unset, .unset, .unset, .unset, .unset, .unset, .unset] []) := fun tg_ kk_ => castTop (by rw [hG]; first | (simp [entryFrame, mkF, argsToLocals, Value.category, maxLocals]; done) | rfl) kk_
  obtain ⟨T1580, h1580, X1580, e1580, E1580, A1580, D1580, -, st1580⟩ := newO X0 hx hZ hown (hw _ (List.mem_of_getElem? (i := 0) rfl)) (hw _ (List.mem_of_getElem? (i := 1) rfl)) (hw _ (List.mem_of_getElem? (i := 2) rfl)) e0 (g := (mkF m 0 #[.val (.int p0), .val (.int p1), .val (.int p2), .val (.int p3), .unset, .unset, .unset, .unset, .unset, .unset, .unset, .unset, .unset] [])) rfl (hb hby at_0) (by decide) (by decide)
  obtain ⟨a1580, g1580⟩ : ∃ z, z = h0.size := ⟨_, rfl⟩
  rw [← g1580] at A1580 D1580 st1580
  have S1581 : own_Go p e below s₁ G T1580 (mkF m 3 #[.val (.int p0), .val (.int p1), .val (.int p2), .val (.int p3), .unset, .unset, .unset, .unset, .unset, .unset, .unset, .unset, .unset] [(.ref a1580)]) := fun tg_ kk_ => S0 tg_ (st1580 tg_ kk_)
  have o1582 : @LE.le Nat instLENat (n0) a1580 := Nat.le_trans Z0 (Nat.le_of_eq g1580.symm)
  have f1583 := O.ext E1580
  have f1584 := own_sub Z0 E1580
  have f1585 : Fld Z h1580 a1580 "com/example/tileshift/tileshift/NodeTable" "bits" "I" (.int 0) := D1580 (Or.inr (hw _ (List.mem_of_getElem? (i := 15) rfl))) (ty := .int) (by decide)
  have f1586 : Fld Z h1580 a1580 "com/example/tileshift/tileshift/NodeTable" "width" "I" (.int 0) := D1580 (Or.inr (hw _ (List.mem_of_getElem? (i := 17) rfl))) (ty := .int) (by decide)
  have f1587 : Fld Z h1580 a1580 "com/example/tileshift/tileshift/NodeTable" "word" "[I" .null := D1580 (Or.inr (hw _ (List.mem_of_getElem? (i := 20) rfl))) (ty := (.array .int)) (by decide)
  have f1588 : Fld Z h1580 a1580 "com/example/tileshift/tileshift/NodeTable" "shift" "[I" .null := D1580 (Or.inr (hw _ (List.mem_of_getElem? (i := 22) rfl))) (ty := (.array .int)) (by decide)
  have f1589 : Fld Z h1580 a1580 "com/example/tileshift/tileshift/NodeTable" "key" "[J" .null := D1580 (Or.inr (hw _ (List.mem_of_getElem? (i := 25) rfl))) (ty := (.array .long)) (by decide)
  have f1590 : Fld Z h1580 a1580 "com/example/tileshift/tileshift/NodeTable" "boards" "[J" .null := D1580 (Or.inl (hw _ (List.mem_of_getElem? (i := 27) rfl))) (ty := (.array .long)) (by decide)
  have f1591 : Fld Z h1580 a1580 "com/example/tileshift/tileshift/NodeTable" "parent" "[I" .null := D1580 (Or.inl (hw _ (List.mem_of_getElem? (i := 29) rfl))) (ty := (.array .int)) (by decide)
  have f1592 : Fld Z h1580 a1580 "com/example/tileshift/tileshift/NodeTable" "move" "[B" .null := D1580 (Or.inl (hw _ (List.mem_of_getElem? (i := 32) rfl))) (ty := (.array .byte)) (by decide)
  have f1593 : Fld Z h1580 a1580 "com/example/tileshift/tileshift/NodeTable" "nodes" "I" (.int 0) := D1580 (Or.inl (hw _ (List.mem_of_getElem? (i := 56) rfl))) (ty := .int) (by decide)
  have f1594 : Fld Z h1580 a1580 "com/example/tileshift/tileshift/NodeTable" "table" "[I" .null := D1580 (Or.inl (hw _ (List.mem_of_getElem? (i := 37) rfl))) (ty := (.array .int)) (by decide)
  have f1595 : Fld Z h1580 a1580 "com/example/tileshift/tileshift/NodeTable" "tableShift" "I" (.int 0) := D1580 (Or.inl (hw _ (List.mem_of_getElem? (i := 39) rfl))) (ty := .int) (by decide)
  have NT0 : own_NT0 Z h1580 a1580 := ⟨A1580, f1585, f1586, f1587, f1588, f1589, f1590, f1591, f1592, f1593, f1594, f1595⟩
  have S1596 : own_Go p e below s₁ G T1580 (mkF m 5 #[.val (.int p0), .val (.int p1), .val (.int p2), .val (.int p3), .unset, .unset, .unset, .unset, .unset, .unset, .unset, .unset, .unset] [(.int (4 : Int32)), (.ref a1580), (.ref a1580)]) := fun tg_ kk_ => S1581 tg_ (by
    refine XS.dup X1580.here hx rfl (hb hby at_3) rfl rfl ?_
    show Steps p.tables e below (T1580.setTop (mkF m 4 #[.val (.int p0), .val (.int p1), .val (.int p2), .val (.int p3), .unset, .unset, .unset, .unset, .unset, .unset, .unset, .unset, .unset] [(.ref a1580), (.ref a1580)])) _
    refine XS.iconst X1580.here hx rfl (hb hby at_4) ?_
    exact kk_)
  obtain ⟨_, T1597, h1597, L1597, X1597, e1597, hQ1597, st1597⟩ := own_callI X1580 hx hZ (y := (⟨"com/example/tileshift/tileshift/NodeTable", "<init>", "(I)V"⟩ : MethodName)) rfl hown (hw _ (List.mem_of_getElem? (i := 3) rfl)) (hw _ (List.mem_of_getElem? (i := 4) rfl)) (hw _ (List.mem_of_getElem? (i := 2) rfl)) (hw _ (List.mem_of_getElem? (i := 5) rfl)) (by decide) 1 (g := (mkF m 5 #[.val (.int p0), .val (.int p1), .val (.int p2), .val (.int p3), .unset, .unset, .unset, .unset, .unset, .unset, .unset, .unset, .unset] [(.int (4 : Int32)), (.ref a1580), (.ref a1580)])) rfl (by rw [hml]; rfl) a1580 [(.int (4 : Int32))] [(.ref a1580)] (rm1 l Z a0 hw [] a1580 h1580 n0 f1584 NT0 (by omega)) (lenOf pd2 rfl) rfl (by show 2 * 0 + _ ≤ _; exact Nat.le_of_eq rfl) (hb hby at_5) (by decide) (by decide) e1580 (by decide) (by decide)
  obtain ⟨rfl, N1597, K1597, w, sh, k, b, pr, mv, t, NA⟩ := hQ1597
  have S1598 : own_Go p e below s₁ G T1597 (mkF m 8 #[.val (.int p0), .val (.int p1), .val (.int p2), .val (.int p3), .unset, .unset, .unset, .unset, .unset, .unset, .unset, .unset, .unset] [(.ref a1580)]) := fun tg_ kk_ => S1596 tg_ (st1597 tg_ kk_)
  have f1599 := Fr.app N0 N1597
  have f1600 := f1583.keep K1597 (allS (by omega) all0)
  have f1601 := Nat.le_trans f1584 K1597.1
  obtain ⟨oo1, oo2, oo3, oo4, oo5, oo6, oo7, xE0, -⟩ := id NA
  have S1602 : own_Go p e below s₁ G T1597 (mkF m 11 #[.val (.int p0), .val (.int p1), .val (.int p2), .val (.int p3), .val (.ref a1580), .unset, .unset, .unset, .unset, .unset, .unset, .unset, .unset] [(.int (4 : Int32))]) := fun tg_ kk_ => S1598 tg_ (by
    refine XS.astore X1597.here hx rfl (hb hby at_8) rfl rfl (l' := #[.val (.int p0), .val (.int p1), .val (.int p2), .val (.int p3), .val (.ref a1580), .unset, .unset, .unset, .unset, .unset, .unset, .unset, .unset]) rfl ?_
    show Steps p.tables e below (T1597.setTop (mkF m 10 #[.val (.int p0), .val (.int p1), .val (.int p2), .val (.int p3), .val (.ref a1580), .unset, .unset, .unset, .unset, .unset, .unset, .unset, .unset] [])) _
    refine XS.iconst X1597.here hx rfl (hb hby at_10) ?_
    exact kk_)
  obtain ⟨Tp1, hp1, kp1, Xp1, ep1, Ep1, Ap1, stp1⟩ := newP X1597 hx hZ (hw _ (List.mem_of_getElem? (i := 30) rfl)) e1597 (g := (mkF m 11 #[.val (.int p0), .val (.int p1), .val (.int p2), .val (.int p3), .val (.ref a1580), .unset, .unset, .unset, .unset, .unset, .unset, .unset, .unset] [(.int (4 : Int32))])) rfl (hb hby at_11) rfl (by decide) (cap := 4) (by decide) (by decide) (by decide) (by decide)
  have S1603 : own_Go p e below s₁ G Tp1 (mkF m 13 #[.val (.int p0), .val (.int p1), .val (.int p2), .val (.int p3), .val (.ref a1580), .unset, .unset, .unset, .unset, .unset, .unset, .unset, .unset] [(.ref h1597.size)]) := fun tg_ kk_ => S1602 tg_ (stp1 tg_ kk_)
  obtain ⟨cy, gc⟩ : ∃ z, z = h1597.size := ⟨_, rfl⟩
  rw [← gc] at S1603
  rw [← gc] at Ap1
  have hct : @LT.lt Nat instLTNat t cy := Nat.lt_of_lt_of_le (NA.2.2.2.2.2.2.2.2.2.2.2.2.2.2.2.2.2.2.2.2.2.2.2.2.2).choose_spec.lt (Nat.le_of_eq gc.symm)
  have hc0 : @LE.le Nat instLENat (n0) cy := Nat.le_trans f1601 (Nat.le_of_eq gc.symm)
  have f1604 := f1600.ext Ep1
  have f1605 := own_sub f1601 Ep1
  have NA0 := NA.ext Ep1
  have VC0 : Arv Z hp1 cy kp1 .byte 4 [] (.int 0) := Arv.new Ap1 (by decide)
  have S1606 : own_Go p e below s₁ G Tp1 (mkF m 16 #[.val (.int p0), .val (.int p1), .val (.int p2), .val (.int p3), .val (.ref a1580), .unset, .unset, .unset, .unset, .unset, .unset, .unset, .unset] [(.int (1 : Int32)), (.int (0 : Int32)), (.ref cy), (.ref cy)]) := fun tg_ kk_ => S1603 tg_ (by
    refine XS.dup Xp1.here hx rfl (hb hby at_13) rfl rfl ?_
    show Steps p.tables e below (Tp1.setTop (mkF m 14 #[.val (.int p0), .val (.int p1), .val (.int p2), .val (.int p3), .val (.ref a1580), .unset, .unset, .unset, .unset, .unset, .unset, .unset, .unset] [(.ref cy), (.ref cy)])) _
    refine XS.iconst Xp1.here hx rfl (hb hby at_14) ?_
    show Steps p.tables e below (Tp1.setTop (mkF m 15 #[.val (.int p0), .val (.int p1), .val (.int p2), .val (.int p3), .val (.ref a1580), .unset, .unset, .unset, .unset, .unset, .unset, .unset, .unset] [(.int (0 : Int32)), (.ref cy), (.ref cy)])) _
    refine XS.iconst Xp1.here hx rfl (hb hby at_15) ?_
    exact kk_)
  obtain ⟨cl1607, B1607, b1607, z1607, y1607, H1607, F1607⟩ := id VC0
  obtain ⟨U1607, u1607, Y1607, f1607x, W1607, su1607⟩ := stB Xp1 hx hZ ep1 B1607 (j := (0 : Int32)) (inb_of z1607 (by decide)) (g := (mkF m 16 #[.val (.int p0), .val (.int p1), .val (.int p2), .val (.int p3), .val (.ref a1580), .unset, .unset, .unset, .unset, .unset, .unset, .unset, .unset] [(.int (1 : Int32)), (.int (0 : Int32)), (.ref cy), (.ref cy)])) rfl rfl (hb hby at_16)
  have S1608 : own_Go p e below s₁ G U1607 (mkF m 17 #[.val (.int p0), .val (.int p1), .val (.int p2), .val (.int p3), .val (.ref a1580), .unset, .unset, .unset, .unset, .unset, .unset, .unset, .unset] [(.ref cy)]) := fun tg_ kk_ => S1606 tg_ (su1607 tg_ kk_)
  rw [show nar .byte (1 : Int32) = (1 : Int32) from by decide +kernel] at W1607
  have f1609 : Arv Z u1607 cy kp1 .byte (4 : Int32) [(.int (1 : Int32))] (.int 0) := own_push VC0 rfl W1607 rfl
  have f1610 := Fr.snoc Y1607 f1599 (by omega)
  have f1611 := f1604.wr W1607 (by omega)
  have f1612 : n0 ≤ u1607.size := by rw [W1607.size]; exact f1605
  have NA1607 := NA0.wr W1607 hct
  have S1613 : own_Go p e below s₁ G U1607 (mkF m 20 #[.val (.int p0), .val (.int p1), .val (.int p2), .val (.int p3), .val (.ref a1580), .unset, .unset, .unset, .unset, .unset, .unset, .unset, .unset] [(.int (0 : Int32)), (.int (1 : Int32)), (.ref cy), (.ref cy)]) := fun tg_ kk_ => S1608 tg_ (by
    refine XS.dup Y1607.here hx rfl (hb hby at_17) rfl rfl ?_
    show Steps p.tables e below (U1607.setTop (mkF m 18 #[.val (.int p0), .val (.int p1), .val (.int p2), .val (.int p3), .val (.ref a1580), .unset, .unset, .unset, .unset, .unset, .unset, .unset, .unset] [(.ref cy), (.ref cy)])) _
    refine XS.iconst Y1607.here hx rfl (hb hby at_18) ?_
    show Steps p.tables e below (U1607.setTop (mkF m 19 #[.val (.int p0), .val (.int p1), .val (.int p2), .val (.int p3), .val (.ref a1580), .unset, .unset, .unset, .unset, .unset, .unset, .unset, .unset] [(.int (1 : Int32)), (.ref cy), (.ref cy)])) _
    refine XS.iconst Y1607.here hx rfl (hb hby at_19) ?_
    exact kk_)
  obtain ⟨cl1614, B1614, b1614, z1614, y1614, H1614, F1614⟩ := id f1609
  obtain ⟨U1614, u1614, Y1614, f1614x, W1614, su1614⟩ := stB Y1607 hx hZ f1607x B1614 (j := (1 : Int32)) (inb_of z1614 (by decide)) (g := (mkF m 20 #[.val (.int p0), .val (.int p1), .val (.int p2), .val (.int p3), .val (.ref a1580), .unset, .unset, .unset, .unset, .unset, .unset, .unset, .unset] [(.int (0 : Int32)), (.int (1 : Int32)), (.ref cy), (.ref cy)])) rfl rfl (hb hby at_20)
  have S1615 : own_Go p e below s₁ G U1614 (mkF m 21 #[.val (.int p0), .val (.int p1), .val (.int p2), .val (.int p3), .val (.ref a1580), .unset, .unset, .unset, .unset, .unset, .unset, .unset, .unset] [(.ref cy)]) := fun tg_ kk_ => S1613 tg_ (su1614 tg_ kk_)
  rw [show nar .byte (0 : Int32) = (0 : Int32) from by decide +kernel] at W1614
  have f1616 : Arv Z u1614 cy kp1 .byte (4 : Int32) [(.int (1 : Int32)), (.int (0 : Int32))] (.int 0) := own_push f1609 rfl W1614 rfl
  have f1617 := Fr.snoc Y1614 f1610 (by omega)
  have f1618 := f1611.wr W1614 (by omega)
  have f1619 : n0 ≤ u1614.size := by rw [W1614.size]; exact f1612
  have NA1614 := NA1607.wr W1614 hct
  have S1620 : own_Go p e below s₁ G U1614 (mkF m 24 #[.val (.int p0), .val (.int p1), .val (.int p2), .val (.int p3), .val (.ref a1580), .unset, .unset, .unset, .unset, .unset, .unset, .unset, .unset] [(.int (2 : Int32)), (.int (2 : Int32)), (.ref cy), (.ref cy)]) := fun tg_ kk_ => S1615 tg_ (by
    refine XS.dup Y1614.here hx rfl (hb hby at_21) rfl rfl ?_
    show Steps p.tables e below (U1614.setTop (mkF m 22 #[.val (.int p0), .val (.int p1), .val (.int p2), .val (.int p3), .val (.ref a1580), .unset, .unset, .unset, .unset, .unset, .unset, .unset, .unset] [(.ref cy), (.ref cy)])) _
    refine XS.iconst Y1614.here hx rfl (hb hby at_22) ?_
    show Steps p.tables e below (U1614.setTop (mkF m 23 #[.val (.int p0), .val (.int p1), .val (.int p2), .val (.int p3), .val (.ref a1580), .unset, .unset, .unset, .unset, .unset, .unset, .unset, .unset] [(.int (2 : Int32)), (.ref cy), (.ref cy)])) _
    refine XS.iconst Y1614.here hx rfl (hb hby at_23) ?_
    exact kk_)
  obtain ⟨cl1621, B1621, b1621, z1621, y1621, H1621, F1621⟩ := id f1616
  obtain ⟨U1621, u1621, Y1621, f1621x, W1621, su1621⟩ := stB Y1614 hx hZ f1614x B1621 (j := (2 : Int32)) (inb_of z1621 (by decide)) (g := (mkF m 24 #[.val (.int p0), .val (.int p1), .val (.int p2), .val (.int p3), .val (.ref a1580), .unset, .unset, .unset, .unset, .unset, .unset, .unset, .unset] [(.int (2 : Int32)), (.int (2 : Int32)), (.ref cy), (.ref cy)])) rfl rfl (hb hby at_24)
  have S1622 : own_Go p e below s₁ G U1621 (mkF m 25 #[.val (.int p0), .val (.int p1), .val (.int p2), .val (.int p3), .val (.ref a1580), .unset, .unset, .unset, .unset, .unset, .unset, .unset, .unset] [(.ref cy)]) := fun tg_ kk_ => S1620 tg_ (su1621 tg_ kk_)
  rw [show nar .byte (2 : Int32) = (2 : Int32) from by decide +kernel] at W1621
  have f1623 : Arv Z u1621 cy kp1 .byte (4 : Int32) [(.int (1 : Int32)), (.int (0 : Int32)), (.int (2 : Int32))] (.int 0) := own_push f1616 rfl W1621 rfl
  have f1624 := Fr.snoc Y1621 f1617 (by omega)
  have f1625 := f1618.wr W1621 (by omega)
  have f1626 : n0 ≤ u1621.size := by rw [W1621.size]; exact f1619
  have NA1621 := NA1614.wr W1621 hct
  have S1627 : own_Go p e below s₁ G U1621 (mkF m 28 #[.val (.int p0), .val (.int p1), .val (.int p2), .val (.int p3), .val (.ref a1580), .unset, .unset, .unset, .unset, .unset, .unset, .unset, .unset] [(.int (3 : Int32)), (.int (3 : Int32)), (.ref cy), (.ref cy)]) := fun tg_ kk_ => S1622 tg_ (by
    refine XS.dup Y1621.here hx rfl (hb hby at_25) rfl rfl ?_
    show Steps p.tables e below (U1621.setTop (mkF m 26 #[.val (.int p0), .val (.int p1), .val (.int p2), .val (.int p3), .val (.ref a1580), .unset, .unset, .unset, .unset, .unset, .unset, .unset, .unset] [(.ref cy), (.ref cy)])) _
    refine XS.iconst Y1621.here hx rfl (hb hby at_26) ?_
    show Steps p.tables e below (U1621.setTop (mkF m 27 #[.val (.int p0), .val (.int p1), .val (.int p2), .val (.int p3), .val (.ref a1580), .unset, .unset, .unset, .unset, .unset, .unset, .unset, .unset] [(.int (3 : Int32)), (.ref cy), (.ref cy)])) _
    refine XS.iconst Y1621.here hx rfl (hb hby at_27) ?_
    exact kk_)
  obtain ⟨cl1628, B1628, b1628, z1628, y1628, H1628, F1628⟩ := id f1623
  obtain ⟨U1628, u1628, Y1628, f1628x, W1628, su1628⟩ := stB Y1621 hx hZ f1621x B1628 (j := (3 : Int32)) (inb_of z1628 (by decide)) (g := (mkF m 28 #[.val (.int p0), .val (.int p1), .val (.int p2), .val (.int p3), .val (.ref a1580), .unset, .unset, .unset, .unset, .unset, .unset, .unset, .unset] [(.int (3 : Int32)), (.int (3 : Int32)), (.ref cy), (.ref cy)])) rfl rfl (hb hby at_28)
  have S1629 : own_Go p e below s₁ G U1628 (mkF m 29 #[.val (.int p0), .val (.int p1), .val (.int p2), .val (.int p3), .val (.ref a1580), .unset, .unset, .unset, .unset, .unset, .unset, .unset, .unset] [(.ref cy)]) := fun tg_ kk_ => S1627 tg_ (su1628 tg_ kk_)
  rw [show nar .byte (3 : Int32) = (3 : Int32) from by decide +kernel] at W1628
  have f1630 : Arv Z u1628 cy kp1 .byte (4 : Int32) [(.int (1 : Int32)), (.int (0 : Int32)), (.int (2 : Int32)), (.int (3 : Int32))] (.int 0) := own_push f1623 rfl W1628 rfl
  have f1631 := Fr.snoc Y1628 f1624 (by omega)
  have f1632 := f1625.wr W1628 (by omega)
  have f1633 : n0 ≤ u1628.size := by rw [W1628.size]; exact f1626
  have NA1628 := NA1621.wr W1628 hct
  have S1634 : own_Go p e below s₁ G U1628 (mkF m 35 #[.val (.int p0), .val (.int p1), .val (.int p2), .val (.int p3), .val (.ref a1580), .val (.ref cy), .unset, .unset, .unset, .unset, .unset, .unset, .unset] [(.ref a1580), (.ref a1580)]) := fun tg_ kk_ => S1629 tg_ (by
    refine XS.astore Y1628.here hx rfl (hb hby at_29) rfl rfl (l' := #[.val (.int p0), .val (.int p1), .val (.int p2), .val (.int p3), .val (.ref a1580), .val (.ref cy), .unset, .unset, .unset, .unset, .unset, .unset, .unset]) rfl ?_
    show Steps p.tables e below (U1628.setTop (mkF m 31 #[.val (.int p0), .val (.int p1), .val (.int p2), .val (.int p3), .val (.ref a1580), .val (.ref cy), .unset, .unset, .unset, .unset, .unset, .unset, .unset] [])) _
    refine XS.aload Y1628.here hx rfl (hb hby at_31) rfl rfl ?_
    show Steps p.tables e below (U1628.setTop (mkF m 33 #[.val (.int p0), .val (.int p1), .val (.int p2), .val (.int p3), .val (.ref a1580), .val (.ref cy), .unset, .unset, .unset, .unset, .unset, .unset, .unset] [(.ref a1580)])) _
    refine XS.aload Y1628.here hx rfl (hb hby at_33) rfl rfl ?_
    exact kk_)
  obtain ⟨_, T1635, h1635, L1635, X1635, e1635, hQ1635, st1635⟩ := own_callV Y1628 hx hZ (y := (⟨"com/example/tileshift/tileshift/NodeTable", "find", "()I"⟩ : MethodName)) hown (hw _ (List.mem_of_getElem? (i := 40) rfl)) (hw _ (List.mem_of_getElem? (i := 41) rfl)) (hw _ (List.mem_of_getElem? (i := 43) rfl)) (hw _ (List.mem_of_getElem? (i := 42) rfl)) (hw _ (List.mem_of_getElem? (i := 2) rfl)) (hw _ (List.mem_of_getElem? (i := 44) rfl)) (by decide) 1 (g := (mkF m 35 #[.val (.int p0), .val (.int p1), .val (.int p2), .val (.int p3), .val (.ref a1580), .val (.ref cy), .unset, .unset, .unset, .unset, .unset, .unset, .unset] [(.ref a1580), (.ref a1580)])) rfl (by rw [hml]; rfl) a1580 NA1628.2.2.2.2.2.2.2.1 [] [(.ref a1580)] (rm50 l Z a0 hw [] a1580 w sh k b pr mv t u1628 n0 f1633 NA1628) (lenOf pd5 rfl) rfl (by show 2 * 0 + _ ≤ _; exact Nat.le_of_eq rfl) (hb hby at_35) (by decide) (by decide) f1628x (by decide) (by decide)
  obtain ⟨rfl, N1635, rfl⟩ := hQ1635
  have S1636 : own_Go p e below s₁ G T1635 (mkF m 38 #[.val (.int p0), .val (.int p1), .val (.int p2), .val (.int p3), .val (.ref a1580), .val (.ref cy), .unset, .unset, .unset, .unset, .unset, .unset, .unset] [(.int (0 : Int32)), (.ref a1580)]) := fun tg_ kk_ => S1634 tg_ (st1635 tg_ kk_)
  have M1635 := Fr.app f1631 N1635
  have S1637 : own_Go p e below s₁ G T1635 (mkF m 40 #[.val (.int p0), .val (.int p1), .val (.int p2), .val (.int p3), .val (.ref a1580), .val (.ref cy), .unset, .unset, .unset, .unset, .unset, .unset, .unset] [(.int (-1 : Int32)), (.int (-1 : Int32)), (.int (0 : Int32)), (.ref a1580)]) := fun tg_ kk_ => S1636 tg_ (by
    refine XS.iconst X1635.here hx rfl (hb hby at_38) ?_
    show Steps p.tables e below (T1635.setTop (mkF m 39 #[.val (.int p0), .val (.int p1), .val (.int p2), .val (.int p3), .val (.ref a1580), .val (.ref cy), .unset, .unset, .unset, .unset, .unset, .unset, .unset] [(.int (-1 : Int32)), (.int (0 : Int32)), (.ref a1580)])) _
    refine XS.iconst X1635.here hx rfl (hb hby at_39) ?_
    exact kk_)
  obtain ⟨_, T1638, h1638, L1638, X1638, e1638, hQ1638, st1638⟩ := own_callV X1635 hx hZ (y := (⟨"com/example/tileshift/tileshift/NodeTable", "add", "(III)I"⟩ : MethodName)) hown (hw _ (List.mem_of_getElem? (i := 50) rfl)) (hw _ (List.mem_of_getElem? (i := 51) rfl)) (hw _ (List.mem_of_getElem? (i := 53) rfl)) (hw _ (List.mem_of_getElem? (i := 52) rfl)) (hw _ (List.mem_of_getElem? (i := 2) rfl)) (hw _ (List.mem_of_getElem? (i := 54) rfl)) (by decide) 0 (g := (mkF m 40 #[.val (.int p0), .val (.int p1), .val (.int p2), .val (.int p3), .val (.ref a1580), .val (.ref cy), .unset, .unset, .unset, .unset, .unset, .unset, .unset] [(.int (-1 : Int32)), (.int (-1 : Int32)), (.int (0 : Int32)), (.ref a1580)])) rfl (by rw [hml]; rfl) a1580 NA1628.2.2.2.2.2.2.2.1 [(.int (0 : Int32)), (.int (-1 : Int32)), (.int (-1 : Int32))] [] (rm70 l Z a0 hw [] a1580 w sh k b pr mv t u1628 n0 f1633 NA1628 (by omega)) (lenOf pd7 rfl) rfl (by show 2 * 0 + _ ≤ _; exact Nat.le_of_eq rfl) (hb hby at_40) (by decide) (by decide) e1635 (by decide) (by decide)
  obtain ⟨rfl, N1638, K1638, NB⟩ := hQ1638
  have S1639 : own_Go p e below s₁ G T1638 (mkF m 43 #[.val (.int p0), .val (.int p1), .val (.int p2), .val (.int p3), .val (.ref a1580), .val (.ref cy), .unset, .unset, .unset, .unset, .unset, .unset, .unset] [(.int (0 : Int32))]) := fun tg_ kk_ => S1637 tg_ (st1638 tg_ kk_)
  have f1640 := Fr.app M1635 N1638
  have f1641 := f1632.keep K1638 (allS (by omega) (allS (by omega) (allS (by omega) (allS (by omega) (allS (by omega) all0)))))
  have f1642 := Nat.le_trans f1633 K1638.1
  have f1643 := f1630.keep K1638 (ninS (own_negt (by omega)) (ninS (own_negt (by omega)) (ninS (own_negt (by omega)) (ninS (own_negt (by omega)) (ninS (own_negt (by omega)) nin0)))))
  have S1644 : own_Go p e below s₁ G T1638 (mkF m 48 #[.val (.int p0), .val (.int p1), .val (.int p2), .val (.int p3), .val (.ref a1580), .val (.ref cy), .val (.int (0 : Int32)), .unset, .unset, .unset, .unset, .unset, .unset] [(.int (p2 &&& (1 : Int32)))]) := fun tg_ kk_ => S1639 tg_ (by
    refine XS.istore X1638.here hx rfl (hb hby at_43) rfl (l' := #[.val (.int p0), .val (.int p1), .val (.int p2), .val (.int p3), .val (.ref a1580), .val (.ref cy), .val (.int (0 : Int32)), .unset, .unset, .unset, .unset, .unset, .unset]) rfl ?_
    show Steps p.tables e below (T1638.setTop (mkF m 45 #[.val (.int p0), .val (.int p1), .val (.int p2), .val (.int p3), .val (.ref a1580), .val (.ref cy), .val (.int (0 : Int32)), .unset, .unset, .unset, .unset, .unset, .unset] [])) _
    refine XS.iloadN X1638.here hx rfl (hb hby at_45) rfl ?_
    show Steps p.tables e below (T1638.setTop (mkF m 46 #[.val (.int p0), .val (.int p1), .val (.int p2), .val (.int p3), .val (.ref a1580), .val (.ref cy), .val (.int (0 : Int32)), .unset, .unset, .unset, .unset, .unset, .unset] [(.int p2)])) _
    refine XS.iconst X1638.here hx rfl (hb hby at_46) ?_
    show Steps p.tables e below (T1638.setTop (mkF m 47 #[.val (.int p0), .val (.int p1), .val (.int p2), .val (.int p3), .val (.ref a1580), .val (.ref cy), .val (.int (0 : Int32)), .unset, .unset, .unset, .unset, .unset, .unset] [(.int (1 : Int32)), (.int p2)])) _
    refine XS.iand X1638.here hx rfl (hb hby at_47) rfl ?_
    exact kk_)
  have hj : ∃ op om : Int32, own_Go p e below s₁ G T1638 (mkF m 73 #[.val (.int p0), .val (.int p1), .val (.int p2), .val (.int p3), .val (.ref a1580), .val (.ref cy), .val (.int (0 : Int32)), .val (.int op), .val (.int om), .unset, .unset, .unset, .unset] []) := by
    by_cases hq : (p2 &&& (1 : Int32)) = 0
    · have _ := N0
      have S1645 : own_Go p e below s₁ G T1638 (mkF m 73 #[.val (.int p0), .val (.int p1), .val (.int p2), .val (.int p3), .val (.ref a1580), .val (.ref cy), .val (.int (0 : Int32)), .val (.int (-1 : Int32)), .val (.int (-1 : Int32)), .unset, .unset, .unset, .unset] []) := fun tg_ kk_ => S1644 tg_ (by
        refine XS.ifNo X1638.here hx rfl (hb hby at_48) rfl (XT.i0_ne_f hq) ?_
        show Steps p.tables e below (T1638.setTop (mkF m 51 #[.val (.int p0), .val (.int p1), .val (.int p2), .val (.int p3), .val (.ref a1580), .val (.ref cy), .val (.int (0 : Int32)), .unset, .unset, .unset, .unset, .unset, .unset] [])) _
        refine XS.iconst X1638.here hx rfl (hb hby at_51) ?_
        show Steps p.tables e below (T1638.setTop (mkF m 52 #[.val (.int p0), .val (.int p1), .val (.int p2), .val (.int p3), .val (.ref a1580), .val (.ref cy), .val (.int (0 : Int32)), .unset, .unset, .unset, .unset, .unset, .unset] [(.int (-1 : Int32))])) _
        refine XS.goto X1638.here hx rfl (pc0 := 52) (pc' := 57) rfl (hb hby at_52) (by decide) (by decide) ?_
        show Steps p.tables e below (T1638.setTop (mkF m 57 #[.val (.int p0), .val (.int p1), .val (.int p2), .val (.int p3), .val (.ref a1580), .val (.ref cy), .val (.int (0 : Int32)), .unset, .unset, .unset, .unset, .unset, .unset] [(.int (-1 : Int32))])) _
        refine XS.istore X1638.here hx rfl (hb hby at_57) rfl (l' := #[.val (.int p0), .val (.int p1), .val (.int p2), .val (.int p3), .val (.ref a1580), .val (.ref cy), .val (.int (0 : Int32)), .val (.int (-1 : Int32)), .unset, .unset, .unset, .unset, .unset]) rfl ?_
        show Steps p.tables e below (T1638.setTop (mkF m 59 #[.val (.int p0), .val (.int p1), .val (.int p2), .val (.int p3), .val (.ref a1580), .val (.ref cy), .val (.int (0 : Int32)), .val (.int (-1 : Int32)), .unset, .unset, .unset, .unset, .unset] [])) _
        refine XS.iload X1638.here hx rfl (hb hby at_59) rfl ?_
        show Steps p.tables e below (T1638.setTop (mkF m 61 #[.val (.int p0), .val (.int p1), .val (.int p2), .val (.int p3), .val (.ref a1580), .val (.ref cy), .val (.int (0 : Int32)), .val (.int (-1 : Int32)), .unset, .unset, .unset, .unset, .unset] [(.int (-1 : Int32))])) _
        refine XS.ifNo X1638.here hx rfl (hb hby at_61) rfl (XT.i0_ge_f (by decide)) ?_
        show Steps p.tables e below (T1638.setTop (mkF m 64 #[.val (.int p0), .val (.int p1), .val (.int p2), .val (.int p3), .val (.ref a1580), .val (.ref cy), .val (.int (0 : Int32)), .val (.int (-1 : Int32)), .unset, .unset, .unset, .unset, .unset] [])) _
        refine XS.iconst X1638.here hx rfl (hb hby at_64) ?_
        show Steps p.tables e below (T1638.setTop (mkF m 65 #[.val (.int p0), .val (.int p1), .val (.int p2), .val (.int p3), .val (.ref a1580), .val (.ref cy), .val (.int (0 : Int32)), .val (.int (-1 : Int32)), .unset, .unset, .unset, .unset, .unset] [(.int (-1 : Int32))])) _
        refine XS.goto X1638.here hx rfl (pc0 := 65) (pc' := 71) rfl (hb hby at_65) (by decide) (by decide) ?_
        show Steps p.tables e below (T1638.setTop (mkF m 71 #[.val (.int p0), .val (.int p1), .val (.int p2), .val (.int p3), .val (.ref a1580), .val (.ref cy), .val (.int (0 : Int32)), .val (.int (-1 : Int32)), .unset, .unset, .unset, .unset, .unset] [(.int (-1 : Int32))])) _
        refine XS.istore X1638.here hx rfl (hb hby at_71) rfl (l' := #[.val (.int p0), .val (.int p1), .val (.int p2), .val (.int p3), .val (.ref a1580), .val (.ref cy), .val (.int (0 : Int32)), .val (.int (-1 : Int32)), .val (.int (-1 : Int32)), .unset, .unset, .unset, .unset]) rfl ?_
        exact kk_)
      exact ⟨_, _, S1645⟩
    · have _ := N0
      have S1646 : own_Go p e below s₁ G T1638 (mkF m 73 #[.val (.int p0), .val (.int p1), .val (.int p2), .val (.int p3), .val (.ref a1580), .val (.ref cy), .val (.int (0 : Int32)), .val (.int (0 : Int32)), .val (.int (p3 &&& (3 : Int32))), .unset, .unset, .unset, .unset] []) := fun tg_ kk_ => S1644 tg_ (by
        refine XS.ifYes X1638.here hx rfl (pc0 := 48) (pc' := 55) rfl (hb hby at_48) rfl (XT.i0_ne_t hq) (by decide) (by decide) ?_
        show Steps p.tables e below (T1638.setTop (mkF m 55 #[.val (.int p0), .val (.int p1), .val (.int p2), .val (.int p3), .val (.ref a1580), .val (.ref cy), .val (.int (0 : Int32)), .unset, .unset, .unset, .unset, .unset, .unset] [])) _
        refine XS.iload X1638.here hx rfl (hb hby at_55) rfl ?_
        show Steps p.tables e below (T1638.setTop (mkF m 57 #[.val (.int p0), .val (.int p1), .val (.int p2), .val (.int p3), .val (.ref a1580), .val (.ref cy), .val (.int (0 : Int32)), .unset, .unset, .unset, .unset, .unset, .unset] [(.int (0 : Int32))])) _
        refine XS.istore X1638.here hx rfl (hb hby at_57) rfl (l' := #[.val (.int p0), .val (.int p1), .val (.int p2), .val (.int p3), .val (.ref a1580), .val (.ref cy), .val (.int (0 : Int32)), .val (.int (0 : Int32)), .unset, .unset, .unset, .unset, .unset]) rfl ?_
        show Steps p.tables e below (T1638.setTop (mkF m 59 #[.val (.int p0), .val (.int p1), .val (.int p2), .val (.int p3), .val (.ref a1580), .val (.ref cy), .val (.int (0 : Int32)), .val (.int (0 : Int32)), .unset, .unset, .unset, .unset, .unset] [])) _
        refine XS.iload X1638.here hx rfl (hb hby at_59) rfl ?_
        show Steps p.tables e below (T1638.setTop (mkF m 61 #[.val (.int p0), .val (.int p1), .val (.int p2), .val (.int p3), .val (.ref a1580), .val (.ref cy), .val (.int (0 : Int32)), .val (.int (0 : Int32)), .unset, .unset, .unset, .unset, .unset] [(.int (0 : Int32))])) _
        refine XS.ifYes X1638.here hx rfl (pc0 := 61) (pc' := 68) rfl (hb hby at_61) rfl (XT.i0_ge_t (by decide)) (by decide) (by decide) ?_
        show Steps p.tables e below (T1638.setTop (mkF m 68 #[.val (.int p0), .val (.int p1), .val (.int p2), .val (.int p3), .val (.ref a1580), .val (.ref cy), .val (.int (0 : Int32)), .val (.int (0 : Int32)), .unset, .unset, .unset, .unset, .unset] [])) _
        refine XS.iloadN X1638.here hx rfl (hb hby at_68) rfl ?_
        show Steps p.tables e below (T1638.setTop (mkF m 69 #[.val (.int p0), .val (.int p1), .val (.int p2), .val (.int p3), .val (.ref a1580), .val (.ref cy), .val (.int (0 : Int32)), .val (.int (0 : Int32)), .unset, .unset, .unset, .unset, .unset] [(.int p3)])) _
        refine XS.iconst X1638.here hx rfl (hb hby at_69) ?_
        show Steps p.tables e below (T1638.setTop (mkF m 70 #[.val (.int p0), .val (.int p1), .val (.int p2), .val (.int p3), .val (.ref a1580), .val (.ref cy), .val (.int (0 : Int32)), .val (.int (0 : Int32)), .unset, .unset, .unset, .unset, .unset] [(.int (3 : Int32)), (.int p3)])) _
        refine XS.iand X1638.here hx rfl (hb hby at_70) rfl ?_
        show Steps p.tables e below (T1638.setTop (mkF m 71 #[.val (.int p0), .val (.int p1), .val (.int p2), .val (.int p3), .val (.ref a1580), .val (.ref cy), .val (.int (0 : Int32)), .val (.int (0 : Int32)), .unset, .unset, .unset, .unset, .unset] [(.int (p3 &&& (3 : Int32)))])) _
        refine XS.istore X1638.here hx rfl (hb hby at_71) rfl (l' := #[.val (.int p0), .val (.int p1), .val (.int p2), .val (.int p3), .val (.ref a1580), .val (.ref cy), .val (.int (0 : Int32)), .val (.int (0 : Int32)), .val (.int (p3 &&& (3 : Int32))), .unset, .unset, .unset, .unset]) rfl ?_
        exact kk_)
      exact ⟨_, _, S1646⟩
  obtain ⟨op, om, SJ⟩ := hj
  have S1647 : own_Go p e below s₁ G T1638 (mkF m 77 #[.val (.int p0), .val (.int p1), .val (.int p2), .val (.int p3), .val (.ref a1580), .val (.ref cy), .val (.int (0 : Int32)), .val (.int op), .val (.int om), .unset, .unset, .unset, .unset] [(.ref cy), (.ref a1580)]) := fun tg_ kk_ => SJ tg_ (by
    refine XS.aload X1638.here hx rfl (hb hby at_73) rfl rfl ?_
    show Steps p.tables e below (T1638.setTop (mkF m 75 #[.val (.int p0), .val (.int p1), .val (.int p2), .val (.int p3), .val (.ref a1580), .val (.ref cy), .val (.int (0 : Int32)), .val (.int op), .val (.int om), .unset, .unset, .unset, .unset] [(.ref a1580)])) _
    refine XS.aload X1638.here hx rfl (hb hby at_75) rfl rfl ?_
    exact kk_)
  obtain ⟨_, T1648, h1648, L1648, X1648, e1648, hQ1648, st1648⟩ := own_callV X1638 hx hZ (y := (⟨"com/example/tileshift/tileshift/NodeTable", "keyOf", "([B)V"⟩ : MethodName)) hown (hw _ (List.mem_of_getElem? (i := 62) rfl)) (hw _ (List.mem_of_getElem? (i := 63) rfl)) (hw _ (List.mem_of_getElem? (i := 65) rfl)) (hw _ (List.mem_of_getElem? (i := 64) rfl)) (hw _ (List.mem_of_getElem? (i := 2) rfl)) (hw _ (List.mem_of_getElem? (i := 66) rfl)) (by decide) 0 (g := (mkF m 77 #[.val (.int p0), .val (.int p1), .val (.int p2), .val (.int p3), .val (.ref a1580), .val (.ref cy), .val (.int (0 : Int32)), .val (.int op), .val (.int om), .unset, .unset, .unset, .unset] [(.ref cy), (.ref a1580)])) rfl (by rw [hml]; rfl) a1580 NB.2.2.2.2.2.2.2.1 [(.ref cy)] [] (rm8 l Z a0 hw [] a1580 w sh k b pr mv t cy kp1 h1638 n0 f1642 NB f1643 hct (by omega)) (lenOf pd8 rfl) rfl (by show 2 * 0 + _ ≤ _; exact Nat.le_of_eq rfl) (hb hby at_77) (by decide) (by decide) e1638 (by decide) (by decide)
  obtain ⟨rfl, N1648, K1648, NC⟩ := hQ1648
  have S1649 : own_Go p e below s₁ G T1648 (mkF m 80 #[.val (.int p0), .val (.int p1), .val (.int p2), .val (.int p3), .val (.ref a1580), .val (.ref cy), .val (.int (0 : Int32)), .val (.int op), .val (.int om), .unset, .unset, .unset, .unset] []) := fun tg_ kk_ => S1647 tg_ (st1648 tg_ kk_)
  have f1650 := Fr.app f1640 N1648
  have f1651 := f1641.keep K1648 (allS (by omega) all0)
  have f1652 := Nat.le_trans f1642 K1648.1
  have S1653 : own_Go p e below s₁ G T1648 (mkF m 84 #[.val (.int p0), .val (.int p1), .val (.int p2), .val (.int p3), .val (.ref a1580), .val (.ref cy), .val (.int (0 : Int32)), .val (.int op), .val (.int om), .unset, .unset, .unset, .unset] [(.ref a1580), (.ref a1580)]) := fun tg_ kk_ => S1649 tg_ (by
    refine XS.aload X1648.here hx rfl (hb hby at_80) rfl rfl ?_
    show Steps p.tables e below (T1648.setTop (mkF m 82 #[.val (.int p0), .val (.int p1), .val (.int p2), .val (.int p3), .val (.ref a1580), .val (.ref cy), .val (.int (0 : Int32)), .val (.int op), .val (.int om), .unset, .unset, .unset, .unset] [(.ref a1580)])) _
    refine XS.aload X1648.here hx rfl (hb hby at_82) rfl rfl ?_
    exact kk_)
  obtain ⟨_, T1654, h1654, L1654, X1654, e1654, hQ1654, st1654⟩ := own_callV X1648 hx hZ (y := (⟨"com/example/tileshift/tileshift/NodeTable", "find", "()I"⟩ : MethodName)) hown (hw _ (List.mem_of_getElem? (i := 40) rfl)) (hw _ (List.mem_of_getElem? (i := 41) rfl)) (hw _ (List.mem_of_getElem? (i := 43) rfl)) (hw _ (List.mem_of_getElem? (i := 42) rfl)) (hw _ (List.mem_of_getElem? (i := 2) rfl)) (hw _ (List.mem_of_getElem? (i := 44) rfl)) (by decide) 1 (g := (mkF m 84 #[.val (.int p0), .val (.int p1), .val (.int p2), .val (.int p3), .val (.ref a1580), .val (.ref cy), .val (.int (0 : Int32)), .val (.int op), .val (.int om), .unset, .unset, .unset, .unset] [(.ref a1580), (.ref a1580)])) rfl (by rw [hml]; rfl) a1580 NC.2.2.2.2.2.2.2.1 [] [(.ref a1580)] (rm51 l Z a0 hw [] a1580 w sh k b pr mv t h1648 n0 f1652 NC) (lenOf pd5 rfl) rfl (by show 2 * 0 + _ ≤ _; exact Nat.le_of_eq rfl) (hb hby at_84) (by decide) (by decide) e1648 (by decide) (by decide)
  obtain ⟨rfl, N1654, rfl⟩ := hQ1654
  have S1655 : own_Go p e below s₁ G T1654 (mkF m 87 #[.val (.int p0), .val (.int p1), .val (.int p2), .val (.int p3), .val (.ref a1580), .val (.ref cy), .val (.int (0 : Int32)), .val (.int op), .val (.int om), .unset, .unset, .unset, .unset] [(.int (118 : Int32)), (.ref a1580)]) := fun tg_ kk_ => S1653 tg_ (st1654 tg_ kk_)
  have M1654 := Fr.app f1650 N1654
  have S1656 : own_Go p e below s₁ G T1654 (mkF m 91 #[.val (.int p0), .val (.int p1), .val (.int p2), .val (.int p3), .val (.ref a1580), .val (.ref cy), .val (.int (0 : Int32)), .val (.int op), .val (.int om), .unset, .unset, .unset, .unset] [(.int om), (.int op), (.int (118 : Int32)), (.ref a1580)]) := fun tg_ kk_ => S1655 tg_ (by
    refine XS.iload X1654.here hx rfl (hb hby at_87) rfl ?_
    show Steps p.tables e below (T1654.setTop (mkF m 89 #[.val (.int p0), .val (.int p1), .val (.int p2), .val (.int p3), .val (.ref a1580), .val (.ref cy), .val (.int (0 : Int32)), .val (.int op), .val (.int om), .unset, .unset, .unset, .unset] [(.int op), (.int (118 : Int32)), (.ref a1580)])) _
    refine XS.iload X1654.here hx rfl (hb hby at_89) rfl ?_
    exact kk_)
  obtain ⟨_, T1657, h1657, L1657, X1657, e1657, hQ1657, st1657⟩ := own_callV X1654 hx hZ (y := (⟨"com/example/tileshift/tileshift/NodeTable", "add", "(III)I"⟩ : MethodName)) hown (hw _ (List.mem_of_getElem? (i := 50) rfl)) (hw _ (List.mem_of_getElem? (i := 51) rfl)) (hw _ (List.mem_of_getElem? (i := 53) rfl)) (hw _ (List.mem_of_getElem? (i := 52) rfl)) (hw _ (List.mem_of_getElem? (i := 2) rfl)) (hw _ (List.mem_of_getElem? (i := 54) rfl)) (by decide) 0 (g := (mkF m 91 #[.val (.int p0), .val (.int p1), .val (.int p2), .val (.int p3), .val (.ref a1580), .val (.ref cy), .val (.int (0 : Int32)), .val (.int op), .val (.int om), .unset, .unset, .unset, .unset] [(.int om), (.int op), (.int (118 : Int32)), (.ref a1580)])) rfl (by rw [hml]; rfl) a1580 NC.2.2.2.2.2.2.2.1 [(.int (118 : Int32)), (.int op), (.int om)] [] (rm71 l Z a0 hw [] a1580 w sh k b pr mv t op om h1648 n0 f1652 NC (by omega)) (lenOf pd7 rfl) rfl (by show 2 * 0 + _ ≤ _; exact Nat.le_of_eq rfl) (hb hby at_91) (by decide) (by decide) e1654 (by decide) (by decide)
  obtain ⟨rfl, N1657, K1657, yy, ND⟩ := hQ1657
  have S1658 : own_Go p e below s₁ G T1657 (mkF m 94 #[.val (.int p0), .val (.int p1), .val (.int p2), .val (.int p3), .val (.ref a1580), .val (.ref cy), .val (.int (0 : Int32)), .val (.int op), .val (.int om), .unset, .unset, .unset, .unset] [(.int (1 : Int32))]) := fun tg_ kk_ => S1656 tg_ (st1657 tg_ kk_)
  have f1659 := Fr.app M1654 N1657
  have f1660 := f1651.keep K1657 (allS (by omega) (allS (by omega) (allS (by omega) (allS (by omega) (allS (by omega) all0)))))
  have f1661 := Nat.le_trans f1652 K1657.1
  have S1662 : own_Go p e below s₁ G T1657 (mkF m 99 #[.val (.int p0), .val (.int p1), .val (.int p2), .val (.int p3), .val (.ref a1580), .val (.ref cy), .val (.int (0 : Int32)), .val (.int op), .val (.int om), .val (.int (1 : Int32)), .unset, .unset, .unset] [(.int (p0 &&& (1 : Int32)))]) := fun tg_ kk_ => S1658 tg_ (by
    refine XS.istore X1657.here hx rfl (hb hby at_94) rfl (l' := #[.val (.int p0), .val (.int p1), .val (.int p2), .val (.int p3), .val (.ref a1580), .val (.ref cy), .val (.int (0 : Int32)), .val (.int op), .val (.int om), .val (.int (1 : Int32)), .unset, .unset, .unset]) rfl ?_
    show Steps p.tables e below (T1657.setTop (mkF m 96 #[.val (.int p0), .val (.int p1), .val (.int p2), .val (.int p3), .val (.ref a1580), .val (.ref cy), .val (.int (0 : Int32)), .val (.int op), .val (.int om), .val (.int (1 : Int32)), .unset, .unset, .unset] [])) _
    refine XS.iloadN X1657.here hx rfl (hb hby at_96) rfl ?_
    show Steps p.tables e below (T1657.setTop (mkF m 97 #[.val (.int p0), .val (.int p1), .val (.int p2), .val (.int p3), .val (.ref a1580), .val (.ref cy), .val (.int (0 : Int32)), .val (.int op), .val (.int om), .val (.int (1 : Int32)), .unset, .unset, .unset] [(.int p0)])) _
    refine XS.iconst X1657.here hx rfl (hb hby at_97) ?_
    show Steps p.tables e below (T1657.setTop (mkF m 98 #[.val (.int p0), .val (.int p1), .val (.int p2), .val (.int p3), .val (.ref a1580), .val (.ref cy), .val (.int (0 : Int32)), .val (.int op), .val (.int om), .val (.int (1 : Int32)), .unset, .unset, .unset] [(.int (1 : Int32)), (.int p0)])) _
    refine XS.iand X1657.here hx rfl (hb hby at_98) rfl ?_
    exact kk_)
  by_cases hp : (p0 &&& (1 : Int32)) = 0
  · have _ := N0
    have S1663 : own_Go p e below s₁ G T1657 (mkF m 132 #[.val (.int p0), .val (.int p1), .val (.int p2), .val (.int p3), .val (.ref a1580), .val (.ref cy), .val (.int (0 : Int32)), .val (.int op), .val (.int om), .val (.int (1 : Int32)), .val (.int (-1 : Int32)), .val (.int (-1 : Int32)), .unset] [(.int (-1 : Int32)), (.int (-1 : Int32)), (.int (1 : Int32)), (.ref a1580)]) := fun tg_ kk_ => S1662 tg_ (by
      refine XS.ifNo X1657.here hx rfl (hb hby at_99) rfl (XT.i0_ne_f hp) ?_
      show Steps p.tables e below (T1657.setTop (mkF m 102 #[.val (.int p0), .val (.int p1), .val (.int p2), .val (.int p3), .val (.ref a1580), .val (.ref cy), .val (.int (0 : Int32)), .val (.int op), .val (.int om), .val (.int (1 : Int32)), .unset, .unset, .unset] [])) _
      refine XS.iconst X1657.here hx rfl (hb hby at_102) ?_
      show Steps p.tables e below (T1657.setTop (mkF m 103 #[.val (.int p0), .val (.int p1), .val (.int p2), .val (.int p3), .val (.ref a1580), .val (.ref cy), .val (.int (0 : Int32)), .val (.int op), .val (.int om), .val (.int (1 : Int32)), .unset, .unset, .unset] [(.int (-1 : Int32))])) _
      refine XS.goto X1657.here hx rfl (pc0 := 103) (pc' := 108) rfl (hb hby at_103) (by decide) (by decide) ?_
      show Steps p.tables e below (T1657.setTop (mkF m 108 #[.val (.int p0), .val (.int p1), .val (.int p2), .val (.int p3), .val (.ref a1580), .val (.ref cy), .val (.int (0 : Int32)), .val (.int op), .val (.int om), .val (.int (1 : Int32)), .unset, .unset, .unset] [(.int (-1 : Int32))])) _
      refine XS.istore X1657.here hx rfl (hb hby at_108) rfl (l' := #[.val (.int p0), .val (.int p1), .val (.int p2), .val (.int p3), .val (.ref a1580), .val (.ref cy), .val (.int (0 : Int32)), .val (.int op), .val (.int om), .val (.int (1 : Int32)), .val (.int (-1 : Int32)), .unset, .unset]) rfl ?_
      show Steps p.tables e below (T1657.setTop (mkF m 110 #[.val (.int p0), .val (.int p1), .val (.int p2), .val (.int p3), .val (.ref a1580), .val (.ref cy), .val (.int (0 : Int32)), .val (.int op), .val (.int om), .val (.int (1 : Int32)), .val (.int (-1 : Int32)), .unset, .unset] [])) _
      refine XS.iload X1657.here hx rfl (hb hby at_110) rfl ?_
      show Steps p.tables e below (T1657.setTop (mkF m 112 #[.val (.int p0), .val (.int p1), .val (.int p2), .val (.int p3), .val (.ref a1580), .val (.ref cy), .val (.int (0 : Int32)), .val (.int op), .val (.int om), .val (.int (1 : Int32)), .val (.int (-1 : Int32)), .unset, .unset] [(.int (-1 : Int32))])) _
      refine XS.ifNo X1657.here hx rfl (hb hby at_112) rfl (XT.i0_ge_f (by decide)) ?_
      show Steps p.tables e below (T1657.setTop (mkF m 115 #[.val (.int p0), .val (.int p1), .val (.int p2), .val (.int p3), .val (.ref a1580), .val (.ref cy), .val (.int (0 : Int32)), .val (.int op), .val (.int om), .val (.int (1 : Int32)), .val (.int (-1 : Int32)), .unset, .unset] [])) _
      refine XS.iconst X1657.here hx rfl (hb hby at_115) ?_
      show Steps p.tables e below (T1657.setTop (mkF m 116 #[.val (.int p0), .val (.int p1), .val (.int p2), .val (.int p3), .val (.ref a1580), .val (.ref cy), .val (.int (0 : Int32)), .val (.int op), .val (.int om), .val (.int (1 : Int32)), .val (.int (-1 : Int32)), .unset, .unset] [(.int (-1 : Int32))])) _
      refine XS.goto X1657.here hx rfl (pc0 := 116) (pc' := 122) rfl (hb hby at_116) (by decide) (by decide) ?_
      show Steps p.tables e below (T1657.setTop (mkF m 122 #[.val (.int p0), .val (.int p1), .val (.int p2), .val (.int p3), .val (.ref a1580), .val (.ref cy), .val (.int (0 : Int32)), .val (.int op), .val (.int om), .val (.int (1 : Int32)), .val (.int (-1 : Int32)), .unset, .unset] [(.int (-1 : Int32))])) _
      refine XS.istore X1657.here hx rfl (hb hby at_122) rfl (l' := #[.val (.int p0), .val (.int p1), .val (.int p2), .val (.int p3), .val (.ref a1580), .val (.ref cy), .val (.int (0 : Int32)), .val (.int op), .val (.int om), .val (.int (1 : Int32)), .val (.int (-1 : Int32)), .val (.int (-1 : Int32)), .unset]) rfl ?_
      show Steps p.tables e below (T1657.setTop (mkF m 124 #[.val (.int p0), .val (.int p1), .val (.int p2), .val (.int p3), .val (.ref a1580), .val (.ref cy), .val (.int (0 : Int32)), .val (.int op), .val (.int om), .val (.int (1 : Int32)), .val (.int (-1 : Int32)), .val (.int (-1 : Int32)), .unset] [])) _
      refine XS.aload X1657.here hx rfl (hb hby at_124) rfl rfl ?_
      show Steps p.tables e below (T1657.setTop (mkF m 126 #[.val (.int p0), .val (.int p1), .val (.int p2), .val (.int p3), .val (.ref a1580), .val (.ref cy), .val (.int (0 : Int32)), .val (.int op), .val (.int om), .val (.int (1 : Int32)), .val (.int (-1 : Int32)), .val (.int (-1 : Int32)), .unset] [(.ref a1580)])) _
      refine XS.iload X1657.here hx rfl (hb hby at_126) rfl ?_
      show Steps p.tables e below (T1657.setTop (mkF m 128 #[.val (.int p0), .val (.int p1), .val (.int p2), .val (.int p3), .val (.ref a1580), .val (.ref cy), .val (.int (0 : Int32)), .val (.int op), .val (.int om), .val (.int (1 : Int32)), .val (.int (-1 : Int32)), .val (.int (-1 : Int32)), .unset] [(.int (1 : Int32)), (.ref a1580)])) _
      refine XS.iload X1657.here hx rfl (hb hby at_128) rfl ?_
      show Steps p.tables e below (T1657.setTop (mkF m 130 #[.val (.int p0), .val (.int p1), .val (.int p2), .val (.int p3), .val (.ref a1580), .val (.ref cy), .val (.int (0 : Int32)), .val (.int op), .val (.int om), .val (.int (1 : Int32)), .val (.int (-1 : Int32)), .val (.int (-1 : Int32)), .unset] [(.int (-1 : Int32)), (.int (1 : Int32)), (.ref a1580)])) _
      refine XS.iload X1657.here hx rfl (hb hby at_130) rfl ?_
      exact kk_)
    obtain ⟨_, T1664, h1664, L1664, X1664, e1664, hQ1664, st1664⟩ := own_callV X1657 hx hZ (y := (⟨"com/example/tileshift/tileshift/NodeTable", "reachedFrom", "(III)V"⟩ : MethodName)) hown (hw _ (List.mem_of_getElem? (i := 71) rfl)) (hw _ (List.mem_of_getElem? (i := 72) rfl)) (hw _ (List.mem_of_getElem? (i := 74) rfl)) (hw _ (List.mem_of_getElem? (i := 73) rfl)) (hw _ (List.mem_of_getElem? (i := 2) rfl)) (hw _ (List.mem_of_getElem? (i := 75) rfl)) (by decide) 0 (g := (mkF m 132 #[.val (.int p0), .val (.int p1), .val (.int p2), .val (.int p3), .val (.ref a1580), .val (.ref cy), .val (.int (0 : Int32)), .val (.int op), .val (.int om), .val (.int (1 : Int32)), .val (.int (-1 : Int32)), .val (.int (-1 : Int32)), .unset] [(.int (-1 : Int32)), (.int (-1 : Int32)), (.int (1 : Int32)), (.ref a1580)])) rfl (by rw [hml]; rfl) a1580 ND.2.2.1 [(.int (1 : Int32)), (.int (-1 : Int32)), (.int (-1 : Int32))] [] (rm10 l Z a0 hw [] a1580 pr mv (-1 : Int32) (-1 : Int32) h1657 n0 f1661 op yy ND (by omega) (by decide +kernel)) (lenOf pd10 rfl) rfl (by show 2 * 0 + _ ≤ _; exact Nat.le_of_eq rfl) (hb hby at_132) (by decide) (by decide) e1657 (by decide) (by decide)
    obtain ⟨rfl, N1664, K1664, NE⟩ := hQ1664
    have S1665 : own_Go p e below s₁ G T1664 (mkF m 135 #[.val (.int p0), .val (.int p1), .val (.int p2), .val (.int p3), .val (.ref a1580), .val (.ref cy), .val (.int (0 : Int32)), .val (.int op), .val (.int om), .val (.int (1 : Int32)), .val (.int (-1 : Int32)), .val (.int (-1 : Int32)), .unset] []) := fun tg_ kk_ => S1663 tg_ (st1664 tg_ kk_)
    have f1666 := Fr.app f1659 N1664
    have f1667 := f1660.keep K1664 (allS (by omega) (allS (by omega) all0))
    have f1668 := Nat.le_trans f1661 K1664.1
    have S1669 : own_Go p e below s₁ G T1664 (mkF m 139 #[.val (.int p0), .val (.int p1), .val (.int p2), .val (.int p3), .val (.ref a1580), .val (.ref cy), .val (.int (0 : Int32)), .val (.int op), .val (.int om), .val (.int (1 : Int32)), .val (.int (-1 : Int32)), .val (.int (-1 : Int32)), .unset] [(.int (1 : Int32)), (.ref a1580)]) := fun tg_ kk_ => S1665 tg_ (by
      refine XS.aload X1664.here hx rfl (hb hby at_135) rfl rfl ?_
      show Steps p.tables e below (T1664.setTop (mkF m 137 #[.val (.int p0), .val (.int p1), .val (.int p2), .val (.int p3), .val (.ref a1580), .val (.ref cy), .val (.int (0 : Int32)), .val (.int op), .val (.int om), .val (.int (1 : Int32)), .val (.int (-1 : Int32)), .val (.int (-1 : Int32)), .unset] [(.ref a1580)])) _
      refine XS.iload X1664.here hx rfl (hb hby at_137) rfl ?_
      exact kk_)
    obtain ⟨_, T1670, h1670, L1670, X1670, e1670, hQ1670, st1670⟩ := own_callV X1664 hx hZ (y := (⟨"com/example/tileshift/tileshift/NodeTable", "path", "(I)Ljava/util/List;"⟩ : MethodName)) hown (hw _ (List.mem_of_getElem? (i := 76) rfl)) (hw _ (List.mem_of_getElem? (i := 77) rfl)) (hw _ (List.mem_of_getElem? (i := 79) rfl)) (hw _ (List.mem_of_getElem? (i := 78) rfl)) (hw _ (List.mem_of_getElem? (i := 2) rfl)) (hw _ (List.mem_of_getElem? (i := 80) rfl)) (by decide) 0 (g := (mkF m 139 #[.val (.int p0), .val (.int p1), .val (.int p2), .val (.int p3), .val (.ref a1580), .val (.ref cy), .val (.int (0 : Int32)), .val (.int op), .val (.int om), .val (.int (1 : Int32)), .val (.int (-1 : Int32)), .val (.int (-1 : Int32)), .unset] [(.int (1 : Int32)), (.ref a1580)])) rfl (by rw [hml]; rfl) a1580 NE.2.2.1 [(.int (1 : Int32))] [] (rm11e l Z a0 hw [] a1580 pr mv dd (-1 : Int32) h1664 n0 f1668 NE f1667 SD qd VD) (lenOf pd11 rfl) rfl (by show 2 * 0 + _ ≤ _; exact Nat.le_of_eq rfl) (hb hby at_139) (by decide) (by decide) e1664 (by decide) (by decide)
    obtain ⟨x, rfl, N1670, K1670, Ex, Fs⟩ := hQ1670
    have S1671 : own_Go p e below s₁ G T1670 (mkF m 142 #[.val (.int p0), .val (.int p1), .val (.int p2), .val (.int p3), .val (.ref a1580), .val (.ref cy), .val (.int (0 : Int32)), .val (.int op), .val (.int om), .val (.int (1 : Int32)), .val (.int (-1 : Int32)), .val (.int (-1 : Int32)), .unset] [(.ref x)]) := fun tg_ kk_ => S1669 tg_ (st1670 tg_ kk_)
    have f1672 := Fr.app f1666 N1670
    have f1673 := f1667.keep K1670 all0
    have f1674 := Nat.le_trans f1668 K1670.1
    have NF := NE.keep K1670
    have S1675 : own_Go p e below s₁ G T1670 (mkF m 148 #[.val (.int p0), .val (.int p1), .val (.int p2), .val (.int p3), .val (.ref a1580), .val (.ref cy), .val (.int (0 : Int32)), .val (.int op), .val (.int om), .val (.int (1 : Int32)), .val (.int (-1 : Int32)), .val (.int (-1 : Int32)), .val (.ref x)] [(.int (1 : Int32)), (.ref a1580)]) := fun tg_ kk_ => S1671 tg_ (by
      refine XS.astore X1670.here hx rfl (hb hby at_142) rfl rfl (l' := #[.val (.int p0), .val (.int p1), .val (.int p2), .val (.int p3), .val (.ref a1580), .val (.ref cy), .val (.int (0 : Int32)), .val (.int op), .val (.int om), .val (.int (1 : Int32)), .val (.int (-1 : Int32)), .val (.int (-1 : Int32)), .val (.ref x)]) rfl ?_
      show Steps p.tables e below (T1670.setTop (mkF m 144 #[.val (.int p0), .val (.int p1), .val (.int p2), .val (.int p3), .val (.ref a1580), .val (.ref cy), .val (.int (0 : Int32)), .val (.int op), .val (.int om), .val (.int (1 : Int32)), .val (.int (-1 : Int32)), .val (.int (-1 : Int32)), .val (.ref x)] [])) _
      refine XS.aload X1670.here hx rfl (hb hby at_144) rfl rfl ?_
      show Steps p.tables e below (T1670.setTop (mkF m 146 #[.val (.int p0), .val (.int p1), .val (.int p2), .val (.int p3), .val (.ref a1580), .val (.ref cy), .val (.int (0 : Int32)), .val (.int op), .val (.int om), .val (.int (1 : Int32)), .val (.int (-1 : Int32)), .val (.int (-1 : Int32)), .val (.ref x)] [(.ref a1580)])) _
      refine XS.iload X1670.here hx rfl (hb hby at_146) rfl ?_
      exact kk_)
    obtain ⟨_, T1676, h1676, L1676, X1676, e1676, hQ1676, st1676⟩ := own_callV X1670 hx hZ (y := (⟨"com/example/tileshift/tileshift/NodeTable", "move", "(I)I"⟩ : MethodName)) hown (hw _ (List.mem_of_getElem? (i := 120) rfl)) (hw _ (List.mem_of_getElem? (i := 121) rfl)) (hw _ (List.mem_of_getElem? (i := 123) rfl)) (hw _ (List.mem_of_getElem? (i := 122) rfl)) (hw _ (List.mem_of_getElem? (i := 2) rfl)) (hw _ (List.mem_of_getElem? (i := 124) rfl)) (by decide) 0 (g := (mkF m 148 #[.val (.int p0), .val (.int p1), .val (.int p2), .val (.int p3), .val (.ref a1580), .val (.ref cy), .val (.int (0 : Int32)), .val (.int op), .val (.int om), .val (.int (1 : Int32)), .val (.int (-1 : Int32)), .val (.int (-1 : Int32)), .val (.ref x)] [(.int (1 : Int32)), (.ref a1580)])) rfl (by rw [hml]; rfl) a1580 NF.2.2.1 [(.int (1 : Int32))] [] (rm171 l Z a0 hw [] a1580 pr mv (-1 : Int32) (-1 : Int32) h1670 n0 f1674 NF) (lenOf pd4 rfl) rfl (by show 2 * 0 + _ ≤ _; exact Nat.le_of_eq rfl) (hb hby at_148) (by decide) (by decide) e1670 (by decide) (by decide)
    obtain ⟨rfl, N1676, rfl⟩ := hQ1676
    have S1677 : own_Go p e below s₁ G T1676 (mkF m 151 #[.val (.int p0), .val (.int p1), .val (.int p2), .val (.int p3), .val (.ref a1580), .val (.ref cy), .val (.int (0 : Int32)), .val (.int op), .val (.int om), .val (.int (1 : Int32)), .val (.int (-1 : Int32)), .val (.int (-1 : Int32)), .val (.ref x)] [(.int (-1 : Int32))]) := fun tg_ kk_ => S1675 tg_ (st1676 tg_ kk_)
    have M1676 := Fr.app f1672 N1676
    have S1678 : own_Go p e below s₁ G T1676 (mkF m 162 #[.val (.int p0), .val (.int p1), .val (.int p2), .val (.int p3), .val (.ref a1580), .val (.ref cy), .val (.int (0 : Int32)), .val (.int op), .val (.int om), .val (.int (1 : Int32)), .val (.int (-1 : Int32)), .val (.int (-1 : Int32)), .val (.ref x)] [(.int (0 : Int32)), (.ref a1580)]) := fun tg_ kk_ => S1677 tg_ (by
      refine XS.iload X1676.here hx rfl (hb hby at_151) rfl ?_
      show Steps p.tables e below (T1676.setTop (mkF m 153 #[.val (.int p0), .val (.int p1), .val (.int p2), .val (.int p3), .val (.ref a1580), .val (.ref cy), .val (.int (0 : Int32)), .val (.int op), .val (.int om), .val (.int (1 : Int32)), .val (.int (-1 : Int32)), .val (.int (-1 : Int32)), .val (.ref x)] [(.int (-1 : Int32)), (.int (-1 : Int32))])) _
      refine XS.icmpYes X1676.here hx rfl (pc0 := 153) (pc' := 158) rfl (hb hby at_153) rfl (XT.ii_eq_t (by decide)) (by decide) (by decide) ?_
      show Steps p.tables e below (T1676.setTop (mkF m 158 #[.val (.int p0), .val (.int p1), .val (.int p2), .val (.int p3), .val (.ref a1580), .val (.ref cy), .val (.int (0 : Int32)), .val (.int op), .val (.int om), .val (.int (1 : Int32)), .val (.int (-1 : Int32)), .val (.int (-1 : Int32)), .val (.ref x)] [])) _
      refine XS.aload X1676.here hx rfl (hb hby at_158) rfl rfl ?_
      show Steps p.tables e below (T1676.setTop (mkF m 160 #[.val (.int p0), .val (.int p1), .val (.int p2), .val (.int p3), .val (.ref a1580), .val (.ref cy), .val (.int (0 : Int32)), .val (.int op), .val (.int om), .val (.int (1 : Int32)), .val (.int (-1 : Int32)), .val (.int (-1 : Int32)), .val (.ref x)] [(.ref a1580)])) _
      refine XS.iload X1676.here hx rfl (hb hby at_160) rfl ?_
      exact kk_)
    obtain ⟨_, T1679, h1679, L1679, X1679, e1679, hQ1679, st1679⟩ := own_callV X1676 hx hZ (y := (⟨"com/example/tileshift/tileshift/NodeTable", "move", "(I)I"⟩ : MethodName)) hown (hw _ (List.mem_of_getElem? (i := 120) rfl)) (hw _ (List.mem_of_getElem? (i := 121) rfl)) (hw _ (List.mem_of_getElem? (i := 123) rfl)) (hw _ (List.mem_of_getElem? (i := 122) rfl)) (hw _ (List.mem_of_getElem? (i := 2) rfl)) (hw _ (List.mem_of_getElem? (i := 124) rfl)) (by decide) 0 (g := (mkF m 162 #[.val (.int p0), .val (.int p1), .val (.int p2), .val (.int p3), .val (.ref a1580), .val (.ref cy), .val (.int (0 : Int32)), .val (.int op), .val (.int om), .val (.int (1 : Int32)), .val (.int (-1 : Int32)), .val (.int (-1 : Int32)), .val (.ref x)] [(.int (0 : Int32)), (.ref a1580)])) rfl (by rw [hml]; rfl) a1580 NF.2.2.1 [(.int (0 : Int32))] [] (rm170 l Z a0 hw [] a1580 pr mv (-1 : Int32) (-1 : Int32) h1670 n0 f1674 NF) (lenOf pd4 rfl) rfl (by show 2 * 0 + _ ≤ _; exact Nat.le_of_eq rfl) (hb hby at_162) (by decide) (by decide) e1676 (by decide) (by decide)
    obtain ⟨rfl, N1679, rfl⟩ := hQ1679
    have S1680 : own_Go p e below s₁ G T1679 (mkF m 165 #[.val (.int p0), .val (.int p1), .val (.int p2), .val (.int p3), .val (.ref a1580), .val (.ref cy), .val (.int (0 : Int32)), .val (.int op), .val (.int om), .val (.int (1 : Int32)), .val (.int (-1 : Int32)), .val (.int (-1 : Int32)), .val (.ref x)] [(.int (-1 : Int32))]) := fun tg_ kk_ => S1678 tg_ (st1679 tg_ kk_)
    have M1679 := Fr.app M1676 N1679
    have S1681 : own_Go p e below s₁ G T1679 (mkF m 178 #[.val (.int p0), .val (.int p1), .val (.int p2), .val (.int p3), .val (.ref a1580), .val (.ref cy), .val (.int (0 : Int32)), .val (.int op), .val (.int om), .val (.int (1 : Int32)), .val (.int (-1 : Int32)), .val (.int (-1 : Int32)), .val (.ref x)] [(.ref x)]) := fun tg_ kk_ => S1680 tg_ (by
      refine XS.iconst X1679.here hx rfl (hb hby at_165) ?_
      show Steps p.tables e below (T1679.setTop (mkF m 166 #[.val (.int p0), .val (.int p1), .val (.int p2), .val (.int p3), .val (.ref a1580), .val (.ref cy), .val (.int (0 : Int32)), .val (.int op), .val (.int om), .val (.int (1 : Int32)), .val (.int (-1 : Int32)), .val (.int (-1 : Int32)), .val (.ref x)] [(.int (-1 : Int32)), (.int (-1 : Int32))])) _
      refine XS.icmpYes X1679.here hx rfl (pc0 := 166) (pc' := 171) rfl (hb hby at_166) rfl (XT.ii_eq_t (by decide)) (by decide) (by decide) ?_
      show Steps p.tables e below (T1679.setTop (mkF m 171 #[.val (.int p0), .val (.int p1), .val (.int p2), .val (.int p3), .val (.ref a1580), .val (.ref cy), .val (.int (0 : Int32)), .val (.int op), .val (.int om), .val (.int (1 : Int32)), .val (.int (-1 : Int32)), .val (.int (-1 : Int32)), .val (.ref x)] [])) _
      refine XS.iload X1679.here hx rfl (hb hby at_171) rfl ?_
      show Steps p.tables e below (T1679.setTop (mkF m 173 #[.val (.int p0), .val (.int p1), .val (.int p2), .val (.int p3), .val (.ref a1580), .val (.ref cy), .val (.int (0 : Int32)), .val (.int op), .val (.int om), .val (.int (1 : Int32)), .val (.int (-1 : Int32)), .val (.int (-1 : Int32)), .val (.ref x)] [(.int (-1 : Int32))])) _
      refine XS.ifNo X1679.here hx rfl (hb hby at_173) rfl (XT.i0_ge_f (by decide)) ?_
      show Steps p.tables e below (T1679.setTop (mkF m 176 #[.val (.int p0), .val (.int p1), .val (.int p2), .val (.int p3), .val (.ref a1580), .val (.ref cy), .val (.int (0 : Int32)), .val (.int op), .val (.int om), .val (.int (1 : Int32)), .val (.int (-1 : Int32)), .val (.int (-1 : Int32)), .val (.ref x)] [])) _
      refine XS.aload X1679.here hx rfl (hb hby at_176) rfl rfl ?_
      exact kk_)
    obtain ⟨_, T1682, h1682, L1682, X1682, e1682, hQ1682, st1682⟩ := own_callF X1679 hx hZ (y := (⟨"java/util/List", "size", "()I"⟩ : MethodName)) (z := (⟨"java/util/ArrayList", "size", "()I"⟩ : MethodName)) hown (hw _ (List.mem_of_getElem? (i := 125) rfl)) (hw _ (List.mem_of_getElem? (i := 110) rfl)) (mvT hZ (hw _ (List.mem_of_getElem? (i := 111) rfl))) (hw _ (List.mem_of_getElem? (i := 112) rfl)) (hw _ (List.mem_of_getElem? (i := 113) rfl)) (hw _ (List.mem_of_getElem? (i := 114) rfl)) (hw _ (List.mem_of_getElem? (i := 115) rfl)) (hw _ (List.mem_of_getElem? (i := 116) rfl)) (hw _ (List.mem_of_getElem? (i := 83) rfl)) (hw _ (List.mem_of_getElem? (i := 117) rfl)) (by decide) 0 (g := (mkF m 178 #[.val (.int p0), .val (.int p1), .val (.int p2), .val (.int p3), .val (.ref a1580), .val (.ref cy), .val (.int (0 : Int32)), .val (.int op), .val (.int om), .val (.int (1 : Int32)), .val (.int (-1 : Int32)), .val (.int (-1 : Int32)), .val (.ref x)] [(.ref x)])) rfl (by rw [hml]; rfl) x Ex [] [] (rm16 l Z a0 hw [] x (0 : Int32) h1670 n0 f1674 Fs) (lenOf pd5 rfl) rfl (by show 2 * 0 + _ ≤ _; exact Nat.le_of_eq rfl) (hb hby at_178) (by decide) (by decide) e1679 (by decide) (by decide)
    obtain ⟨rfl, N1682, rfl⟩ := hQ1682
    have S1683 : own_Go p e below s₁ G T1682 (mkF m 183 #[.val (.int p0), .val (.int p1), .val (.int p2), .val (.int p3), .val (.ref a1580), .val (.ref cy), .val (.int (0 : Int32)), .val (.int op), .val (.int om), .val (.int (1 : Int32)), .val (.int (-1 : Int32)), .val (.int (-1 : Int32)), .val (.ref x)] [(.int (0 : Int32))]) := fun tg_ kk_ => S1681 tg_ (st1682 tg_ kk_)
    have M1682 := Fr.app M1679 N1682
    have S1684 : own_Go p e below s₁ G T1682 (mkF m 191 #[.val (.int p0), .val (.int p1), .val (.int p2), .val (.int p3), .val (.ref a1580), .val (.ref cy), .val (.int (0 : Int32)), .val (.int op), .val (.int om), .val (.int (1 : Int32)), .val (.int (-1 : Int32)), .val (.int (-1 : Int32)), .val (.ref x)] [(.int (1 : Int32))]) := fun tg_ kk_ => S1683 tg_ (by
      refine XS.ifNo X1682.here hx rfl (hb hby at_183) rfl (XT.i0_ne_f (by decide)) ?_
      show Steps p.tables e below (T1682.setTop (mkF m 186 #[.val (.int p0), .val (.int p1), .val (.int p2), .val (.int p3), .val (.ref a1580), .val (.ref cy), .val (.int (0 : Int32)), .val (.int op), .val (.int om), .val (.int (1 : Int32)), .val (.int (-1 : Int32)), .val (.int (-1 : Int32)), .val (.ref x)] [])) _
      refine XS.iconst X1682.here hx rfl (hb hby at_186) ?_
      show Steps p.tables e below (T1682.setTop (mkF m 187 #[.val (.int p0), .val (.int p1), .val (.int p2), .val (.int p3), .val (.ref a1580), .val (.ref cy), .val (.int (0 : Int32)), .val (.int op), .val (.int om), .val (.int (1 : Int32)), .val (.int (-1 : Int32)), .val (.int (-1 : Int32)), .val (.ref x)] [(.int (1 : Int32))])) _
      refine XS.goto X1682.here hx rfl (pc0 := 187) (pc' := 191) rfl (hb hby at_187) (by decide) (by decide) ?_
      exact kk_)
    obtain ⟨fs, hr, hrun, hended, hW, hsame⟩ := X1682.leave (v := some (.int (1 : Int32))) (fun h => by rw [Bd.returns] at h; cases h)
    refine ⟨_, _, ?_, hrun, hended, _, _, rfl, ?_, ⟨_, rfl⟩, hW, hsame.mono (by decide) (by decide)⟩
    · rw [← hG]; exact S1684 _ (retN X1682 hx (t := .boolean) Bd.returns (by simp) (hb hby at_191) hr)
    · show Q0 Z p0 p1 p2 p3 h0 n0 _ T1682.heap _
      rw [e1682]
      exact ⟨rfl, M1682⟩
  · have _ := N0
    have S1685 : own_Go p e below s₁ G T1657 (mkF m 132 #[.val (.int p0), .val (.int p1), .val (.int p2), .val (.int p3), .val (.ref a1580), .val (.ref cy), .val (.int (0 : Int32)), .val (.int op), .val (.int om), .val (.int (1 : Int32)), .val (.int (0 : Int32)), .val (.int (p1 &&& (3 : Int32))), .unset] [(.int (p1 &&& (3 : Int32))), (.int (0 : Int32)), (.int (1 : Int32)), (.ref a1580)]) := fun tg_ kk_ => S1662 tg_ (by
      refine XS.ifYes X1657.here hx rfl (pc0 := 99) (pc' := 106) rfl (hb hby at_99) rfl (XT.i0_ne_t hp) (by decide) (by decide) ?_
      show Steps p.tables e below (T1657.setTop (mkF m 106 #[.val (.int p0), .val (.int p1), .val (.int p2), .val (.int p3), .val (.ref a1580), .val (.ref cy), .val (.int (0 : Int32)), .val (.int op), .val (.int om), .val (.int (1 : Int32)), .unset, .unset, .unset] [])) _
      refine XS.iload X1657.here hx rfl (hb hby at_106) rfl ?_
      show Steps p.tables e below (T1657.setTop (mkF m 108 #[.val (.int p0), .val (.int p1), .val (.int p2), .val (.int p3), .val (.ref a1580), .val (.ref cy), .val (.int (0 : Int32)), .val (.int op), .val (.int om), .val (.int (1 : Int32)), .unset, .unset, .unset] [(.int (0 : Int32))])) _
      refine XS.istore X1657.here hx rfl (hb hby at_108) rfl (l' := #[.val (.int p0), .val (.int p1), .val (.int p2), .val (.int p3), .val (.ref a1580), .val (.ref cy), .val (.int (0 : Int32)), .val (.int op), .val (.int om), .val (.int (1 : Int32)), .val (.int (0 : Int32)), .unset, .unset]) rfl ?_
      show Steps p.tables e below (T1657.setTop (mkF m 110 #[.val (.int p0), .val (.int p1), .val (.int p2), .val (.int p3), .val (.ref a1580), .val (.ref cy), .val (.int (0 : Int32)), .val (.int op), .val (.int om), .val (.int (1 : Int32)), .val (.int (0 : Int32)), .unset, .unset] [])) _
      refine XS.iload X1657.here hx rfl (hb hby at_110) rfl ?_
      show Steps p.tables e below (T1657.setTop (mkF m 112 #[.val (.int p0), .val (.int p1), .val (.int p2), .val (.int p3), .val (.ref a1580), .val (.ref cy), .val (.int (0 : Int32)), .val (.int op), .val (.int om), .val (.int (1 : Int32)), .val (.int (0 : Int32)), .unset, .unset] [(.int (0 : Int32))])) _
      refine XS.ifYes X1657.here hx rfl (pc0 := 112) (pc' := 119) rfl (hb hby at_112) rfl (XT.i0_ge_t (by decide)) (by decide) (by decide) ?_
      show Steps p.tables e below (T1657.setTop (mkF m 119 #[.val (.int p0), .val (.int p1), .val (.int p2), .val (.int p3), .val (.ref a1580), .val (.ref cy), .val (.int (0 : Int32)), .val (.int op), .val (.int om), .val (.int (1 : Int32)), .val (.int (0 : Int32)), .unset, .unset] [])) _
      refine XS.iloadN X1657.here hx rfl (hb hby at_119) rfl ?_
      show Steps p.tables e below (T1657.setTop (mkF m 120 #[.val (.int p0), .val (.int p1), .val (.int p2), .val (.int p3), .val (.ref a1580), .val (.ref cy), .val (.int (0 : Int32)), .val (.int op), .val (.int om), .val (.int (1 : Int32)), .val (.int (0 : Int32)), .unset, .unset] [(.int p1)])) _
      refine XS.iconst X1657.here hx rfl (hb hby at_120) ?_
      show Steps p.tables e below (T1657.setTop (mkF m 121 #[.val (.int p0), .val (.int p1), .val (.int p2), .val (.int p3), .val (.ref a1580), .val (.ref cy), .val (.int (0 : Int32)), .val (.int op), .val (.int om), .val (.int (1 : Int32)), .val (.int (0 : Int32)), .unset, .unset] [(.int (3 : Int32)), (.int p1)])) _
      refine XS.iand X1657.here hx rfl (hb hby at_121) rfl ?_
      show Steps p.tables e below (T1657.setTop (mkF m 122 #[.val (.int p0), .val (.int p1), .val (.int p2), .val (.int p3), .val (.ref a1580), .val (.ref cy), .val (.int (0 : Int32)), .val (.int op), .val (.int om), .val (.int (1 : Int32)), .val (.int (0 : Int32)), .unset, .unset] [(.int (p1 &&& (3 : Int32)))])) _
      refine XS.istore X1657.here hx rfl (hb hby at_122) rfl (l' := #[.val (.int p0), .val (.int p1), .val (.int p2), .val (.int p3), .val (.ref a1580), .val (.ref cy), .val (.int (0 : Int32)), .val (.int op), .val (.int om), .val (.int (1 : Int32)), .val (.int (0 : Int32)), .val (.int (p1 &&& (3 : Int32))), .unset]) rfl ?_
      show Steps p.tables e below (T1657.setTop (mkF m 124 #[.val (.int p0), .val (.int p1), .val (.int p2), .val (.int p3), .val (.ref a1580), .val (.ref cy), .val (.int (0 : Int32)), .val (.int op), .val (.int om), .val (.int (1 : Int32)), .val (.int (0 : Int32)), .val (.int (p1 &&& (3 : Int32))), .unset] [])) _
      refine XS.aload X1657.here hx rfl (hb hby at_124) rfl rfl ?_
      show Steps p.tables e below (T1657.setTop (mkF m 126 #[.val (.int p0), .val (.int p1), .val (.int p2), .val (.int p3), .val (.ref a1580), .val (.ref cy), .val (.int (0 : Int32)), .val (.int op), .val (.int om), .val (.int (1 : Int32)), .val (.int (0 : Int32)), .val (.int (p1 &&& (3 : Int32))), .unset] [(.ref a1580)])) _
      refine XS.iload X1657.here hx rfl (hb hby at_126) rfl ?_
      show Steps p.tables e below (T1657.setTop (mkF m 128 #[.val (.int p0), .val (.int p1), .val (.int p2), .val (.int p3), .val (.ref a1580), .val (.ref cy), .val (.int (0 : Int32)), .val (.int op), .val (.int om), .val (.int (1 : Int32)), .val (.int (0 : Int32)), .val (.int (p1 &&& (3 : Int32))), .unset] [(.int (1 : Int32)), (.ref a1580)])) _
      refine XS.iload X1657.here hx rfl (hb hby at_128) rfl ?_
      show Steps p.tables e below (T1657.setTop (mkF m 130 #[.val (.int p0), .val (.int p1), .val (.int p2), .val (.int p3), .val (.ref a1580), .val (.ref cy), .val (.int (0 : Int32)), .val (.int op), .val (.int om), .val (.int (1 : Int32)), .val (.int (0 : Int32)), .val (.int (p1 &&& (3 : Int32))), .unset] [(.int (0 : Int32)), (.int (1 : Int32)), (.ref a1580)])) _
      refine XS.iload X1657.here hx rfl (hb hby at_130) rfl ?_
      exact kk_)
    rcases own_and3 p1 with hm | hm | hm | hm
    · have _ := N0
      rw [hm] at S1685
      obtain ⟨_, T1686, h1686, L1686, X1686, e1686, hQ1686, st1686⟩ := own_callV X1657 hx hZ (y := (⟨"com/example/tileshift/tileshift/NodeTable", "reachedFrom", "(III)V"⟩ : MethodName)) hown (hw _ (List.mem_of_getElem? (i := 71) rfl)) (hw _ (List.mem_of_getElem? (i := 72) rfl)) (hw _ (List.mem_of_getElem? (i := 74) rfl)) (hw _ (List.mem_of_getElem? (i := 73) rfl)) (hw _ (List.mem_of_getElem? (i := 2) rfl)) (hw _ (List.mem_of_getElem? (i := 75) rfl)) (by decide) 0 (g := (mkF m 132 #[.val (.int p0), .val (.int p1), .val (.int p2), .val (.int p3), .val (.ref a1580), .val (.ref cy), .val (.int (0 : Int32)), .val (.int op), .val (.int om), .val (.int (1 : Int32)), .val (.int (0 : Int32)), .val (.int (0 : Int32)), .unset] [(.int (0 : Int32)), (.int (0 : Int32)), (.int (1 : Int32)), (.ref a1580)])) rfl (by rw [hml]; rfl) a1580 ND.2.2.1 [(.int (1 : Int32)), (.int (0 : Int32)), (.int (0 : Int32))] [] (rm10 l Z a0 hw [] a1580 pr mv (0 : Int32) (0 : Int32) h1657 n0 f1661 op yy ND (by omega) (by decide +kernel)) (lenOf pd10 rfl) rfl (by show 2 * 0 + _ ≤ _; exact Nat.le_of_eq rfl) (hb hby at_132) (by decide) (by decide) e1657 (by decide) (by decide)
      obtain ⟨rfl, N1686, K1686, NE⟩ := hQ1686
      have S1687 : own_Go p e below s₁ G T1686 (mkF m 135 #[.val (.int p0), .val (.int p1), .val (.int p2), .val (.int p3), .val (.ref a1580), .val (.ref cy), .val (.int (0 : Int32)), .val (.int op), .val (.int om), .val (.int (1 : Int32)), .val (.int (0 : Int32)), .val (.int (0 : Int32)), .unset] []) := fun tg_ kk_ => S1685 tg_ (st1686 tg_ kk_)
      have f1688 := Fr.app f1659 N1686
      have f1689 := f1660.keep K1686 (allS (by omega) (allS (by omega) all0))
      have f1690 := Nat.le_trans f1661 K1686.1
      have S1691 : own_Go p e below s₁ G T1686 (mkF m 139 #[.val (.int p0), .val (.int p1), .val (.int p2), .val (.int p3), .val (.ref a1580), .val (.ref cy), .val (.int (0 : Int32)), .val (.int op), .val (.int om), .val (.int (1 : Int32)), .val (.int (0 : Int32)), .val (.int (0 : Int32)), .unset] [(.int (1 : Int32)), (.ref a1580)]) := fun tg_ kk_ => S1687 tg_ (by
        refine XS.aload X1686.here hx rfl (hb hby at_135) rfl rfl ?_
        show Steps p.tables e below (T1686.setTop (mkF m 137 #[.val (.int p0), .val (.int p1), .val (.int p2), .val (.int p3), .val (.ref a1580), .val (.ref cy), .val (.int (0 : Int32)), .val (.int op), .val (.int om), .val (.int (1 : Int32)), .val (.int (0 : Int32)), .val (.int (0 : Int32)), .unset] [(.ref a1580)])) _
        refine XS.iload X1686.here hx rfl (hb hby at_137) rfl ?_
        exact kk_)
      obtain ⟨_, T1692, h1692, L1692, X1692, e1692, hQ1692, st1692⟩ := own_callV X1686 hx hZ (y := (⟨"com/example/tileshift/tileshift/NodeTable", "path", "(I)Ljava/util/List;"⟩ : MethodName)) hown (hw _ (List.mem_of_getElem? (i := 76) rfl)) (hw _ (List.mem_of_getElem? (i := 77) rfl)) (hw _ (List.mem_of_getElem? (i := 79) rfl)) (hw _ (List.mem_of_getElem? (i := 78) rfl)) (hw _ (List.mem_of_getElem? (i := 2) rfl)) (hw _ (List.mem_of_getElem? (i := 80) rfl)) (by decide) 0 (g := (mkF m 139 #[.val (.int p0), .val (.int p1), .val (.int p2), .val (.int p3), .val (.ref a1580), .val (.ref cy), .val (.int (0 : Int32)), .val (.int op), .val (.int om), .val (.int (1 : Int32)), .val (.int (0 : Int32)), .val (.int (0 : Int32)), .unset] [(.int (1 : Int32)), (.ref a1580)])) rfl (by rw [hml]; rfl) a1580 NE.2.2.1 [(.int (1 : Int32))] [] (rm11o l Z a0 hw [] a1580 pr mv dd (0 : Int32) yU h1686 n0 f1690 NE f1689 SD qd VD m0 qm0 _ SM VM (by decide) rfl EmU) (lenOf pd11 rfl) rfl (by show 2 * 0 + _ ≤ _; exact Nat.le_of_eq rfl) (hb hby at_139) (by decide) (by decide) e1686 (by decide) (by decide)
      obtain ⟨x, d, rfl, N1692, K1692, Ex, Fe, Fs, qa, Va⟩ := hQ1692
      have S1693 : own_Go p e below s₁ G T1692 (mkF m 142 #[.val (.int p0), .val (.int p1), .val (.int p2), .val (.int p3), .val (.ref a1580), .val (.ref cy), .val (.int (0 : Int32)), .val (.int op), .val (.int om), .val (.int (1 : Int32)), .val (.int (0 : Int32)), .val (.int (0 : Int32)), .unset] [(.ref x)]) := fun tg_ kk_ => S1691 tg_ (st1692 tg_ kk_)
      have f1694 := Fr.app f1688 N1692
      have f1695 := f1689.keep K1692 all0
      have f1696 := Nat.le_trans f1690 K1692.1
      have NF := NE.keep K1692
      have S1697 : own_Go p e below s₁ G T1692 (mkF m 148 #[.val (.int p0), .val (.int p1), .val (.int p2), .val (.int p3), .val (.ref a1580), .val (.ref cy), .val (.int (0 : Int32)), .val (.int op), .val (.int om), .val (.int (1 : Int32)), .val (.int (0 : Int32)), .val (.int (0 : Int32)), .val (.ref x)] [(.int (1 : Int32)), (.ref a1580)]) := fun tg_ kk_ => S1693 tg_ (by
        refine XS.astore X1692.here hx rfl (hb hby at_142) rfl rfl (l' := #[.val (.int p0), .val (.int p1), .val (.int p2), .val (.int p3), .val (.ref a1580), .val (.ref cy), .val (.int (0 : Int32)), .val (.int op), .val (.int om), .val (.int (1 : Int32)), .val (.int (0 : Int32)), .val (.int (0 : Int32)), .val (.ref x)]) rfl ?_
        show Steps p.tables e below (T1692.setTop (mkF m 144 #[.val (.int p0), .val (.int p1), .val (.int p2), .val (.int p3), .val (.ref a1580), .val (.ref cy), .val (.int (0 : Int32)), .val (.int op), .val (.int om), .val (.int (1 : Int32)), .val (.int (0 : Int32)), .val (.int (0 : Int32)), .val (.ref x)] [])) _
        refine XS.aload X1692.here hx rfl (hb hby at_144) rfl rfl ?_
        show Steps p.tables e below (T1692.setTop (mkF m 146 #[.val (.int p0), .val (.int p1), .val (.int p2), .val (.int p3), .val (.ref a1580), .val (.ref cy), .val (.int (0 : Int32)), .val (.int op), .val (.int om), .val (.int (1 : Int32)), .val (.int (0 : Int32)), .val (.int (0 : Int32)), .val (.ref x)] [(.ref a1580)])) _
        refine XS.iload X1692.here hx rfl (hb hby at_146) rfl ?_
        exact kk_)
      obtain ⟨_, T1698, h1698, L1698, X1698, e1698, hQ1698, st1698⟩ := own_callV X1692 hx hZ (y := (⟨"com/example/tileshift/tileshift/NodeTable", "move", "(I)I"⟩ : MethodName)) hown (hw _ (List.mem_of_getElem? (i := 120) rfl)) (hw _ (List.mem_of_getElem? (i := 121) rfl)) (hw _ (List.mem_of_getElem? (i := 123) rfl)) (hw _ (List.mem_of_getElem? (i := 122) rfl)) (hw _ (List.mem_of_getElem? (i := 2) rfl)) (hw _ (List.mem_of_getElem? (i := 124) rfl)) (by decide) 0 (g := (mkF m 148 #[.val (.int p0), .val (.int p1), .val (.int p2), .val (.int p3), .val (.ref a1580), .val (.ref cy), .val (.int (0 : Int32)), .val (.int op), .val (.int om), .val (.int (1 : Int32)), .val (.int (0 : Int32)), .val (.int (0 : Int32)), .val (.ref x)] [(.int (1 : Int32)), (.ref a1580)])) rfl (by rw [hml]; rfl) a1580 NF.2.2.1 [(.int (1 : Int32))] [] (rm171 l Z a0 hw [] a1580 pr mv (0 : Int32) (0 : Int32) h1692 n0 f1696 NF) (lenOf pd4 rfl) rfl (by show 2 * 0 + _ ≤ _; exact Nat.le_of_eq rfl) (hb hby at_148) (by decide) (by decide) e1692 (by decide) (by decide)
      obtain ⟨rfl, N1698, rfl⟩ := hQ1698
      have S1699 : own_Go p e below s₁ G T1698 (mkF m 151 #[.val (.int p0), .val (.int p1), .val (.int p2), .val (.int p3), .val (.ref a1580), .val (.ref cy), .val (.int (0 : Int32)), .val (.int op), .val (.int om), .val (.int (1 : Int32)), .val (.int (0 : Int32)), .val (.int (0 : Int32)), .val (.ref x)] [(.int (0 : Int32))]) := fun tg_ kk_ => S1697 tg_ (st1698 tg_ kk_)
      have M1698 := Fr.app f1694 N1698
      have S1700 : own_Go p e below s₁ G T1698 (mkF m 162 #[.val (.int p0), .val (.int p1), .val (.int p2), .val (.int p3), .val (.ref a1580), .val (.ref cy), .val (.int (0 : Int32)), .val (.int op), .val (.int om), .val (.int (1 : Int32)), .val (.int (0 : Int32)), .val (.int (0 : Int32)), .val (.ref x)] [(.int (0 : Int32)), (.ref a1580)]) := fun tg_ kk_ => S1699 tg_ (by
        refine XS.iload X1698.here hx rfl (hb hby at_151) rfl ?_
        show Steps p.tables e below (T1698.setTop (mkF m 153 #[.val (.int p0), .val (.int p1), .val (.int p2), .val (.int p3), .val (.ref a1580), .val (.ref cy), .val (.int (0 : Int32)), .val (.int op), .val (.int om), .val (.int (1 : Int32)), .val (.int (0 : Int32)), .val (.int (0 : Int32)), .val (.ref x)] [(.int (0 : Int32)), (.int (0 : Int32))])) _
        refine XS.icmpYes X1698.here hx rfl (pc0 := 153) (pc' := 158) rfl (hb hby at_153) rfl (XT.ii_eq_t (by decide)) (by decide) (by decide) ?_
        show Steps p.tables e below (T1698.setTop (mkF m 158 #[.val (.int p0), .val (.int p1), .val (.int p2), .val (.int p3), .val (.ref a1580), .val (.ref cy), .val (.int (0 : Int32)), .val (.int op), .val (.int om), .val (.int (1 : Int32)), .val (.int (0 : Int32)), .val (.int (0 : Int32)), .val (.ref x)] [])) _
        refine XS.aload X1698.here hx rfl (hb hby at_158) rfl rfl ?_
        show Steps p.tables e below (T1698.setTop (mkF m 160 #[.val (.int p0), .val (.int p1), .val (.int p2), .val (.int p3), .val (.ref a1580), .val (.ref cy), .val (.int (0 : Int32)), .val (.int op), .val (.int om), .val (.int (1 : Int32)), .val (.int (0 : Int32)), .val (.int (0 : Int32)), .val (.ref x)] [(.ref a1580)])) _
        refine XS.iload X1698.here hx rfl (hb hby at_160) rfl ?_
        exact kk_)
      obtain ⟨_, T1701, h1701, L1701, X1701, e1701, hQ1701, st1701⟩ := own_callV X1698 hx hZ (y := (⟨"com/example/tileshift/tileshift/NodeTable", "move", "(I)I"⟩ : MethodName)) hown (hw _ (List.mem_of_getElem? (i := 120) rfl)) (hw _ (List.mem_of_getElem? (i := 121) rfl)) (hw _ (List.mem_of_getElem? (i := 123) rfl)) (hw _ (List.mem_of_getElem? (i := 122) rfl)) (hw _ (List.mem_of_getElem? (i := 2) rfl)) (hw _ (List.mem_of_getElem? (i := 124) rfl)) (by decide) 0 (g := (mkF m 162 #[.val (.int p0), .val (.int p1), .val (.int p2), .val (.int p3), .val (.ref a1580), .val (.ref cy), .val (.int (0 : Int32)), .val (.int op), .val (.int om), .val (.int (1 : Int32)), .val (.int (0 : Int32)), .val (.int (0 : Int32)), .val (.ref x)] [(.int (0 : Int32)), (.ref a1580)])) rfl (by rw [hml]; rfl) a1580 NF.2.2.1 [(.int (0 : Int32))] [] (rm170 l Z a0 hw [] a1580 pr mv (0 : Int32) (0 : Int32) h1692 n0 f1696 NF) (lenOf pd4 rfl) rfl (by show 2 * 0 + _ ≤ _; exact Nat.le_of_eq rfl) (hb hby at_162) (by decide) (by decide) e1698 (by decide) (by decide)
      obtain ⟨rfl, N1701, rfl⟩ := hQ1701
      have S1702 : own_Go p e below s₁ G T1701 (mkF m 165 #[.val (.int p0), .val (.int p1), .val (.int p2), .val (.int p3), .val (.ref a1580), .val (.ref cy), .val (.int (0 : Int32)), .val (.int op), .val (.int om), .val (.int (1 : Int32)), .val (.int (0 : Int32)), .val (.int (0 : Int32)), .val (.ref x)] [(.int (-1 : Int32))]) := fun tg_ kk_ => S1700 tg_ (st1701 tg_ kk_)
      have M1701 := Fr.app M1698 N1701
      have S1703 : own_Go p e below s₁ G T1701 (mkF m 194 #[.val (.int p0), .val (.int p1), .val (.int p2), .val (.int p3), .val (.ref a1580), .val (.ref cy), .val (.int (0 : Int32)), .val (.int op), .val (.int om), .val (.int (1 : Int32)), .val (.int (0 : Int32)), .val (.int (0 : Int32)), .val (.ref x)] [(.ref x)]) := fun tg_ kk_ => S1702 tg_ (by
        refine XS.iconst X1701.here hx rfl (hb hby at_165) ?_
        show Steps p.tables e below (T1701.setTop (mkF m 166 #[.val (.int p0), .val (.int p1), .val (.int p2), .val (.int p3), .val (.ref a1580), .val (.ref cy), .val (.int (0 : Int32)), .val (.int op), .val (.int om), .val (.int (1 : Int32)), .val (.int (0 : Int32)), .val (.int (0 : Int32)), .val (.ref x)] [(.int (-1 : Int32)), (.int (-1 : Int32))])) _
        refine XS.icmpYes X1701.here hx rfl (pc0 := 166) (pc' := 171) rfl (hb hby at_166) rfl (XT.ii_eq_t (by decide)) (by decide) (by decide) ?_
        show Steps p.tables e below (T1701.setTop (mkF m 171 #[.val (.int p0), .val (.int p1), .val (.int p2), .val (.int p3), .val (.ref a1580), .val (.ref cy), .val (.int (0 : Int32)), .val (.int op), .val (.int om), .val (.int (1 : Int32)), .val (.int (0 : Int32)), .val (.int (0 : Int32)), .val (.ref x)] [])) _
        refine XS.iload X1701.here hx rfl (hb hby at_171) rfl ?_
        show Steps p.tables e below (T1701.setTop (mkF m 173 #[.val (.int p0), .val (.int p1), .val (.int p2), .val (.int p3), .val (.ref a1580), .val (.ref cy), .val (.int (0 : Int32)), .val (.int op), .val (.int om), .val (.int (1 : Int32)), .val (.int (0 : Int32)), .val (.int (0 : Int32)), .val (.ref x)] [(.int (0 : Int32))])) _
        refine XS.ifYes X1701.here hx rfl (pc0 := 173) (pc' := 192) rfl (hb hby at_173) rfl (XT.i0_ge_t (by decide)) (by decide) (by decide) ?_
        show Steps p.tables e below (T1701.setTop (mkF m 192 #[.val (.int p0), .val (.int p1), .val (.int p2), .val (.int p3), .val (.ref a1580), .val (.ref cy), .val (.int (0 : Int32)), .val (.int op), .val (.int om), .val (.int (1 : Int32)), .val (.int (0 : Int32)), .val (.int (0 : Int32)), .val (.ref x)] [])) _
        refine XS.aload X1701.here hx rfl (hb hby at_192) rfl rfl ?_
        exact kk_)
      obtain ⟨_, T1704, h1704, L1704, X1704, e1704, hQ1704, st1704⟩ := own_callF X1701 hx hZ (y := (⟨"java/util/List", "size", "()I"⟩ : MethodName)) (z := (⟨"java/util/ArrayList", "size", "()I"⟩ : MethodName)) hown (hw _ (List.mem_of_getElem? (i := 125) rfl)) (hw _ (List.mem_of_getElem? (i := 110) rfl)) (mvT hZ (hw _ (List.mem_of_getElem? (i := 111) rfl))) (hw _ (List.mem_of_getElem? (i := 112) rfl)) (hw _ (List.mem_of_getElem? (i := 113) rfl)) (hw _ (List.mem_of_getElem? (i := 114) rfl)) (hw _ (List.mem_of_getElem? (i := 115) rfl)) (hw _ (List.mem_of_getElem? (i := 116) rfl)) (hw _ (List.mem_of_getElem? (i := 83) rfl)) (hw _ (List.mem_of_getElem? (i := 117) rfl)) (by decide) 0 (g := (mkF m 194 #[.val (.int p0), .val (.int p1), .val (.int p2), .val (.int p3), .val (.ref a1580), .val (.ref cy), .val (.int (0 : Int32)), .val (.int op), .val (.int om), .val (.int (1 : Int32)), .val (.int (0 : Int32)), .val (.int (0 : Int32)), .val (.ref x)] [(.ref x)])) rfl (by rw [hml]; rfl) x Ex [] [] (rm16 l Z a0 hw [] x (1 : Int32) h1692 n0 f1696 Fs) (lenOf pd5 rfl) rfl (by show 2 * 0 + _ ≤ _; exact Nat.le_of_eq rfl) (hb hby at_194) (by decide) (by decide) e1701 (by decide) (by decide)
      obtain ⟨rfl, N1704, rfl⟩ := hQ1704
      have S1705 : own_Go p e below s₁ G T1704 (mkF m 199 #[.val (.int p0), .val (.int p1), .val (.int p2), .val (.int p3), .val (.ref a1580), .val (.ref cy), .val (.int (0 : Int32)), .val (.int op), .val (.int om), .val (.int (1 : Int32)), .val (.int (0 : Int32)), .val (.int (0 : Int32)), .val (.ref x)] [(.int (1 : Int32))]) := fun tg_ kk_ => S1703 tg_ (st1704 tg_ kk_)
      have M1704 := Fr.app M1701 N1704
      have S1706 : own_Go p e below s₁ G T1704 (mkF m 206 #[.val (.int p0), .val (.int p1), .val (.int p2), .val (.int p3), .val (.ref a1580), .val (.ref cy), .val (.int (0 : Int32)), .val (.int op), .val (.int om), .val (.int (1 : Int32)), .val (.int (0 : Int32)), .val (.int (0 : Int32)), .val (.ref x)] [(.int (0 : Int32)), (.ref x)]) := fun tg_ kk_ => S1705 tg_ (by
        refine XS.iconst X1704.here hx rfl (hb hby at_199) ?_
        show Steps p.tables e below (T1704.setTop (mkF m 200 #[.val (.int p0), .val (.int p1), .val (.int p2), .val (.int p3), .val (.ref a1580), .val (.ref cy), .val (.int (0 : Int32)), .val (.int op), .val (.int om), .val (.int (1 : Int32)), .val (.int (0 : Int32)), .val (.int (0 : Int32)), .val (.ref x)] [(.int (1 : Int32)), (.int (1 : Int32))])) _
        refine XS.icmpNo X1704.here hx rfl (hb hby at_200) rfl (XT.ii_ne_f (by decide)) ?_
        show Steps p.tables e below (T1704.setTop (mkF m 203 #[.val (.int p0), .val (.int p1), .val (.int p2), .val (.int p3), .val (.ref a1580), .val (.ref cy), .val (.int (0 : Int32)), .val (.int op), .val (.int om), .val (.int (1 : Int32)), .val (.int (0 : Int32)), .val (.int (0 : Int32)), .val (.ref x)] [])) _
        refine XS.aload X1704.here hx rfl (hb hby at_203) rfl rfl ?_
        show Steps p.tables e below (T1704.setTop (mkF m 205 #[.val (.int p0), .val (.int p1), .val (.int p2), .val (.int p3), .val (.ref a1580), .val (.ref cy), .val (.int (0 : Int32)), .val (.int op), .val (.int om), .val (.int (1 : Int32)), .val (.int (0 : Int32)), .val (.int (0 : Int32)), .val (.ref x)] [(.ref x)])) _
        refine XS.iconst X1704.here hx rfl (hb hby at_205) ?_
        exact kk_)
      obtain ⟨_, T1707, h1707, L1707, X1707, e1707, hQ1707, st1707⟩ := own_callF X1704 hx hZ (y := (⟨"java/util/List", "get", "(I)Ljava/lang/Object;"⟩ : MethodName)) (z := (⟨"java/util/ArrayList", "get", "(I)Ljava/lang/Object;"⟩ : MethodName)) hown (hw _ (List.mem_of_getElem? (i := 162) rfl)) (hw _ (List.mem_of_getElem? (i := 163) rfl)) (mvT hZ (hw _ (List.mem_of_getElem? (i := 164) rfl))) (hw _ (List.mem_of_getElem? (i := 165) rfl)) (hw _ (List.mem_of_getElem? (i := 166) rfl)) (hw _ (List.mem_of_getElem? (i := 167) rfl)) (hw _ (List.mem_of_getElem? (i := 168) rfl)) (hw _ (List.mem_of_getElem? (i := 116) rfl)) (hw _ (List.mem_of_getElem? (i := 83) rfl)) (hw _ (List.mem_of_getElem? (i := 169) rfl)) (by decide) 0 (g := (mkF m 206 #[.val (.int p0), .val (.int p1), .val (.int p2), .val (.int p3), .val (.ref a1580), .val (.ref cy), .val (.int (0 : Int32)), .val (.int op), .val (.int om), .val (.int (1 : Int32)), .val (.int (0 : Int32)), .val (.int (0 : Int32)), .val (.ref x)] [(.int (0 : Int32)), (.ref x)])) rfl (by rw [hml]; rfl) x Ex [(.int (0 : Int32))] [] (rm23 l Z a0 hw [] x d yU h1692 n0 f1696 Ex Fe Fs qa Va) (lenOf pd18 rfl) rfl (by show 2 * 0 + _ ≤ _; exact Nat.le_of_eq rfl) (hb hby at_206) (by decide) (by decide) e1704 (by decide) (by decide)
      obtain ⟨rfl, N1707, rfl⟩ := hQ1707
      have S1708 : own_Go p e below s₁ G T1707 (mkF m 211 #[.val (.int p0), .val (.int p1), .val (.int p2), .val (.int p3), .val (.ref a1580), .val (.ref cy), .val (.int (0 : Int32)), .val (.int op), .val (.int om), .val (.int (1 : Int32)), .val (.int (0 : Int32)), .val (.int (0 : Int32)), .val (.ref x)] [(.ref yU)]) := fun tg_ kk_ => S1706 tg_ (st1707 tg_ kk_)
      have M1707 := Fr.app M1704 N1707
      have S1709 : own_Go p e below s₁ G T1707 (mkF m 213 #[.val (.int p0), .val (.int p1), .val (.int p2), .val (.int p3), .val (.ref a1580), .val (.ref cy), .val (.int (0 : Int32)), .val (.int op), .val (.int om), .val (.int (1 : Int32)), .val (.int (0 : Int32)), .val (.int (0 : Int32)), .val (.ref x)] [(.int (0 : Int32)), (.ref yU)]) := fun tg_ kk_ => S1708 tg_ (by
        refine XS.iload X1707.here hx rfl (hb hby at_211) rfl ?_
        exact kk_)
      obtain ⟨_, T1710, h1710, L1710, X1710, e1710, hQ1710, st1710⟩ := own_callS X1707 hx hZ (y := (⟨"com/example/tileshift/tileshift/NodeTableReachedFromPinLaw", "moveOf", "(I)Lcom/example/tileshift/tileshift/Move;"⟩ : MethodName)) hown (hw _ (List.mem_of_getElem? (i := 183) rfl)) (hw _ (List.mem_of_getElem? (i := 184) rfl)) (hw _ (List.mem_of_getElem? (i := 185) rfl)) (hw _ (List.mem_of_getElem? (i := 186) rfl)) (by decide) 1 (g := (mkF m 213 #[.val (.int p0), .val (.int p1), .val (.int p2), .val (.int p3), .val (.ref a1580), .val (.ref cy), .val (.int (0 : Int32)), .val (.int op), .val (.int om), .val (.int (1 : Int32)), .val (.int (0 : Int32)), .val (.int (0 : Int32)), .val (.ref x)] [(.int (0 : Int32)), (.ref yU)])) rfl (by rw [hml]; rfl) [(.int (0 : Int32))] [(.ref yU)] (rm270 l Z a0 hw [] yU h1692 n0 f1696 f1695 SmU) (lenOf pd20 rfl) rfl (by show 2 * 0 + _ ≤ _; exact Nat.le_of_eq rfl) (hb hby at_213) (by decide) (by decide) e1707 (by decide) (by decide)
      obtain ⟨rfl, N1710, rfl⟩ := hQ1710
      have S1711 : own_Go p e below s₁ G T1710 (mkF m 216 #[.val (.int p0), .val (.int p1), .val (.int p2), .val (.int p3), .val (.ref a1580), .val (.ref cy), .val (.int (0 : Int32)), .val (.int op), .val (.int om), .val (.int (1 : Int32)), .val (.int (0 : Int32)), .val (.int (0 : Int32)), .val (.ref x)] [(.ref yU), (.ref yU)]) := fun tg_ kk_ => S1709 tg_ (st1710 tg_ kk_)
      have M1710 := Fr.app M1707 N1710
      have S1712 : own_Go p e below s₁ G T1710 (mkF m 224 #[.val (.int p0), .val (.int p1), .val (.int p2), .val (.int p3), .val (.ref a1580), .val (.ref cy), .val (.int (0 : Int32)), .val (.int op), .val (.int om), .val (.int (1 : Int32)), .val (.int (0 : Int32)), .val (.int (0 : Int32)), .val (.ref x)] [(.int (1 : Int32))]) := fun tg_ kk_ => S1711 tg_ (by
        refine XT.acmpNo X1710.here hx rfl (hb hby at_216) rfl (rfl) (rfl) (XT.aa_ne_f rfl) ?_
        show Steps p.tables e below (T1710.setTop (mkF m 219 #[.val (.int p0), .val (.int p1), .val (.int p2), .val (.int p3), .val (.ref a1580), .val (.ref cy), .val (.int (0 : Int32)), .val (.int op), .val (.int om), .val (.int (1 : Int32)), .val (.int (0 : Int32)), .val (.int (0 : Int32)), .val (.ref x)] [])) _
        refine XS.iconst X1710.here hx rfl (hb hby at_219) ?_
        show Steps p.tables e below (T1710.setTop (mkF m 220 #[.val (.int p0), .val (.int p1), .val (.int p2), .val (.int p3), .val (.ref a1580), .val (.ref cy), .val (.int (0 : Int32)), .val (.int op), .val (.int om), .val (.int (1 : Int32)), .val (.int (0 : Int32)), .val (.int (0 : Int32)), .val (.ref x)] [(.int (1 : Int32))])) _
        refine XS.goto X1710.here hx rfl (pc0 := 220) (pc' := 224) rfl (hb hby at_220) (by decide) (by decide) ?_
        exact kk_)
      obtain ⟨fs, hr, hrun, hended, hW, hsame⟩ := X1710.leave (v := some (.int (1 : Int32))) (fun h => by rw [Bd.returns] at h; cases h)
      refine ⟨_, _, ?_, hrun, hended, _, _, rfl, ?_, ⟨_, rfl⟩, hW, hsame.mono (by decide) (by decide)⟩
      · rw [← hG]; exact S1712 _ (retN X1710 hx (t := .boolean) Bd.returns (by simp) (hb hby at_224) hr)
      · show Q0 Z p0 p1 p2 p3 h0 n0 _ T1710.heap _
        rw [e1710]
        exact ⟨rfl, M1710⟩
    · have _ := N0
      rw [hm] at S1685
      obtain ⟨_, T1713, h1713, L1713, X1713, e1713, hQ1713, st1713⟩ := own_callV X1657 hx hZ (y := (⟨"com/example/tileshift/tileshift/NodeTable", "reachedFrom", "(III)V"⟩ : MethodName)) hown (hw _ (List.mem_of_getElem? (i := 71) rfl)) (hw _ (List.mem_of_getElem? (i := 72) rfl)) (hw _ (List.mem_of_getElem? (i := 74) rfl)) (hw _ (List.mem_of_getElem? (i := 73) rfl)) (hw _ (List.mem_of_getElem? (i := 2) rfl)) (hw _ (List.mem_of_getElem? (i := 75) rfl)) (by decide) 0 (g := (mkF m 132 #[.val (.int p0), .val (.int p1), .val (.int p2), .val (.int p3), .val (.ref a1580), .val (.ref cy), .val (.int (0 : Int32)), .val (.int op), .val (.int om), .val (.int (1 : Int32)), .val (.int (0 : Int32)), .val (.int (1 : Int32)), .unset] [(.int (1 : Int32)), (.int (0 : Int32)), (.int (1 : Int32)), (.ref a1580)])) rfl (by rw [hml]; rfl) a1580 ND.2.2.1 [(.int (1 : Int32)), (.int (0 : Int32)), (.int (1 : Int32))] [] (rm10 l Z a0 hw [] a1580 pr mv (0 : Int32) (1 : Int32) h1657 n0 f1661 op yy ND (by omega) (by decide +kernel)) (lenOf pd10 rfl) rfl (by show 2 * 0 + _ ≤ _; exact Nat.le_of_eq rfl) (hb hby at_132) (by decide) (by decide) e1657 (by decide) (by decide)
      obtain ⟨rfl, N1713, K1713, NE⟩ := hQ1713
      have S1714 : own_Go p e below s₁ G T1713 (mkF m 135 #[.val (.int p0), .val (.int p1), .val (.int p2), .val (.int p3), .val (.ref a1580), .val (.ref cy), .val (.int (0 : Int32)), .val (.int op), .val (.int om), .val (.int (1 : Int32)), .val (.int (0 : Int32)), .val (.int (1 : Int32)), .unset] []) := fun tg_ kk_ => S1685 tg_ (st1713 tg_ kk_)
      have f1715 := Fr.app f1659 N1713
      have f1716 := f1660.keep K1713 (allS (by omega) (allS (by omega) all0))
      have f1717 := Nat.le_trans f1661 K1713.1
      have S1718 : own_Go p e below s₁ G T1713 (mkF m 139 #[.val (.int p0), .val (.int p1), .val (.int p2), .val (.int p3), .val (.ref a1580), .val (.ref cy), .val (.int (0 : Int32)), .val (.int op), .val (.int om), .val (.int (1 : Int32)), .val (.int (0 : Int32)), .val (.int (1 : Int32)), .unset] [(.int (1 : Int32)), (.ref a1580)]) := fun tg_ kk_ => S1714 tg_ (by
        refine XS.aload X1713.here hx rfl (hb hby at_135) rfl rfl ?_
        show Steps p.tables e below (T1713.setTop (mkF m 137 #[.val (.int p0), .val (.int p1), .val (.int p2), .val (.int p3), .val (.ref a1580), .val (.ref cy), .val (.int (0 : Int32)), .val (.int op), .val (.int om), .val (.int (1 : Int32)), .val (.int (0 : Int32)), .val (.int (1 : Int32)), .unset] [(.ref a1580)])) _
        refine XS.iload X1713.here hx rfl (hb hby at_137) rfl ?_
        exact kk_)
      obtain ⟨_, T1719, h1719, L1719, X1719, e1719, hQ1719, st1719⟩ := own_callV X1713 hx hZ (y := (⟨"com/example/tileshift/tileshift/NodeTable", "path", "(I)Ljava/util/List;"⟩ : MethodName)) hown (hw _ (List.mem_of_getElem? (i := 76) rfl)) (hw _ (List.mem_of_getElem? (i := 77) rfl)) (hw _ (List.mem_of_getElem? (i := 79) rfl)) (hw _ (List.mem_of_getElem? (i := 78) rfl)) (hw _ (List.mem_of_getElem? (i := 2) rfl)) (hw _ (List.mem_of_getElem? (i := 80) rfl)) (by decide) 0 (g := (mkF m 139 #[.val (.int p0), .val (.int p1), .val (.int p2), .val (.int p3), .val (.ref a1580), .val (.ref cy), .val (.int (0 : Int32)), .val (.int op), .val (.int om), .val (.int (1 : Int32)), .val (.int (0 : Int32)), .val (.int (1 : Int32)), .unset] [(.int (1 : Int32)), (.ref a1580)])) rfl (by rw [hml]; rfl) a1580 NE.2.2.1 [(.int (1 : Int32))] [] (rm11o l Z a0 hw [] a1580 pr mv dd (1 : Int32) yD h1713 n0 f1717 NE f1716 SD qd VD m0 qm0 _ SM VM (by decide) rfl EmD) (lenOf pd11 rfl) rfl (by show 2 * 0 + _ ≤ _; exact Nat.le_of_eq rfl) (hb hby at_139) (by decide) (by decide) e1713 (by decide) (by decide)
      obtain ⟨x, d, rfl, N1719, K1719, Ex, Fe, Fs, qa, Va⟩ := hQ1719
      have S1720 : own_Go p e below s₁ G T1719 (mkF m 142 #[.val (.int p0), .val (.int p1), .val (.int p2), .val (.int p3), .val (.ref a1580), .val (.ref cy), .val (.int (0 : Int32)), .val (.int op), .val (.int om), .val (.int (1 : Int32)), .val (.int (0 : Int32)), .val (.int (1 : Int32)), .unset] [(.ref x)]) := fun tg_ kk_ => S1718 tg_ (st1719 tg_ kk_)
      have f1721 := Fr.app f1715 N1719
      have f1722 := f1716.keep K1719 all0
      have f1723 := Nat.le_trans f1717 K1719.1
      have NF := NE.keep K1719
      have S1724 : own_Go p e below s₁ G T1719 (mkF m 148 #[.val (.int p0), .val (.int p1), .val (.int p2), .val (.int p3), .val (.ref a1580), .val (.ref cy), .val (.int (0 : Int32)), .val (.int op), .val (.int om), .val (.int (1 : Int32)), .val (.int (0 : Int32)), .val (.int (1 : Int32)), .val (.ref x)] [(.int (1 : Int32)), (.ref a1580)]) := fun tg_ kk_ => S1720 tg_ (by
        refine XS.astore X1719.here hx rfl (hb hby at_142) rfl rfl (l' := #[.val (.int p0), .val (.int p1), .val (.int p2), .val (.int p3), .val (.ref a1580), .val (.ref cy), .val (.int (0 : Int32)), .val (.int op), .val (.int om), .val (.int (1 : Int32)), .val (.int (0 : Int32)), .val (.int (1 : Int32)), .val (.ref x)]) rfl ?_
        show Steps p.tables e below (T1719.setTop (mkF m 144 #[.val (.int p0), .val (.int p1), .val (.int p2), .val (.int p3), .val (.ref a1580), .val (.ref cy), .val (.int (0 : Int32)), .val (.int op), .val (.int om), .val (.int (1 : Int32)), .val (.int (0 : Int32)), .val (.int (1 : Int32)), .val (.ref x)] [])) _
        refine XS.aload X1719.here hx rfl (hb hby at_144) rfl rfl ?_
        show Steps p.tables e below (T1719.setTop (mkF m 146 #[.val (.int p0), .val (.int p1), .val (.int p2), .val (.int p3), .val (.ref a1580), .val (.ref cy), .val (.int (0 : Int32)), .val (.int op), .val (.int om), .val (.int (1 : Int32)), .val (.int (0 : Int32)), .val (.int (1 : Int32)), .val (.ref x)] [(.ref a1580)])) _
        refine XS.iload X1719.here hx rfl (hb hby at_146) rfl ?_
        exact kk_)
      obtain ⟨_, T1725, h1725, L1725, X1725, e1725, hQ1725, st1725⟩ := own_callV X1719 hx hZ (y := (⟨"com/example/tileshift/tileshift/NodeTable", "move", "(I)I"⟩ : MethodName)) hown (hw _ (List.mem_of_getElem? (i := 120) rfl)) (hw _ (List.mem_of_getElem? (i := 121) rfl)) (hw _ (List.mem_of_getElem? (i := 123) rfl)) (hw _ (List.mem_of_getElem? (i := 122) rfl)) (hw _ (List.mem_of_getElem? (i := 2) rfl)) (hw _ (List.mem_of_getElem? (i := 124) rfl)) (by decide) 0 (g := (mkF m 148 #[.val (.int p0), .val (.int p1), .val (.int p2), .val (.int p3), .val (.ref a1580), .val (.ref cy), .val (.int (0 : Int32)), .val (.int op), .val (.int om), .val (.int (1 : Int32)), .val (.int (0 : Int32)), .val (.int (1 : Int32)), .val (.ref x)] [(.int (1 : Int32)), (.ref a1580)])) rfl (by rw [hml]; rfl) a1580 NF.2.2.1 [(.int (1 : Int32))] [] (rm171 l Z a0 hw [] a1580 pr mv (0 : Int32) (1 : Int32) h1719 n0 f1723 NF) (lenOf pd4 rfl) rfl (by show 2 * 0 + _ ≤ _; exact Nat.le_of_eq rfl) (hb hby at_148) (by decide) (by decide) e1719 (by decide) (by decide)
      obtain ⟨rfl, N1725, rfl⟩ := hQ1725
      have S1726 : own_Go p e below s₁ G T1725 (mkF m 151 #[.val (.int p0), .val (.int p1), .val (.int p2), .val (.int p3), .val (.ref a1580), .val (.ref cy), .val (.int (0 : Int32)), .val (.int op), .val (.int om), .val (.int (1 : Int32)), .val (.int (0 : Int32)), .val (.int (1 : Int32)), .val (.ref x)] [(.int (1 : Int32))]) := fun tg_ kk_ => S1724 tg_ (st1725 tg_ kk_)
      have M1725 := Fr.app f1721 N1725
      have S1727 : own_Go p e below s₁ G T1725 (mkF m 162 #[.val (.int p0), .val (.int p1), .val (.int p2), .val (.int p3), .val (.ref a1580), .val (.ref cy), .val (.int (0 : Int32)), .val (.int op), .val (.int om), .val (.int (1 : Int32)), .val (.int (0 : Int32)), .val (.int (1 : Int32)), .val (.ref x)] [(.int (0 : Int32)), (.ref a1580)]) := fun tg_ kk_ => S1726 tg_ (by
        refine XS.iload X1725.here hx rfl (hb hby at_151) rfl ?_
        show Steps p.tables e below (T1725.setTop (mkF m 153 #[.val (.int p0), .val (.int p1), .val (.int p2), .val (.int p3), .val (.ref a1580), .val (.ref cy), .val (.int (0 : Int32)), .val (.int op), .val (.int om), .val (.int (1 : Int32)), .val (.int (0 : Int32)), .val (.int (1 : Int32)), .val (.ref x)] [(.int (1 : Int32)), (.int (1 : Int32))])) _
        refine XS.icmpYes X1725.here hx rfl (pc0 := 153) (pc' := 158) rfl (hb hby at_153) rfl (XT.ii_eq_t (by decide)) (by decide) (by decide) ?_
        show Steps p.tables e below (T1725.setTop (mkF m 158 #[.val (.int p0), .val (.int p1), .val (.int p2), .val (.int p3), .val (.ref a1580), .val (.ref cy), .val (.int (0 : Int32)), .val (.int op), .val (.int om), .val (.int (1 : Int32)), .val (.int (0 : Int32)), .val (.int (1 : Int32)), .val (.ref x)] [])) _
        refine XS.aload X1725.here hx rfl (hb hby at_158) rfl rfl ?_
        show Steps p.tables e below (T1725.setTop (mkF m 160 #[.val (.int p0), .val (.int p1), .val (.int p2), .val (.int p3), .val (.ref a1580), .val (.ref cy), .val (.int (0 : Int32)), .val (.int op), .val (.int om), .val (.int (1 : Int32)), .val (.int (0 : Int32)), .val (.int (1 : Int32)), .val (.ref x)] [(.ref a1580)])) _
        refine XS.iload X1725.here hx rfl (hb hby at_160) rfl ?_
        exact kk_)
      obtain ⟨_, T1728, h1728, L1728, X1728, e1728, hQ1728, st1728⟩ := own_callV X1725 hx hZ (y := (⟨"com/example/tileshift/tileshift/NodeTable", "move", "(I)I"⟩ : MethodName)) hown (hw _ (List.mem_of_getElem? (i := 120) rfl)) (hw _ (List.mem_of_getElem? (i := 121) rfl)) (hw _ (List.mem_of_getElem? (i := 123) rfl)) (hw _ (List.mem_of_getElem? (i := 122) rfl)) (hw _ (List.mem_of_getElem? (i := 2) rfl)) (hw _ (List.mem_of_getElem? (i := 124) rfl)) (by decide) 0 (g := (mkF m 162 #[.val (.int p0), .val (.int p1), .val (.int p2), .val (.int p3), .val (.ref a1580), .val (.ref cy), .val (.int (0 : Int32)), .val (.int op), .val (.int om), .val (.int (1 : Int32)), .val (.int (0 : Int32)), .val (.int (1 : Int32)), .val (.ref x)] [(.int (0 : Int32)), (.ref a1580)])) rfl (by rw [hml]; rfl) a1580 NF.2.2.1 [(.int (0 : Int32))] [] (rm170 l Z a0 hw [] a1580 pr mv (0 : Int32) (1 : Int32) h1719 n0 f1723 NF) (lenOf pd4 rfl) rfl (by show 2 * 0 + _ ≤ _; exact Nat.le_of_eq rfl) (hb hby at_162) (by decide) (by decide) e1725 (by decide) (by decide)
      obtain ⟨rfl, N1728, rfl⟩ := hQ1728
      have S1729 : own_Go p e below s₁ G T1728 (mkF m 165 #[.val (.int p0), .val (.int p1), .val (.int p2), .val (.int p3), .val (.ref a1580), .val (.ref cy), .val (.int (0 : Int32)), .val (.int op), .val (.int om), .val (.int (1 : Int32)), .val (.int (0 : Int32)), .val (.int (1 : Int32)), .val (.ref x)] [(.int (-1 : Int32))]) := fun tg_ kk_ => S1727 tg_ (st1728 tg_ kk_)
      have M1728 := Fr.app M1725 N1728
      have S1730 : own_Go p e below s₁ G T1728 (mkF m 194 #[.val (.int p0), .val (.int p1), .val (.int p2), .val (.int p3), .val (.ref a1580), .val (.ref cy), .val (.int (0 : Int32)), .val (.int op), .val (.int om), .val (.int (1 : Int32)), .val (.int (0 : Int32)), .val (.int (1 : Int32)), .val (.ref x)] [(.ref x)]) := fun tg_ kk_ => S1729 tg_ (by
        refine XS.iconst X1728.here hx rfl (hb hby at_165) ?_
        show Steps p.tables e below (T1728.setTop (mkF m 166 #[.val (.int p0), .val (.int p1), .val (.int p2), .val (.int p3), .val (.ref a1580), .val (.ref cy), .val (.int (0 : Int32)), .val (.int op), .val (.int om), .val (.int (1 : Int32)), .val (.int (0 : Int32)), .val (.int (1 : Int32)), .val (.ref x)] [(.int (-1 : Int32)), (.int (-1 : Int32))])) _
        refine XS.icmpYes X1728.here hx rfl (pc0 := 166) (pc' := 171) rfl (hb hby at_166) rfl (XT.ii_eq_t (by decide)) (by decide) (by decide) ?_
        show Steps p.tables e below (T1728.setTop (mkF m 171 #[.val (.int p0), .val (.int p1), .val (.int p2), .val (.int p3), .val (.ref a1580), .val (.ref cy), .val (.int (0 : Int32)), .val (.int op), .val (.int om), .val (.int (1 : Int32)), .val (.int (0 : Int32)), .val (.int (1 : Int32)), .val (.ref x)] [])) _
        refine XS.iload X1728.here hx rfl (hb hby at_171) rfl ?_
        show Steps p.tables e below (T1728.setTop (mkF m 173 #[.val (.int p0), .val (.int p1), .val (.int p2), .val (.int p3), .val (.ref a1580), .val (.ref cy), .val (.int (0 : Int32)), .val (.int op), .val (.int om), .val (.int (1 : Int32)), .val (.int (0 : Int32)), .val (.int (1 : Int32)), .val (.ref x)] [(.int (0 : Int32))])) _
        refine XS.ifYes X1728.here hx rfl (pc0 := 173) (pc' := 192) rfl (hb hby at_173) rfl (XT.i0_ge_t (by decide)) (by decide) (by decide) ?_
        show Steps p.tables e below (T1728.setTop (mkF m 192 #[.val (.int p0), .val (.int p1), .val (.int p2), .val (.int p3), .val (.ref a1580), .val (.ref cy), .val (.int (0 : Int32)), .val (.int op), .val (.int om), .val (.int (1 : Int32)), .val (.int (0 : Int32)), .val (.int (1 : Int32)), .val (.ref x)] [])) _
        refine XS.aload X1728.here hx rfl (hb hby at_192) rfl rfl ?_
        exact kk_)
      obtain ⟨_, T1731, h1731, L1731, X1731, e1731, hQ1731, st1731⟩ := own_callF X1728 hx hZ (y := (⟨"java/util/List", "size", "()I"⟩ : MethodName)) (z := (⟨"java/util/ArrayList", "size", "()I"⟩ : MethodName)) hown (hw _ (List.mem_of_getElem? (i := 125) rfl)) (hw _ (List.mem_of_getElem? (i := 110) rfl)) (mvT hZ (hw _ (List.mem_of_getElem? (i := 111) rfl))) (hw _ (List.mem_of_getElem? (i := 112) rfl)) (hw _ (List.mem_of_getElem? (i := 113) rfl)) (hw _ (List.mem_of_getElem? (i := 114) rfl)) (hw _ (List.mem_of_getElem? (i := 115) rfl)) (hw _ (List.mem_of_getElem? (i := 116) rfl)) (hw _ (List.mem_of_getElem? (i := 83) rfl)) (hw _ (List.mem_of_getElem? (i := 117) rfl)) (by decide) 0 (g := (mkF m 194 #[.val (.int p0), .val (.int p1), .val (.int p2), .val (.int p3), .val (.ref a1580), .val (.ref cy), .val (.int (0 : Int32)), .val (.int op), .val (.int om), .val (.int (1 : Int32)), .val (.int (0 : Int32)), .val (.int (1 : Int32)), .val (.ref x)] [(.ref x)])) rfl (by rw [hml]; rfl) x Ex [] [] (rm16 l Z a0 hw [] x (1 : Int32) h1719 n0 f1723 Fs) (lenOf pd5 rfl) rfl (by show 2 * 0 + _ ≤ _; exact Nat.le_of_eq rfl) (hb hby at_194) (by decide) (by decide) e1728 (by decide) (by decide)
      obtain ⟨rfl, N1731, rfl⟩ := hQ1731
      have S1732 : own_Go p e below s₁ G T1731 (mkF m 199 #[.val (.int p0), .val (.int p1), .val (.int p2), .val (.int p3), .val (.ref a1580), .val (.ref cy), .val (.int (0 : Int32)), .val (.int op), .val (.int om), .val (.int (1 : Int32)), .val (.int (0 : Int32)), .val (.int (1 : Int32)), .val (.ref x)] [(.int (1 : Int32))]) := fun tg_ kk_ => S1730 tg_ (st1731 tg_ kk_)
      have M1731 := Fr.app M1728 N1731
      have S1733 : own_Go p e below s₁ G T1731 (mkF m 206 #[.val (.int p0), .val (.int p1), .val (.int p2), .val (.int p3), .val (.ref a1580), .val (.ref cy), .val (.int (0 : Int32)), .val (.int op), .val (.int om), .val (.int (1 : Int32)), .val (.int (0 : Int32)), .val (.int (1 : Int32)), .val (.ref x)] [(.int (0 : Int32)), (.ref x)]) := fun tg_ kk_ => S1732 tg_ (by
        refine XS.iconst X1731.here hx rfl (hb hby at_199) ?_
        show Steps p.tables e below (T1731.setTop (mkF m 200 #[.val (.int p0), .val (.int p1), .val (.int p2), .val (.int p3), .val (.ref a1580), .val (.ref cy), .val (.int (0 : Int32)), .val (.int op), .val (.int om), .val (.int (1 : Int32)), .val (.int (0 : Int32)), .val (.int (1 : Int32)), .val (.ref x)] [(.int (1 : Int32)), (.int (1 : Int32))])) _
        refine XS.icmpNo X1731.here hx rfl (hb hby at_200) rfl (XT.ii_ne_f (by decide)) ?_
        show Steps p.tables e below (T1731.setTop (mkF m 203 #[.val (.int p0), .val (.int p1), .val (.int p2), .val (.int p3), .val (.ref a1580), .val (.ref cy), .val (.int (0 : Int32)), .val (.int op), .val (.int om), .val (.int (1 : Int32)), .val (.int (0 : Int32)), .val (.int (1 : Int32)), .val (.ref x)] [])) _
        refine XS.aload X1731.here hx rfl (hb hby at_203) rfl rfl ?_
        show Steps p.tables e below (T1731.setTop (mkF m 205 #[.val (.int p0), .val (.int p1), .val (.int p2), .val (.int p3), .val (.ref a1580), .val (.ref cy), .val (.int (0 : Int32)), .val (.int op), .val (.int om), .val (.int (1 : Int32)), .val (.int (0 : Int32)), .val (.int (1 : Int32)), .val (.ref x)] [(.ref x)])) _
        refine XS.iconst X1731.here hx rfl (hb hby at_205) ?_
        exact kk_)
      obtain ⟨_, T1734, h1734, L1734, X1734, e1734, hQ1734, st1734⟩ := own_callF X1731 hx hZ (y := (⟨"java/util/List", "get", "(I)Ljava/lang/Object;"⟩ : MethodName)) (z := (⟨"java/util/ArrayList", "get", "(I)Ljava/lang/Object;"⟩ : MethodName)) hown (hw _ (List.mem_of_getElem? (i := 162) rfl)) (hw _ (List.mem_of_getElem? (i := 163) rfl)) (mvT hZ (hw _ (List.mem_of_getElem? (i := 164) rfl))) (hw _ (List.mem_of_getElem? (i := 165) rfl)) (hw _ (List.mem_of_getElem? (i := 166) rfl)) (hw _ (List.mem_of_getElem? (i := 167) rfl)) (hw _ (List.mem_of_getElem? (i := 168) rfl)) (hw _ (List.mem_of_getElem? (i := 116) rfl)) (hw _ (List.mem_of_getElem? (i := 83) rfl)) (hw _ (List.mem_of_getElem? (i := 169) rfl)) (by decide) 0 (g := (mkF m 206 #[.val (.int p0), .val (.int p1), .val (.int p2), .val (.int p3), .val (.ref a1580), .val (.ref cy), .val (.int (0 : Int32)), .val (.int op), .val (.int om), .val (.int (1 : Int32)), .val (.int (0 : Int32)), .val (.int (1 : Int32)), .val (.ref x)] [(.int (0 : Int32)), (.ref x)])) rfl (by rw [hml]; rfl) x Ex [(.int (0 : Int32))] [] (rm23 l Z a0 hw [] x d yD h1719 n0 f1723 Ex Fe Fs qa Va) (lenOf pd18 rfl) rfl (by show 2 * 0 + _ ≤ _; exact Nat.le_of_eq rfl) (hb hby at_206) (by decide) (by decide) e1731 (by decide) (by decide)
      obtain ⟨rfl, N1734, rfl⟩ := hQ1734
      have S1735 : own_Go p e below s₁ G T1734 (mkF m 211 #[.val (.int p0), .val (.int p1), .val (.int p2), .val (.int p3), .val (.ref a1580), .val (.ref cy), .val (.int (0 : Int32)), .val (.int op), .val (.int om), .val (.int (1 : Int32)), .val (.int (0 : Int32)), .val (.int (1 : Int32)), .val (.ref x)] [(.ref yD)]) := fun tg_ kk_ => S1733 tg_ (st1734 tg_ kk_)
      have M1734 := Fr.app M1731 N1734
      have S1736 : own_Go p e below s₁ G T1734 (mkF m 213 #[.val (.int p0), .val (.int p1), .val (.int p2), .val (.int p3), .val (.ref a1580), .val (.ref cy), .val (.int (0 : Int32)), .val (.int op), .val (.int om), .val (.int (1 : Int32)), .val (.int (0 : Int32)), .val (.int (1 : Int32)), .val (.ref x)] [(.int (1 : Int32)), (.ref yD)]) := fun tg_ kk_ => S1735 tg_ (by
        refine XS.iload X1734.here hx rfl (hb hby at_211) rfl ?_
        exact kk_)
      obtain ⟨_, T1737, h1737, L1737, X1737, e1737, hQ1737, st1737⟩ := own_callS X1734 hx hZ (y := (⟨"com/example/tileshift/tileshift/NodeTableReachedFromPinLaw", "moveOf", "(I)Lcom/example/tileshift/tileshift/Move;"⟩ : MethodName)) hown (hw _ (List.mem_of_getElem? (i := 183) rfl)) (hw _ (List.mem_of_getElem? (i := 184) rfl)) (hw _ (List.mem_of_getElem? (i := 185) rfl)) (hw _ (List.mem_of_getElem? (i := 186) rfl)) (by decide) 1 (g := (mkF m 213 #[.val (.int p0), .val (.int p1), .val (.int p2), .val (.int p3), .val (.ref a1580), .val (.ref cy), .val (.int (0 : Int32)), .val (.int op), .val (.int om), .val (.int (1 : Int32)), .val (.int (0 : Int32)), .val (.int (1 : Int32)), .val (.ref x)] [(.int (1 : Int32)), (.ref yD)])) rfl (by rw [hml]; rfl) [(.int (1 : Int32))] [(.ref yD)] (rm271 l Z a0 hw [] yD h1719 n0 f1723 f1722 SmD) (lenOf pd20 rfl) rfl (by show 2 * 0 + _ ≤ _; exact Nat.le_of_eq rfl) (hb hby at_213) (by decide) (by decide) e1734 (by decide) (by decide)
      obtain ⟨rfl, N1737, rfl⟩ := hQ1737
      have S1738 : own_Go p e below s₁ G T1737 (mkF m 216 #[.val (.int p0), .val (.int p1), .val (.int p2), .val (.int p3), .val (.ref a1580), .val (.ref cy), .val (.int (0 : Int32)), .val (.int op), .val (.int om), .val (.int (1 : Int32)), .val (.int (0 : Int32)), .val (.int (1 : Int32)), .val (.ref x)] [(.ref yD), (.ref yD)]) := fun tg_ kk_ => S1736 tg_ (st1737 tg_ kk_)
      have M1737 := Fr.app M1734 N1737
      have S1739 : own_Go p e below s₁ G T1737 (mkF m 224 #[.val (.int p0), .val (.int p1), .val (.int p2), .val (.int p3), .val (.ref a1580), .val (.ref cy), .val (.int (0 : Int32)), .val (.int op), .val (.int om), .val (.int (1 : Int32)), .val (.int (0 : Int32)), .val (.int (1 : Int32)), .val (.ref x)] [(.int (1 : Int32))]) := fun tg_ kk_ => S1738 tg_ (by
        refine XT.acmpNo X1737.here hx rfl (hb hby at_216) rfl (rfl) (rfl) (XT.aa_ne_f rfl) ?_
        show Steps p.tables e below (T1737.setTop (mkF m 219 #[.val (.int p0), .val (.int p1), .val (.int p2), .val (.int p3), .val (.ref a1580), .val (.ref cy), .val (.int (0 : Int32)), .val (.int op), .val (.int om), .val (.int (1 : Int32)), .val (.int (0 : Int32)), .val (.int (1 : Int32)), .val (.ref x)] [])) _
        refine XS.iconst X1737.here hx rfl (hb hby at_219) ?_
        show Steps p.tables e below (T1737.setTop (mkF m 220 #[.val (.int p0), .val (.int p1), .val (.int p2), .val (.int p3), .val (.ref a1580), .val (.ref cy), .val (.int (0 : Int32)), .val (.int op), .val (.int om), .val (.int (1 : Int32)), .val (.int (0 : Int32)), .val (.int (1 : Int32)), .val (.ref x)] [(.int (1 : Int32))])) _
        refine XS.goto X1737.here hx rfl (pc0 := 220) (pc' := 224) rfl (hb hby at_220) (by decide) (by decide) ?_
        exact kk_)
      obtain ⟨fs, hr, hrun, hended, hW, hsame⟩ := X1737.leave (v := some (.int (1 : Int32))) (fun h => by rw [Bd.returns] at h; cases h)
      refine ⟨_, _, ?_, hrun, hended, _, _, rfl, ?_, ⟨_, rfl⟩, hW, hsame.mono (by decide) (by decide)⟩
      · rw [← hG]; exact S1739 _ (retN X1737 hx (t := .boolean) Bd.returns (by simp) (hb hby at_224) hr)
      · show Q0 Z p0 p1 p2 p3 h0 n0 _ T1737.heap _
        rw [e1737]
        exact ⟨rfl, M1737⟩
    · have _ := N0
      rw [hm] at S1685
      obtain ⟨_, T1740, h1740, L1740, X1740, e1740, hQ1740, st1740⟩ := own_callV X1657 hx hZ (y := (⟨"com/example/tileshift/tileshift/NodeTable", "reachedFrom", "(III)V"⟩ : MethodName)) hown (hw _ (List.mem_of_getElem? (i := 71) rfl)) (hw _ (List.mem_of_getElem? (i := 72) rfl)) (hw _ (List.mem_of_getElem? (i := 74) rfl)) (hw _ (List.mem_of_getElem? (i := 73) rfl)) (hw _ (List.mem_of_getElem? (i := 2) rfl)) (hw _ (List.mem_of_getElem? (i := 75) rfl)) (by decide) 0 (g := (mkF m 132 #[.val (.int p0), .val (.int p1), .val (.int p2), .val (.int p3), .val (.ref a1580), .val (.ref cy), .val (.int (0 : Int32)), .val (.int op), .val (.int om), .val (.int (1 : Int32)), .val (.int (0 : Int32)), .val (.int (2 : Int32)), .unset] [(.int (2 : Int32)), (.int (0 : Int32)), (.int (1 : Int32)), (.ref a1580)])) rfl (by rw [hml]; rfl) a1580 ND.2.2.1 [(.int (1 : Int32)), (.int (0 : Int32)), (.int (2 : Int32))] [] (rm10 l Z a0 hw [] a1580 pr mv (0 : Int32) (2 : Int32) h1657 n0 f1661 op yy ND (by omega) (by decide +kernel)) (lenOf pd10 rfl) rfl (by show 2 * 0 + _ ≤ _; exact Nat.le_of_eq rfl) (hb hby at_132) (by decide) (by decide) e1657 (by decide) (by decide)
      obtain ⟨rfl, N1740, K1740, NE⟩ := hQ1740
      have S1741 : own_Go p e below s₁ G T1740 (mkF m 135 #[.val (.int p0), .val (.int p1), .val (.int p2), .val (.int p3), .val (.ref a1580), .val (.ref cy), .val (.int (0 : Int32)), .val (.int op), .val (.int om), .val (.int (1 : Int32)), .val (.int (0 : Int32)), .val (.int (2 : Int32)), .unset] []) := fun tg_ kk_ => S1685 tg_ (st1740 tg_ kk_)
      have f1742 := Fr.app f1659 N1740
      have f1743 := f1660.keep K1740 (allS (by omega) (allS (by omega) all0))
      have f1744 := Nat.le_trans f1661 K1740.1
      have S1745 : own_Go p e below s₁ G T1740 (mkF m 139 #[.val (.int p0), .val (.int p1), .val (.int p2), .val (.int p3), .val (.ref a1580), .val (.ref cy), .val (.int (0 : Int32)), .val (.int op), .val (.int om), .val (.int (1 : Int32)), .val (.int (0 : Int32)), .val (.int (2 : Int32)), .unset] [(.int (1 : Int32)), (.ref a1580)]) := fun tg_ kk_ => S1741 tg_ (by
        refine XS.aload X1740.here hx rfl (hb hby at_135) rfl rfl ?_
        show Steps p.tables e below (T1740.setTop (mkF m 137 #[.val (.int p0), .val (.int p1), .val (.int p2), .val (.int p3), .val (.ref a1580), .val (.ref cy), .val (.int (0 : Int32)), .val (.int op), .val (.int om), .val (.int (1 : Int32)), .val (.int (0 : Int32)), .val (.int (2 : Int32)), .unset] [(.ref a1580)])) _
        refine XS.iload X1740.here hx rfl (hb hby at_137) rfl ?_
        exact kk_)
      obtain ⟨_, T1746, h1746, L1746, X1746, e1746, hQ1746, st1746⟩ := own_callV X1740 hx hZ (y := (⟨"com/example/tileshift/tileshift/NodeTable", "path", "(I)Ljava/util/List;"⟩ : MethodName)) hown (hw _ (List.mem_of_getElem? (i := 76) rfl)) (hw _ (List.mem_of_getElem? (i := 77) rfl)) (hw _ (List.mem_of_getElem? (i := 79) rfl)) (hw _ (List.mem_of_getElem? (i := 78) rfl)) (hw _ (List.mem_of_getElem? (i := 2) rfl)) (hw _ (List.mem_of_getElem? (i := 80) rfl)) (by decide) 0 (g := (mkF m 139 #[.val (.int p0), .val (.int p1), .val (.int p2), .val (.int p3), .val (.ref a1580), .val (.ref cy), .val (.int (0 : Int32)), .val (.int op), .val (.int om), .val (.int (1 : Int32)), .val (.int (0 : Int32)), .val (.int (2 : Int32)), .unset] [(.int (1 : Int32)), (.ref a1580)])) rfl (by rw [hml]; rfl) a1580 NE.2.2.1 [(.int (1 : Int32))] [] (rm11o l Z a0 hw [] a1580 pr mv dd (2 : Int32) yL h1740 n0 f1744 NE f1743 SD qd VD m0 qm0 _ SM VM (by decide) rfl EmL) (lenOf pd11 rfl) rfl (by show 2 * 0 + _ ≤ _; exact Nat.le_of_eq rfl) (hb hby at_139) (by decide) (by decide) e1740 (by decide) (by decide)
      obtain ⟨x, d, rfl, N1746, K1746, Ex, Fe, Fs, qa, Va⟩ := hQ1746
      have S1747 : own_Go p e below s₁ G T1746 (mkF m 142 #[.val (.int p0), .val (.int p1), .val (.int p2), .val (.int p3), .val (.ref a1580), .val (.ref cy), .val (.int (0 : Int32)), .val (.int op), .val (.int om), .val (.int (1 : Int32)), .val (.int (0 : Int32)), .val (.int (2 : Int32)), .unset] [(.ref x)]) := fun tg_ kk_ => S1745 tg_ (st1746 tg_ kk_)
      have f1748 := Fr.app f1742 N1746
      have f1749 := f1743.keep K1746 all0
      have f1750 := Nat.le_trans f1744 K1746.1
      have NF := NE.keep K1746
      have S1751 : own_Go p e below s₁ G T1746 (mkF m 148 #[.val (.int p0), .val (.int p1), .val (.int p2), .val (.int p3), .val (.ref a1580), .val (.ref cy), .val (.int (0 : Int32)), .val (.int op), .val (.int om), .val (.int (1 : Int32)), .val (.int (0 : Int32)), .val (.int (2 : Int32)), .val (.ref x)] [(.int (1 : Int32)), (.ref a1580)]) := fun tg_ kk_ => S1747 tg_ (by
        refine XS.astore X1746.here hx rfl (hb hby at_142) rfl rfl (l' := #[.val (.int p0), .val (.int p1), .val (.int p2), .val (.int p3), .val (.ref a1580), .val (.ref cy), .val (.int (0 : Int32)), .val (.int op), .val (.int om), .val (.int (1 : Int32)), .val (.int (0 : Int32)), .val (.int (2 : Int32)), .val (.ref x)]) rfl ?_
        show Steps p.tables e below (T1746.setTop (mkF m 144 #[.val (.int p0), .val (.int p1), .val (.int p2), .val (.int p3), .val (.ref a1580), .val (.ref cy), .val (.int (0 : Int32)), .val (.int op), .val (.int om), .val (.int (1 : Int32)), .val (.int (0 : Int32)), .val (.int (2 : Int32)), .val (.ref x)] [])) _
        refine XS.aload X1746.here hx rfl (hb hby at_144) rfl rfl ?_
        show Steps p.tables e below (T1746.setTop (mkF m 146 #[.val (.int p0), .val (.int p1), .val (.int p2), .val (.int p3), .val (.ref a1580), .val (.ref cy), .val (.int (0 : Int32)), .val (.int op), .val (.int om), .val (.int (1 : Int32)), .val (.int (0 : Int32)), .val (.int (2 : Int32)), .val (.ref x)] [(.ref a1580)])) _
        refine XS.iload X1746.here hx rfl (hb hby at_146) rfl ?_
        exact kk_)
      obtain ⟨_, T1752, h1752, L1752, X1752, e1752, hQ1752, st1752⟩ := own_callV X1746 hx hZ (y := (⟨"com/example/tileshift/tileshift/NodeTable", "move", "(I)I"⟩ : MethodName)) hown (hw _ (List.mem_of_getElem? (i := 120) rfl)) (hw _ (List.mem_of_getElem? (i := 121) rfl)) (hw _ (List.mem_of_getElem? (i := 123) rfl)) (hw _ (List.mem_of_getElem? (i := 122) rfl)) (hw _ (List.mem_of_getElem? (i := 2) rfl)) (hw _ (List.mem_of_getElem? (i := 124) rfl)) (by decide) 0 (g := (mkF m 148 #[.val (.int p0), .val (.int p1), .val (.int p2), .val (.int p3), .val (.ref a1580), .val (.ref cy), .val (.int (0 : Int32)), .val (.int op), .val (.int om), .val (.int (1 : Int32)), .val (.int (0 : Int32)), .val (.int (2 : Int32)), .val (.ref x)] [(.int (1 : Int32)), (.ref a1580)])) rfl (by rw [hml]; rfl) a1580 NF.2.2.1 [(.int (1 : Int32))] [] (rm171 l Z a0 hw [] a1580 pr mv (0 : Int32) (2 : Int32) h1746 n0 f1750 NF) (lenOf pd4 rfl) rfl (by show 2 * 0 + _ ≤ _; exact Nat.le_of_eq rfl) (hb hby at_148) (by decide) (by decide) e1746 (by decide) (by decide)
      obtain ⟨rfl, N1752, rfl⟩ := hQ1752
      have S1753 : own_Go p e below s₁ G T1752 (mkF m 151 #[.val (.int p0), .val (.int p1), .val (.int p2), .val (.int p3), .val (.ref a1580), .val (.ref cy), .val (.int (0 : Int32)), .val (.int op), .val (.int om), .val (.int (1 : Int32)), .val (.int (0 : Int32)), .val (.int (2 : Int32)), .val (.ref x)] [(.int (2 : Int32))]) := fun tg_ kk_ => S1751 tg_ (st1752 tg_ kk_)
      have M1752 := Fr.app f1748 N1752
      have S1754 : own_Go p e below s₁ G T1752 (mkF m 162 #[.val (.int p0), .val (.int p1), .val (.int p2), .val (.int p3), .val (.ref a1580), .val (.ref cy), .val (.int (0 : Int32)), .val (.int op), .val (.int om), .val (.int (1 : Int32)), .val (.int (0 : Int32)), .val (.int (2 : Int32)), .val (.ref x)] [(.int (0 : Int32)), (.ref a1580)]) := fun tg_ kk_ => S1753 tg_ (by
        refine XS.iload X1752.here hx rfl (hb hby at_151) rfl ?_
        show Steps p.tables e below (T1752.setTop (mkF m 153 #[.val (.int p0), .val (.int p1), .val (.int p2), .val (.int p3), .val (.ref a1580), .val (.ref cy), .val (.int (0 : Int32)), .val (.int op), .val (.int om), .val (.int (1 : Int32)), .val (.int (0 : Int32)), .val (.int (2 : Int32)), .val (.ref x)] [(.int (2 : Int32)), (.int (2 : Int32))])) _
        refine XS.icmpYes X1752.here hx rfl (pc0 := 153) (pc' := 158) rfl (hb hby at_153) rfl (XT.ii_eq_t (by decide)) (by decide) (by decide) ?_
        show Steps p.tables e below (T1752.setTop (mkF m 158 #[.val (.int p0), .val (.int p1), .val (.int p2), .val (.int p3), .val (.ref a1580), .val (.ref cy), .val (.int (0 : Int32)), .val (.int op), .val (.int om), .val (.int (1 : Int32)), .val (.int (0 : Int32)), .val (.int (2 : Int32)), .val (.ref x)] [])) _
        refine XS.aload X1752.here hx rfl (hb hby at_158) rfl rfl ?_
        show Steps p.tables e below (T1752.setTop (mkF m 160 #[.val (.int p0), .val (.int p1), .val (.int p2), .val (.int p3), .val (.ref a1580), .val (.ref cy), .val (.int (0 : Int32)), .val (.int op), .val (.int om), .val (.int (1 : Int32)), .val (.int (0 : Int32)), .val (.int (2 : Int32)), .val (.ref x)] [(.ref a1580)])) _
        refine XS.iload X1752.here hx rfl (hb hby at_160) rfl ?_
        exact kk_)
      obtain ⟨_, T1755, h1755, L1755, X1755, e1755, hQ1755, st1755⟩ := own_callV X1752 hx hZ (y := (⟨"com/example/tileshift/tileshift/NodeTable", "move", "(I)I"⟩ : MethodName)) hown (hw _ (List.mem_of_getElem? (i := 120) rfl)) (hw _ (List.mem_of_getElem? (i := 121) rfl)) (hw _ (List.mem_of_getElem? (i := 123) rfl)) (hw _ (List.mem_of_getElem? (i := 122) rfl)) (hw _ (List.mem_of_getElem? (i := 2) rfl)) (hw _ (List.mem_of_getElem? (i := 124) rfl)) (by decide) 0 (g := (mkF m 162 #[.val (.int p0), .val (.int p1), .val (.int p2), .val (.int p3), .val (.ref a1580), .val (.ref cy), .val (.int (0 : Int32)), .val (.int op), .val (.int om), .val (.int (1 : Int32)), .val (.int (0 : Int32)), .val (.int (2 : Int32)), .val (.ref x)] [(.int (0 : Int32)), (.ref a1580)])) rfl (by rw [hml]; rfl) a1580 NF.2.2.1 [(.int (0 : Int32))] [] (rm170 l Z a0 hw [] a1580 pr mv (0 : Int32) (2 : Int32) h1746 n0 f1750 NF) (lenOf pd4 rfl) rfl (by show 2 * 0 + _ ≤ _; exact Nat.le_of_eq rfl) (hb hby at_162) (by decide) (by decide) e1752 (by decide) (by decide)
      obtain ⟨rfl, N1755, rfl⟩ := hQ1755
      have S1756 : own_Go p e below s₁ G T1755 (mkF m 165 #[.val (.int p0), .val (.int p1), .val (.int p2), .val (.int p3), .val (.ref a1580), .val (.ref cy), .val (.int (0 : Int32)), .val (.int op), .val (.int om), .val (.int (1 : Int32)), .val (.int (0 : Int32)), .val (.int (2 : Int32)), .val (.ref x)] [(.int (-1 : Int32))]) := fun tg_ kk_ => S1754 tg_ (st1755 tg_ kk_)
      have M1755 := Fr.app M1752 N1755
      have S1757 : own_Go p e below s₁ G T1755 (mkF m 194 #[.val (.int p0), .val (.int p1), .val (.int p2), .val (.int p3), .val (.ref a1580), .val (.ref cy), .val (.int (0 : Int32)), .val (.int op), .val (.int om), .val (.int (1 : Int32)), .val (.int (0 : Int32)), .val (.int (2 : Int32)), .val (.ref x)] [(.ref x)]) := fun tg_ kk_ => S1756 tg_ (by
        refine XS.iconst X1755.here hx rfl (hb hby at_165) ?_
        show Steps p.tables e below (T1755.setTop (mkF m 166 #[.val (.int p0), .val (.int p1), .val (.int p2), .val (.int p3), .val (.ref a1580), .val (.ref cy), .val (.int (0 : Int32)), .val (.int op), .val (.int om), .val (.int (1 : Int32)), .val (.int (0 : Int32)), .val (.int (2 : Int32)), .val (.ref x)] [(.int (-1 : Int32)), (.int (-1 : Int32))])) _
        refine XS.icmpYes X1755.here hx rfl (pc0 := 166) (pc' := 171) rfl (hb hby at_166) rfl (XT.ii_eq_t (by decide)) (by decide) (by decide) ?_
        show Steps p.tables e below (T1755.setTop (mkF m 171 #[.val (.int p0), .val (.int p1), .val (.int p2), .val (.int p3), .val (.ref a1580), .val (.ref cy), .val (.int (0 : Int32)), .val (.int op), .val (.int om), .val (.int (1 : Int32)), .val (.int (0 : Int32)), .val (.int (2 : Int32)), .val (.ref x)] [])) _
        refine XS.iload X1755.here hx rfl (hb hby at_171) rfl ?_
        show Steps p.tables e below (T1755.setTop (mkF m 173 #[.val (.int p0), .val (.int p1), .val (.int p2), .val (.int p3), .val (.ref a1580), .val (.ref cy), .val (.int (0 : Int32)), .val (.int op), .val (.int om), .val (.int (1 : Int32)), .val (.int (0 : Int32)), .val (.int (2 : Int32)), .val (.ref x)] [(.int (0 : Int32))])) _
        refine XS.ifYes X1755.here hx rfl (pc0 := 173) (pc' := 192) rfl (hb hby at_173) rfl (XT.i0_ge_t (by decide)) (by decide) (by decide) ?_
        show Steps p.tables e below (T1755.setTop (mkF m 192 #[.val (.int p0), .val (.int p1), .val (.int p2), .val (.int p3), .val (.ref a1580), .val (.ref cy), .val (.int (0 : Int32)), .val (.int op), .val (.int om), .val (.int (1 : Int32)), .val (.int (0 : Int32)), .val (.int (2 : Int32)), .val (.ref x)] [])) _
        refine XS.aload X1755.here hx rfl (hb hby at_192) rfl rfl ?_
        exact kk_)
      obtain ⟨_, T1758, h1758, L1758, X1758, e1758, hQ1758, st1758⟩ := own_callF X1755 hx hZ (y := (⟨"java/util/List", "size", "()I"⟩ : MethodName)) (z := (⟨"java/util/ArrayList", "size", "()I"⟩ : MethodName)) hown (hw _ (List.mem_of_getElem? (i := 125) rfl)) (hw _ (List.mem_of_getElem? (i := 110) rfl)) (mvT hZ (hw _ (List.mem_of_getElem? (i := 111) rfl))) (hw _ (List.mem_of_getElem? (i := 112) rfl)) (hw _ (List.mem_of_getElem? (i := 113) rfl)) (hw _ (List.mem_of_getElem? (i := 114) rfl)) (hw _ (List.mem_of_getElem? (i := 115) rfl)) (hw _ (List.mem_of_getElem? (i := 116) rfl)) (hw _ (List.mem_of_getElem? (i := 83) rfl)) (hw _ (List.mem_of_getElem? (i := 117) rfl)) (by decide) 0 (g := (mkF m 194 #[.val (.int p0), .val (.int p1), .val (.int p2), .val (.int p3), .val (.ref a1580), .val (.ref cy), .val (.int (0 : Int32)), .val (.int op), .val (.int om), .val (.int (1 : Int32)), .val (.int (0 : Int32)), .val (.int (2 : Int32)), .val (.ref x)] [(.ref x)])) rfl (by rw [hml]; rfl) x Ex [] [] (rm16 l Z a0 hw [] x (1 : Int32) h1746 n0 f1750 Fs) (lenOf pd5 rfl) rfl (by show 2 * 0 + _ ≤ _; exact Nat.le_of_eq rfl) (hb hby at_194) (by decide) (by decide) e1755 (by decide) (by decide)
      obtain ⟨rfl, N1758, rfl⟩ := hQ1758
      have S1759 : own_Go p e below s₁ G T1758 (mkF m 199 #[.val (.int p0), .val (.int p1), .val (.int p2), .val (.int p3), .val (.ref a1580), .val (.ref cy), .val (.int (0 : Int32)), .val (.int op), .val (.int om), .val (.int (1 : Int32)), .val (.int (0 : Int32)), .val (.int (2 : Int32)), .val (.ref x)] [(.int (1 : Int32))]) := fun tg_ kk_ => S1757 tg_ (st1758 tg_ kk_)
      have M1758 := Fr.app M1755 N1758
      have S1760 : own_Go p e below s₁ G T1758 (mkF m 206 #[.val (.int p0), .val (.int p1), .val (.int p2), .val (.int p3), .val (.ref a1580), .val (.ref cy), .val (.int (0 : Int32)), .val (.int op), .val (.int om), .val (.int (1 : Int32)), .val (.int (0 : Int32)), .val (.int (2 : Int32)), .val (.ref x)] [(.int (0 : Int32)), (.ref x)]) := fun tg_ kk_ => S1759 tg_ (by
        refine XS.iconst X1758.here hx rfl (hb hby at_199) ?_
        show Steps p.tables e below (T1758.setTop (mkF m 200 #[.val (.int p0), .val (.int p1), .val (.int p2), .val (.int p3), .val (.ref a1580), .val (.ref cy), .val (.int (0 : Int32)), .val (.int op), .val (.int om), .val (.int (1 : Int32)), .val (.int (0 : Int32)), .val (.int (2 : Int32)), .val (.ref x)] [(.int (1 : Int32)), (.int (1 : Int32))])) _
        refine XS.icmpNo X1758.here hx rfl (hb hby at_200) rfl (XT.ii_ne_f (by decide)) ?_
        show Steps p.tables e below (T1758.setTop (mkF m 203 #[.val (.int p0), .val (.int p1), .val (.int p2), .val (.int p3), .val (.ref a1580), .val (.ref cy), .val (.int (0 : Int32)), .val (.int op), .val (.int om), .val (.int (1 : Int32)), .val (.int (0 : Int32)), .val (.int (2 : Int32)), .val (.ref x)] [])) _
        refine XS.aload X1758.here hx rfl (hb hby at_203) rfl rfl ?_
        show Steps p.tables e below (T1758.setTop (mkF m 205 #[.val (.int p0), .val (.int p1), .val (.int p2), .val (.int p3), .val (.ref a1580), .val (.ref cy), .val (.int (0 : Int32)), .val (.int op), .val (.int om), .val (.int (1 : Int32)), .val (.int (0 : Int32)), .val (.int (2 : Int32)), .val (.ref x)] [(.ref x)])) _
        refine XS.iconst X1758.here hx rfl (hb hby at_205) ?_
        exact kk_)
      obtain ⟨_, T1761, h1761, L1761, X1761, e1761, hQ1761, st1761⟩ := own_callF X1758 hx hZ (y := (⟨"java/util/List", "get", "(I)Ljava/lang/Object;"⟩ : MethodName)) (z := (⟨"java/util/ArrayList", "get", "(I)Ljava/lang/Object;"⟩ : MethodName)) hown (hw _ (List.mem_of_getElem? (i := 162) rfl)) (hw _ (List.mem_of_getElem? (i := 163) rfl)) (mvT hZ (hw _ (List.mem_of_getElem? (i := 164) rfl))) (hw _ (List.mem_of_getElem? (i := 165) rfl)) (hw _ (List.mem_of_getElem? (i := 166) rfl)) (hw _ (List.mem_of_getElem? (i := 167) rfl)) (hw _ (List.mem_of_getElem? (i := 168) rfl)) (hw _ (List.mem_of_getElem? (i := 116) rfl)) (hw _ (List.mem_of_getElem? (i := 83) rfl)) (hw _ (List.mem_of_getElem? (i := 169) rfl)) (by decide) 0 (g := (mkF m 206 #[.val (.int p0), .val (.int p1), .val (.int p2), .val (.int p3), .val (.ref a1580), .val (.ref cy), .val (.int (0 : Int32)), .val (.int op), .val (.int om), .val (.int (1 : Int32)), .val (.int (0 : Int32)), .val (.int (2 : Int32)), .val (.ref x)] [(.int (0 : Int32)), (.ref x)])) rfl (by rw [hml]; rfl) x Ex [(.int (0 : Int32))] [] (rm23 l Z a0 hw [] x d yL h1746 n0 f1750 Ex Fe Fs qa Va) (lenOf pd18 rfl) rfl (by show 2 * 0 + _ ≤ _; exact Nat.le_of_eq rfl) (hb hby at_206) (by decide) (by decide) e1758 (by decide) (by decide)
      obtain ⟨rfl, N1761, rfl⟩ := hQ1761
      have S1762 : own_Go p e below s₁ G T1761 (mkF m 211 #[.val (.int p0), .val (.int p1), .val (.int p2), .val (.int p3), .val (.ref a1580), .val (.ref cy), .val (.int (0 : Int32)), .val (.int op), .val (.int om), .val (.int (1 : Int32)), .val (.int (0 : Int32)), .val (.int (2 : Int32)), .val (.ref x)] [(.ref yL)]) := fun tg_ kk_ => S1760 tg_ (st1761 tg_ kk_)
      have M1761 := Fr.app M1758 N1761
      have S1763 : own_Go p e below s₁ G T1761 (mkF m 213 #[.val (.int p0), .val (.int p1), .val (.int p2), .val (.int p3), .val (.ref a1580), .val (.ref cy), .val (.int (0 : Int32)), .val (.int op), .val (.int om), .val (.int (1 : Int32)), .val (.int (0 : Int32)), .val (.int (2 : Int32)), .val (.ref x)] [(.int (2 : Int32)), (.ref yL)]) := fun tg_ kk_ => S1762 tg_ (by
        refine XS.iload X1761.here hx rfl (hb hby at_211) rfl ?_
        exact kk_)
      obtain ⟨_, T1764, h1764, L1764, X1764, e1764, hQ1764, st1764⟩ := own_callS X1761 hx hZ (y := (⟨"com/example/tileshift/tileshift/NodeTableReachedFromPinLaw", "moveOf", "(I)Lcom/example/tileshift/tileshift/Move;"⟩ : MethodName)) hown (hw _ (List.mem_of_getElem? (i := 183) rfl)) (hw _ (List.mem_of_getElem? (i := 184) rfl)) (hw _ (List.mem_of_getElem? (i := 185) rfl)) (hw _ (List.mem_of_getElem? (i := 186) rfl)) (by decide) 1 (g := (mkF m 213 #[.val (.int p0), .val (.int p1), .val (.int p2), .val (.int p3), .val (.ref a1580), .val (.ref cy), .val (.int (0 : Int32)), .val (.int op), .val (.int om), .val (.int (1 : Int32)), .val (.int (0 : Int32)), .val (.int (2 : Int32)), .val (.ref x)] [(.int (2 : Int32)), (.ref yL)])) rfl (by rw [hml]; rfl) [(.int (2 : Int32))] [(.ref yL)] (rm272 l Z a0 hw [] yL h1746 n0 f1750 f1749 SmL) (lenOf pd20 rfl) rfl (by show 2 * 0 + _ ≤ _; exact Nat.le_of_eq rfl) (hb hby at_213) (by decide) (by decide) e1761 (by decide) (by decide)
      obtain ⟨rfl, N1764, rfl⟩ := hQ1764
      have S1765 : own_Go p e below s₁ G T1764 (mkF m 216 #[.val (.int p0), .val (.int p1), .val (.int p2), .val (.int p3), .val (.ref a1580), .val (.ref cy), .val (.int (0 : Int32)), .val (.int op), .val (.int om), .val (.int (1 : Int32)), .val (.int (0 : Int32)), .val (.int (2 : Int32)), .val (.ref x)] [(.ref yL), (.ref yL)]) := fun tg_ kk_ => S1763 tg_ (st1764 tg_ kk_)
      have M1764 := Fr.app M1761 N1764
      have S1766 : own_Go p e below s₁ G T1764 (mkF m 224 #[.val (.int p0), .val (.int p1), .val (.int p2), .val (.int p3), .val (.ref a1580), .val (.ref cy), .val (.int (0 : Int32)), .val (.int op), .val (.int om), .val (.int (1 : Int32)), .val (.int (0 : Int32)), .val (.int (2 : Int32)), .val (.ref x)] [(.int (1 : Int32))]) := fun tg_ kk_ => S1765 tg_ (by
        refine XT.acmpNo X1764.here hx rfl (hb hby at_216) rfl (rfl) (rfl) (XT.aa_ne_f rfl) ?_
        show Steps p.tables e below (T1764.setTop (mkF m 219 #[.val (.int p0), .val (.int p1), .val (.int p2), .val (.int p3), .val (.ref a1580), .val (.ref cy), .val (.int (0 : Int32)), .val (.int op), .val (.int om), .val (.int (1 : Int32)), .val (.int (0 : Int32)), .val (.int (2 : Int32)), .val (.ref x)] [])) _
        refine XS.iconst X1764.here hx rfl (hb hby at_219) ?_
        show Steps p.tables e below (T1764.setTop (mkF m 220 #[.val (.int p0), .val (.int p1), .val (.int p2), .val (.int p3), .val (.ref a1580), .val (.ref cy), .val (.int (0 : Int32)), .val (.int op), .val (.int om), .val (.int (1 : Int32)), .val (.int (0 : Int32)), .val (.int (2 : Int32)), .val (.ref x)] [(.int (1 : Int32))])) _
        refine XS.goto X1764.here hx rfl (pc0 := 220) (pc' := 224) rfl (hb hby at_220) (by decide) (by decide) ?_
        exact kk_)
      obtain ⟨fs, hr, hrun, hended, hW, hsame⟩ := X1764.leave (v := some (.int (1 : Int32))) (fun h => by rw [Bd.returns] at h; cases h)
      refine ⟨_, _, ?_, hrun, hended, _, _, rfl, ?_, ⟨_, rfl⟩, hW, hsame.mono (by decide) (by decide)⟩
      · rw [← hG]; exact S1766 _ (retN X1764 hx (t := .boolean) Bd.returns (by simp) (hb hby at_224) hr)
      · show Q0 Z p0 p1 p2 p3 h0 n0 _ T1764.heap _
        rw [e1764]
        exact ⟨rfl, M1764⟩
    · have _ := N0
      rw [hm] at S1685
      obtain ⟨_, T1767, h1767, L1767, X1767, e1767, hQ1767, st1767⟩ := own_callV X1657 hx hZ (y := (⟨"com/example/tileshift/tileshift/NodeTable", "reachedFrom", "(III)V"⟩ : MethodName)) hown (hw _ (List.mem_of_getElem? (i := 71) rfl)) (hw _ (List.mem_of_getElem? (i := 72) rfl)) (hw _ (List.mem_of_getElem? (i := 74) rfl)) (hw _ (List.mem_of_getElem? (i := 73) rfl)) (hw _ (List.mem_of_getElem? (i := 2) rfl)) (hw _ (List.mem_of_getElem? (i := 75) rfl)) (by decide) 0 (g := (mkF m 132 #[.val (.int p0), .val (.int p1), .val (.int p2), .val (.int p3), .val (.ref a1580), .val (.ref cy), .val (.int (0 : Int32)), .val (.int op), .val (.int om), .val (.int (1 : Int32)), .val (.int (0 : Int32)), .val (.int (3 : Int32)), .unset] [(.int (3 : Int32)), (.int (0 : Int32)), (.int (1 : Int32)), (.ref a1580)])) rfl (by rw [hml]; rfl) a1580 ND.2.2.1 [(.int (1 : Int32)), (.int (0 : Int32)), (.int (3 : Int32))] [] (rm10 l Z a0 hw [] a1580 pr mv (0 : Int32) (3 : Int32) h1657 n0 f1661 op yy ND (by omega) (by decide +kernel)) (lenOf pd10 rfl) rfl (by show 2 * 0 + _ ≤ _; exact Nat.le_of_eq rfl) (hb hby at_132) (by decide) (by decide) e1657 (by decide) (by decide)
      obtain ⟨rfl, N1767, K1767, NE⟩ := hQ1767
      have S1768 : own_Go p e below s₁ G T1767 (mkF m 135 #[.val (.int p0), .val (.int p1), .val (.int p2), .val (.int p3), .val (.ref a1580), .val (.ref cy), .val (.int (0 : Int32)), .val (.int op), .val (.int om), .val (.int (1 : Int32)), .val (.int (0 : Int32)), .val (.int (3 : Int32)), .unset] []) := fun tg_ kk_ => S1685 tg_ (st1767 tg_ kk_)
      have f1769 := Fr.app f1659 N1767
      have f1770 := f1660.keep K1767 (allS (by omega) (allS (by omega) all0))
      have f1771 := Nat.le_trans f1661 K1767.1
      have S1772 : own_Go p e below s₁ G T1767 (mkF m 139 #[.val (.int p0), .val (.int p1), .val (.int p2), .val (.int p3), .val (.ref a1580), .val (.ref cy), .val (.int (0 : Int32)), .val (.int op), .val (.int om), .val (.int (1 : Int32)), .val (.int (0 : Int32)), .val (.int (3 : Int32)), .unset] [(.int (1 : Int32)), (.ref a1580)]) := fun tg_ kk_ => S1768 tg_ (by
        refine XS.aload X1767.here hx rfl (hb hby at_135) rfl rfl ?_
        show Steps p.tables e below (T1767.setTop (mkF m 137 #[.val (.int p0), .val (.int p1), .val (.int p2), .val (.int p3), .val (.ref a1580), .val (.ref cy), .val (.int (0 : Int32)), .val (.int op), .val (.int om), .val (.int (1 : Int32)), .val (.int (0 : Int32)), .val (.int (3 : Int32)), .unset] [(.ref a1580)])) _
        refine XS.iload X1767.here hx rfl (hb hby at_137) rfl ?_
        exact kk_)
      obtain ⟨_, T1773, h1773, L1773, X1773, e1773, hQ1773, st1773⟩ := own_callV X1767 hx hZ (y := (⟨"com/example/tileshift/tileshift/NodeTable", "path", "(I)Ljava/util/List;"⟩ : MethodName)) hown (hw _ (List.mem_of_getElem? (i := 76) rfl)) (hw _ (List.mem_of_getElem? (i := 77) rfl)) (hw _ (List.mem_of_getElem? (i := 79) rfl)) (hw _ (List.mem_of_getElem? (i := 78) rfl)) (hw _ (List.mem_of_getElem? (i := 2) rfl)) (hw _ (List.mem_of_getElem? (i := 80) rfl)) (by decide) 0 (g := (mkF m 139 #[.val (.int p0), .val (.int p1), .val (.int p2), .val (.int p3), .val (.ref a1580), .val (.ref cy), .val (.int (0 : Int32)), .val (.int op), .val (.int om), .val (.int (1 : Int32)), .val (.int (0 : Int32)), .val (.int (3 : Int32)), .unset] [(.int (1 : Int32)), (.ref a1580)])) rfl (by rw [hml]; rfl) a1580 NE.2.2.1 [(.int (1 : Int32))] [] (rm11o l Z a0 hw [] a1580 pr mv dd (3 : Int32) yR h1767 n0 f1771 NE f1770 SD qd VD m0 qm0 _ SM VM (by decide) rfl EmR) (lenOf pd11 rfl) rfl (by show 2 * 0 + _ ≤ _; exact Nat.le_of_eq rfl) (hb hby at_139) (by decide) (by decide) e1767 (by decide) (by decide)
      obtain ⟨x, d, rfl, N1773, K1773, Ex, Fe, Fs, qa, Va⟩ := hQ1773
      have S1774 : own_Go p e below s₁ G T1773 (mkF m 142 #[.val (.int p0), .val (.int p1), .val (.int p2), .val (.int p3), .val (.ref a1580), .val (.ref cy), .val (.int (0 : Int32)), .val (.int op), .val (.int om), .val (.int (1 : Int32)), .val (.int (0 : Int32)), .val (.int (3 : Int32)), .unset] [(.ref x)]) := fun tg_ kk_ => S1772 tg_ (st1773 tg_ kk_)
      have f1775 := Fr.app f1769 N1773
      have f1776 := f1770.keep K1773 all0
      have f1777 := Nat.le_trans f1771 K1773.1
      have NF := NE.keep K1773
      have S1778 : own_Go p e below s₁ G T1773 (mkF m 148 #[.val (.int p0), .val (.int p1), .val (.int p2), .val (.int p3), .val (.ref a1580), .val (.ref cy), .val (.int (0 : Int32)), .val (.int op), .val (.int om), .val (.int (1 : Int32)), .val (.int (0 : Int32)), .val (.int (3 : Int32)), .val (.ref x)] [(.int (1 : Int32)), (.ref a1580)]) := fun tg_ kk_ => S1774 tg_ (by
        refine XS.astore X1773.here hx rfl (hb hby at_142) rfl rfl (l' := #[.val (.int p0), .val (.int p1), .val (.int p2), .val (.int p3), .val (.ref a1580), .val (.ref cy), .val (.int (0 : Int32)), .val (.int op), .val (.int om), .val (.int (1 : Int32)), .val (.int (0 : Int32)), .val (.int (3 : Int32)), .val (.ref x)]) rfl ?_
        show Steps p.tables e below (T1773.setTop (mkF m 144 #[.val (.int p0), .val (.int p1), .val (.int p2), .val (.int p3), .val (.ref a1580), .val (.ref cy), .val (.int (0 : Int32)), .val (.int op), .val (.int om), .val (.int (1 : Int32)), .val (.int (0 : Int32)), .val (.int (3 : Int32)), .val (.ref x)] [])) _
        refine XS.aload X1773.here hx rfl (hb hby at_144) rfl rfl ?_
        show Steps p.tables e below (T1773.setTop (mkF m 146 #[.val (.int p0), .val (.int p1), .val (.int p2), .val (.int p3), .val (.ref a1580), .val (.ref cy), .val (.int (0 : Int32)), .val (.int op), .val (.int om), .val (.int (1 : Int32)), .val (.int (0 : Int32)), .val (.int (3 : Int32)), .val (.ref x)] [(.ref a1580)])) _
        refine XS.iload X1773.here hx rfl (hb hby at_146) rfl ?_
        exact kk_)
      obtain ⟨_, T1779, h1779, L1779, X1779, e1779, hQ1779, st1779⟩ := own_callV X1773 hx hZ (y := (⟨"com/example/tileshift/tileshift/NodeTable", "move", "(I)I"⟩ : MethodName)) hown (hw _ (List.mem_of_getElem? (i := 120) rfl)) (hw _ (List.mem_of_getElem? (i := 121) rfl)) (hw _ (List.mem_of_getElem? (i := 123) rfl)) (hw _ (List.mem_of_getElem? (i := 122) rfl)) (hw _ (List.mem_of_getElem? (i := 2) rfl)) (hw _ (List.mem_of_getElem? (i := 124) rfl)) (by decide) 0 (g := (mkF m 148 #[.val (.int p0), .val (.int p1), .val (.int p2), .val (.int p3), .val (.ref a1580), .val (.ref cy), .val (.int (0 : Int32)), .val (.int op), .val (.int om), .val (.int (1 : Int32)), .val (.int (0 : Int32)), .val (.int (3 : Int32)), .val (.ref x)] [(.int (1 : Int32)), (.ref a1580)])) rfl (by rw [hml]; rfl) a1580 NF.2.2.1 [(.int (1 : Int32))] [] (rm171 l Z a0 hw [] a1580 pr mv (0 : Int32) (3 : Int32) h1773 n0 f1777 NF) (lenOf pd4 rfl) rfl (by show 2 * 0 + _ ≤ _; exact Nat.le_of_eq rfl) (hb hby at_148) (by decide) (by decide) e1773 (by decide) (by decide)
      obtain ⟨rfl, N1779, rfl⟩ := hQ1779
      have S1780 : own_Go p e below s₁ G T1779 (mkF m 151 #[.val (.int p0), .val (.int p1), .val (.int p2), .val (.int p3), .val (.ref a1580), .val (.ref cy), .val (.int (0 : Int32)), .val (.int op), .val (.int om), .val (.int (1 : Int32)), .val (.int (0 : Int32)), .val (.int (3 : Int32)), .val (.ref x)] [(.int (3 : Int32))]) := fun tg_ kk_ => S1778 tg_ (st1779 tg_ kk_)
      have M1779 := Fr.app f1775 N1779
      have S1781 : own_Go p e below s₁ G T1779 (mkF m 162 #[.val (.int p0), .val (.int p1), .val (.int p2), .val (.int p3), .val (.ref a1580), .val (.ref cy), .val (.int (0 : Int32)), .val (.int op), .val (.int om), .val (.int (1 : Int32)), .val (.int (0 : Int32)), .val (.int (3 : Int32)), .val (.ref x)] [(.int (0 : Int32)), (.ref a1580)]) := fun tg_ kk_ => S1780 tg_ (by
        refine XS.iload X1779.here hx rfl (hb hby at_151) rfl ?_
        show Steps p.tables e below (T1779.setTop (mkF m 153 #[.val (.int p0), .val (.int p1), .val (.int p2), .val (.int p3), .val (.ref a1580), .val (.ref cy), .val (.int (0 : Int32)), .val (.int op), .val (.int om), .val (.int (1 : Int32)), .val (.int (0 : Int32)), .val (.int (3 : Int32)), .val (.ref x)] [(.int (3 : Int32)), (.int (3 : Int32))])) _
        refine XS.icmpYes X1779.here hx rfl (pc0 := 153) (pc' := 158) rfl (hb hby at_153) rfl (XT.ii_eq_t (by decide)) (by decide) (by decide) ?_
        show Steps p.tables e below (T1779.setTop (mkF m 158 #[.val (.int p0), .val (.int p1), .val (.int p2), .val (.int p3), .val (.ref a1580), .val (.ref cy), .val (.int (0 : Int32)), .val (.int op), .val (.int om), .val (.int (1 : Int32)), .val (.int (0 : Int32)), .val (.int (3 : Int32)), .val (.ref x)] [])) _
        refine XS.aload X1779.here hx rfl (hb hby at_158) rfl rfl ?_
        show Steps p.tables e below (T1779.setTop (mkF m 160 #[.val (.int p0), .val (.int p1), .val (.int p2), .val (.int p3), .val (.ref a1580), .val (.ref cy), .val (.int (0 : Int32)), .val (.int op), .val (.int om), .val (.int (1 : Int32)), .val (.int (0 : Int32)), .val (.int (3 : Int32)), .val (.ref x)] [(.ref a1580)])) _
        refine XS.iload X1779.here hx rfl (hb hby at_160) rfl ?_
        exact kk_)
      obtain ⟨_, T1782, h1782, L1782, X1782, e1782, hQ1782, st1782⟩ := own_callV X1779 hx hZ (y := (⟨"com/example/tileshift/tileshift/NodeTable", "move", "(I)I"⟩ : MethodName)) hown (hw _ (List.mem_of_getElem? (i := 120) rfl)) (hw _ (List.mem_of_getElem? (i := 121) rfl)) (hw _ (List.mem_of_getElem? (i := 123) rfl)) (hw _ (List.mem_of_getElem? (i := 122) rfl)) (hw _ (List.mem_of_getElem? (i := 2) rfl)) (hw _ (List.mem_of_getElem? (i := 124) rfl)) (by decide) 0 (g := (mkF m 162 #[.val (.int p0), .val (.int p1), .val (.int p2), .val (.int p3), .val (.ref a1580), .val (.ref cy), .val (.int (0 : Int32)), .val (.int op), .val (.int om), .val (.int (1 : Int32)), .val (.int (0 : Int32)), .val (.int (3 : Int32)), .val (.ref x)] [(.int (0 : Int32)), (.ref a1580)])) rfl (by rw [hml]; rfl) a1580 NF.2.2.1 [(.int (0 : Int32))] [] (rm170 l Z a0 hw [] a1580 pr mv (0 : Int32) (3 : Int32) h1773 n0 f1777 NF) (lenOf pd4 rfl) rfl (by show 2 * 0 + _ ≤ _; exact Nat.le_of_eq rfl) (hb hby at_162) (by decide) (by decide) e1779 (by decide) (by decide)
      obtain ⟨rfl, N1782, rfl⟩ := hQ1782
      have S1783 : own_Go p e below s₁ G T1782 (mkF m 165 #[.val (.int p0), .val (.int p1), .val (.int p2), .val (.int p3), .val (.ref a1580), .val (.ref cy), .val (.int (0 : Int32)), .val (.int op), .val (.int om), .val (.int (1 : Int32)), .val (.int (0 : Int32)), .val (.int (3 : Int32)), .val (.ref x)] [(.int (-1 : Int32))]) := fun tg_ kk_ => S1781 tg_ (st1782 tg_ kk_)
      have M1782 := Fr.app M1779 N1782
      have S1784 : own_Go p e below s₁ G T1782 (mkF m 194 #[.val (.int p0), .val (.int p1), .val (.int p2), .val (.int p3), .val (.ref a1580), .val (.ref cy), .val (.int (0 : Int32)), .val (.int op), .val (.int om), .val (.int (1 : Int32)), .val (.int (0 : Int32)), .val (.int (3 : Int32)), .val (.ref x)] [(.ref x)]) := fun tg_ kk_ => S1783 tg_ (by
        refine XS.iconst X1782.here hx rfl (hb hby at_165) ?_
        show Steps p.tables e below (T1782.setTop (mkF m 166 #[.val (.int p0), .val (.int p1), .val (.int p2), .val (.int p3), .val (.ref a1580), .val (.ref cy), .val (.int (0 : Int32)), .val (.int op), .val (.int om), .val (.int (1 : Int32)), .val (.int (0 : Int32)), .val (.int (3 : Int32)), .val (.ref x)] [(.int (-1 : Int32)), (.int (-1 : Int32))])) _
        refine XS.icmpYes X1782.here hx rfl (pc0 := 166) (pc' := 171) rfl (hb hby at_166) rfl (XT.ii_eq_t (by decide)) (by decide) (by decide) ?_
        show Steps p.tables e below (T1782.setTop (mkF m 171 #[.val (.int p0), .val (.int p1), .val (.int p2), .val (.int p3), .val (.ref a1580), .val (.ref cy), .val (.int (0 : Int32)), .val (.int op), .val (.int om), .val (.int (1 : Int32)), .val (.int (0 : Int32)), .val (.int (3 : Int32)), .val (.ref x)] [])) _
        refine XS.iload X1782.here hx rfl (hb hby at_171) rfl ?_
        show Steps p.tables e below (T1782.setTop (mkF m 173 #[.val (.int p0), .val (.int p1), .val (.int p2), .val (.int p3), .val (.ref a1580), .val (.ref cy), .val (.int (0 : Int32)), .val (.int op), .val (.int om), .val (.int (1 : Int32)), .val (.int (0 : Int32)), .val (.int (3 : Int32)), .val (.ref x)] [(.int (0 : Int32))])) _
        refine XS.ifYes X1782.here hx rfl (pc0 := 173) (pc' := 192) rfl (hb hby at_173) rfl (XT.i0_ge_t (by decide)) (by decide) (by decide) ?_
        show Steps p.tables e below (T1782.setTop (mkF m 192 #[.val (.int p0), .val (.int p1), .val (.int p2), .val (.int p3), .val (.ref a1580), .val (.ref cy), .val (.int (0 : Int32)), .val (.int op), .val (.int om), .val (.int (1 : Int32)), .val (.int (0 : Int32)), .val (.int (3 : Int32)), .val (.ref x)] [])) _
        refine XS.aload X1782.here hx rfl (hb hby at_192) rfl rfl ?_
        exact kk_)
      obtain ⟨_, T1785, h1785, L1785, X1785, e1785, hQ1785, st1785⟩ := own_callF X1782 hx hZ (y := (⟨"java/util/List", "size", "()I"⟩ : MethodName)) (z := (⟨"java/util/ArrayList", "size", "()I"⟩ : MethodName)) hown (hw _ (List.mem_of_getElem? (i := 125) rfl)) (hw _ (List.mem_of_getElem? (i := 110) rfl)) (mvT hZ (hw _ (List.mem_of_getElem? (i := 111) rfl))) (hw _ (List.mem_of_getElem? (i := 112) rfl)) (hw _ (List.mem_of_getElem? (i := 113) rfl)) (hw _ (List.mem_of_getElem? (i := 114) rfl)) (hw _ (List.mem_of_getElem? (i := 115) rfl)) (hw _ (List.mem_of_getElem? (i := 116) rfl)) (hw _ (List.mem_of_getElem? (i := 83) rfl)) (hw _ (List.mem_of_getElem? (i := 117) rfl)) (by decide) 0 (g := (mkF m 194 #[.val (.int p0), .val (.int p1), .val (.int p2), .val (.int p3), .val (.ref a1580), .val (.ref cy), .val (.int (0 : Int32)), .val (.int op), .val (.int om), .val (.int (1 : Int32)), .val (.int (0 : Int32)), .val (.int (3 : Int32)), .val (.ref x)] [(.ref x)])) rfl (by rw [hml]; rfl) x Ex [] [] (rm16 l Z a0 hw [] x (1 : Int32) h1773 n0 f1777 Fs) (lenOf pd5 rfl) rfl (by show 2 * 0 + _ ≤ _; exact Nat.le_of_eq rfl) (hb hby at_194) (by decide) (by decide) e1782 (by decide) (by decide)
      obtain ⟨rfl, N1785, rfl⟩ := hQ1785
      have S1786 : own_Go p e below s₁ G T1785 (mkF m 199 #[.val (.int p0), .val (.int p1), .val (.int p2), .val (.int p3), .val (.ref a1580), .val (.ref cy), .val (.int (0 : Int32)), .val (.int op), .val (.int om), .val (.int (1 : Int32)), .val (.int (0 : Int32)), .val (.int (3 : Int32)), .val (.ref x)] [(.int (1 : Int32))]) := fun tg_ kk_ => S1784 tg_ (st1785 tg_ kk_)
      have M1785 := Fr.app M1782 N1785
      have S1787 : own_Go p e below s₁ G T1785 (mkF m 206 #[.val (.int p0), .val (.int p1), .val (.int p2), .val (.int p3), .val (.ref a1580), .val (.ref cy), .val (.int (0 : Int32)), .val (.int op), .val (.int om), .val (.int (1 : Int32)), .val (.int (0 : Int32)), .val (.int (3 : Int32)), .val (.ref x)] [(.int (0 : Int32)), (.ref x)]) := fun tg_ kk_ => S1786 tg_ (by
        refine XS.iconst X1785.here hx rfl (hb hby at_199) ?_
        show Steps p.tables e below (T1785.setTop (mkF m 200 #[.val (.int p0), .val (.int p1), .val (.int p2), .val (.int p3), .val (.ref a1580), .val (.ref cy), .val (.int (0 : Int32)), .val (.int op), .val (.int om), .val (.int (1 : Int32)), .val (.int (0 : Int32)), .val (.int (3 : Int32)), .val (.ref x)] [(.int (1 : Int32)), (.int (1 : Int32))])) _
        refine XS.icmpNo X1785.here hx rfl (hb hby at_200) rfl (XT.ii_ne_f (by decide)) ?_
        show Steps p.tables e below (T1785.setTop (mkF m 203 #[.val (.int p0), .val (.int p1), .val (.int p2), .val (.int p3), .val (.ref a1580), .val (.ref cy), .val (.int (0 : Int32)), .val (.int op), .val (.int om), .val (.int (1 : Int32)), .val (.int (0 : Int32)), .val (.int (3 : Int32)), .val (.ref x)] [])) _
        refine XS.aload X1785.here hx rfl (hb hby at_203) rfl rfl ?_
        show Steps p.tables e below (T1785.setTop (mkF m 205 #[.val (.int p0), .val (.int p1), .val (.int p2), .val (.int p3), .val (.ref a1580), .val (.ref cy), .val (.int (0 : Int32)), .val (.int op), .val (.int om), .val (.int (1 : Int32)), .val (.int (0 : Int32)), .val (.int (3 : Int32)), .val (.ref x)] [(.ref x)])) _
        refine XS.iconst X1785.here hx rfl (hb hby at_205) ?_
        exact kk_)
      obtain ⟨_, T1788, h1788, L1788, X1788, e1788, hQ1788, st1788⟩ := own_callF X1785 hx hZ (y := (⟨"java/util/List", "get", "(I)Ljava/lang/Object;"⟩ : MethodName)) (z := (⟨"java/util/ArrayList", "get", "(I)Ljava/lang/Object;"⟩ : MethodName)) hown (hw _ (List.mem_of_getElem? (i := 162) rfl)) (hw _ (List.mem_of_getElem? (i := 163) rfl)) (mvT hZ (hw _ (List.mem_of_getElem? (i := 164) rfl))) (hw _ (List.mem_of_getElem? (i := 165) rfl)) (hw _ (List.mem_of_getElem? (i := 166) rfl)) (hw _ (List.mem_of_getElem? (i := 167) rfl)) (hw _ (List.mem_of_getElem? (i := 168) rfl)) (hw _ (List.mem_of_getElem? (i := 116) rfl)) (hw _ (List.mem_of_getElem? (i := 83) rfl)) (hw _ (List.mem_of_getElem? (i := 169) rfl)) (by decide) 0 (g := (mkF m 206 #[.val (.int p0), .val (.int p1), .val (.int p2), .val (.int p3), .val (.ref a1580), .val (.ref cy), .val (.int (0 : Int32)), .val (.int op), .val (.int om), .val (.int (1 : Int32)), .val (.int (0 : Int32)), .val (.int (3 : Int32)), .val (.ref x)] [(.int (0 : Int32)), (.ref x)])) rfl (by rw [hml]; rfl) x Ex [(.int (0 : Int32))] [] (rm23 l Z a0 hw [] x d yR h1773 n0 f1777 Ex Fe Fs qa Va) (lenOf pd18 rfl) rfl (by show 2 * 0 + _ ≤ _; exact Nat.le_of_eq rfl) (hb hby at_206) (by decide) (by decide) e1785 (by decide) (by decide)
      obtain ⟨rfl, N1788, rfl⟩ := hQ1788
      have S1789 : own_Go p e below s₁ G T1788 (mkF m 211 #[.val (.int p0), .val (.int p1), .val (.int p2), .val (.int p3), .val (.ref a1580), .val (.ref cy), .val (.int (0 : Int32)), .val (.int op), .val (.int om), .val (.int (1 : Int32)), .val (.int (0 : Int32)), .val (.int (3 : Int32)), .val (.ref x)] [(.ref yR)]) := fun tg_ kk_ => S1787 tg_ (st1788 tg_ kk_)
      have M1788 := Fr.app M1785 N1788
      have S1790 : own_Go p e below s₁ G T1788 (mkF m 213 #[.val (.int p0), .val (.int p1), .val (.int p2), .val (.int p3), .val (.ref a1580), .val (.ref cy), .val (.int (0 : Int32)), .val (.int op), .val (.int om), .val (.int (1 : Int32)), .val (.int (0 : Int32)), .val (.int (3 : Int32)), .val (.ref x)] [(.int (3 : Int32)), (.ref yR)]) := fun tg_ kk_ => S1789 tg_ (by
        refine XS.iload X1788.here hx rfl (hb hby at_211) rfl ?_
        exact kk_)
      obtain ⟨_, T1791, h1791, L1791, X1791, e1791, hQ1791, st1791⟩ := own_callS X1788 hx hZ (y := (⟨"com/example/tileshift/tileshift/NodeTableReachedFromPinLaw", "moveOf", "(I)Lcom/example/tileshift/tileshift/Move;"⟩ : MethodName)) hown (hw _ (List.mem_of_getElem? (i := 183) rfl)) (hw _ (List.mem_of_getElem? (i := 184) rfl)) (hw _ (List.mem_of_getElem? (i := 185) rfl)) (hw _ (List.mem_of_getElem? (i := 186) rfl)) (by decide) 1 (g := (mkF m 213 #[.val (.int p0), .val (.int p1), .val (.int p2), .val (.int p3), .val (.ref a1580), .val (.ref cy), .val (.int (0 : Int32)), .val (.int op), .val (.int om), .val (.int (1 : Int32)), .val (.int (0 : Int32)), .val (.int (3 : Int32)), .val (.ref x)] [(.int (3 : Int32)), (.ref yR)])) rfl (by rw [hml]; rfl) [(.int (3 : Int32))] [(.ref yR)] (rm273 l Z a0 hw [] yR h1773 n0 f1777 f1776 SmR) (lenOf pd20 rfl) rfl (by show 2 * 0 + _ ≤ _; exact Nat.le_of_eq rfl) (hb hby at_213) (by decide) (by decide) e1788 (by decide) (by decide)
      obtain ⟨rfl, N1791, rfl⟩ := hQ1791
      have S1792 : own_Go p e below s₁ G T1791 (mkF m 216 #[.val (.int p0), .val (.int p1), .val (.int p2), .val (.int p3), .val (.ref a1580), .val (.ref cy), .val (.int (0 : Int32)), .val (.int op), .val (.int om), .val (.int (1 : Int32)), .val (.int (0 : Int32)), .val (.int (3 : Int32)), .val (.ref x)] [(.ref yR), (.ref yR)]) := fun tg_ kk_ => S1790 tg_ (st1791 tg_ kk_)
      have M1791 := Fr.app M1788 N1791
      have S1793 : own_Go p e below s₁ G T1791 (mkF m 224 #[.val (.int p0), .val (.int p1), .val (.int p2), .val (.int p3), .val (.ref a1580), .val (.ref cy), .val (.int (0 : Int32)), .val (.int op), .val (.int om), .val (.int (1 : Int32)), .val (.int (0 : Int32)), .val (.int (3 : Int32)), .val (.ref x)] [(.int (1 : Int32))]) := fun tg_ kk_ => S1792 tg_ (by
        refine XT.acmpNo X1791.here hx rfl (hb hby at_216) rfl (rfl) (rfl) (XT.aa_ne_f rfl) ?_
        show Steps p.tables e below (T1791.setTop (mkF m 219 #[.val (.int p0), .val (.int p1), .val (.int p2), .val (.int p3), .val (.ref a1580), .val (.ref cy), .val (.int (0 : Int32)), .val (.int op), .val (.int om), .val (.int (1 : Int32)), .val (.int (0 : Int32)), .val (.int (3 : Int32)), .val (.ref x)] [])) _
        refine XS.iconst X1791.here hx rfl (hb hby at_219) ?_
        show Steps p.tables e below (T1791.setTop (mkF m 220 #[.val (.int p0), .val (.int p1), .val (.int p2), .val (.int p3), .val (.ref a1580), .val (.ref cy), .val (.int (0 : Int32)), .val (.int op), .val (.int om), .val (.int (1 : Int32)), .val (.int (0 : Int32)), .val (.int (3 : Int32)), .val (.ref x)] [(.int (1 : Int32))])) _
        refine XS.goto X1791.here hx rfl (pc0 := 220) (pc' := 224) rfl (hb hby at_220) (by decide) (by decide) ?_
        exact kk_)
      obtain ⟨fs, hr, hrun, hended, hW, hsame⟩ := X1791.leave (v := some (.int (1 : Int32))) (fun h => by rw [Bd.returns] at h; cases h)
      refine ⟨_, _, ?_, hrun, hended, _, _, rfl, ?_, ⟨_, rfl⟩, hW, hsame.mono (by decide) (by decide)⟩
      · rw [← hG]; exact S1793 _ (retN X1791 hx (t := .boolean) Bd.returns (by simp) (hb hby at_224) hr)
      · show Q0 Z p0 p1 p2 p3 h0 n0 _ T1791.heap _
        rw [e1791]
        exact ⟨rfl, M1791⟩
theorem own_elem {s : State} {a : Array Value} {t u : Term} {cm : Cell} {m0 y : Addr} {k : Int32} (ht : t.eval a s none [] s = some (.ref m0)) (hc : s.heap[m0]? = some cm) (hu : u.eval a s none [] s = some (.ref y)) (h : (Cond.eq (Term.elem t (Term.int k)) u).value a s none s [] = some true) : cm.slots[k.toNatClampNeg]? = some (.ref y) := by
  obtain ⟨v, w, e1, e2, k1, k2⟩ := cmp_v (Or.inl h)
  obtain rfl : w = .ref y := Option.some.inj (e2.symm.trans hu)
  have hv : v.isRef = true := k2.2
  have q : v = .ref y := gotT (eq_R e1 e2 hv rfl) h
  subst q
  exact (elem_in e1 ht (Term.int_eval k) hc).2
theorem own_len {s : State} {a : Array Value} {t : Term} {cm : Cell} {m0 : Addr} {k : Int32} (ht : t.eval a s none [] s = some (.ref m0)) (ha : s.arrayAt? m0 = some cm) (h : (Cond.eq (Term.length t) (Term.int k)).value a s none s [] = some true) : cm.slots.size < 2 ^ 31 ∧ cm.slots.size.toInt32 = k := by
  obtain ⟨v, w, e1, e2, k1, k2⟩ := cmp_v (Or.inl h)
  by_cases hl : cm.slots.size < 2 ^ 31
  · refine ⟨hl, ?_⟩
    have e3 := len_f (args := a) (first := s) (o := none) (idx := []) (s := s) ht ha hl
    exact gotT (Cond.eq_ints e3 (Term.int_eval k)) h
  · exfalso
    simp [Term.eval, ht, ha, hl] at e1
set_option maxRecDepth 65536 in
set_option maxHeartbeats 40000000 in
theorem comes_1 {Post : Tables → Env → Array Value → State → Outcome → State → Prop} (hpost : ∀ tb e args s v u, (limb_1_1.after args s (.returned v) u = true ∧ limb_1_2.after args s (.returned v) u = true ∧ True) → FrameEnd s (.returned v) u (Jvm.fieldLocs frame_1_writes args s ++ Jvm.arrayLocs frame_1_arrays args s ++ Jvm.staticLocs frame_1_statics s) 32 10432 → Post tb e args s (.returned v) u) :
    ArmFor flags0 classFile x code maxLocals ret World_1 tables_1 room_1 Calls_1 rest_1 Pre_1 Post := by
  intro l hfl _ _ p e ha hc hk s m args below hf hA hF happ hP
  obtain ⟨hcalls, hrest, hpre⟩ := hP
  obtain ⟨-, -, -, hnamed, -, -, -, hat⟩ := (Spec.applies_iff hf).mp happ
  obtain ⟨hg, hn⟩ := and_e (Cond.before_iff.mp (show (Jvm.Cond.and given_1 narrow_1).before args s = true from hpre))
  obtain ⟨gc, gg0⟩ := and_e hg
  obtain ⟨ga0, gg1⟩ := and_e gg0
  obtain ⟨ga1, gg2⟩ := and_e gg1
  obtain ⟨ga2, gg3⟩ := and_e gg2
  have ga3 := gg3
  obtain ⟨w0, w1, w2, w3, rfl⟩ : ∃ w0 w1 w2 w3 : Value, args = #[w0, w1, w2, w3] := by
    have hs : args.size = 4 := by simpa [Cond.value, given_1] using gc
    obtain ⟨L⟩ := args
    match L, hs with
    | [w0, w1, w2, w3], _ => exact ⟨w0, w1, w2, w3, rfl⟩
  have hw := fun d (hd : d ∈ tables_1) => atoms_spec (ws := Jvm.Cond.code x code maxLocals ret :: tables_1) hat d (List.mem_cons_of_mem _ hd)
  have hfit : Fit s := fun {y c} hc i hi => by
    obtain ⟨ha, rfl⟩ := Array.getElem?_eq_some_iff.mp hc
    have q := List.all_eq_true.mp ((Array.all_eq_true_iff_forall_mem.mp hF) _ (Array.getElem_mem ha)) i (List.mem_range.mpr hi)
    simpa [Array.getElem?_eq_getElem hi] using q
  obtain ⟨i0, ei0⟩ := is_v ga0
  obtain rfl : w0 = (.int i0) := Option.some.inj ei0
  obtain ⟨i1, ei1⟩ := is_v ga1
  obtain rfl : w1 = (.int i1) := Option.some.inj ei1
  obtain ⟨i2, ei2⟩ := is_v ga2
  obtain rfl : w2 = (.int i2) := Option.some.inj ei2
  obtain ⟨i3, ei3⟩ := is_v ga3
  obtain rfl : w3 = (.int i3) := Option.some.inj ei3
  have hsets := (atoms_of _ (rest_1_c_eq ▸ (show rest_1_c.before _ s = true from hrest))).1
  obtain ⟨nM, r0⟩ := and_e hn
  obtain ⟨nL, r1⟩ := and_e r0
  obtain ⟨xR, r2⟩ := and_e r1
  obtain ⟨lR, r3⟩ := and_e r2
  obtain ⟨xU, r4⟩ := and_e r3
  obtain ⟨lU, r5⟩ := and_e r4
  obtain ⟨xD, r6⟩ := and_e r5
  obtain ⟨lD, r7⟩ := and_e r6
  obtain ⟨xL, r8⟩ := and_e r7
  have lL := r8
  obtain ⟨m0, em⟩ := arr_v nM
  have SM := Sta.start em (Or.inr ⟨(hw _ (List.mem_of_getElem? (i := 2) rfl)), (hw _ (List.mem_of_getElem? (i := 127) rfl))⟩)
  obtain ⟨cm, Am⟩ := Arr.start em nM
  obtain ⟨qm1, qm2⟩ := own_len em (Arr.fin (U := s) (Vm.Alike.refl _) Am) nL
  obtain ⟨yU, eU⟩ := exa_v xU
  have EU := Exa.start eU xU
  have TU := Sta.start eU (Or.inr ⟨(hw _ (List.mem_of_getElem? (i := 128) rfl)), (hw _ (List.mem_of_getElem? (i := 188) rfl))⟩)
  obtain ⟨yD, eD⟩ := exa_v xD
  have ED := Exa.start eD xD
  have TD := Sta.start eD (Or.inr ⟨(hw _ (List.mem_of_getElem? (i := 128) rfl)), (hw _ (List.mem_of_getElem? (i := 190) rfl))⟩)
  obtain ⟨yL, eL⟩ := exa_v xL
  have EL := Exa.start eL xL
  have TL := Sta.start eL (Or.inr ⟨(hw _ (List.mem_of_getElem? (i := 128) rfl)), (hw _ (List.mem_of_getElem? (i := 192) rfl))⟩)
  obtain ⟨yR, eR⟩ := exa_v xR
  have ER := Exa.start eR xR
  have TR := Sta.start eR (Or.inr ⟨(hw _ (List.mem_of_getElem? (i := 128) rfl)), (hw _ (List.mem_of_getElem? (i := 129) rfl))⟩)
  have VM : Arv s s.heap m0 cm.cls (.object "com/example/tileshift/tileshift/Move") 4 [.ref yU, .ref yD, .ref yL, .ref yR] .null := Arv.start hfit Am qm1 qm2 (by decide) rfl ⟨own_elem em Am.1 eU lU, own_elem em Am.1 eD lD, own_elem em Am.1 eL lL, own_elem em Am.1 eR lR, trivial⟩
  have ad := Cond.before_iff.mp (hsets _ (List.mem_of_getElem? (i := 6) rfl))
  obtain ⟨dd, ed⟩ := arr_v ad
  have SD := Sta.start ed (Or.inr ⟨(hw _ (List.mem_of_getElem? (i := 83) rfl)), hsets _ (List.mem_of_getElem? (i := 2) rfl)⟩)
  obtain ⟨cd, Ad⟩ := Arr.start ed ad
  obtain ⟨qd1, qd2⟩ := own_len ed (Arr.fin (U := s) (Vm.Alike.refl _) Ad) (Cond.before_iff.mp (hsets _ (List.mem_of_getElem? (i := 8) rfl)))
  have VD : Arv s s.heap dd cd.cls (.object "java/lang/Object") 0 [] .null := Arv.start hfit Ad qd1 qd2 (by decide) rfl trivial
  obtain ⟨n, o, h1, h2, h3, _, L, rfl, ⟨rfl, N⟩, hq⟩ := rm0 l s _ hw tables_1 i0 i1 i2 i3 s.heap s.heap.size (Nat.le_refl _) dd m0 yU yD yL yR (Old.start s) SD _ VD _ SM VM TU EU TD ED TL EL TR ER p e ha hc hk s m _ below hf ((Spec.applies_iff_loose hf).mp happ).1 ⟨rfl, State.Warmed39.refl s, rfl⟩ trivial
  refine ⟨n, _, h1, h2, h3, hpost _ _ _ _ _ _ ⟨Cond.after_iff.mpr rfl, Cond.after_iff.mpr (eq_i res_at (Term.int_eval (1)) rfl), trivial⟩ ⟨hq.1, hq.2.1, (hq.2.2.sift fun y hy => Or.inr (N y hy)).mono (by decide) (by decide)⟩⟩
theorem main_1_1 : Claimed_1_1 := comes_1 fun _ _ _ _ _ _ h hF => ⟨h.1, hF⟩
theorem main_1_2 : Claimed_1_2 := comes_1 fun _ _ _ _ _ _ h hF => ⟨h.2.1, hF⟩
end Jvm.Pilot.@@N@@
namespace Jvm.Pilot.@@N@@
open Jvm Jvm.ClassFile Sem Op Lib Jvm.Free Jvm.Stand Jvm.Pilot.@@N@@.Jvm.D
/-! MADE BY PROGRAM (witnessworld.py) out of the Statement's table words and the real class files: 34 classes; the members and pool entries that the words name. The judged class is class 1, her method 2. -/
namespace start1
open Jvm.ClassFile
def u (s : String) : CpInfo := .utf8 (stringToUtf16 s)
/-- a pool by its gaps: so many unusable entries, then the entry; so many at the end -/
def gap : Nat → List CpInfo → List CpInfo
  | 0, r => r
  | n + 1, r => .unusable :: gap n r
def poolList (es : List (Nat × CpInfo)) (last : Nat) : List CpInfo := es.foldr (fun e r => gap e.1 (e.2 :: r)) (gap last [])
def pool (es : List (Nat × CpInfo)) (last : Nat) : Array CpInfo := ⟨poolList es last⟩
def fileOf (pool : Array CpInfo) (this : Nat) (attrs : Array Attribute := #[]) (ms : Array MethodInfo := #[]) (fl : Nat := 33) (sup : Nat := 0) (ifs : Array Nat := #[]) (fds : Array FieldInfo := #[]) : ClassFile where
  minorVersion := 0
  majorVersion := 65
  constantPool := pool
  accessFlags := fl
  thisClass := this
  superClass := sup
  interfaces := ifs
  fields := fds
  methods := ms
  attributes := attrs
def plain (name : String) (sup : Option ClassId) : Class where
  name := name
  kind := .ordinary
  loader := none
  accessFlags := 33
  super := sup
  interfaces := #[]
  cf := none
  fields := #[]
  methods := #[]
  instanceTypes := #[]
  staticTypes := #[]
  resolved := #[]
  callSites := []
  init := .initialized
  statics := none
  mirror := none

def pool0 : Array CpInfo := pool [(5, u "<init>"), (0, u "()V"), (1, .class_ 10), (1, u "java/lang/Object")] 113

def k0c0 : Code := { maxStack := 0, maxLocals := 1, code := object_method_1_code, exceptionTable := #[], attributes := #[] }
def k0m0 : Method := { name := "<init>", desc := "()V", sig := { parameters := [], returnType := none }, accessFlags := 1, code := some k0c0 }
/-- java/lang/Object -/
def k0 : Class := { plain "java/lang/Object" none with
  accessFlags := 33
  interfaces := #[]
  cf := some (fileOf pool0 8 #[] #[{ accessFlags := 1, nameIndex := 5, descriptorIndex := 6, attributes := #[] }] 33 0 #[] #[])
  fields := #[]
  methods := #[k0m0]
  instanceTypes := #[]
  staticTypes := #[]
  resolved := Array.replicate 124 none
  statics := none }

def pool1 : Array CpInfo := pool [(2, .class_ 4), (1, u "java/lang/Object"), (0, u "<init>"), (0, u "()V"), (0, .fieldref 8 9), (0, .class_ 10), (0, .nameAndType 11 12), (0, u "com/example/tileshift/tileshift/Move"), (0, u "U"), (0, u "Lcom/example/tileshift/tileshift/Move;"), (0, .fieldref 8 14), (0, .nameAndType 15 12), (0, u "D"), (0, .fieldref 8 17), (0, .nameAndType 18 12), (0, u "L"), (0, .fieldref 8 20), (0, .nameAndType 21 12), (0, u "R"), (0, .class_ 23), (0, u "com/example/tileshift/tileshift/NodeTable"), (0, .methodref 22 25), (0, .nameAndType 5 26), (0, u "(I)V"), (0, .methodref 22 28), (0, .nameAndType 29 30), (0, u "find"), (0, u "()I"), (0, .methodref 22 32), (0, .nameAndType 33 34), (0, u "add"), (0, u "(III)I"), (0, .methodref 22 36), (0, .nameAndType 37 38), (0, u "keyOf"), (0, u "([B)V"), (0, .methodref 22 40), (0, .nameAndType 41 42), (0, u "reachedFrom"), (0, u "(III)V"), (0, .methodref 22 44), (0, .nameAndType 45 46), (0, u "path"), (0, u "(I)Ljava/util/List;"), (0, .methodref 22 48), (0, .nameAndType 49 50), (0, u "move"), (0, u "(I)I"), (0, .interfaceMethodref 52 53), (0, .class_ 54), (0, .nameAndType 55 30), (0, u "java/util/List"), (0, u "size"), (0, .interfaceMethodref 52 57), (0, .nameAndType 58 59), (0, u "get"), (0, u "(I)Ljava/lang/Object;"), (0, .methodref 61 62), (0, .class_ 63), (0, .nameAndType 64 65), (0, u "com/example/tileshift/tileshift/NodeTableReachedFromPinLaw"), (0, u "moveOf"), (0, u "(I)Lcom/example/tileshift/tileshift/Move;"), (3, u "law"), (0, u "(IIII)Z")] 4

def k1m0 : Method := { name := "<init>", desc := "()V", sig := { parameters := [], returnType := none }, accessFlags := 2, code := none }
def k1c1 : Code := { maxStack := 2, maxLocals := 1, code := method_2_code, exceptionTable := #[], attributes := #[] }
def k1m1 : Method := { name := "moveOf", desc := "(I)Lcom/example/tileshift/tileshift/Move;", sig := { parameters := [.int], returnType := some (.object "com/example/tileshift/tileshift/Move") }, accessFlags := 10, code := some k1c1 }
def k1c2 : Code := { maxStack := 4, maxLocals := 13, code := code, exceptionTable := #[], attributes := #[] }
def k1m2 : Method := { name := "law", desc := "(IIII)Z", sig := { parameters := [.int, .int, .int, .int], returnType := some .boolean }, accessFlags := 9, code := some k1c2 }
/-- com/example/tileshift/tileshift/NodeTableReachedFromPinLaw -/
def k1 : Class := { plain "com/example/tileshift/tileshift/NodeTableReachedFromPinLaw" (some 0) with
  accessFlags := 49
  interfaces := #[]
  cf := some (fileOf pool1 61 #[] #[{ accessFlags := 2, nameIndex := 5, descriptorIndex := 6, attributes := #[] }, { accessFlags := 10, nameIndex := 64, descriptorIndex := 65, attributes := #[] }, { accessFlags := 9, nameIndex := 69, descriptorIndex := 70, attributes := #[] }] 49 2 #[] #[])
  fields := #[]
  methods := #[k1m0, k1m1, k1m2]
  instanceTypes := #[]
  staticTypes := #[]
  resolved := Array.replicate 75 none
  statics := none }

def pool2 : Array CpInfo := pool [(1, .methodref 2 3), (0, .class_ 4), (0, .nameAndType 5 6), (0, u "java/lang/Object"), (0, u "<init>"), (0, u "()V"), (0, .class_ 8), (0, u "java/lang/Integer"), (0, .methodref 7 10), (0, .nameAndType 11 12), (0, u "numberOfLeadingZeros"), (0, u "(I)I"), (0, .fieldref 14 15), (0, .class_ 16), (0, .nameAndType 17 18), (0, u "com/example/tileshift/tileshift/NodeTable"), (0, u "bits"), (0, u "I"), (2, .fieldref 14 22), (0, .nameAndType 23 18), (0, u "width"), (0, .fieldref 14 25), (0, .nameAndType 26 27), (0, u "word"), (0, u "[I"), (0, .fieldref 14 29), (0, .nameAndType 30 27), (0, u "shift"), (0, .fieldref 14 32), (0, .nameAndType 33 34), (0, u "key"), (0, u "[J"), (0, .fieldref 14 36), (0, .nameAndType 37 34), (0, u "boards"), (0, .fieldref 14 39), (0, .nameAndType 40 27), (0, u "parent"), (0, .fieldref 14 42), (0, .nameAndType 43 44), (0, u "move"), (0, u "[B"), (0, .methodref 7 46), (0, .nameAndType 47 12), (0, u "numberOfTrailingZeros"), (0, .fieldref 14 49), (0, .nameAndType 50 27), (0, u "table"), (0, .fieldref 14 52), (0, .nameAndType 53 18), (0, u "tableShift"), (0, .fieldref 14 55), (0, .nameAndType 56 18), (0, u "nodes"), (0, .methodref 58 59), (0, .class_ 60), (0, .nameAndType 61 62), (0, u "java/util/Arrays"), (0, u "fill"), (0, u "([JJ)V"), (0, .methodref 64 65), (0, .class_ 66), (0, .nameAndType 67 68), (0, u "java/lang/System"), (0, u "arraycopy"), (0, u "(Ljava/lang/Object;ILjava/lang/Object;II)V"), (0, .methodref 14 70), (0, .nameAndType 71 72), (0, u "home"), (0, u "([JI)I"), (4, .integer 536870912), (26, .class_ 105), (0, u "java/util/ArrayList"), (0, .methodref 104 3), (0, .fieldref 14 108), (0, .nameAndType 109 110), (0, u "MOVES"), (0, u "[Lcom/example/tileshift/tileshift/Move;"), (0, .interfaceMethodref 112 113), (0, .class_ 114), (0, .nameAndType 115 116), (0, u "java/util/List"), (0, u "add"), (0, u "(Ljava/lang/Object;)Z"), (0, .methodref 118 119), (0, .class_ 120), (0, .nameAndType 121 122), (0, u "java/util/Collections"), (0, u "reverse"), (0, u "(Ljava/util/List;)V"), (0, .long 11400714819323198485), (4, u "FIRST_NODES"), (2, u "MAX_NODES"), (0, u "(I)V"), (4, u "()I"), (1, u "keyOf"), (0, u "([B)V"), (2, u "find"), (1, u "(III)I"), (0, u "reachedFrom"), (0, u "(III)V"), (3, u "path"), (0, u "(I)Ljava/util/List;")] 5

def k2c0 : Code := { maxStack := 4, maxLocals := 4, code := prog_40_method_1_code, exceptionTable := #[], attributes := #[] }
def k2m0 : Method := { name := "<init>", desc := "(I)V", sig := { parameters := [.int], returnType := none }, accessFlags := 0, code := some k2c0 }
def k2c1 : Code := { maxStack := 8, maxLocals := 3, code := prog_40_method_4_code, exceptionTable := #[], attributes := #[] }
def k2m1 : Method := { name := "keyOf", desc := "([B)V", sig := { parameters := [(.array .byte)], returnType := none }, accessFlags := 0, code := some k2c1 }
def k2c2 : Code := { maxStack := 6, maxLocals := 5, code := prog_40_method_6_code, exceptionTable := #[], attributes := #[] }
def k2m2 : Method := { name := "find", desc := "()I", sig := { parameters := [], returnType := some .int }, accessFlags := 0, code := some k2c2 }
def k2c3 : Code := { maxStack := 5, maxLocals := 5, code := prog_40_method_8_code, exceptionTable := #[], attributes := #[] }
def k2m3 : Method := { name := "add", desc := "(III)I", sig := { parameters := [.int, .int, .int], returnType := some .int }, accessFlags := 0, code := some k2c3 }
def k2c4 : Code := { maxStack := 2, maxLocals := 2, code := prog_40_method_9_code, exceptionTable := #[], attributes := #[] }
def k2m4 : Method := { name := "move", desc := "(I)I", sig := { parameters := [.int], returnType := some .int }, accessFlags := 0, code := some k2c4 }
def k2c5 : Code := { maxStack := 3, maxLocals := 4, code := prog_40_method_10_code, exceptionTable := #[], attributes := #[] }
def k2m5 : Method := { name := "reachedFrom", desc := "(III)V", sig := { parameters := [.int, .int, .int], returnType := none }, accessFlags := 0, code := some k2c5 }
def k2c6 : Code := { maxStack := 4, maxLocals := 4, code := prog_40_method_12_code, exceptionTable := #[], attributes := #[] }
def k2m6 : Method := { name := "path", desc := "(I)Ljava/util/List;", sig := { parameters := [.int], returnType := some (.object "java/util/List") }, accessFlags := 0, code := some k2c6 }
def k2c7 : Code := { maxStack := 5, maxLocals := 6, code := prog_40_method_13_code, exceptionTable := #[], attributes := #[] }
def k2m7 : Method := { name := "home", desc := "([JI)I", sig := { parameters := [(.array .long), .int], returnType := some .int }, accessFlags := 2, code := some k2c7 }
/-- com/example/tileshift/tileshift/NodeTable -/
def k2 : Class := { plain "com/example/tileshift/tileshift/NodeTable" (some 0) with
  accessFlags := 48
  interfaces := #[]
  cf := some (fileOf pool2 14 #[] #[{ accessFlags := 0, nameIndex := 5, descriptorIndex := 132, attributes := #[] }, { accessFlags := 0, nameIndex := 139, descriptorIndex := 140, attributes := #[] }, { accessFlags := 0, nameIndex := 143, descriptorIndex := 137, attributes := #[] }, { accessFlags := 0, nameIndex := 115, descriptorIndex := 145, attributes := #[] }, { accessFlags := 0, nameIndex := 43, descriptorIndex := 12, attributes := #[] }, { accessFlags := 0, nameIndex := 146, descriptorIndex := 147, attributes := #[] }, { accessFlags := 0, nameIndex := 151, descriptorIndex := 152, attributes := #[] }, { accessFlags := 2, nameIndex := 71, descriptorIndex := 72, attributes := #[] }] 48 2 #[] #[{ accessFlags := 26, nameIndex := 109, descriptorIndex := 110, attributes := #[] }, { accessFlags := 26, nameIndex := 128, descriptorIndex := 18, attributes := #[] }, { accessFlags := 26, nameIndex := 131, descriptorIndex := 18, attributes := #[] }, { accessFlags := 18, nameIndex := 17, descriptorIndex := 18, attributes := #[] }, { accessFlags := 18, nameIndex := 23, descriptorIndex := 18, attributes := #[] }, { accessFlags := 18, nameIndex := 26, descriptorIndex := 27, attributes := #[] }, { accessFlags := 18, nameIndex := 30, descriptorIndex := 27, attributes := #[] }, { accessFlags := 18, nameIndex := 33, descriptorIndex := 34, attributes := #[] }, { accessFlags := 2, nameIndex := 37, descriptorIndex := 34, attributes := #[] }, { accessFlags := 2, nameIndex := 40, descriptorIndex := 27, attributes := #[] }, { accessFlags := 2, nameIndex := 43, descriptorIndex := 44, attributes := #[] }, { accessFlags := 2, nameIndex := 56, descriptorIndex := 18, attributes := #[] }, { accessFlags := 2, nameIndex := 50, descriptorIndex := 27, attributes := #[] }, { accessFlags := 2, nameIndex := 53, descriptorIndex := 18, attributes := #[] }])
  fields := #[{ name := "MOVES", type := (.array (.object "com/example/tileshift/tileshift/Move")), accessFlags := 26, slot := 0, constantValue := 0 }, { name := "FIRST_NODES", type := .int, accessFlags := 26, slot := 1, constantValue := 0 }, { name := "MAX_NODES", type := .int, accessFlags := 26, slot := 2, constantValue := 0 }, { name := "bits", type := .int, accessFlags := 18, slot := 0, constantValue := 0 }, { name := "width", type := .int, accessFlags := 18, slot := 1, constantValue := 0 }, { name := "word", type := (.array .int), accessFlags := 18, slot := 2, constantValue := 0 }, { name := "shift", type := (.array .int), accessFlags := 18, slot := 3, constantValue := 0 }, { name := "key", type := (.array .long), accessFlags := 18, slot := 4, constantValue := 0 }, { name := "boards", type := (.array .long), accessFlags := 2, slot := 5, constantValue := 0 }, { name := "parent", type := (.array .int), accessFlags := 2, slot := 6, constantValue := 0 }, { name := "move", type := (.array .byte), accessFlags := 2, slot := 7, constantValue := 0 }, { name := "nodes", type := .int, accessFlags := 2, slot := 8, constantValue := 0 }, { name := "table", type := (.array .int), accessFlags := 2, slot := 9, constantValue := 0 }, { name := "tableShift", type := .int, accessFlags := 2, slot := 10, constantValue := 0 }]
  methods := #[k2m0, k2m1, k2m2, k2m3, k2m4, k2m5, k2m6, k2m7]
  instanceTypes := #[.int, .int, (.array .int), (.array .int), (.array .long), (.array .long), (.array .int), (.array .byte), .int, (.array .int), .int]
  staticTypes := #[(.array (.object "com/example/tileshift/tileshift/Move")), .int, .int]
  resolved := Array.replicate 158 none
  statics := some 0 }

def pool3 : Array CpInfo := pool [(1, .class_ 2), (0, u "java/io/Serializable"), (0, .class_ 4), (0, u "java/lang/Object")] 2

/-- java/io/Serializable -/
def k3 : Class := { plain "java/io/Serializable" (some 0) with
  accessFlags := 1537
  interfaces := #[]
  cf := some (fileOf pool3 1 #[] #[] 1537 3 #[] #[])
  fields := #[]
  methods := #[]
  instanceTypes := #[]
  staticTypes := #[]
  resolved := Array.replicate 7 none
  statics := none }

def pool4 : Array CpInfo := pool [(2, .class_ 4), (1, u "java/lang/Object"), (0, u "<init>"), (0, u "()V"), (1, .class_ 10), (1, u "java/lang/Number"), (2, .class_ 14), (0, u "java/io/Serializable"), (0, u "serialVersionUID"), (0, u "J")] 20

def k4m0 : Method := { name := "<init>", desc := "()V", sig := { parameters := [], returnType := none }, accessFlags := 1, code := none }
/-- java/lang/Number -/
def k4 : Class := { plain "java/lang/Number" (some 0) with
  accessFlags := 1057
  interfaces := #[3]
  cf := some (fileOf pool4 8 #[] #[{ accessFlags := 1, nameIndex := 5, descriptorIndex := 6, attributes := #[] }] 1057 2 #[13] #[{ accessFlags := 26, nameIndex := 15, descriptorIndex := 16, attributes := #[] }])
  fields := #[{ name := "serialVersionUID", type := .long, accessFlags := 26, slot := 0, constantValue := 0 }]
  methods := #[k4m0]
  instanceTypes := #[]
  staticTypes := #[.long]
  resolved := Array.replicate 37 none
  statics := none }

def pool5 : Array CpInfo := pool [(1, .class_ 2), (0, u "java/lang/Comparable"), (0, .class_ 4), (0, u "java/lang/Object")] 7

/-- java/lang/Comparable -/
def k5 : Class := { plain "java/lang/Comparable" (some 0) with
  accessFlags := 1537
  interfaces := #[]
  cf := some (fileOf pool5 1 #[] #[] 1537 3 #[] #[])
  fields := #[]
  methods := #[]
  instanceTypes := #[]
  staticTypes := #[]
  resolved := Array.replicate 12 none
  statics := none }

def pool6 : Array CpInfo := pool [(1, .class_ 2), (0, u "java/lang/constant/Constable"), (0, .class_ 4), (0, u "java/lang/Object")] 6

/-- java/lang/constant/Constable -/
def k6 : Class := { plain "java/lang/constant/Constable" (some 0) with
  accessFlags := 1537
  interfaces := #[]
  cf := some (fileOf pool6 1 #[] #[] 1537 3 #[] #[])
  fields := #[]
  methods := #[]
  instanceTypes := #[]
  staticTypes := #[]
  resolved := Array.replicate 11 none
  statics := none }

def pool7 : Array CpInfo := pool [(1, .class_ 2), (0, u "java/lang/constant/ConstantDesc"), (0, .class_ 4), (0, u "java/lang/Object")] 32

/-- java/lang/constant/ConstantDesc -/
def k7 : Class := { plain "java/lang/constant/ConstantDesc" (some 0) with
  accessFlags := 1537
  interfaces := #[]
  cf := some (fileOf pool7 1 #[] #[] 1537 3 #[] #[])
  fields := #[]
  methods := #[]
  instanceTypes := #[]
  staticTypes := #[]
  resolved := Array.replicate 37 none
  statics := none }

def pool8 : Array CpInfo := pool [(1, .class_ 2), (0, u "java/lang/Integer"), (16, u "digits"), (0, u "[C"), (32, u "numberOfLeadingZeros"), (0, u "(I)I"), (30, u "DigitOnes"), (0, u "[B"), (2, u "DigitTens"), (99, .class_ 190), (0, u "java/lang/Integer$IntegerCache"), (3, u "I"), (8, .class_ 204), (0, u "java/lang/Number"), (2, u "value"), (56, .integer 65536), (37, u "TYPE"), (0, u "Ljava/lang/Class;"), (0, .class_ 305), (0, u "java/lang/Comparable"), (0, .class_ 307), (0, u "java/lang/constant/Constable"), (0, .class_ 309), (0, u "java/lang/constant/ConstantDesc"), (0, u "MIN_VALUE"), (1, u "MAX_VALUE"), (3, u "SIZE"), (1, u "BYTES"), (1, u "serialVersionUID"), (0, u "J"), (84, u "numberOfTrailingZeros")] 46

def k8c0 : Code := { maxStack := 3, maxLocals := 2, code := jdk_33_method_47_code, exceptionTable := #[], attributes := #[] }
def k8m0 : Method := { name := "numberOfLeadingZeros", desc := "(I)I", sig := { parameters := [.int], returnType := some .int }, accessFlags := 9, code := some k8c0 }
def k8c1 : Code := { maxStack := 3, maxLocals := 2, code := jdk_33_method_48_code, exceptionTable := #[], attributes := #[] }
def k8m1 : Method := { name := "numberOfTrailingZeros", desc := "(I)I", sig := { parameters := [.int], returnType := some .int }, accessFlags := 9, code := some k8c1 }
/-- java/lang/Integer -/
def k8 : Class := { plain "java/lang/Integer" (some 4) with
  accessFlags := 49
  interfaces := #[5, 6, 7]
  cf := some (fileOf pool8 1 #[.nestMembers #[189]] #[{ accessFlags := 9, nameIndex := 53, descriptorIndex := 54, attributes := #[] }, { accessFlags := 9, nameIndex := 406, descriptorIndex := 54, attributes := #[] }] 49 203 #[304, 306, 308] #[{ accessFlags := 25, nameIndex := 310, descriptorIndex := 194, attributes := #[] }, { accessFlags := 25, nameIndex := 312, descriptorIndex := 194, attributes := #[] }, { accessFlags := 25, nameIndex := 302, descriptorIndex := 303, attributes := #[] }, { accessFlags := 24, nameIndex := 19, descriptorIndex := 20, attributes := #[] }, { accessFlags := 24, nameIndex := 89, descriptorIndex := 86, attributes := #[] }, { accessFlags := 24, nameIndex := 85, descriptorIndex := 86, attributes := #[] }, { accessFlags := 18, nameIndex := 207, descriptorIndex := 194, attributes := #[] }, { accessFlags := 25, nameIndex := 316, descriptorIndex := 194, attributes := #[] }, { accessFlags := 25, nameIndex := 318, descriptorIndex := 194, attributes := #[] }, { accessFlags := 26, nameIndex := 320, descriptorIndex := 321, attributes := #[] }])
  fields := #[{ name := "MIN_VALUE", type := .int, accessFlags := 25, slot := 0, constantValue := 0 }, { name := "MAX_VALUE", type := .int, accessFlags := 25, slot := 1, constantValue := 0 }, { name := "TYPE", type := (.object "java/lang/Class"), accessFlags := 25, slot := 2, constantValue := 0 }, { name := "digits", type := (.array .char), accessFlags := 24, slot := 3, constantValue := 0 }, { name := "DigitTens", type := (.array .byte), accessFlags := 24, slot := 4, constantValue := 0 }, { name := "DigitOnes", type := (.array .byte), accessFlags := 24, slot := 5, constantValue := 0 }, { name := "value", type := .int, accessFlags := 18, slot := 0, constantValue := 0 }, { name := "SIZE", type := .int, accessFlags := 25, slot := 6, constantValue := 0 }, { name := "BYTES", type := .int, accessFlags := 25, slot := 7, constantValue := 0 }, { name := "serialVersionUID", type := .long, accessFlags := 26, slot := 8, constantValue := 0 }]
  methods := #[k8m0, k8m1]
  instanceTypes := #[.int]
  staticTypes := #[.int, .int, (.object "java/lang/Class"), (.array .char), (.array .byte), (.array .byte), .int, .int, .long]
  resolved := Array.replicate 453 none
  statics := none }

def pool9 : Array CpInfo := pool [(2, .class_ 4), (1, u "java/lang/Object"), (0, u "<init>"), (0, u "()V"), (1, .class_ 10), (1, u "java/lang/System"), (0, u "allowSecurityManager"), (0, u "I"), (16, u "cons"), (0, u "Ljava/io/Console;"), (77, .class_ 110), (1, u "java/lang/System$CallersHolder"), (43, u "initialErrStream"), (0, u "Ljava/io/PrintStream;"), (19, u "security"), (0, u "Ljava/lang/SecurityManager;"), (31, .class_ 209), (0, u "java/lang/System$1"), (7, u "props"), (0, u "Ljava/util/Properties;"), (2, u "lineSeparator"), (0, u "Ljava/lang/String;"), (96, .class_ 321), (1, u "java/lang/System$LoggerFinder"), (5, .class_ 328), (0, u "java/lang/System$Logger"), (67, u "err"), (2, u "out"), (91, u "notSupportedJnuEncoding"), (15, u "in"), (17, u "initialIn"), (0, u "Ljava/io/InputStream;"), (35, u "bootLayer"), (0, u "Ljava/lang/ModuleLayer;"), (99, .class_ 664), (0, u "java/lang/System$2"), (9, u "NEVER"), (2, u "MAYBE"), (49, u "arraycopy"), (0, u "(Ljava/lang/Object;ILjava/lang/Object;II)V"), (72, .class_ 802), (0, u "java/lang/System$Logger$Level")] 31

def k9m0 : Method := { name := "<init>", desc := "()V", sig := { parameters := [], returnType := none }, accessFlags := 2, code := none }
def k9m1 : Method := { name := "arraycopy", desc := "(Ljava/lang/Object;ILjava/lang/Object;II)V", sig := { parameters := [(.object "java/lang/Object"), .int, (.object "java/lang/Object"), .int, .int], returnType := none }, accessFlags := 265, code := none }
/-- java/lang/System -/
def k9 : Class := { plain "java/lang/System" (some 0) with
  accessFlags := 49
  interfaces := #[]
  cf := some (fileOf pool9 8 #[.nestMembers #[319, 327, 801, 108, 663, 208]] #[{ accessFlags := 2, nameIndex := 5, descriptorIndex := 6, attributes := #[] }, { accessFlags := 265, nameIndex := 727, descriptorIndex := 728, attributes := #[] }] 49 2 #[] #[{ accessFlags := 25, nameIndex := 507, descriptorIndex := 526, attributes := #[] }, { accessFlags := 25, nameIndex := 399, descriptorIndex := 155, attributes := #[] }, { accessFlags := 25, nameIndex := 396, descriptorIndex := 155, attributes := #[] }, { accessFlags := 10, nameIndex := 525, descriptorIndex := 526, attributes := #[] }, { accessFlags := 26, nameIndex := 674, descriptorIndex := 12, attributes := #[] }, { accessFlags := 26, nameIndex := 677, descriptorIndex := 12, attributes := #[] }, { accessFlags := 10, nameIndex := 11, descriptorIndex := 12, attributes := #[] }, { accessFlags := 74, nameIndex := 175, descriptorIndex := 176, attributes := #[] }, { accessFlags := 10, nameIndex := 491, descriptorIndex := 222, attributes := #[] }, { accessFlags := 74, nameIndex := 29, descriptorIndex := 30, attributes := #[] }, { accessFlags := 74, nameIndex := 154, descriptorIndex := 155, attributes := #[] }, { accessFlags := 10, nameIndex := 217, descriptorIndex := 218, attributes := #[] }, { accessFlags := 10, nameIndex := 221, descriptorIndex := 222, attributes := #[] }, { accessFlags := 8, nameIndex := 562, descriptorIndex := 563, attributes := #[] }])
  fields := #[{ name := "in", type := (.object "java/io/InputStream"), accessFlags := 25, slot := 0, constantValue := 0 }, { name := "out", type := (.object "java/io/PrintStream"), accessFlags := 25, slot := 1, constantValue := 0 }, { name := "err", type := (.object "java/io/PrintStream"), accessFlags := 25, slot := 2, constantValue := 0 }, { name := "initialIn", type := (.object "java/io/InputStream"), accessFlags := 10, slot := 3, constantValue := 0 }, { name := "NEVER", type := .int, accessFlags := 26, slot := 4, constantValue := 0 }, { name := "MAYBE", type := .int, accessFlags := 26, slot := 5, constantValue := 0 }, { name := "allowSecurityManager", type := .int, accessFlags := 10, slot := 6, constantValue := 0 }, { name := "security", type := (.object "java/lang/SecurityManager"), accessFlags := 74, slot := 7, constantValue := 0 }, { name := "notSupportedJnuEncoding", type := (.object "java/lang/String"), accessFlags := 10, slot := 8, constantValue := 0 }, { name := "cons", type := (.object "java/io/Console"), accessFlags := 74, slot := 9, constantValue := 0 }, { name := "initialErrStream", type := (.object "java/io/PrintStream"), accessFlags := 74, slot := 10, constantValue := 0 }, { name := "props", type := (.object "java/util/Properties"), accessFlags := 10, slot := 11, constantValue := 0 }, { name := "lineSeparator", type := (.object "java/lang/String"), accessFlags := 10, slot := 12, constantValue := 0 }, { name := "bootLayer", type := (.object "java/lang/ModuleLayer"), accessFlags := 8, slot := 13, constantValue := 0 }]
  methods := #[k9m0, k9m1]
  instanceTypes := #[]
  staticTypes := #[(.object "java/io/InputStream"), (.object "java/io/PrintStream"), (.object "java/io/PrintStream"), (.object "java/io/InputStream"), .int, .int, .int, (.object "java/lang/SecurityManager"), (.object "java/lang/String"), (.object "java/io/Console"), (.object "java/io/PrintStream"), (.object "java/util/Properties"), (.object "java/lang/String"), (.object "java/lang/ModuleLayer")]
  resolved := Array.replicate 834 none
  statics := none }

def pool10 : Array CpInfo := pool [(2, .class_ 4), (1, u "java/lang/Object"), (0, u "<init>"), (0, u "()V"), (7, .class_ 16), (1, u "java/util/Arrays"), (57, .class_ 76), (1, u "java/util/Arrays$NaturalOrder"), (36, .class_ 115), (1, u "java/util/Arrays$LegacyMergeSort"), (1, u "Z"), (257, .class_ 376), (0, u "java/util/Arrays$ArrayList"), (68, u "$assertionsDisabled"), (269, u "MIN_ARRAY_SORT_GRAN"), (0, u "I"), (2, u "INSERTIONSORT_THRESHOLD"), (120, u "fill"), (0, u "([JJ)V"), (133, .class_ 976), (0, u "java/util/Arrays$ArrayItr")] 52

def k10m0 : Method := { name := "<init>", desc := "()V", sig := { parameters := [], returnType := none }, accessFlags := 2, code := none }
def k10c1 : Code := { maxStack := 4, maxLocals := 5, code := jdk_65_method_101_code, exceptionTable := #[], attributes := #[] }
def k10m1 : Method := { name := "fill", desc := "([JJ)V", sig := { parameters := [(.array .long), .long], returnType := none }, accessFlags := 9, code := some k10c1 }
/-- java/util/Arrays -/
def k10 : Class := { plain "java/util/Arrays" (some 0) with
  accessFlags := 49
  interfaces := #[]
  cf := some (fileOf pool10 14 #[.nestMembers #[975, 375, 113, 74]] #[{ accessFlags := 2, nameIndex := 5, descriptorIndex := 6, attributes := #[] }, { accessFlags := 9, nameIndex := 840, descriptorIndex := 841, attributes := #[] }] 49 2 #[] #[{ accessFlags := 26, nameIndex := 715, descriptorIndex := 716, attributes := #[] }, { accessFlags := 26, nameIndex := 719, descriptorIndex := 716, attributes := #[] }, { accessFlags := 4120, nameIndex := 445, descriptorIndex := 117, attributes := #[] }])
  fields := #[{ name := "MIN_ARRAY_SORT_GRAN", type := .int, accessFlags := 26, slot := 0, constantValue := 0 }, { name := "INSERTIONSORT_THRESHOLD", type := .int, accessFlags := 26, slot := 1, constantValue := 0 }, { name := "$assertionsDisabled", type := .boolean, accessFlags := 4120, slot := 2, constantValue := 0 }]
  methods := #[k10m0, k10m1]
  instanceTypes := #[]
  staticTypes := #[.int, .int, .boolean]
  resolved := Array.replicate 1029 none
  statics := none }

def pool11 : Array CpInfo := pool [(8, .class_ 10), (1, u "java/lang/Iterable"), (24, .class_ 36), (0, u "java/lang/Object")] 25

/-- java/lang/Iterable -/
def k11 : Class := { plain "java/lang/Iterable" (some 0) with
  accessFlags := 1537
  interfaces := #[]
  cf := some (fileOf pool11 8 #[] #[] 1537 35 #[] #[])
  fields := #[]
  methods := #[]
  instanceTypes := #[]
  staticTypes := #[]
  resolved := Array.replicate 62 none
  statics := none }

def pool12 : Array CpInfo := pool [(10, .class_ 12), (1, u "java/util/Collection"), (47, .class_ 61), (0, u "java/lang/Object"), (0, .class_ 63), (0, u "java/lang/Iterable")] 51

/-- java/util/Collection -/
def k12 : Class := { plain "java/util/Collection" (some 0) with
  accessFlags := 1537
  interfaces := #[11]
  cf := some (fileOf pool12 10 #[] #[] 1537 60 #[62] #[])
  fields := #[]
  methods := #[]
  instanceTypes := #[]
  staticTypes := #[]
  resolved := Array.replicate 115 none
  statics := none }

def pool13 : Array CpInfo := pool [(1, .methodref 2 3), (0, .class_ 4), (0, .nameAndType 5 6), (0, u "java/lang/Object"), (0, u "<init>"), (0, u "()V"), (1, .class_ 10), (1, u "java/util/AbstractCollection"), (66, .class_ 78), (0, u "java/util/Collection")] 81

def k13c0 : Code := { maxStack := 1, maxLocals := 1, code := jdk_22_method_1_code, exceptionTable := #[], attributes := #[] }
def k13m0 : Method := { name := "<init>", desc := "()V", sig := { parameters := [], returnType := none }, accessFlags := 4, code := some k13c0 }
/-- java/util/AbstractCollection -/
def k13 : Class := { plain "java/util/AbstractCollection" (some 0) with
  accessFlags := 1057
  interfaces := #[12]
  cf := some (fileOf pool13 8 #[] #[{ accessFlags := 4, nameIndex := 5, descriptorIndex := 6, attributes := #[] }] 1057 2 #[77] #[])
  fields := #[]
  methods := #[k13m0]
  instanceTypes := #[]
  staticTypes := #[]
  resolved := Array.replicate 160 none
  statics := none }

def pool14 : Array CpInfo := pool [(8, .class_ 10), (1, u "java/util/SequencedCollection"), (15, .class_ 27), (0, u "java/lang/Object"), (0, .class_ 29), (0, u "java/util/Collection")] 27

/-- java/util/SequencedCollection -/
def k14 : Class := { plain "java/util/SequencedCollection" (some 0) with
  accessFlags := 1537
  interfaces := #[12]
  cf := some (fileOf pool14 8 #[] #[] 1537 26 #[28] #[])
  fields := #[]
  methods := #[]
  instanceTypes := #[]
  staticTypes := #[]
  resolved := Array.replicate 57 none
  statics := none }

def pool15 : Array CpInfo := pool [(8, .class_ 10), (1, u "java/util/List"), (49, u "add"), (3, u "(Ljava/lang/Object;)Z"), (10, u "get"), (0, u "(I)Ljava/lang/Object;"), (2, u "size"), (0, u "()I"), (22, .class_ 104), (0, u "java/lang/Object"), (15, .class_ 121), (0, u "java/util/SequencedCollection")] 129

def k15m0 : Method := { name := "size", desc := "()I", sig := { parameters := [], returnType := some .int }, accessFlags := 1025, code := none }
def k15m1 : Method := { name := "add", desc := "(Ljava/lang/Object;)Z", sig := { parameters := [(.object "java/lang/Object")], returnType := some .boolean }, accessFlags := 1025, code := none }
def k15m2 : Method := { name := "get", desc := "(I)Ljava/lang/Object;", sig := { parameters := [.int], returnType := some (.object "java/lang/Object") }, accessFlags := 1025, code := none }
/-- java/util/List -/
def k15 : Class := { plain "java/util/List" (some 0) with
  accessFlags := 1537
  interfaces := #[14]
  cf := some (fileOf pool15 8 #[] #[{ accessFlags := 1025, nameIndex := 79, descriptorIndex := 80, attributes := #[] }, { accessFlags := 1025, nameIndex := 60, descriptorIndex := 64, attributes := #[] }, { accessFlags := 1025, nameIndex := 75, descriptorIndex := 76, attributes := #[] }] 1537 103 #[120] #[])
  fields := #[]
  methods := #[k15m0, k15m1, k15m2]
  instanceTypes := #[]
  staticTypes := #[]
  resolved := Array.replicate 251 none
  statics := none }

def pool16 : Array CpInfo := pool [(1, .methodref 2 3), (0, .class_ 4), (0, .nameAndType 5 6), (0, u "java/util/AbstractCollection"), (0, u "<init>"), (0, u "()V"), (0, .fieldref 8 9), (0, .class_ 10), (0, .nameAndType 11 12), (0, u "java/util/AbstractList"), (0, u "modCount"), (0, u "I"), (64, .class_ 78), (0, u "java/util/AbstractList$Itr"), (3, .class_ 83), (0, u "java/util/AbstractList$ListItr"), (9, .class_ 94), (0, u "java/util/AbstractList$RandomAccessSubList"), (3, .class_ 99), (0, u "java/util/AbstractList$SubList"), (33, .class_ 134), (0, u "java/util/List"), (73, .class_ 209), (0, u "java/util/AbstractList$SubList$1"), (0, .class_ 211), (0, u "java/util/AbstractList$RandomAccessSpliterator")] 6

def k16c0 : Code := { maxStack := 2, maxLocals := 1, code := jdk_39_method_1_code, exceptionTable := #[], attributes := #[] }
def k16m0 : Method := { name := "<init>", desc := "()V", sig := { parameters := [], returnType := none }, accessFlags := 4, code := some k16c0 }
/-- java/util/AbstractList -/
def k16 : Class := { plain "java/util/AbstractList" (some 13) with
  accessFlags := 1057
  interfaces := #[15]
  cf := some (fileOf pool16 8 #[.nestMembers #[93, 98, 208, 210, 82, 77]] #[{ accessFlags := 4, nameIndex := 5, descriptorIndex := 6, attributes := #[] }] 1057 2 #[133] #[{ accessFlags := 132, nameIndex := 11, descriptorIndex := 12, attributes := #[] }])
  fields := #[{ name := "modCount", type := .int, accessFlags := 132, slot := 0, constantValue := 0 }]
  methods := #[k16m0]
  instanceTypes := #[.int]
  staticTypes := #[]
  resolved := Array.replicate 218 none
  statics := none }

def pool17 : Array CpInfo := pool [(1, .class_ 2), (0, u "java/util/RandomAccess"), (0, .class_ 4), (0, u "java/lang/Object")] 2

/-- java/util/RandomAccess -/
def k17 : Class := { plain "java/util/RandomAccess" (some 0) with
  accessFlags := 1537
  interfaces := #[]
  cf := some (fileOf pool17 1 #[] #[] 1537 3 #[] #[])
  fields := #[]
  methods := #[]
  instanceTypes := #[]
  staticTypes := #[]
  resolved := Array.replicate 7 none
  statics := none }

def pool18 : Array CpInfo := pool [(1, .class_ 2), (0, u "java/lang/Cloneable"), (0, .class_ 4), (0, u "java/lang/Object")] 2

/-- java/lang/Cloneable -/
def k18 : Class := { plain "java/lang/Cloneable" (some 0) with
  accessFlags := 1537
  interfaces := #[]
  cf := some (fileOf pool18 1 #[] #[] 1537 3 #[] #[])
  fields := #[]
  methods := #[]
  instanceTypes := #[]
  staticTypes := #[]
  resolved := Array.replicate 7 none
  statics := none }

def pool19 : Array CpInfo := pool [(1, .methodref 2 3), (0, .class_ 4), (0, .nameAndType 5 6), (0, u "java/util/AbstractList"), (0, u "<init>"), (0, u "()V"), (0, .class_ 8), (0, u "java/lang/Object"), (0, .fieldref 10 11), (0, .class_ 12), (0, .nameAndType 13 14), (0, u "java/util/ArrayList"), (0, u "elementData"), (0, u "[Ljava/lang/Object;"), (2, u "EMPTY_ELEMENTDATA"), (21, .fieldref 10 40), (0, .nameAndType 41 14), (0, u "DEFAULTCAPACITY_EMPTY_ELEMENTDATA"), (5, u "()[Ljava/lang/Object;"), (0, .fieldref 10 49), (0, .nameAndType 50 51), (0, u "size"), (0, u "I"), (11, .fieldref 10 64), (0, .nameAndType 65 51), (0, u "modCount"), (3, .methodref 10 70), (0, .nameAndType 71 72), (0, u "grow"), (0, u "(I)[Ljava/lang/Object;"), (6, .methodref 80 81), (0, .class_ 82), (0, .nameAndType 83 84), (0, u "java/lang/Math"), (0, u "max"), (0, u "(II)I"), (11, u "(Ljava/lang/Object;)Z"), (21, .methodref 119 120), (0, .class_ 121), (0, .nameAndType 122 84), (0, u "java/util/Objects"), (0, u "checkIndex"), (0, .methodref 10 124), (0, .nameAndType 13 125), (0, u "(I)Ljava/lang/Object;"), (3, .methodref 10 130), (0, .nameAndType 71 47), (0, .methodref 10 132), (0, .nameAndType 133 134), (0, u "add"), (0, u "(Ljava/lang/Object;[Ljava/lang/Object;I)V"), (13, .class_ 149), (0, u "java/util/List"), (36, u "()I"), (75, .class_ 263), (0, u "java/util/ArrayList$ListItr"), (3, .class_ 268), (0, u "java/util/ArrayList$Itr"), (7, .class_ 277), (0, u "java/util/ArrayList$SubList"), (12, .class_ 291), (0, u "java/util/ArrayList$ArrayListSpliterator"), (37, .class_ 330), (0, u "java/util/RandomAccess"), (0, .class_ 332), (0, u "java/lang/Cloneable"), (0, .class_ 334), (0, u "java/io/Serializable"), (0, u "serialVersionUID"), (0, u "J"), (3, u "DEFAULT_CAPACITY"), (40, u "get"), (118, .class_ 501), (0, u "java/util/ArrayList$SubList$2"), (0, .class_ 503), (0, u "java/util/ArrayList$SubList$1")] 5

def k19c0 : Code := { maxStack := 2, maxLocals := 1, code := jdk_38_method_2_code, exceptionTable := #[], attributes := #[] }
def k19m0 : Method := { name := "<init>", desc := "()V", sig := { parameters := [], returnType := none }, accessFlags := 1, code := some k19c0 }
def k19c1 : Code := { maxStack := 4, maxLocals := 4, code := jdk_38_method_6_code, exceptionTable := #[], attributes := #[] }
def k19m1 : Method := { name := "grow", desc := "(I)[Ljava/lang/Object;", sig := { parameters := [.int], returnType := some (.array (.object "java/lang/Object")) }, accessFlags := 2, code := some k19c1 }
def k19c2 : Code := { maxStack := 3, maxLocals := 1, code := jdk_38_method_7_code, exceptionTable := #[], attributes := #[] }
def k19m2 : Method := { name := "grow", desc := "()[Ljava/lang/Object;", sig := { parameters := [], returnType := some (.array (.object "java/lang/Object")) }, accessFlags := 2, code := some k19c2 }
def k19c3 : Code := { maxStack := 1, maxLocals := 1, code := jdk_38_method_8_code, exceptionTable := #[], attributes := #[] }
def k19m3 : Method := { name := "size", desc := "()I", sig := { parameters := [], returnType := some .int }, accessFlags := 1, code := some k19c3 }
def k19c4 : Code := { maxStack := 2, maxLocals := 2, code := jdk_38_method_18_code, exceptionTable := #[], attributes := #[] }
def k19m4 : Method := { name := "elementData", desc := "(I)Ljava/lang/Object;", sig := { parameters := [.int], returnType := some (.object "java/lang/Object") }, accessFlags := 0, code := some k19c4 }
def k19c5 : Code := { maxStack := 2, maxLocals := 2, code := jdk_38_method_20_code, exceptionTable := #[], attributes := #[] }
def k19m5 : Method := { name := "get", desc := "(I)Ljava/lang/Object;", sig := { parameters := [.int], returnType := some (.object "java/lang/Object") }, accessFlags := 1, code := some k19c5 }
def k19c6 : Code := { maxStack := 3, maxLocals := 4, code := jdk_38_method_24_code, exceptionTable := #[], attributes := #[] }
def k19m6 : Method := { name := "add", desc := "(Ljava/lang/Object;[Ljava/lang/Object;I)V", sig := { parameters := [(.object "java/lang/Object"), (.array (.object "java/lang/Object")), .int], returnType := none }, accessFlags := 2, code := some k19c6 }
def k19c7 : Code := { maxStack := 4, maxLocals := 2, code := jdk_38_method_25_code, exceptionTable := #[], attributes := #[] }
def k19m7 : Method := { name := "add", desc := "(Ljava/lang/Object;)Z", sig := { parameters := [(.object "java/lang/Object")], returnType := some .boolean }, accessFlags := 1, code := some k19c7 }
/-- java/util/ArrayList -/
def k19 : Class := { plain "java/util/ArrayList" (some 16) with
  accessFlags := 33
  interfaces := #[15, 17, 18, 3]
  cf := some (fileOf pool19 10 #[.nestMembers #[290, 276, 500, 502, 262, 267]] #[{ accessFlags := 1, nameIndex := 5, descriptorIndex := 6, attributes := #[] }, { accessFlags := 2, nameIndex := 71, descriptorIndex := 72, attributes := #[] }, { accessFlags := 2, nameIndex := 71, descriptorIndex := 47, attributes := #[] }, { accessFlags := 1, nameIndex := 50, descriptorIndex := 186, attributes := #[] }, { accessFlags := 0, nameIndex := 13, descriptorIndex := 125, attributes := #[] }, { accessFlags := 1, nameIndex := 381, descriptorIndex := 125, attributes := #[] }, { accessFlags := 2, nameIndex := 133, descriptorIndex := 134, attributes := #[] }, { accessFlags := 1, nameIndex := 133, descriptorIndex := 96, attributes := #[] }] 33 2 #[148, 329, 331, 333] #[{ accessFlags := 26, nameIndex := 335, descriptorIndex := 336, attributes := #[] }, { accessFlags := 26, nameIndex := 340, descriptorIndex := 51, attributes := #[] }, { accessFlags := 26, nameIndex := 17, descriptorIndex := 14, attributes := #[] }, { accessFlags := 26, nameIndex := 41, descriptorIndex := 14, attributes := #[] }, { accessFlags := 128, nameIndex := 13, descriptorIndex := 14, attributes := #[] }, { accessFlags := 2, nameIndex := 50, descriptorIndex := 51, attributes := #[] }])
  fields := #[{ name := "serialVersionUID", type := .long, accessFlags := 26, slot := 0, constantValue := 0 }, { name := "DEFAULT_CAPACITY", type := .int, accessFlags := 26, slot := 1, constantValue := 0 }, { name := "EMPTY_ELEMENTDATA", type := (.array (.object "java/lang/Object")), accessFlags := 26, slot := 2, constantValue := 0 }, { name := "DEFAULTCAPACITY_EMPTY_ELEMENTDATA", type := (.array (.object "java/lang/Object")), accessFlags := 26, slot := 3, constantValue := 0 }, { name := "elementData", type := (.array (.object "java/lang/Object")), accessFlags := 128, slot := 1, constantValue := 0 }, { name := "size", type := .int, accessFlags := 2, slot := 2, constantValue := 0 }]
  methods := #[k19m0, k19m1, k19m2, k19m3, k19m4, k19m5, k19m6, k19m7]
  instanceTypes := #[.int, (.array (.object "java/lang/Object")), .int]
  staticTypes := #[.long, .int, (.array (.object "java/lang/Object")), (.array (.object "java/lang/Object"))]
  resolved := Array.replicate 509 none
  statics := some 1 }

def pool20 : Array CpInfo := pool [(2, .class_ 4), (1, u "java/lang/Object"), (0, u "<init>"), (0, u "()V"), (1, .class_ 10), (1, u "java/util/List"), (4, .interfaceMethodref 8 16), (0, .nameAndType 17 18), (0, u "size"), (0, u "()I"), (0, .class_ 20), (0, u "java/util/Collections"), (63, u "r"), (0, u "Ljava/util/Random;"), (66, u "reverse"), (0, u "(Ljava/util/List;)V"), (12, .class_ 167), (0, u "java/util/Collections$UnmodifiableCollection"), (6, .class_ 175), (0, u "java/util/Collections$UnmodifiableSequencedCollection"), (6, .class_ 183), (0, u "java/util/Collections$UnmodifiableSet"), (6, .class_ 191), (0, u "java/util/Collections$UnmodifiableSequencedSet"), (6, .class_ 199), (0, u "java/util/Collections$UnmodifiableSortedSet"), (6, .class_ 207), (0, u "java/util/Collections$UnmodifiableNavigableSet"), (4, .class_ 213), (0, u "java/util/Collections$UnmodifiableList"), (1, .class_ 216), (0, u "java/util/Collections$UnmodifiableRandomAccessList"), (6, .class_ 224), (0, u "java/util/Collections$UnmodifiableMap"), (6, .class_ 232), (0, u "java/util/Collections$UnmodifiableSequencedMap"), (4, .class_ 238), (0, u "java/util/Collections$UnmodifiableSortedMap"), (6, .class_ 246), (0, u "java/util/Collections$UnmodifiableNavigableMap"), (3, .class_ 251), (0, u "java/util/Collections$SynchronizedCollection"), (4, .class_ 257), (0, u "java/util/Collections$SynchronizedSet"), (4, .class_ 263), (0, u "java/util/Collections$SynchronizedSortedSet"), (1, .class_ 266), (0, u "java/util/Collections$SynchronizedNavigableSet"), (1, .class_ 269), (0, u "java/util/Collections$SynchronizedRandomAccessList"), (1, .class_ 272), (0, u "java/util/Collections$SynchronizedList"), (5, .class_ 279), (0, u "java/util/Collections$SynchronizedMap"), (1, .class_ 282), (0, u "java/util/Collections$SynchronizedSortedMap"), (1, .class_ 285), (0, u "java/util/Collections$SynchronizedNavigableMap"), (1, .class_ 288), (0, u "java/util/Collections$CheckedCollection"), (11, .class_ 301), (0, u "java/util/Collections$CheckedQueue"), (3, .class_ 306), (0, u "java/util/Collections$CheckedSet"), (3, .class_ 311), (0, u "java/util/Collections$CheckedSortedSet"), (3, .class_ 316), (0, u "java/util/Collections$CheckedNavigableSet"), (3, .class_ 321), (0, u "java/util/Collections$CheckedRandomAccessList"), (3, .class_ 326), (0, u "java/util/Collections$CheckedList"), (1, .class_ 329), (0, u "java/util/Collections$CheckedMap"), (3, .class_ 334), (0, u "java/util/Collections$CheckedSortedMap"), (3, .class_ 339), (0, u "java/util/Collections$CheckedNavigableMap"), (4, .class_ 346), (1, u "java/util/Collections$EmptyIterator"), (3, .class_ 352), (1, u "java/util/Collections$EmptyListIterator"), (2, .class_ 357), (1, u "java/util/Collections$EmptyEnumeration"), (4, u "EMPTY_SET"), (0, u "Ljava/util/Set;"), (6, u "EMPTY_LIST"), (0, u "Ljava/util/List;"), (2, u "EMPTY_MAP"), (0, u "Ljava/util/Map;"), (4, .class_ 381), (0, u "java/util/Collections$SingletonSet"), (2, .class_ 385), (0, u "java/util/Collections$1"), (1, .class_ 388), (0, u "java/util/Collections$2"), (1, .class_ 391), (0, u "java/util/Collections$SingletonList"), (1, .class_ 394), (0, u "java/util/Collections$SingletonMap"), (22, .class_ 418), (0, u "java/util/Collections$CopiesList"), (4, .class_ 425), (1, u "java/util/Collections$ReverseComparator"), (8, .class_ 435), (0, u "java/util/Collections$ReverseComparator2"), (6, .class_ 443), (0, u "java/util/Collections$3"), (25, .class_ 470), (0, u "java/util/Collections$SetFromMap"), (2, .class_ 474), (0, u "java/util/Collections$SequencedSetFromMap"), (3, .class_ 479), (0, u "java/util/Collections$AsLIFOQueue"), (11, .class_ 492), (0, u "java/util/Collections$EmptySet"), (1, .class_ 495), (0, u "java/util/Collections$EmptyList"), (1, .class_ 498), (0, u "java/util/Collections$EmptyMap"), (1, u "BINARYSEARCH_THRESHOLD"), (0, u "I"), (2, u "REVERSE_THRESHOLD"), (1, u "SHUFFLE_THRESHOLD"), (1, u "FILL_THRESHOLD"), (1, u "ROTATE_THRESHOLD"), (1, u "COPY_THRESHOLD"), (1, u "REPLACEALL_THRESHOLD"), (1, u "INDEXOFSUBLIST_THRESHOLD"), (333, .class_ 851), (0, u "java/util/Collections$CheckedMap$CheckedEntrySet"), (0, .class_ 853), (0, u "java/util/Collections$CheckedMap$CheckedEntrySet$CheckedEntry"), (0, .class_ 855), (0, u "java/util/Collections$CheckedMap$CheckedEntrySet$1"), (0, .class_ 857), (0, u "java/util/Collections$CheckedList$1"), (0, .class_ 859), (0, u "java/util/Collections$CheckedCollection$1"), (0, .class_ 861), (0, u "java/util/Collections$UnmodifiableNavigableMap$EmptyNavigableMap"), (0, .class_ 863), (0, u "java/util/Collections$UnmodifiableMap$UnmodifiableEntrySet"), (0, .class_ 865), (0, u "java/util/Collections$UnmodifiableMap$UnmodifiableEntrySet$UnmodifiableEntry"), (0, .class_ 867), (0, u "java/util/Collections$UnmodifiableMap$UnmodifiableEntrySet$UnmodifiableEntrySetSpliterator"), (0, .class_ 869), (0, u "java/util/Collections$UnmodifiableMap$UnmodifiableEntrySet$1"), (0, .class_ 871), (0, u "java/util/Collections$UnmodifiableList$1"), (0, .class_ 873), (0, u "java/util/Collections$UnmodifiableNavigableSet$EmptyNavigableSet"), (0, .class_ 875), (0, u "java/util/Collections$UnmodifiableCollection$1")] 57

def k20m0 : Method := { name := "<init>", desc := "()V", sig := { parameters := [], returnType := none }, accessFlags := 2, code := none }
def k20c1 : Code := { maxStack := 3, maxLocals := 7, code := jdk_79_method_11_code, exceptionTable := #[], attributes := #[] }
def k20m1 : Method := { name := "reverse", desc := "(Ljava/util/List;)V", sig := { parameters := [(.object "java/util/List")], returnType := none }, accessFlags := 9, code := some k20c1 }
/-- java/util/Collections -/
def k20 : Class := { plain "java/util/Collections" (some 0) with
  accessFlags := 33
  interfaces := #[]
  cf := some (fileOf pool20 19 #[.nestMembers #[478, 473, 469, 434, 423, 417, 393, 390, 380, 497, 494, 491, 355, 350, 344, 338, 333, 328, 850, 852, 854, 320, 325, 856, 315, 310, 305, 300, 287, 858, 284, 281, 278, 268, 271, 265, 262, 256, 250, 245, 860, 237, 231, 223, 862, 864, 866, 868, 215, 212, 870, 206, 872, 198, 190, 182, 174, 166, 874, 442, 387, 384]] #[{ accessFlags := 2, nameIndex := 5, descriptorIndex := 6, attributes := #[] }, { accessFlags := 9, nameIndex := 152, descriptorIndex := 153, attributes := #[] }] 33 2 #[] #[{ accessFlags := 26, nameIndex := 500, descriptorIndex := 501, attributes := #[] }, { accessFlags := 26, nameIndex := 504, descriptorIndex := 501, attributes := #[] }, { accessFlags := 26, nameIndex := 506, descriptorIndex := 501, attributes := #[] }, { accessFlags := 26, nameIndex := 508, descriptorIndex := 501, attributes := #[] }, { accessFlags := 26, nameIndex := 510, descriptorIndex := 501, attributes := #[] }, { accessFlags := 26, nameIndex := 512, descriptorIndex := 501, attributes := #[] }, { accessFlags := 26, nameIndex := 514, descriptorIndex := 501, attributes := #[] }, { accessFlags := 26, nameIndex := 516, descriptorIndex := 501, attributes := #[] }, { accessFlags := 10, nameIndex := 84, descriptorIndex := 85, attributes := #[] }, { accessFlags := 25, nameIndex := 362, descriptorIndex := 363, attributes := #[] }, { accessFlags := 25, nameIndex := 370, descriptorIndex := 371, attributes := #[] }, { accessFlags := 25, nameIndex := 374, descriptorIndex := 375, attributes := #[] }])
  fields := #[{ name := "BINARYSEARCH_THRESHOLD", type := .int, accessFlags := 26, slot := 0, constantValue := 0 }, { name := "REVERSE_THRESHOLD", type := .int, accessFlags := 26, slot := 1, constantValue := 0 }, { name := "SHUFFLE_THRESHOLD", type := .int, accessFlags := 26, slot := 2, constantValue := 0 }, { name := "FILL_THRESHOLD", type := .int, accessFlags := 26, slot := 3, constantValue := 0 }, { name := "ROTATE_THRESHOLD", type := .int, accessFlags := 26, slot := 4, constantValue := 0 }, { name := "COPY_THRESHOLD", type := .int, accessFlags := 26, slot := 5, constantValue := 0 }, { name := "REPLACEALL_THRESHOLD", type := .int, accessFlags := 26, slot := 6, constantValue := 0 }, { name := "INDEXOFSUBLIST_THRESHOLD", type := .int, accessFlags := 26, slot := 7, constantValue := 0 }, { name := "r", type := (.object "java/util/Random"), accessFlags := 10, slot := 8, constantValue := 0 }, { name := "EMPTY_SET", type := (.object "java/util/Set"), accessFlags := 25, slot := 9, constantValue := 0 }, { name := "EMPTY_LIST", type := (.object "java/util/List"), accessFlags := 25, slot := 10, constantValue := 0 }, { name := "EMPTY_MAP", type := (.object "java/util/Map"), accessFlags := 25, slot := 11, constantValue := 0 }]
  methods := #[k20m0, k20m1]
  instanceTypes := #[]
  staticTypes := #[.int, .int, .int, .int, .int, .int, .int, .int, (.object "java/util/Random"), (.object "java/util/Set"), (.object "java/util/List"), (.object "java/util/Map")]
  resolved := Array.replicate 933 none
  statics := none }

def pool21 : Array CpInfo := pool [(2, .class_ 4), (1, u "java/lang/Enum"), (0, u "name"), (0, u "Ljava/lang/String;"), (2, u "ordinal"), (0, u "I"), (1, .class_ 14), (1, u "java/lang/Object"), (4, u "hash"), (86, .class_ 108), (1, u "java/lang/Enum$EnumDesc"), (2, .class_ 112), (0, u "java/lang/constant/Constable"), (0, .class_ 114), (0, u "java/lang/Comparable"), (0, .class_ 116), (0, u "java/io/Serializable")] 87

/-- java/lang/Enum -/
def k21 : Class := { plain "java/lang/Enum" (some 0) with
  accessFlags := 1057
  interfaces := #[6, 5, 3]
  cf := some (fileOf pool21 2 #[.nestMembers #[106]] #[] 1057 12 #[111, 113, 115] #[{ accessFlags := 18, nameIndex := 5, descriptorIndex := 6, attributes := #[] }, { accessFlags := 18, nameIndex := 9, descriptorIndex := 10, attributes := #[] }, { accessFlags := 2, nameIndex := 19, descriptorIndex := 10, attributes := #[] }])
  fields := #[{ name := "name", type := (.object "java/lang/String"), accessFlags := 18, slot := 0, constantValue := 0 }, { name := "ordinal", type := .int, accessFlags := 18, slot := 1, constantValue := 0 }, { name := "hash", type := .int, accessFlags := 2, slot := 2, constantValue := 0 }]
  methods := #[]
  instanceTypes := #[(.object "java/lang/String"), .int, .int]
  staticTypes := #[]
  resolved := Array.replicate 204 none
  statics := none }

def pool22 : Array CpInfo := pool [(1, .class_ 2), (0, u "com/example/tileshift/tileshift/Move"), (2, u "U"), (0, u "Lcom/example/tileshift/tileshift/Move;"), (2, u "D"), (2, u "L"), (2, u "R"), (2, u "$VALUES"), (0, u "[Lcom/example/tileshift/tileshift/Move;"), (6, .class_ 28), (1, u "java/lang/Enum"), (8, u "rowStep"), (0, u "I"), (2, u "columnStep"), (105, u "QUOTED")] 55

/-- com/example/tileshift/tileshift/Move -/
def k22 : Class := { plain "com/example/tileshift/tileshift/Move" (some 21) with
  accessFlags := 16433
  interfaces := #[]
  cf := some (fileOf pool22 1 #[] #[] 16433 26 #[] #[{ accessFlags := 16409, nameIndex := 5, descriptorIndex := 6, attributes := #[] }, { accessFlags := 16409, nameIndex := 9, descriptorIndex := 6, attributes := #[] }, { accessFlags := 16409, nameIndex := 12, descriptorIndex := 6, attributes := #[] }, { accessFlags := 16409, nameIndex := 15, descriptorIndex := 6, attributes := #[] }, { accessFlags := 26, nameIndex := 147, descriptorIndex := 38, attributes := #[] }, { accessFlags := 18, nameIndex := 37, descriptorIndex := 38, attributes := #[] }, { accessFlags := 18, nameIndex := 41, descriptorIndex := 38, attributes := #[] }, { accessFlags := 4122, nameIndex := 18, descriptorIndex := 19, attributes := #[] }])
  fields := #[{ name := "U", type := (.object "com/example/tileshift/tileshift/Move"), accessFlags := 16409, slot := 0, constantValue := 0 }, { name := "D", type := (.object "com/example/tileshift/tileshift/Move"), accessFlags := 16409, slot := 1, constantValue := 0 }, { name := "L", type := (.object "com/example/tileshift/tileshift/Move"), accessFlags := 16409, slot := 2, constantValue := 0 }, { name := "R", type := (.object "com/example/tileshift/tileshift/Move"), accessFlags := 16409, slot := 3, constantValue := 0 }, { name := "QUOTED", type := .int, accessFlags := 26, slot := 4, constantValue := 0 }, { name := "rowStep", type := .int, accessFlags := 18, slot := 3, constantValue := 0 }, { name := "columnStep", type := .int, accessFlags := 18, slot := 4, constantValue := 0 }, { name := "$VALUES", type := (.array (.object "com/example/tileshift/tileshift/Move")), accessFlags := 4122, slot := 5, constantValue := 0 }]
  methods := #[]
  instanceTypes := #[(.object "java/lang/String"), .int, .int, .int, .int]
  staticTypes := #[(.object "com/example/tileshift/tileshift/Move"), (.object "com/example/tileshift/tileshift/Move"), (.object "com/example/tileshift/tileshift/Move"), (.object "com/example/tileshift/tileshift/Move"), .int, (.array (.object "com/example/tileshift/tileshift/Move"))]
  resolved := Array.replicate 203 none
  statics := some 2 }

def pool23 : Array CpInfo := pool [(1, .class_ 2), (0, u "java/lang/Math"), (1, .class_ 6), (1, u "java/lang/Object"), (0, u "<init>"), (0, u "()V"), (89, .class_ 100), (1, u "java/lang/Math$RandomNumberGeneratorHolder"), (71, u "negativeZeroFloatBits"), (0, u "J"), (2, u "negativeZeroDoubleBits"), (21, u "max"), (46, u "$assertionsDisabled"), (0, u "Z"), (88, u "(II)I"), (2, u "twoToTheDoubleScaleDown"), (0, u "D"), (4, u "twoToTheDoubleScaleUp"), (9, u "E"), (3, u "PI"), (2, u "TAU"), (2, u "DEGREES_TO_RADIANS"), (0, u "RADIANS_TO_DEGREES")] 94

def k23m0 : Method := { name := "<init>", desc := "()V", sig := { parameters := [], returnType := none }, accessFlags := 2, code := none }
def k23c1 : Code := { maxStack := 2, maxLocals := 2, code := jdk_29_method_65_code, exceptionTable := #[], attributes := #[] }
def k23m1 : Method := { name := "max", desc := "(II)I", sig := { parameters := [.int, .int], returnType := some .int }, accessFlags := 9, code := some k23c1 }
/-- java/lang/Math -/
def k23 : Class := { plain "java/lang/Math" (some 0) with
  accessFlags := 49
  interfaces := #[]
  cf := some (fileOf pool23 1 #[.nestMembers #[98]] #[{ accessFlags := 2, nameIndex := 7, descriptorIndex := 8, attributes := #[] }, { accessFlags := 9, nameIndex := 198, descriptorIndex := 335, attributes := #[] }] 49 4 #[] #[{ accessFlags := 25, nameIndex := 354, descriptorIndex := 339, attributes := #[] }, { accessFlags := 25, nameIndex := 358, descriptorIndex := 339, attributes := #[] }, { accessFlags := 25, nameIndex := 361, descriptorIndex := 339, attributes := #[] }, { accessFlags := 26, nameIndex := 364, descriptorIndex := 339, attributes := #[] }, { accessFlags := 26, nameIndex := 365, descriptorIndex := 339, attributes := #[] }, { accessFlags := 26, nameIndex := 172, descriptorIndex := 173, attributes := #[] }, { accessFlags := 26, nameIndex := 176, descriptorIndex := 173, attributes := #[] }, { accessFlags := 8, nameIndex := 344, descriptorIndex := 339, attributes := #[] }, { accessFlags := 8, nameIndex := 338, descriptorIndex := 339, attributes := #[] }, { accessFlags := 4120, nameIndex := 245, descriptorIndex := 246, attributes := #[] }])
  fields := #[{ name := "E", type := .double, accessFlags := 25, slot := 0, constantValue := 0 }, { name := "PI", type := .double, accessFlags := 25, slot := 1, constantValue := 0 }, { name := "TAU", type := .double, accessFlags := 25, slot := 2, constantValue := 0 }, { name := "DEGREES_TO_RADIANS", type := .double, accessFlags := 26, slot := 3, constantValue := 0 }, { name := "RADIANS_TO_DEGREES", type := .double, accessFlags := 26, slot := 4, constantValue := 0 }, { name := "negativeZeroFloatBits", type := .long, accessFlags := 26, slot := 5, constantValue := 0 }, { name := "negativeZeroDoubleBits", type := .long, accessFlags := 26, slot := 6, constantValue := 0 }, { name := "twoToTheDoubleScaleUp", type := .double, accessFlags := 8, slot := 7, constantValue := 0 }, { name := "twoToTheDoubleScaleDown", type := .double, accessFlags := 8, slot := 8, constantValue := 0 }, { name := "$assertionsDisabled", type := .boolean, accessFlags := 4120, slot := 9, constantValue := 0 }]
  methods := #[k23m0, k23m1]
  instanceTypes := #[]
  staticTypes := #[.double, .double, .double, .double, .double, .long, .long, .double, .double, .boolean]
  resolved := Array.replicate 460 none
  statics := none }

def pool24 : Array CpInfo := pool [(2, .class_ 4), (1, u "java/lang/Object"), (0, u "<init>"), (0, u "()V"), (35, .class_ 44), (1, u "java/util/Objects"), (60, .methodref 106 107), (0, .class_ 108), (0, .nameAndType 109 110), (0, u "jdk/internal/util/Preconditions"), (0, u "checkIndex"), (0, u "(IILjava/util/function/BiFunction;)I"), (60, u "(II)I")] 12

def k24m0 : Method := { name := "<init>", desc := "()V", sig := { parameters := [], returnType := none }, accessFlags := 2, code := none }
def k24c1 : Code := { maxStack := 3, maxLocals := 2, code := jdk_31_method_17_code, exceptionTable := #[], attributes := #[] }
def k24m1 : Method := { name := "checkIndex", desc := "(II)I", sig := { parameters := [.int, .int], returnType := some .int }, accessFlags := 9, code := some k24c1 }
/-- java/util/Objects -/
def k24 : Class := { plain "java/util/Objects" (some 0) with
  accessFlags := 49
  interfaces := #[]
  cf := some (fileOf pool24 42 #[] #[{ accessFlags := 2, nameIndex := 5, descriptorIndex := 6, attributes := #[] }, { accessFlags := 9, nameIndex := 109, descriptorIndex := 171, attributes := #[] }] 49 2 #[] #[])
  fields := #[]
  methods := #[k24m0, k24m1]
  instanceTypes := #[]
  staticTypes := #[]
  resolved := Array.replicate 184 none
  statics := none }

def pool25 : Array CpInfo := pool [(2, .class_ 4), (1, u "java/lang/Object"), (0, u "<init>"), (0, u "()V"), (17, .class_ 26), (1, u "jdk/internal/util/Preconditions"), (6, u "checkIndex"), (21, .class_ 56), (0, u "jdk/internal/util/Preconditions$4"), (57, .class_ 115), (0, u "jdk/internal/util/Preconditions$1"), (7, u "SIOOBE_FORMATTER"), (0, u "Ljava/util/function/BiFunction;"), (0, .class_ 126), (0, u "jdk/internal/util/Preconditions$2"), (3, u "AIOOBE_FORMATTER"), (0, .class_ 132), (0, u "jdk/internal/util/Preconditions$3"), (3, u "IOOBE_FORMATTER"), (41, u "(IILjava/util/function/BiFunction;)I")] 15

def k25m0 : Method := { name := "<init>", desc := "()V", sig := { parameters := [], returnType := none }, accessFlags := 1, code := none }
def k25c1 : Code := { maxStack := 3, maxLocals := 3, code := jdk_41_method_11_code, exceptionTable := #[], attributes := #[] }
def k25m1 : Method := { name := "checkIndex", desc := "(IILjava/util/function/BiFunction;)I", sig := { parameters := [.int, .int, (.object "java/util/function/BiFunction")], returnType := some .int }, accessFlags := 9, code := some k25c1 }
/-- jdk/internal/util/Preconditions -/
def k25 : Class := { plain "jdk/internal/util/Preconditions" (some 0) with
  accessFlags := 33
  interfaces := #[]
  cf := some (fileOf pool25 24 #[.nestMembers #[55, 131, 125, 114]] #[{ accessFlags := 1, nameIndex := 5, descriptorIndex := 6, attributes := #[] }, { accessFlags := 9, nameIndex := 33, descriptorIndex := 178, attributes := #[] }] 33 2 #[] #[{ accessFlags := 25, nameIndex := 123, descriptorIndex := 124, attributes := #[] }, { accessFlags := 25, nameIndex := 130, descriptorIndex := 124, attributes := #[] }, { accessFlags := 25, nameIndex := 136, descriptorIndex := 124, attributes := #[] }])
  fields := #[{ name := "SIOOBE_FORMATTER", type := (.object "java/util/function/BiFunction"), accessFlags := 25, slot := 0, constantValue := 0 }, { name := "AIOOBE_FORMATTER", type := (.object "java/util/function/BiFunction"), accessFlags := 25, slot := 1, constantValue := 0 }, { name := "IOOBE_FORMATTER", type := (.object "java/util/function/BiFunction"), accessFlags := 25, slot := 2, constantValue := 0 }]
  methods := #[k25m0, k25m1]
  instanceTypes := #[]
  staticTypes := #[(.object "java/util/function/BiFunction"), (.object "java/util/function/BiFunction"), (.object "java/util/function/BiFunction")]
  resolved := Array.replicate 194 none
  statics := none }

/-- the primitive byte -/
def k26 : Class := { plain "byte" none with kind := .primitive 'B', accessFlags := 0x411 }
/-- [B -/
def k27 : Class := { plain "[B" (some 0) with kind := .array 26 .byte, interfaces := #[18, 3], accessFlags := 1041 }

/-- the primitive int -/
def k28 : Class := { plain "int" none with kind := .primitive 'I', accessFlags := 0x411 }
/-- [I -/
def k29 : Class := { plain "[I" (some 0) with kind := .array 28 .int, interfaces := #[18, 3], accessFlags := 1041 }

/-- the primitive long -/
def k30 : Class := { plain "long" none with kind := .primitive 'J', accessFlags := 0x411 }
/-- [J -/
def k31 : Class := { plain "[J" (some 0) with kind := .array 30 .long, interfaces := #[18, 3], accessFlags := 1041 }

/-- [Lcom/example/tileshift/tileshift/Move; -/
def k32 : Class := { plain "[Lcom/example/tileshift/tileshift/Move;" (some 0) with kind := .array 22 (.object "com/example/tileshift/tileshift/Move"), interfaces := #[18, 3], accessFlags := 1041 }

/-- [Ljava/lang/Object; -/
def k33 : Class := { plain "[Ljava/lang/Object;" (some 0) with kind := .array 0 (.object "java/lang/Object"), interfaces := #[18, 3], accessFlags := 1041 }

def heap : Heap := #[{ cls := 2, slots := #[.ref 3, .int 0, .int 0], vm := .statics 2 },
  { cls := 19, slots := #[.long 0, .int 0, .ref 8, .ref 9], vm := .statics 19 },
  { cls := 22, slots := #[.ref 4, .ref 5, .ref 6, .ref 7, .int 0, .null], vm := .statics 22 },
  { cls := 32, slots := #[.ref 4, .ref 5, .ref 6, .ref 7], vm := .none },
  { cls := 22, slots := #[.null, .int 0, .int 0, .int 0, .int 0], vm := .none },
  { cls := 22, slots := #[.null, .int 1, .int 0, .int 0, .int 0], vm := .none },
  { cls := 22, slots := #[.null, .int 2, .int 0, .int 0, .int 0], vm := .none },
  { cls := 22, slots := #[.null, .int 3, .int 0, .int 0, .int 0], vm := .none },
  { cls := 33, slots := #[], vm := .none },
  { cls := 33, slots := #[], vm := .none }]
def classes : Array Class := #[k0, k1, k2, k3, k4, k5, k6, k7, k8, k9, k10, k11, k12, k13, k14, k15, k16, k17, k18, k19, k20, k21, k22, k23, k24, k25, k26, k27, k28, k29, k30, k31, k32, k33]
def interned : List (Array UInt16 × Addr) := []
def slotsUsed : Nat := 37
def theMethod : MethodId := ⟨1, 2⟩
def args0 : Array Value := #[.int 5, .int 6, .int 7, .int 8]
def aboutOver (below : List Frame) : State where
  vm := { classes := classes, interned := interned.toArray }
  heap := heap
  slotsUsed := slotsUsed
  threads := #[{ frames := .invoking theMethod args0 :: below }]
def below0 : List Frame := [.native { method := ⟨0, 0⟩, args := #[] }]
def about1 : State := aboutOver below0
def p0 : Program := .bare "" "" ""
def e0 : Env := launch0.env 0 0 0
theorem w_frames : about1.frames = Frame.invoking theMethod args0 :: below0 := rfl
set_option maxRecDepth 65536 in
theorem w_args : argsFit about1.vm theMethod args0 = true := by decide +kernel
set_option maxRecDepth 65536 in
theorem w_heap : heapFits about1 = true := by decide +kernel
set_option maxRecDepth 65536 in
theorem w_runnable : about1.curStatus? = some .runnable := by decide +kernel
set_option maxRecDepth 65536 in
theorem w_alone : about1.alone = true := by decide +kernel
set_option maxRecDepth 65536 in
theorem w_named : about1.methodNamed? x = some theMethod := by decide +kernel
set_option maxRecDepth 65536 in
theorem w_hears : about1.hears theMethod below0 = true := by decide +kernel
set_option maxRecDepth 65536 in
theorem w_ripe : about1.ripe theMethod args0 below0 = true := by decide +kernel
theorem w_running : about1.status = .running := rfl
set_option maxRecDepth 65536 in
theorem w_room : about1.hasRoom e0.platform room_1 = true :=
  launch0.hasRoom_least _ room_1 (by decide +kernel) (by decide +kernel) (by decide +kernel) (by decide +kernel) (by decide +kernel) (by decide +kernel)
theorem allAtoms_all (ts : List Jvm.Cond) (a : Array Jvm.Value) (st : Jvm.State) : (allAtoms ts).before a st = ts.all (fun c => c.before a st) := by
  induction ts with
  | nil => rfl
  | cons c t ih =>
    show (Jvm.Cond.and c (allAtoms t)).before a st = _
    rw [Jvm.Cond.before_and, ih, List.all_cons]
def words1 : List Jvm.Cond := Jvm.Cond.code x code maxLocals ret :: tables_1
/-- a 'code' word, met by the world's own term for the bytes: nothing is compared byte by byte -/
theorem code_word {y : MethodName} {bytes : ByteArray} {mx : Nat} {rt : Option FieldType} {a : Array Value} {s : State} {m : MethodId} {meth : Method} {c : Code} (h1 : s.methodNamed? y = some m) (h2 : s.vm.method? m = some meth) (h3 : meth.code = some c) (h4 : c.code = bytes)
    (h5 : (c.maxLocals == mx && c.exceptionTable.isEmpty && decide (c.maxStack ≤ mostOperands) && decide (meth.sig.returnType = rt) && !meth.locks && decide (parseMethodDescriptor y.desc = some meth.sig)) = true) : (Jvm.Cond.code y bytes mx rt).before a s = true := by
  simp only [Bool.and_eq_true, beq_iff_eq, Bool.not_eq_true', decide_eq_true_eq] at h5
  obtain ⟨⟨⟨⟨⟨g1, g2⟩, g3⟩, g4⟩, g5⟩, g6⟩ := h5
  simp [Cond.before, Cond.holds, Cond.value, h1, h2, h3, h4, g1, g2, g3, g4, g5, g6]
def isCode : Jvm.Cond → Bool
  | .code _ _ _ _ => true
  | _ => false
theorem all_split {L : List Jvm.Cond} {P : Jvm.Cond → Bool} (h1 : L.all (fun c => isCode c || P c) = true) (h2 : ∀ c ∈ L.filter isCode, P c = true) : L.all P = true := by
  refine List.all_eq_true.mpr fun c hc => ?_
  have h := List.all_eq_true.mp h1 c hc
  rcases Bool.eq_false_or_eq_true (isCode c) with hi | hi
  · exact h2 c (List.mem_filter.mpr ⟨hc, hi⟩)
  · simpa [hi] using h
set_option maxRecDepth 65536 in
theorem w_c0 : (Jvm.Cond.code x code maxLocals ret).before args0 about1 = true := code_word (m := ⟨1, 2⟩) (meth := k1m2) (c := k1c2) (by decide +kernel) rfl rfl rfl (by decide +kernel)
set_option maxRecDepth 65536 in
theorem w_c1 : (Jvm.Cond.code ({ cls := "com/example/tileshift/tileshift/NodeTable", name := "<init>", desc := "(I)V" } : Jvm.MethodName) prog_40_method_1_code (4 : Nat) (Option.none : Option Jvm.ClassFile.FieldType)).before args0 about1 = true := code_word (m := ⟨2, 0⟩) (meth := k2m0) (c := k2c0) (by decide +kernel) rfl rfl rfl (by decide +kernel)
set_option maxRecDepth 65536 in
theorem w_c2 : (Jvm.Cond.code ({ cls := "java/lang/Object", name := "<init>", desc := "()V" } : Jvm.MethodName) object_method_1_code (1 : Nat) (Option.none : Option Jvm.ClassFile.FieldType)).before args0 about1 = true := code_word (m := ⟨0, 0⟩) (meth := k0m0) (c := k0c0) (by decide +kernel) rfl rfl rfl (by decide +kernel)
set_option maxRecDepth 65536 in
theorem w_c3 : (Jvm.Cond.code ({ cls := "java/lang/Integer", name := "numberOfLeadingZeros", desc := "(I)I" } : Jvm.MethodName) jdk_33_method_47_code (2 : Nat) (Option.some Jvm.ClassFile.FieldType.int)).before args0 about1 = true := code_word (m := ⟨8, 0⟩) (meth := k8m0) (c := k8c0) (by decide +kernel) rfl rfl rfl (by decide +kernel)
set_option maxRecDepth 65536 in
theorem w_c4 : (Jvm.Cond.code ({ cls := "java/lang/Integer", name := "numberOfTrailingZeros", desc := "(I)I" } : Jvm.MethodName) jdk_33_method_48_code (2 : Nat) (Option.some Jvm.ClassFile.FieldType.int)).before args0 about1 = true := code_word (m := ⟨8, 1⟩) (meth := k8m1) (c := k8c1) (by decide +kernel) rfl rfl rfl (by decide +kernel)
set_option maxRecDepth 65536 in
theorem w_c5 : (Jvm.Cond.code ({ cls := "com/example/tileshift/tileshift/NodeTable", name := "find", desc := "()I" } : Jvm.MethodName) prog_40_method_6_code (5 : Nat) (Option.some Jvm.ClassFile.FieldType.int)).before args0 about1 = true := code_word (m := ⟨2, 2⟩) (meth := k2m2) (c := k2c2) (by decide +kernel) rfl rfl rfl (by decide +kernel)
set_option maxRecDepth 65536 in
theorem w_c6 : (Jvm.Cond.code ({ cls := "com/example/tileshift/tileshift/NodeTable", name := "home", desc := "([JI)I" } : Jvm.MethodName) prog_40_method_13_code (6 : Nat) (Option.some Jvm.ClassFile.FieldType.int)).before args0 about1 = true := code_word (m := ⟨2, 7⟩) (meth := k2m7) (c := k2c7) (by decide +kernel) rfl rfl rfl (by decide +kernel)
set_option maxRecDepth 65536 in
theorem w_c7 : (Jvm.Cond.code ({ cls := "com/example/tileshift/tileshift/NodeTable", name := "add", desc := "(III)I" } : Jvm.MethodName) prog_40_method_8_code (5 : Nat) (Option.some Jvm.ClassFile.FieldType.int)).before args0 about1 = true := code_word (m := ⟨2, 3⟩) (meth := k2m3) (c := k2c3) (by decide +kernel) rfl rfl rfl (by decide +kernel)
set_option maxRecDepth 65536 in
theorem w_c8 : (Jvm.Cond.code ({ cls := "com/example/tileshift/tileshift/NodeTable", name := "keyOf", desc := "([B)V" } : Jvm.MethodName) prog_40_method_4_code (3 : Nat) (Option.none : Option Jvm.ClassFile.FieldType)).before args0 about1 = true := code_word (m := ⟨2, 1⟩) (meth := k2m1) (c := k2c1) (by decide +kernel) rfl rfl rfl (by decide +kernel)
set_option maxRecDepth 65536 in
theorem w_c9 : (Jvm.Cond.code ({ cls := "java/util/Arrays", name := "fill", desc := "([JJ)V" } : Jvm.MethodName) jdk_65_method_101_code (5 : Nat) (Option.none : Option Jvm.ClassFile.FieldType)).before args0 about1 = true := code_word (m := ⟨10, 1⟩) (meth := k10m1) (c := k10c1) (by decide +kernel) rfl rfl rfl (by decide +kernel)
set_option maxRecDepth 65536 in
theorem w_c10 : (Jvm.Cond.code ({ cls := "com/example/tileshift/tileshift/NodeTable", name := "reachedFrom", desc := "(III)V" } : Jvm.MethodName) prog_40_method_10_code (4 : Nat) (Option.none : Option Jvm.ClassFile.FieldType)).before args0 about1 = true := code_word (m := ⟨2, 5⟩) (meth := k2m5) (c := k2c5) (by decide +kernel) rfl rfl rfl (by decide +kernel)
set_option maxRecDepth 65536 in
theorem w_c11 : (Jvm.Cond.code ({ cls := "com/example/tileshift/tileshift/NodeTable", name := "path", desc := "(I)Ljava/util/List;" } : Jvm.MethodName) prog_40_method_12_code (4 : Nat) (Option.some (Jvm.ClassFile.FieldType.object "java/util/List"))).before args0 about1 = true := code_word (m := ⟨2, 6⟩) (meth := k2m6) (c := k2c6) (by decide +kernel) rfl rfl rfl (by decide +kernel)
set_option maxRecDepth 65536 in
theorem w_c12 : (Jvm.Cond.code ({ cls := "java/util/ArrayList", name := "<init>", desc := "()V" } : Jvm.MethodName) jdk_38_method_2_code (1 : Nat) (Option.none : Option Jvm.ClassFile.FieldType)).before args0 about1 = true := code_word (m := ⟨19, 0⟩) (meth := k19m0) (c := k19c0) (by decide +kernel) rfl rfl rfl (by decide +kernel)
set_option maxRecDepth 65536 in
theorem w_c13 : (Jvm.Cond.code ({ cls := "java/util/AbstractList", name := "<init>", desc := "()V" } : Jvm.MethodName) jdk_39_method_1_code (1 : Nat) (Option.none : Option Jvm.ClassFile.FieldType)).before args0 about1 = true := code_word (m := ⟨16, 0⟩) (meth := k16m0) (c := k16c0) (by decide +kernel) rfl rfl rfl (by decide +kernel)
set_option maxRecDepth 65536 in
theorem w_c14 : (Jvm.Cond.code ({ cls := "java/util/AbstractCollection", name := "<init>", desc := "()V" } : Jvm.MethodName) jdk_22_method_1_code (1 : Nat) (Option.none : Option Jvm.ClassFile.FieldType)).before args0 about1 = true := code_word (m := ⟨13, 0⟩) (meth := k13m0) (c := k13c0) (by decide +kernel) rfl rfl rfl (by decide +kernel)
set_option maxRecDepth 65536 in
theorem w_c15 : (Jvm.Cond.code ({ cls := "java/util/Collections", name := "reverse", desc := "(Ljava/util/List;)V" } : Jvm.MethodName) jdk_79_method_11_code (7 : Nat) (Option.none : Option Jvm.ClassFile.FieldType)).before args0 about1 = true := code_word (m := ⟨20, 1⟩) (meth := k20m1) (c := k20c1) (by decide +kernel) rfl rfl rfl (by decide +kernel)
set_option maxRecDepth 65536 in
theorem w_c16 : (Jvm.Cond.code ({ cls := "java/util/ArrayList", name := "size", desc := "()I" } : Jvm.MethodName) jdk_38_method_8_code (1 : Nat) (Option.some Jvm.ClassFile.FieldType.int)).before args0 about1 = true := code_word (m := ⟨19, 3⟩) (meth := k19m3) (c := k19c3) (by decide +kernel) rfl rfl rfl (by decide +kernel)
set_option maxRecDepth 65536 in
theorem w_c17 : (Jvm.Cond.code ({ cls := "com/example/tileshift/tileshift/NodeTable", name := "move", desc := "(I)I" } : Jvm.MethodName) prog_40_method_9_code (2 : Nat) (Option.some Jvm.ClassFile.FieldType.int)).before args0 about1 = true := code_word (m := ⟨2, 4⟩) (meth := k2m4) (c := k2c4) (by decide +kernel) rfl rfl rfl (by decide +kernel)
set_option maxRecDepth 65536 in
theorem w_c18 : (Jvm.Cond.code ({ cls := "java/util/ArrayList", name := "add", desc := "(Ljava/lang/Object;)Z" } : Jvm.MethodName) jdk_38_method_25_code (2 : Nat) (Option.some Jvm.ClassFile.FieldType.boolean)).before args0 about1 = true := code_word (m := ⟨19, 7⟩) (meth := k19m7) (c := k19c7) (by decide +kernel) rfl rfl rfl (by decide +kernel)
set_option maxRecDepth 65536 in
theorem w_c19 : (Jvm.Cond.code ({ cls := "java/util/ArrayList", name := "add", desc := "(Ljava/lang/Object;[Ljava/lang/Object;I)V" } : Jvm.MethodName) jdk_38_method_24_code (4 : Nat) (Option.none : Option Jvm.ClassFile.FieldType)).before args0 about1 = true := code_word (m := ⟨19, 6⟩) (meth := k19m6) (c := k19c6) (by decide +kernel) rfl rfl rfl (by decide +kernel)
set_option maxRecDepth 65536 in
theorem w_c20 : (Jvm.Cond.code ({ cls := "java/util/ArrayList", name := "grow", desc := "()[Ljava/lang/Object;" } : Jvm.MethodName) jdk_38_method_7_code (1 : Nat) (Option.some (Jvm.ClassFile.FieldType.array (Jvm.ClassFile.FieldType.object "java/lang/Object")))).before args0 about1 = true := code_word (m := ⟨19, 2⟩) (meth := k19m2) (c := k19c2) (by decide +kernel) rfl rfl rfl (by decide +kernel)
set_option maxRecDepth 65536 in
theorem w_c21 : (Jvm.Cond.code ({ cls := "java/util/ArrayList", name := "grow", desc := "(I)[Ljava/lang/Object;" } : Jvm.MethodName) jdk_38_method_6_code (4 : Nat) (Option.some (Jvm.ClassFile.FieldType.array (Jvm.ClassFile.FieldType.object "java/lang/Object")))).before args0 about1 = true := code_word (m := ⟨19, 1⟩) (meth := k19m1) (c := k19c1) (by decide +kernel) rfl rfl rfl (by decide +kernel)
set_option maxRecDepth 65536 in
theorem w_c22 : (Jvm.Cond.code ({ cls := "java/lang/Math", name := "max", desc := "(II)I" } : Jvm.MethodName) jdk_29_method_65_code (2 : Nat) (Option.some Jvm.ClassFile.FieldType.int)).before args0 about1 = true := code_word (m := ⟨23, 1⟩) (meth := k23m1) (c := k23c1) (by decide +kernel) rfl rfl rfl (by decide +kernel)
set_option maxRecDepth 65536 in
theorem w_c23 : (Jvm.Cond.code ({ cls := "java/util/ArrayList", name := "get", desc := "(I)Ljava/lang/Object;" } : Jvm.MethodName) jdk_38_method_20_code (2 : Nat) (Option.some (Jvm.ClassFile.FieldType.object "java/lang/Object"))).before args0 about1 = true := code_word (m := ⟨19, 5⟩) (meth := k19m5) (c := k19c5) (by decide +kernel) rfl rfl rfl (by decide +kernel)
set_option maxRecDepth 65536 in
theorem w_c24 : (Jvm.Cond.code ({ cls := "java/util/Objects", name := "checkIndex", desc := "(II)I" } : Jvm.MethodName) jdk_31_method_17_code (2 : Nat) (Option.some Jvm.ClassFile.FieldType.int)).before args0 about1 = true := code_word (m := ⟨24, 1⟩) (meth := k24m1) (c := k24c1) (by decide +kernel) rfl rfl rfl (by decide +kernel)
set_option maxRecDepth 65536 in
theorem w_c25 : (Jvm.Cond.code ({ cls := "jdk/internal/util/Preconditions", name := "checkIndex", desc := "(IILjava/util/function/BiFunction;)I" } : Jvm.MethodName) jdk_41_method_11_code (3 : Nat) (Option.some Jvm.ClassFile.FieldType.int)).before args0 about1 = true := code_word (m := ⟨25, 1⟩) (meth := k25m1) (c := k25c1) (by decide +kernel) rfl rfl rfl (by decide +kernel)
set_option maxRecDepth 65536 in
theorem w_c26 : (Jvm.Cond.code ({ cls := "java/util/ArrayList", name := "elementData", desc := "(I)Ljava/lang/Object;" } : Jvm.MethodName) jdk_38_method_18_code (2 : Nat) (Option.some (Jvm.ClassFile.FieldType.object "java/lang/Object"))).before args0 about1 = true := code_word (m := ⟨19, 4⟩) (meth := k19m4) (c := k19c4) (by decide +kernel) rfl rfl rfl (by decide +kernel)
set_option maxRecDepth 65536 in
theorem w_c27 : (Jvm.Cond.code ({ cls := "com/example/tileshift/tileshift/NodeTableReachedFromPinLaw", name := "moveOf", desc := "(I)Lcom/example/tileshift/tileshift/Move;" } : Jvm.MethodName) method_2_code (1 : Nat) (Option.some (Jvm.ClassFile.FieldType.object "com/example/tileshift/tileshift/Move"))).before args0 about1 = true := code_word (m := ⟨1, 1⟩) (meth := k1m1) (c := k1c1) (by decide +kernel) rfl rfl rfl (by decide +kernel)
def codes1 : List Jvm.Cond := [Jvm.Cond.code x code maxLocals ret, Jvm.Cond.code ({ cls := "com/example/tileshift/tileshift/NodeTable", name := "<init>", desc := "(I)V" } : Jvm.MethodName) prog_40_method_1_code (4 : Nat) (Option.none : Option Jvm.ClassFile.FieldType), Jvm.Cond.code ({ cls := "java/lang/Object", name := "<init>", desc := "()V" } : Jvm.MethodName) object_method_1_code (1 : Nat) (Option.none : Option Jvm.ClassFile.FieldType), Jvm.Cond.code ({ cls := "java/lang/Integer", name := "numberOfLeadingZeros", desc := "(I)I" } : Jvm.MethodName) jdk_33_method_47_code (2 : Nat) (Option.some Jvm.ClassFile.FieldType.int), Jvm.Cond.code ({ cls := "java/lang/Integer", name := "numberOfTrailingZeros", desc := "(I)I" } : Jvm.MethodName) jdk_33_method_48_code (2 : Nat) (Option.some Jvm.ClassFile.FieldType.int), Jvm.Cond.code ({ cls := "com/example/tileshift/tileshift/NodeTable", name := "find", desc := "()I" } : Jvm.MethodName) prog_40_method_6_code (5 : Nat) (Option.some Jvm.ClassFile.FieldType.int), Jvm.Cond.code ({ cls := "com/example/tileshift/tileshift/NodeTable", name := "home", desc := "([JI)I" } : Jvm.MethodName) prog_40_method_13_code (6 : Nat) (Option.some Jvm.ClassFile.FieldType.int), Jvm.Cond.code ({ cls := "com/example/tileshift/tileshift/NodeTable", name := "add", desc := "(III)I" } : Jvm.MethodName) prog_40_method_8_code (5 : Nat) (Option.some Jvm.ClassFile.FieldType.int), Jvm.Cond.code ({ cls := "com/example/tileshift/tileshift/NodeTable", name := "keyOf", desc := "([B)V" } : Jvm.MethodName) prog_40_method_4_code (3 : Nat) (Option.none : Option Jvm.ClassFile.FieldType), Jvm.Cond.code ({ cls := "java/util/Arrays", name := "fill", desc := "([JJ)V" } : Jvm.MethodName) jdk_65_method_101_code (5 : Nat) (Option.none : Option Jvm.ClassFile.FieldType), Jvm.Cond.code ({ cls := "com/example/tileshift/tileshift/NodeTable", name := "reachedFrom", desc := "(III)V" } : Jvm.MethodName) prog_40_method_10_code (4 : Nat) (Option.none : Option Jvm.ClassFile.FieldType), Jvm.Cond.code ({ cls := "com/example/tileshift/tileshift/NodeTable", name := "path", desc := "(I)Ljava/util/List;" } : Jvm.MethodName) prog_40_method_12_code (4 : Nat) (Option.some (Jvm.ClassFile.FieldType.object "java/util/List")), Jvm.Cond.code ({ cls := "java/util/ArrayList", name := "<init>", desc := "()V" } : Jvm.MethodName) jdk_38_method_2_code (1 : Nat) (Option.none : Option Jvm.ClassFile.FieldType), Jvm.Cond.code ({ cls := "java/util/AbstractList", name := "<init>", desc := "()V" } : Jvm.MethodName) jdk_39_method_1_code (1 : Nat) (Option.none : Option Jvm.ClassFile.FieldType), Jvm.Cond.code ({ cls := "java/util/AbstractCollection", name := "<init>", desc := "()V" } : Jvm.MethodName) jdk_22_method_1_code (1 : Nat) (Option.none : Option Jvm.ClassFile.FieldType), Jvm.Cond.code ({ cls := "java/util/Collections", name := "reverse", desc := "(Ljava/util/List;)V" } : Jvm.MethodName) jdk_79_method_11_code (7 : Nat) (Option.none : Option Jvm.ClassFile.FieldType), Jvm.Cond.code ({ cls := "java/util/ArrayList", name := "size", desc := "()I" } : Jvm.MethodName) jdk_38_method_8_code (1 : Nat) (Option.some Jvm.ClassFile.FieldType.int), Jvm.Cond.code ({ cls := "com/example/tileshift/tileshift/NodeTable", name := "move", desc := "(I)I" } : Jvm.MethodName) prog_40_method_9_code (2 : Nat) (Option.some Jvm.ClassFile.FieldType.int), Jvm.Cond.code ({ cls := "java/util/ArrayList", name := "add", desc := "(Ljava/lang/Object;)Z" } : Jvm.MethodName) jdk_38_method_25_code (2 : Nat) (Option.some Jvm.ClassFile.FieldType.boolean), Jvm.Cond.code ({ cls := "java/util/ArrayList", name := "add", desc := "(Ljava/lang/Object;[Ljava/lang/Object;I)V" } : Jvm.MethodName) jdk_38_method_24_code (4 : Nat) (Option.none : Option Jvm.ClassFile.FieldType), Jvm.Cond.code ({ cls := "java/util/ArrayList", name := "grow", desc := "()[Ljava/lang/Object;" } : Jvm.MethodName) jdk_38_method_7_code (1 : Nat) (Option.some (Jvm.ClassFile.FieldType.array (Jvm.ClassFile.FieldType.object "java/lang/Object"))), Jvm.Cond.code ({ cls := "java/util/ArrayList", name := "grow", desc := "(I)[Ljava/lang/Object;" } : Jvm.MethodName) jdk_38_method_6_code (4 : Nat) (Option.some (Jvm.ClassFile.FieldType.array (Jvm.ClassFile.FieldType.object "java/lang/Object"))), Jvm.Cond.code ({ cls := "java/lang/Math", name := "max", desc := "(II)I" } : Jvm.MethodName) jdk_29_method_65_code (2 : Nat) (Option.some Jvm.ClassFile.FieldType.int), Jvm.Cond.code ({ cls := "java/util/ArrayList", name := "get", desc := "(I)Ljava/lang/Object;" } : Jvm.MethodName) jdk_38_method_20_code (2 : Nat) (Option.some (Jvm.ClassFile.FieldType.object "java/lang/Object")), Jvm.Cond.code ({ cls := "java/util/Objects", name := "checkIndex", desc := "(II)I" } : Jvm.MethodName) jdk_31_method_17_code (2 : Nat) (Option.some Jvm.ClassFile.FieldType.int), Jvm.Cond.code ({ cls := "jdk/internal/util/Preconditions", name := "checkIndex", desc := "(IILjava/util/function/BiFunction;)I" } : Jvm.MethodName) jdk_41_method_11_code (3 : Nat) (Option.some Jvm.ClassFile.FieldType.int), Jvm.Cond.code ({ cls := "java/util/ArrayList", name := "elementData", desc := "(I)Ljava/lang/Object;" } : Jvm.MethodName) jdk_38_method_18_code (2 : Nat) (Option.some (Jvm.ClassFile.FieldType.object "java/lang/Object")), Jvm.Cond.code ({ cls := "com/example/tileshift/tileshift/NodeTableReachedFromPinLaw", name := "moveOf", desc := "(I)Lcom/example/tileshift/tileshift/Move;" } : Jvm.MethodName) method_2_code (1 : Nat) (Option.some (Jvm.ClassFile.FieldType.object "com/example/tileshift/tileshift/Move"))]
set_option maxRecDepth 65536 in
theorem codes_eq : words1.filter isCode = codes1 := rfl
theorem w_codes : ∀ c ∈ words1.filter isCode, c.before args0 about1 = true := by
  rw [codes_eq]
  intro c hc
  simp only [codes1, List.mem_cons, List.not_mem_nil, or_false] at hc
  rcases hc with rfl | rfl | rfl | rfl | rfl | rfl | rfl | rfl | rfl | rfl | rfl | rfl | rfl | rfl | rfl | rfl | rfl | rfl | rfl | rfl | rfl | rfl | rfl | rfl | rfl | rfl | rfl | rfl
  · exact w_c0
  · exact w_c1
  · exact w_c2
  · exact w_c3
  · exact w_c4
  · exact w_c5
  · exact w_c6
  · exact w_c7
  · exact w_c8
  · exact w_c9
  · exact w_c10
  · exact w_c11
  · exact w_c12
  · exact w_c13
  · exact w_c14
  · exact w_c15
  · exact w_c16
  · exact w_c17
  · exact w_c18
  · exact w_c19
  · exact w_c20
  · exact w_c21
  · exact w_c22
  · exact w_c23
  · exact w_c24
  · exact w_c25
  · exact w_c26
  · exact w_c27
set_option maxRecDepth 65536 in
theorem w_t1 : (words1.take 24).all (fun c => isCode c || c.before args0 about1) = true := by decide +kernel
set_option maxRecDepth 65536 in
theorem w_t2 : ((words1.drop 24).take 24).all (fun c => isCode c || c.before args0 about1) = true := by decide +kernel
set_option maxRecDepth 65536 in
theorem w_t3 : (((words1.drop 24).drop 24).take 24).all (fun c => isCode c || c.before args0 about1) = true := by decide +kernel
set_option maxRecDepth 65536 in
theorem w_t4 : ((((words1.drop 24).drop 24).drop 24).take 24).all (fun c => isCode c || c.before args0 about1) = true := by decide +kernel
set_option maxRecDepth 65536 in
theorem w_t5 : (((((words1.drop 24).drop 24).drop 24).drop 24).take 24).all (fun c => isCode c || c.before args0 about1) = true := by decide +kernel
set_option maxRecDepth 65536 in
theorem w_t6 : ((((((words1.drop 24).drop 24).drop 24).drop 24).drop 24).take 24).all (fun c => isCode c || c.before args0 about1) = true := by decide +kernel
set_option maxRecDepth 65536 in
theorem w_t7 : (((((((words1.drop 24).drop 24).drop 24).drop 24).drop 24).drop 24).take 24).all (fun c => isCode c || c.before args0 about1) = true := by decide +kernel
set_option maxRecDepth 65536 in
theorem w_t8 : ((((((((words1.drop 24).drop 24).drop 24).drop 24).drop 24).drop 24).drop 24).take 24).all (fun c => isCode c || c.before args0 about1) = true := by decide +kernel
set_option maxRecDepth 65536 in
theorem w_t9 : ((((((((words1.drop 24).drop 24).drop 24).drop 24).drop 24).drop 24).drop 24).drop 24).all (fun c => isCode c || c.before args0 about1) = true := by decide +kernel
theorem w_tables : (allAtoms (Jvm.Cond.code x code maxLocals ret :: tables_1)).before args0 about1 = true := by
  rw [allAtoms_all]
  show words1.all (fun c => c.before args0 about1) = true
  refine all_split ?_ w_codes
  rw [← List.take_append_drop 24 words1, List.all_append, w_t1, ← List.take_append_drop 24 (words1.drop 24), List.all_append, w_t2, ← List.take_append_drop 24 ((words1.drop 24).drop 24), List.all_append, w_t3, ← List.take_append_drop 24 (((words1.drop 24).drop 24).drop 24), List.all_append, w_t4, ← List.take_append_drop 24 ((((words1.drop 24).drop 24).drop 24).drop 24), List.all_append, w_t5, ← List.take_append_drop 24 (((((words1.drop 24).drop 24).drop 24).drop 24).drop 24), List.all_append, w_t6, ← List.take_append_drop 24 ((((((words1.drop 24).drop 24).drop 24).drop 24).drop 24).drop 24), List.all_append, w_t7, ← List.take_append_drop 24 (((((((words1.drop 24).drop 24).drop 24).drop 24).drop 24).drop 24).drop 24), List.all_append, w_t8, w_t9]
  rfl
set_option maxRecDepth 65536 in
theorem w_rest : rest_1_c.before args0 about1 = true := by decide +kernel
set_option maxRecDepth 65536 in
theorem w_case : (Jvm.Cond.and given_1 narrow_1).before args0 about1 = true := by decide +kernel
theorem w_applies : (headSpec (Jvm.Cond.code x code maxLocals ret :: tables_1) room_1).applies x e0.platform about1 = true :=
  (Spec.applies_iff w_frames).mpr ⟨w_running, w_runnable, w_alone, w_named, w_hears, w_ripe, w_room, w_tables⟩
theorem atStart : AtStart classFile x code maxLocals ret World_1 tables_1 room_1 Calls_1 rest_1 Pre_1 launch0 p0 e0 about1 theMethod args0 below0 :=
  ⟨lists_1, trivial, launch0.admits_env _ _ _, launch0.least_env, fairChoices_fair.cas, fairChoices_fair.clock, w_frames, w_args, w_heap, w_applies, trivial, w_rest, w_case⟩
end start1
theorem witness_1 : WitnessClaimed_1 := ⟨start1.p0, start1.e0, start1.about1, start1.theMethod, start1.args0, start1.below0, start1.atStart⟩
end Jvm.Pilot.@@N@@
