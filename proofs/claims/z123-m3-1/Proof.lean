import JvmDerived
import JvmDerived.Pilot.@@N@@Statement
import JvmDerived.Pilot.@@N@@Code
set_option linter.unusedVariables false
set_option linter.unusedSimpArgs false
namespace Jvm.RoadKit
open Sem ClassFile Op Lib Jvm.Stand Jvm.Free Jvm.LawKit
section New
variable {p : Program} {l : Launch} {e : Env} {R : Room} {s : State} {m : MethodId} {args : Array Value} {below : List Frame} {meth : Method} {c : Code} {T : State} {locs : List Loc} {cells slots : Nat}
theorem retI (X : Stand p l e R s m args below meth c T locs cells slots) (hx : p.tables.exec = Jvm.exec) {pc : Nat} {Ls : Array Slot} {z : Int32} {rest : List Value} (hret : meth.sig.returnType = some .int) (hd : decode c.code pc = .ok (.ireturn, 1)) {fs : List Frame}
    (hl : ∀ (f : JFrame) (acts : List Action), f.method = m → f.locked = none → f.entered = [] → (doReturn e (T.setTop f) acts (some (.int z))).1 = T.setFrames fs) : Steps p.tables e below (T.setTop (mkF m pc Ls (.int z :: rest))) (T.setFrames fs) := by
  have hm' : T.vm.method? m = some meth := X.method'
  have hn : narrow .int (.int z) = .int z := rfl
  show Steps p.tables e below (T.setTop { method := m, pc := pc, locals := Ls, stack := _ :: rest, locked := none }) _
  jvm_step X.here [X.here.top, hx, hd, hm', hret, hn]
  first | (intro acts; rw [hl _ acts rfl rfl rfl]) | rw [hl _ _ rfl rfl rfl]
  exact Steps.refl _
end New
end Jvm.RoadKit
namespace Jvm.Pilot.@@N@@
open Jvm Jvm.ClassFile Sem Op Lib Jvm.Free Jvm.Stand Jvm.LawKit Jvm.RoadKit Bundle Jvm.Pilot.@@N@@.Jvm.D
/-- whatever the machine reaches from (T', g') it reaches from (T, g) -/
def own_Go (p : Program) (e : Env) (below : List Frame) (T : State) (g : JFrame) (T' : State) (g' : JFrame) : Prop := ∀ t, Steps p.tables e below (T'.setTop g') t → Steps p.tables e below (T.setTop g) t
theorem own_Go.refl {p : Program} {e : Env} {below : List Frame} (T : State) (g : JFrame) : own_Go p e below T g T g := fun _ k => k
theorem own_Go.trans {p : Program} {e : Env} {below : List Frame} {T T' T'' : State} {g g' g'' : JFrame} (h : own_Go p e below T g T' g') (h' : own_Go p e below T' g' T'' g'') : own_Go p e below T g T'' g'' := fun tg_ kk_ => h tg_ (h' tg_ kk_)
/-! ## calls by their contracts, in one row each -/
section OwnCalls
variable {p : Program} {l : Launch} {e : Env} {R : Room} {s : State} {m : MethodId} {args : Array Value} {below : List Frame} {meth : Method} {c : Code} {T : State} {locs : List Loc} {cells slots : Nat} {Z : State} {a0 : Array Value} {h : Heap}
theorem own_callS (X : Stand p l e R s m args below meth c T locs cells slots) (hx : p.tables.exec = Jvm.exec) (hZ : Z.Warmed39 s.vm) {own : String} {index : Nat} {y : MethodName} {bytes : ByteArray} {maxL : Nat} {ret : Option FieldType} {rm : Room} {Q : Option Value → Heap → List Loc → Prop}
    (hown : s.vm.findClass own = some m.cls) (w1 : (Cond.methodLink own index y).before a0 Z = true) (w2 : (Cond.static y).before a0 Z = true) (w3 : (Cond.initialized y.cls).before a0 Z = true) (w4 : (Cond.code y bytes maxL ret).before a0 Z = true)
    (hy : y.cls ≠ "java/lang/invoke/MethodHandle" ∧ y.cls ≠ "java/lang/invoke/VarHandle") (W : Nat) {g : JFrame} (hg : g.method = m) (hsize : g.locals.size = c.maxLocals) (argsL rest : List Value)
    (hM : MetFree l y (head1 [Cond.code y bytes maxL ret] rm) (fun a U => a = argsL.toArray ∧ Z.Warmed39 U.vm ∧ U.heap = h) (fun _ _ _ _ _ => True) (fun _ U o U' => ∃ v L, o = .returned v ∧ Q v U'.heap L ∧ FrameEnd U o U' L rm.cells rm.slots))
    (hlen : ∀ sig, parseMethodDescriptor y.desc = some sig → argsL.length = sig.parameters.length) (hstack : g.stack = argsL.reverse ++ rest) (hW : 2 * g.monitorRoom + (rest.map fun v => v.category).sum ≤ W) (hd : decode c.code g.pc = .ok (.invokestatic index, 3))
    (hf : rm.frames + 1 ≤ R.frames) (hl : W + (maxL + 11) + rm.locals ≤ R.locals) (eT : T.heap = h) (hc : cells + rm.cells ≤ R.cells) (hs : slots + rm.slots ≤ R.slots) :
    ∃ (v : Option Value) (T' : State) (h' : Heap) (L : List Loc), Stand p l e R s m args below meth c T' (locs ++ L) (cells + rm.cells) (slots + rm.slots) ∧ T'.heap = h' ∧ Q v h' L ∧
      ∀ t, Steps p.tables e below (T'.setTop { g with pc := g.pc + 3, stack := v.toList ++ rest }) t → Steps p.tables e below (T.setTop g) t := by
  obtain ⟨v, _, ⟨T4, L4, k4, n4⟩, -, X4, ⟨Lc, hQ, l4, y4, z4⟩, st⟩ := Jvm.LawKit.callS X hx (y := y) hown (mvT hZ w1) (mvT hZ w2) (mvT hZ w3) (mvT hZ w4) hy (backOf (W := W) hM hZ w4 w3 hf hl) (g := g) hg hsize (argsL := argsL) (rest := rest) hlen hstack hW hd (fun _ _ => ⟨rfl, eT, hc, hs⟩)
  dsimp only [Pt.U, Pt.locs, Pt.cells, Pt.slots] at X4 l4 y4 z4 st hQ
  subst l4 y4 z4
  exact ⟨v, T4, _, Lc, X4, rfl, hQ, st⟩
theorem own_callI (X : Stand p l e R s m args below meth c T locs cells slots) (hx : p.tables.exec = Jvm.exec) (hZ : Z.Warmed39 s.vm) {own : String} {index : Nat} {y : MethodName} {bytes : ByteArray} {maxL : Nat} {rm : Room} {Q : Option Value → Heap → List Loc → Prop}
    (hy1 : y.name = "<init>") (hown : s.vm.findClass own = some m.cls) (w1 : (Cond.methodLink own index y).before a0 Z = true) (w2 : (Cond.instanceMethod y).before a0 Z = true) (w3 : (Cond.initialized y.cls).before a0 Z = true) (w4 : (Cond.code y bytes maxL none).before a0 Z = true)
    (hy : y.cls ≠ "java/lang/invoke/MethodHandle" ∧ y.cls ≠ "java/lang/invoke/VarHandle") (W : Nat) {g : JFrame} (hg : g.method = m) (hsize : g.locals.size = c.maxLocals) (a : Addr) (argsL rest : List Value)
    (hM : MetFree l y (head1 [Cond.code y bytes maxL none] rm) (fun a' U => a' = (.ref a :: argsL).toArray ∧ Z.Warmed39 U.vm ∧ U.heap = h) (fun _ _ _ _ _ => True) (fun _ U o U' => ∃ v L, o = .returned v ∧ Q v U'.heap L ∧ FrameEnd U o U' L rm.cells rm.slots))
    (hlen : ∀ sig, parseMethodDescriptor y.desc = some sig → argsL.length = sig.parameters.length) (hstack : g.stack = argsL.reverse ++ .ref a :: rest) (hW : 2 * g.monitorRoom + (rest.map fun v => v.category).sum ≤ W) (hd : decode c.code g.pc = .ok (.invokespecial index, 3))
    (hf : rm.frames + 1 ≤ R.frames) (hl : W + (maxL + 11) + rm.locals ≤ R.locals) (eT : T.heap = h) (hc : cells + rm.cells ≤ R.cells) (hs : slots + rm.slots ≤ R.slots) :
    ∃ (v : Option Value) (T' : State) (h' : Heap) (L : List Loc), Stand p l e R s m args below meth c T' (locs ++ L) (cells + rm.cells) (slots + rm.slots) ∧ T'.heap = h' ∧ Q v h' L ∧
      ∀ t, Steps p.tables e below (T'.setTop { g with pc := g.pc + 3, stack := v.toList ++ rest }) t → Steps p.tables e below (T.setTop g) t := by
  obtain ⟨v, _, ⟨T4, L4, k4, n4⟩, -, X4, ⟨Lc, hQ, l4, y4, z4⟩, st⟩ := X.specialBack hx (y := y) hy1 hown (mvT hZ w1) (mvT hZ w2) (mvT hZ w4) hy (backOf (W := W) hM hZ w4 w3 hf hl) (g := g) hg hsize (Steps.refl _) (a := a) (argsL := argsL) (rest := rest) hlen hstack hW hd (fun _ _ => ⟨rfl, eT, hc, hs⟩)
  dsimp only [Pt.U, Pt.locs, Pt.cells, Pt.slots] at X4 l4 y4 z4 st hQ
  subst l4 y4 z4
  exact ⟨v, T4, _, Lc, X4, rfl, hQ, fun t k => st.trans k⟩
theorem own_callV (X : Stand p l e R s m args below meth c T locs cells slots) (hx : p.tables.exec = Jvm.exec) (hZ : Z.Warmed39 s.vm) {own C : String} {index : Nat} {y : MethodName} {bytes : ByteArray} {maxL : Nat} {ret : Option FieldType} {rm : Room} {Q : Option Value → Heap → List Loc → Prop}
    (hown : s.vm.findClass own = some m.cls) (w1 : (Cond.methodLink own index y).before a0 Z = true) (w2 : (Cond.declares y).before a0 Z = true) (w5 : (Cond.selects C y y).before a0 Z = true) (w6 : (Cond.instanceMethod y).before a0 Z = true) (w3 : (Cond.initialized y.cls).before a0 Z = true) (w4 : (Cond.code y bytes maxL ret).before a0 Z = true)
    (hy : y.cls ≠ "java/lang/invoke/MethodHandle" ∧ y.cls ≠ "java/lang/invoke/VarHandle") (W : Nat) {g : JFrame} (hg : g.method = m) (hsize : g.locals.size = c.maxLocals) (a : Addr) (E : Exa Z h a C) (argsL rest : List Value)
    (hM : MetFree l y (head1 [Cond.code y bytes maxL ret] rm) (fun a' U => a' = (.ref a :: argsL).toArray ∧ Z.Warmed39 U.vm ∧ U.heap = h) (fun _ _ _ _ _ => True) (fun _ U o U' => ∃ v L, o = .returned v ∧ Q v U'.heap L ∧ FrameEnd U o U' L rm.cells rm.slots))
    (hlen : ∀ sig, parseMethodDescriptor y.desc = some sig → argsL.length = sig.parameters.length) (hstack : g.stack = argsL.reverse ++ .ref a :: rest) (hW : 2 * g.monitorRoom + (rest.map fun v => v.category).sum ≤ W) (hd : decode c.code g.pc = .ok (.invokevirtual index, 3))
    (hf : rm.frames + 1 ≤ R.frames) (hl : W + (maxL + 11) + rm.locals ≤ R.locals) (eT : T.heap = h) (hc : cells + rm.cells ≤ R.cells) (hs : slots + rm.slots ≤ R.slots) :
    ∃ (v : Option Value) (T' : State) (h' : Heap) (L : List Loc), Stand p l e R s m args below meth c T' (locs ++ L) (cells + rm.cells) (slots + rm.slots) ∧ T'.heap = h' ∧ Q v h' L ∧
      ∀ t, Steps p.tables e below (T'.setTop { g with pc := g.pc + 3, stack := v.toList ++ rest }) t → Steps p.tables e below (T.setTop g) t := by
  obtain ⟨cB, kB, qa, qb, qc⟩ := isOf (T := T) hZ eT E
  obtain ⟨v, _, ⟨T4, L4, k4, n4⟩, -, X4, ⟨Lc, hQ, l4, y4, z4⟩, st⟩ := X.virtualBack hx (y := y) (z := y) hown (mvT hZ w1) (mvT hZ w2) (notFace_of_selects (args := #[]) (mvT hZ w5)) (mvT hZ w5) (mvT hZ w6) hy (backOf (W := W) hM hZ w4 w3 hf hl) qa qc (g := g) hg hsize (Steps.refl _) (argsL := argsL) (rest := rest) hlen hstack hW hd (fun _ _ => ⟨rfl, eT, hc, hs⟩)
  dsimp only [Pt.U, Pt.locs, Pt.cells, Pt.slots] at X4 l4 y4 z4 st hQ
  subst l4 y4 z4
  exact ⟨v, T4, _, Lc, X4, rfl, hQ, fun t k => st.trans k⟩
end OwnCalls
/-! ## calls of what may intern a String, in one row each -/
section OwnCallsW
variable {p : Program} {l : Launch} {e : Env} {R : Room} {s : State} {vm0 : Vm} {m : MethodId} {args : Array Value} {below : List Frame} {meth : Method} {c : Code} {T : State} {locs : List Loc} {cells slots : Nat} {Z : State} {a0 : Array Value} {h : Heap}
theorem own_callSS (X : Stand p l e R (s.setVm vm0) m args below meth c T locs cells slots) (hx : p.tables.exec = Jvm.exec) (hZ : Z.Warmed39 vm0) {own : String} {index : Nat} {y : MethodName} {bytes : ByteArray} {maxL : Nat} {ret : Option FieldType} {rm : Room} {Q : Option Value → Heap → List Loc → Prop}
    (hown : vm0.findClass own = some m.cls) (w1 : (Cond.methodLink own index y).before a0 Z = true) (w2 : (Cond.static y).before a0 Z = true) (w3 : (Cond.initialized y.cls).before a0 Z = true) (w4 : (Cond.code y bytes maxL ret).before a0 Z = true)
    (hy : y.cls ≠ "java/lang/invoke/MethodHandle" ∧ y.cls ≠ "java/lang/invoke/VarHandle") (W : Nat) {g : JFrame} (hg : g.method = m) (hsize : g.locals.size = c.maxLocals) (argsL rest : List Value)
    (hM : MetFree l y (head1 [Cond.code y bytes maxL ret] rm) (fun a' U => a' = argsL.toArray ∧ Z.Warmed39 U.vm ∧ U.heap = h) (fun _ _ _ _ _ => True) (fun _ U o U' => ∃ v L, o = .returned v ∧ Q v U'.heap L ∧ ReturnedEndW U o U' L rm.cells rm.slots))
    (hlen : ∀ sig, parseMethodDescriptor y.desc = some sig → argsL.length = sig.parameters.length) (hstack : g.stack = argsL.reverse ++ rest) (hW : 2 * g.monitorRoom + (rest.map fun v => v.category).sum ≤ W) (hd : decode c.code g.pc = .ok (.invokestatic index, 3))
    (hf : rm.frames + 1 ≤ R.frames) (hl : W + (maxL + 11) + rm.locals ≤ R.locals) (eT : T.heap = h) (hc : cells + rm.cells ≤ R.cells) (hs : slots + rm.slots ≤ R.slots) {k0 : Nat} (hS : s.Since vm0 k0) (hk : k0 ≤ h.size) :
    ∃ (v : Option Value) (T' : State) (h' : Heap) (L : List Loc), Stand p l e R (s.setVm T'.vm) m args below meth c T' (locs ++ L) (cells + rm.cells) (slots + rm.slots) ∧ T'.heap = h' ∧ s.Since T'.vm h'.size ∧ Z.Warmed39 T'.vm ∧ T'.vm.findClass own = some m.cls ∧ Q v h' L ∧
      ∀ t, Steps p.tables e below (T'.setTop { g with pc := g.pc + 3, stack := v.toList ++ rest }) t → Steps p.tables e below (T.setTop g) t := by
  have hZ' : Z.Warmed39 (s.setVm vm0).vm := hZ
  obtain ⟨v, _, ⟨T4, L4, k4, n4⟩, -, X4, hS4, hgr, ⟨Lc, hQ, l4, y4, z4⟩, st⟩ := Jvm.RoadKit.callSS X hx (y := y) hown (mvT hZ' w1) (mvT hZ' w2) (mvT hZ' w3) (mvT hZ' w4) hy (backOfS (W := W) hM hZ' w4 w3 hf hl) (g := g) hg hsize (argsL := argsL) (rest := rest) hlen hstack hW hd (fun _ _ => ⟨rfl, eT, hc, hs⟩)
  dsimp only [Pt.U, Pt.locs, Pt.cells, Pt.slots] at X4 l4 y4 z4 st hQ hS4 hgr
  subst l4 y4 z4
  subst eT
  exact ⟨v, T4, _, Lc, X4, rfl, foldS hS hk hS4 hgr, State.Warmed39.trans (t := s.setVm vm0) hZ hS4.1, by rw [hS4.1.alike.findClass]; exact hown, hQ, fun t k => st.trans k⟩
theorem own_callVS (X : Stand p l e R (s.setVm vm0) m args below meth c T locs cells slots) (hx : p.tables.exec = Jvm.exec) (hZ : Z.Warmed39 vm0) {own C : String} {index : Nat} {y : MethodName} {bytes : ByteArray} {maxL : Nat} {ret : Option FieldType} {rm : Room} {Q : Option Value → Heap → List Loc → Prop}
    (hown : vm0.findClass own = some m.cls) (w1 : (Cond.methodLink own index y).before a0 Z = true) (w2 : (Cond.declares y).before a0 Z = true) (w5 : (Cond.selects C y y).before a0 Z = true) (w6 : (Cond.instanceMethod y).before a0 Z = true) (w3 : (Cond.initialized y.cls).before a0 Z = true) (w4 : (Cond.code y bytes maxL ret).before a0 Z = true)
    (hy : y.cls ≠ "java/lang/invoke/MethodHandle" ∧ y.cls ≠ "java/lang/invoke/VarHandle") (W : Nat) {g : JFrame} (hg : g.method = m) (hsize : g.locals.size = c.maxLocals) (a : Addr) (E : Exa Z h a C) (argsL rest : List Value)
    (hM : MetFree l y (head1 [Cond.code y bytes maxL ret] rm) (fun a' U => a' = (.ref a :: argsL).toArray ∧ Z.Warmed39 U.vm ∧ U.heap = h) (fun _ _ _ _ _ => True) (fun _ U o U' => ∃ v L, o = .returned v ∧ Q v U'.heap L ∧ ReturnedEndW U o U' L rm.cells rm.slots))
    (hlen : ∀ sig, parseMethodDescriptor y.desc = some sig → argsL.length = sig.parameters.length) (hstack : g.stack = argsL.reverse ++ .ref a :: rest) (hW : 2 * g.monitorRoom + (rest.map fun v => v.category).sum ≤ W) (hd : decode c.code g.pc = .ok (.invokevirtual index, 3))
    (hf : rm.frames + 1 ≤ R.frames) (hl : W + (maxL + 11) + rm.locals ≤ R.locals) (eT : T.heap = h) (hc : cells + rm.cells ≤ R.cells) (hs : slots + rm.slots ≤ R.slots) {k0 : Nat} (hS : s.Since vm0 k0) (hk : k0 ≤ h.size) :
    ∃ (v : Option Value) (T' : State) (h' : Heap) (L : List Loc), Stand p l e R (s.setVm T'.vm) m args below meth c T' (locs ++ L) (cells + rm.cells) (slots + rm.slots) ∧ T'.heap = h' ∧ s.Since T'.vm h'.size ∧ Z.Warmed39 T'.vm ∧ T'.vm.findClass own = some m.cls ∧ Q v h' L ∧
      ∀ t, Steps p.tables e below (T'.setTop { g with pc := g.pc + 3, stack := v.toList ++ rest }) t → Steps p.tables e below (T.setTop g) t := by
  have hZ' : Z.Warmed39 (s.setVm vm0).vm := hZ
  obtain ⟨cB, kB, qa, qb, qc⟩ := isOf (s := s.setVm vm0) (T := T) hZ' eT E
  obtain ⟨v, _, ⟨T4, L4, k4, n4⟩, -, X4, hS4, hgr, ⟨Lc, hQ, l4, y4, z4⟩, st⟩ := X.virtualBackS hx (y := y) (z := y) hown (mvT hZ' w1) (mvT hZ' w2) (notFace_of_selects (args := #[]) (mvT hZ' w5)) (mvT hZ' w5) (mvT hZ' w6) hy (backOfS (W := W) hM hZ' w4 w3 hf hl) qa qc (g := g) hg hsize (Steps.refl _) (argsL := argsL) (rest := rest) hlen hstack hW hd (fun _ _ => ⟨rfl, eT, hc, hs⟩)
  dsimp only [Pt.U, Pt.locs, Pt.cells, Pt.slots] at X4 l4 y4 z4 st hQ hS4 hgr
  subst l4 y4 z4
  subst eT
  exact ⟨v, T4, _, Lc, X4, rfl, foldS hS hk hS4 hgr, State.Warmed39.trans (t := s.setVm vm0) hZ hS4.1, by rw [hS4.1.alike.findClass]; exact hown, hQ, fun t k => st.trans k⟩
theorem own_callIS (X : Stand p l e R (s.setVm vm0) m args below meth c T locs cells slots) (hx : p.tables.exec = Jvm.exec) (hZ : Z.Warmed39 vm0) {own : String} {index : Nat} {y : MethodName} {bytes : ByteArray} {maxL : Nat} {rm : Room} {Q : Option Value → Heap → List Loc → Prop}
    (hy1 : y.name = "<init>") (hown : vm0.findClass own = some m.cls) (w1 : (Cond.methodLink own index y).before a0 Z = true) (w2 : (Cond.instanceMethod y).before a0 Z = true) (w3 : (Cond.initialized y.cls).before a0 Z = true) (w4 : (Cond.code y bytes maxL none).before a0 Z = true)
    (hy : y.cls ≠ "java/lang/invoke/MethodHandle" ∧ y.cls ≠ "java/lang/invoke/VarHandle") (W : Nat) {g : JFrame} (hg : g.method = m) (hsize : g.locals.size = c.maxLocals) (a : Addr) (argsL rest : List Value)
    (hM : MetFree l y (head1 [Cond.code y bytes maxL none] rm) (fun a' U => a' = (.ref a :: argsL).toArray ∧ Z.Warmed39 U.vm ∧ U.heap = h) (fun _ _ _ _ _ => True) (fun _ U o U' => ∃ v L, o = .returned v ∧ Q v U'.heap L ∧ ReturnedEndW U o U' L rm.cells rm.slots))
    (hlen : ∀ sig, parseMethodDescriptor y.desc = some sig → argsL.length = sig.parameters.length) (hstack : g.stack = argsL.reverse ++ .ref a :: rest) (hW : 2 * g.monitorRoom + (rest.map fun v => v.category).sum ≤ W) (hd : decode c.code g.pc = .ok (.invokespecial index, 3))
    (hf : rm.frames + 1 ≤ R.frames) (hl : W + (maxL + 11) + rm.locals ≤ R.locals) (eT : T.heap = h) (hc : cells + rm.cells ≤ R.cells) (hs : slots + rm.slots ≤ R.slots) {k0 : Nat} (hS : s.Since vm0 k0) (hk : k0 ≤ h.size) :
    ∃ (v : Option Value) (T' : State) (h' : Heap) (L : List Loc), Stand p l e R (s.setVm T'.vm) m args below meth c T' (locs ++ L) (cells + rm.cells) (slots + rm.slots) ∧ T'.heap = h' ∧ s.Since T'.vm h'.size ∧ Z.Warmed39 T'.vm ∧ T'.vm.findClass own = some m.cls ∧ Q v h' L ∧
      ∀ t, Steps p.tables e below (T'.setTop { g with pc := g.pc + 3, stack := v.toList ++ rest }) t → Steps p.tables e below (T.setTop g) t := by
  have hZ' : Z.Warmed39 (s.setVm vm0).vm := hZ
  obtain ⟨v, _, ⟨T4, L4, k4, n4⟩, -, X4, hS4, hgr, ⟨Lc, hQ, l4, y4, z4⟩, st⟩ := X.specialBackS hx (y := y) hy1 hown (mvT hZ' w1) (mvT hZ' w2) (mvT hZ' w4) hy (backOfS (W := W) hM hZ' w4 w3 hf hl) (g := g) hg hsize (Steps.refl _) (a := a) (argsL := argsL) (rest := rest) hlen hstack hW hd (fun _ _ => ⟨rfl, eT, hc, hs⟩)
  dsimp only [Pt.U, Pt.locs, Pt.cells, Pt.slots] at X4 l4 y4 z4 st hQ hS4 hgr
  subst l4 y4 z4
  subst eT
  exact ⟨v, T4, _, Lc, X4, rfl, foldS hS hk hS4 hgr, State.Warmed39.trans (t := s.setVm vm0) hZ hS4.1, by rw [hS4.1.alike.findClass]; exact hown, hQ, fun t k => st.trans k⟩
end OwnCallsW

def own_Set (Z : State) (h : Heap) (a : Addr) (f0 : Int32) (f1 : Int32) (f2 : UInt64) (f3 : UInt64) (f4 : UInt64) (f5 : UInt64) (f6 : Int64) (f7 : Int32) : Prop := Exa Z h a "com/example/locks_over_messages/locksovermessages/Simulation$Settings" ∧ Fld Z h a "com/example/locks_over_messages/locksovermessages/Simulation$Settings" "memberCount" "I" (.int f0) ∧ Fld Z h a "com/example/locks_over_messages/locksovermessages/Simulation$Settings" "entriesEach" "I" (.int f1) ∧ Fld Z h a "com/example/locks_over_messages/locksovermessages/Simulation$Settings" "hold" "D" (.double f2) ∧ Fld Z h a "com/example/locks_over_messages/locksovermessages/Simulation$Settings" "think" "D" (.double f3) ∧ Fld Z h a "com/example/locks_over_messages/locksovermessages/Simulation$Settings" "stagger" "D" (.double f4) ∧ Fld Z h a "com/example/locks_over_messages/locksovermessages/Simulation$Settings" "jitter" "D" (.double f5) ∧ Fld Z h a "com/example/locks_over_messages/locksovermessages/Simulation$Settings" "seed" "J" (.long f6) ∧ Fld Z h a "com/example/locks_over_messages/locksovermessages/Simulation$Settings" "entriesRecorded" "Z" (.int f7)
theorem own_Set.ext {Z : State} {h h' : Heap} {a : Addr} {f0 : Int32} {f1 : Int32} {f2 : UInt64} {f3 : UInt64} {f4 : UInt64} {f5 : UInt64} {f6 : Int64} {f7 : Int32} (E : Ext h h') (S : own_Set Z h a f0 f1 f2 f3 f4 f5 f6 f7) : own_Set Z h' a f0 f1 f2 f3 f4 f5 f6 f7 := ⟨S.1.ext E, S.2.1.ext E, S.2.2.1.ext E, S.2.2.2.1.ext E, S.2.2.2.2.1.ext E, S.2.2.2.2.2.1.ext E, S.2.2.2.2.2.2.1.ext E, S.2.2.2.2.2.2.2.1.ext E, S.2.2.2.2.2.2.2.2.ext E⟩
theorem own_Set.keep {Z : State} {h h' : Heap} {ws : List Addr} {a : Addr} {f0 : Int32} {f1 : Int32} {f2 : UInt64} {f3 : UInt64} {f4 : UInt64} {f5 : UInt64} {f6 : Int64} {f7 : Int32} (K : Keep h h' ws) (q : a ∉ ws) (S : own_Set Z h a f0 f1 f2 f3 f4 f5 f6 f7) : own_Set Z h' a f0 f1 f2 f3 f4 f5 f6 f7 := ⟨S.1.keep K, S.2.1.keep K q, S.2.2.1.keep K q, S.2.2.2.1.keep K q, S.2.2.2.2.1.keep K q, S.2.2.2.2.2.1.keep K q, S.2.2.2.2.2.2.1.keep K q, S.2.2.2.2.2.2.2.1.keep K q, S.2.2.2.2.2.2.2.2.keep K q⟩
theorem own_Set.other {Z : State} {h h' : Heap} {a b : Addr} {sl : Nat} {v : Value} {f0 : Int32} {f1 : Int32} {f2 : UInt64} {f3 : UInt64} {f4 : UInt64} {f5 : UInt64} {f6 : Int64} {f7 : Int32} (W : Wr h h' b sl v) (q : a ≠ b) (S : own_Set Z h a f0 f1 f2 f3 f4 f5 f6 f7) : own_Set Z h' a f0 f1 f2 f3 f4 f5 f6 f7 := ⟨S.1.wr W, S.2.1.other W (Or.inl q), S.2.2.1.other W (Or.inl q), S.2.2.2.1.other W (Or.inl q), S.2.2.2.2.1.other W (Or.inl q), S.2.2.2.2.2.1.other W (Or.inl q), S.2.2.2.2.2.2.1.other W (Or.inl q), S.2.2.2.2.2.2.2.1.other W (Or.inl q), S.2.2.2.2.2.2.2.2.other W (Or.inl q)⟩
theorem own_Set.wr0 {Z : State} {a0 : Array Value} (hw : ∀ d ∈ tables_1, d.before a0 Z = true) {h h' : Heap} {a : Addr} {x : Int32} {f0 : Int32} {f1 : Int32} {f2 : UInt64} {f3 : UInt64} {f4 : UInt64} {f5 : UInt64} {f6 : Int64} {f7 : Int32} (W : Wr h h' a (Jvm.RoadKit.slotOf Z "com/example/locks_over_messages/locksovermessages/Simulation$Settings" "memberCount" "I") (.int x)) (S : own_Set Z h a f0 f1 f2 f3 f4 f5 f6 f7) : own_Set Z h' a x f1 f2 f3 f4 f5 f6 f7 := ⟨S.1.wr W, S.2.1.same W, S.2.2.1.other W (Or.inr (slot_ne (C := "com/example/locks_over_messages/locksovermessages/Simulation$Settings") (a0 := a0) (Or.inr (hw _ (List.mem_of_getElem? (i := 21) rfl))) (Or.inr (hw _ (List.mem_of_getElem? (i := 19) rfl))) (by decide) (t := .int) (by decide) (t' := .int) (by decide))), S.2.2.2.1.other W (Or.inr (slot_ne (C := "com/example/locks_over_messages/locksovermessages/Simulation$Settings") (a0 := a0) (Or.inl (hw _ (List.mem_of_getElem? (i := 15) rfl))) (Or.inr (hw _ (List.mem_of_getElem? (i := 19) rfl))) (by decide) (t := .double) (by decide) (t' := .int) (by decide))), S.2.2.2.2.1.other W (Or.inr (slot_ne (C := "com/example/locks_over_messages/locksovermessages/Simulation$Settings") (a0 := a0) (Or.inl (hw _ (List.mem_of_getElem? (i := 32) rfl))) (Or.inr (hw _ (List.mem_of_getElem? (i := 19) rfl))) (by decide) (t := .double) (by decide) (t' := .int) (by decide))), S.2.2.2.2.2.1.other W (Or.inr (slot_ne (C := "com/example/locks_over_messages/locksovermessages/Simulation$Settings") (a0 := a0) (Or.inl (hw _ (List.mem_of_getElem? (i := 34) rfl))) (Or.inr (hw _ (List.mem_of_getElem? (i := 19) rfl))) (by decide) (t := .double) (by decide) (t' := .int) (by decide))), S.2.2.2.2.2.2.1.other W (Or.inr (slot_ne (C := "com/example/locks_over_messages/locksovermessages/Simulation$Settings") (a0 := a0) (Or.inl (hw _ (List.mem_of_getElem? (i := 36) rfl))) (Or.inr (hw _ (List.mem_of_getElem? (i := 19) rfl))) (by decide) (t := .double) (by decide) (t' := .int) (by decide))), S.2.2.2.2.2.2.2.1.other W (Or.inr (slot_ne (C := "com/example/locks_over_messages/locksovermessages/Simulation$Settings") (a0 := a0) (Or.inl (hw _ (List.mem_of_getElem? (i := 17) rfl))) (Or.inr (hw _ (List.mem_of_getElem? (i := 19) rfl))) (by decide) (t := .long) (by decide) (t' := .int) (by decide))), S.2.2.2.2.2.2.2.2.other W (Or.inr (slot_ne (C := "com/example/locks_over_messages/locksovermessages/Simulation$Settings") (a0 := a0) (Or.inl (hw _ (List.mem_of_getElem? (i := 38) rfl))) (Or.inr (hw _ (List.mem_of_getElem? (i := 19) rfl))) (by decide) (t := .boolean) (by decide) (t' := .int) (by decide)))⟩
theorem own_Set.wr1 {Z : State} {a0 : Array Value} (hw : ∀ d ∈ tables_1, d.before a0 Z = true) {h h' : Heap} {a : Addr} {x : Int32} {f0 : Int32} {f1 : Int32} {f2 : UInt64} {f3 : UInt64} {f4 : UInt64} {f5 : UInt64} {f6 : Int64} {f7 : Int32} (W : Wr h h' a (Jvm.RoadKit.slotOf Z "com/example/locks_over_messages/locksovermessages/Simulation$Settings" "entriesEach" "I") (.int x)) (S : own_Set Z h a f0 f1 f2 f3 f4 f5 f6 f7) : own_Set Z h' a f0 x f2 f3 f4 f5 f6 f7 := ⟨S.1.wr W, S.2.1.other W (Or.inr (slot_ne (C := "com/example/locks_over_messages/locksovermessages/Simulation$Settings") (a0 := a0) (Or.inr (hw _ (List.mem_of_getElem? (i := 19) rfl))) (Or.inr (hw _ (List.mem_of_getElem? (i := 21) rfl))) (by decide) (t := .int) (by decide) (t' := .int) (by decide))), S.2.2.1.same W, S.2.2.2.1.other W (Or.inr (slot_ne (C := "com/example/locks_over_messages/locksovermessages/Simulation$Settings") (a0 := a0) (Or.inl (hw _ (List.mem_of_getElem? (i := 15) rfl))) (Or.inr (hw _ (List.mem_of_getElem? (i := 21) rfl))) (by decide) (t := .double) (by decide) (t' := .int) (by decide))), S.2.2.2.2.1.other W (Or.inr (slot_ne (C := "com/example/locks_over_messages/locksovermessages/Simulation$Settings") (a0 := a0) (Or.inl (hw _ (List.mem_of_getElem? (i := 32) rfl))) (Or.inr (hw _ (List.mem_of_getElem? (i := 21) rfl))) (by decide) (t := .double) (by decide) (t' := .int) (by decide))), S.2.2.2.2.2.1.other W (Or.inr (slot_ne (C := "com/example/locks_over_messages/locksovermessages/Simulation$Settings") (a0 := a0) (Or.inl (hw _ (List.mem_of_getElem? (i := 34) rfl))) (Or.inr (hw _ (List.mem_of_getElem? (i := 21) rfl))) (by decide) (t := .double) (by decide) (t' := .int) (by decide))), S.2.2.2.2.2.2.1.other W (Or.inr (slot_ne (C := "com/example/locks_over_messages/locksovermessages/Simulation$Settings") (a0 := a0) (Or.inl (hw _ (List.mem_of_getElem? (i := 36) rfl))) (Or.inr (hw _ (List.mem_of_getElem? (i := 21) rfl))) (by decide) (t := .double) (by decide) (t' := .int) (by decide))), S.2.2.2.2.2.2.2.1.other W (Or.inr (slot_ne (C := "com/example/locks_over_messages/locksovermessages/Simulation$Settings") (a0 := a0) (Or.inl (hw _ (List.mem_of_getElem? (i := 17) rfl))) (Or.inr (hw _ (List.mem_of_getElem? (i := 21) rfl))) (by decide) (t := .long) (by decide) (t' := .int) (by decide))), S.2.2.2.2.2.2.2.2.other W (Or.inr (slot_ne (C := "com/example/locks_over_messages/locksovermessages/Simulation$Settings") (a0 := a0) (Or.inl (hw _ (List.mem_of_getElem? (i := 38) rfl))) (Or.inr (hw _ (List.mem_of_getElem? (i := 21) rfl))) (by decide) (t := .boolean) (by decide) (t' := .int) (by decide)))⟩
theorem own_Set.wr2 {Z : State} {a0 : Array Value} (hw : ∀ d ∈ tables_1, d.before a0 Z = true) {h h' : Heap} {a : Addr} {x : UInt64} {f0 : Int32} {f1 : Int32} {f2 : UInt64} {f3 : UInt64} {f4 : UInt64} {f5 : UInt64} {f6 : Int64} {f7 : Int32} (W : Wr h h' a (Jvm.RoadKit.slotOf Z "com/example/locks_over_messages/locksovermessages/Simulation$Settings" "hold" "D") (.double x)) (S : own_Set Z h a f0 f1 f2 f3 f4 f5 f6 f7) : own_Set Z h' a f0 f1 x f3 f4 f5 f6 f7 := ⟨S.1.wr W, S.2.1.other W (Or.inr (slot_ne (C := "com/example/locks_over_messages/locksovermessages/Simulation$Settings") (a0 := a0) (Or.inr (hw _ (List.mem_of_getElem? (i := 19) rfl))) (Or.inl (hw _ (List.mem_of_getElem? (i := 15) rfl))) (by decide) (t := .int) (by decide) (t' := .double) (by decide))), S.2.2.1.other W (Or.inr (slot_ne (C := "com/example/locks_over_messages/locksovermessages/Simulation$Settings") (a0 := a0) (Or.inr (hw _ (List.mem_of_getElem? (i := 21) rfl))) (Or.inl (hw _ (List.mem_of_getElem? (i := 15) rfl))) (by decide) (t := .int) (by decide) (t' := .double) (by decide))), S.2.2.2.1.same W, S.2.2.2.2.1.other W (Or.inr (slot_ne (C := "com/example/locks_over_messages/locksovermessages/Simulation$Settings") (a0 := a0) (Or.inl (hw _ (List.mem_of_getElem? (i := 32) rfl))) (Or.inl (hw _ (List.mem_of_getElem? (i := 15) rfl))) (by decide) (t := .double) (by decide) (t' := .double) (by decide))), S.2.2.2.2.2.1.other W (Or.inr (slot_ne (C := "com/example/locks_over_messages/locksovermessages/Simulation$Settings") (a0 := a0) (Or.inl (hw _ (List.mem_of_getElem? (i := 34) rfl))) (Or.inl (hw _ (List.mem_of_getElem? (i := 15) rfl))) (by decide) (t := .double) (by decide) (t' := .double) (by decide))), S.2.2.2.2.2.2.1.other W (Or.inr (slot_ne (C := "com/example/locks_over_messages/locksovermessages/Simulation$Settings") (a0 := a0) (Or.inl (hw _ (List.mem_of_getElem? (i := 36) rfl))) (Or.inl (hw _ (List.mem_of_getElem? (i := 15) rfl))) (by decide) (t := .double) (by decide) (t' := .double) (by decide))), S.2.2.2.2.2.2.2.1.other W (Or.inr (slot_ne (C := "com/example/locks_over_messages/locksovermessages/Simulation$Settings") (a0 := a0) (Or.inl (hw _ (List.mem_of_getElem? (i := 17) rfl))) (Or.inl (hw _ (List.mem_of_getElem? (i := 15) rfl))) (by decide) (t := .long) (by decide) (t' := .double) (by decide))), S.2.2.2.2.2.2.2.2.other W (Or.inr (slot_ne (C := "com/example/locks_over_messages/locksovermessages/Simulation$Settings") (a0 := a0) (Or.inl (hw _ (List.mem_of_getElem? (i := 38) rfl))) (Or.inl (hw _ (List.mem_of_getElem? (i := 15) rfl))) (by decide) (t := .boolean) (by decide) (t' := .double) (by decide)))⟩
theorem own_Set.wr3 {Z : State} {a0 : Array Value} (hw : ∀ d ∈ tables_1, d.before a0 Z = true) {h h' : Heap} {a : Addr} {x : UInt64} {f0 : Int32} {f1 : Int32} {f2 : UInt64} {f3 : UInt64} {f4 : UInt64} {f5 : UInt64} {f6 : Int64} {f7 : Int32} (W : Wr h h' a (Jvm.RoadKit.slotOf Z "com/example/locks_over_messages/locksovermessages/Simulation$Settings" "think" "D") (.double x)) (S : own_Set Z h a f0 f1 f2 f3 f4 f5 f6 f7) : own_Set Z h' a f0 f1 f2 x f4 f5 f6 f7 := ⟨S.1.wr W, S.2.1.other W (Or.inr (slot_ne (C := "com/example/locks_over_messages/locksovermessages/Simulation$Settings") (a0 := a0) (Or.inr (hw _ (List.mem_of_getElem? (i := 19) rfl))) (Or.inl (hw _ (List.mem_of_getElem? (i := 32) rfl))) (by decide) (t := .int) (by decide) (t' := .double) (by decide))), S.2.2.1.other W (Or.inr (slot_ne (C := "com/example/locks_over_messages/locksovermessages/Simulation$Settings") (a0 := a0) (Or.inr (hw _ (List.mem_of_getElem? (i := 21) rfl))) (Or.inl (hw _ (List.mem_of_getElem? (i := 32) rfl))) (by decide) (t := .int) (by decide) (t' := .double) (by decide))), S.2.2.2.1.other W (Or.inr (slot_ne (C := "com/example/locks_over_messages/locksovermessages/Simulation$Settings") (a0 := a0) (Or.inl (hw _ (List.mem_of_getElem? (i := 15) rfl))) (Or.inl (hw _ (List.mem_of_getElem? (i := 32) rfl))) (by decide) (t := .double) (by decide) (t' := .double) (by decide))), S.2.2.2.2.1.same W, S.2.2.2.2.2.1.other W (Or.inr (slot_ne (C := "com/example/locks_over_messages/locksovermessages/Simulation$Settings") (a0 := a0) (Or.inl (hw _ (List.mem_of_getElem? (i := 34) rfl))) (Or.inl (hw _ (List.mem_of_getElem? (i := 32) rfl))) (by decide) (t := .double) (by decide) (t' := .double) (by decide))), S.2.2.2.2.2.2.1.other W (Or.inr (slot_ne (C := "com/example/locks_over_messages/locksovermessages/Simulation$Settings") (a0 := a0) (Or.inl (hw _ (List.mem_of_getElem? (i := 36) rfl))) (Or.inl (hw _ (List.mem_of_getElem? (i := 32) rfl))) (by decide) (t := .double) (by decide) (t' := .double) (by decide))), S.2.2.2.2.2.2.2.1.other W (Or.inr (slot_ne (C := "com/example/locks_over_messages/locksovermessages/Simulation$Settings") (a0 := a0) (Or.inl (hw _ (List.mem_of_getElem? (i := 17) rfl))) (Or.inl (hw _ (List.mem_of_getElem? (i := 32) rfl))) (by decide) (t := .long) (by decide) (t' := .double) (by decide))), S.2.2.2.2.2.2.2.2.other W (Or.inr (slot_ne (C := "com/example/locks_over_messages/locksovermessages/Simulation$Settings") (a0 := a0) (Or.inl (hw _ (List.mem_of_getElem? (i := 38) rfl))) (Or.inl (hw _ (List.mem_of_getElem? (i := 32) rfl))) (by decide) (t := .boolean) (by decide) (t' := .double) (by decide)))⟩
theorem own_Set.wr4 {Z : State} {a0 : Array Value} (hw : ∀ d ∈ tables_1, d.before a0 Z = true) {h h' : Heap} {a : Addr} {x : UInt64} {f0 : Int32} {f1 : Int32} {f2 : UInt64} {f3 : UInt64} {f4 : UInt64} {f5 : UInt64} {f6 : Int64} {f7 : Int32} (W : Wr h h' a (Jvm.RoadKit.slotOf Z "com/example/locks_over_messages/locksovermessages/Simulation$Settings" "stagger" "D") (.double x)) (S : own_Set Z h a f0 f1 f2 f3 f4 f5 f6 f7) : own_Set Z h' a f0 f1 f2 f3 x f5 f6 f7 := ⟨S.1.wr W, S.2.1.other W (Or.inr (slot_ne (C := "com/example/locks_over_messages/locksovermessages/Simulation$Settings") (a0 := a0) (Or.inr (hw _ (List.mem_of_getElem? (i := 19) rfl))) (Or.inl (hw _ (List.mem_of_getElem? (i := 34) rfl))) (by decide) (t := .int) (by decide) (t' := .double) (by decide))), S.2.2.1.other W (Or.inr (slot_ne (C := "com/example/locks_over_messages/locksovermessages/Simulation$Settings") (a0 := a0) (Or.inr (hw _ (List.mem_of_getElem? (i := 21) rfl))) (Or.inl (hw _ (List.mem_of_getElem? (i := 34) rfl))) (by decide) (t := .int) (by decide) (t' := .double) (by decide))), S.2.2.2.1.other W (Or.inr (slot_ne (C := "com/example/locks_over_messages/locksovermessages/Simulation$Settings") (a0 := a0) (Or.inl (hw _ (List.mem_of_getElem? (i := 15) rfl))) (Or.inl (hw _ (List.mem_of_getElem? (i := 34) rfl))) (by decide) (t := .double) (by decide) (t' := .double) (by decide))), S.2.2.2.2.1.other W (Or.inr (slot_ne (C := "com/example/locks_over_messages/locksovermessages/Simulation$Settings") (a0 := a0) (Or.inl (hw _ (List.mem_of_getElem? (i := 32) rfl))) (Or.inl (hw _ (List.mem_of_getElem? (i := 34) rfl))) (by decide) (t := .double) (by decide) (t' := .double) (by decide))), S.2.2.2.2.2.1.same W, S.2.2.2.2.2.2.1.other W (Or.inr (slot_ne (C := "com/example/locks_over_messages/locksovermessages/Simulation$Settings") (a0 := a0) (Or.inl (hw _ (List.mem_of_getElem? (i := 36) rfl))) (Or.inl (hw _ (List.mem_of_getElem? (i := 34) rfl))) (by decide) (t := .double) (by decide) (t' := .double) (by decide))), S.2.2.2.2.2.2.2.1.other W (Or.inr (slot_ne (C := "com/example/locks_over_messages/locksovermessages/Simulation$Settings") (a0 := a0) (Or.inl (hw _ (List.mem_of_getElem? (i := 17) rfl))) (Or.inl (hw _ (List.mem_of_getElem? (i := 34) rfl))) (by decide) (t := .long) (by decide) (t' := .double) (by decide))), S.2.2.2.2.2.2.2.2.other W (Or.inr (slot_ne (C := "com/example/locks_over_messages/locksovermessages/Simulation$Settings") (a0 := a0) (Or.inl (hw _ (List.mem_of_getElem? (i := 38) rfl))) (Or.inl (hw _ (List.mem_of_getElem? (i := 34) rfl))) (by decide) (t := .boolean) (by decide) (t' := .double) (by decide)))⟩
theorem own_Set.wr5 {Z : State} {a0 : Array Value} (hw : ∀ d ∈ tables_1, d.before a0 Z = true) {h h' : Heap} {a : Addr} {x : UInt64} {f0 : Int32} {f1 : Int32} {f2 : UInt64} {f3 : UInt64} {f4 : UInt64} {f5 : UInt64} {f6 : Int64} {f7 : Int32} (W : Wr h h' a (Jvm.RoadKit.slotOf Z "com/example/locks_over_messages/locksovermessages/Simulation$Settings" "jitter" "D") (.double x)) (S : own_Set Z h a f0 f1 f2 f3 f4 f5 f6 f7) : own_Set Z h' a f0 f1 f2 f3 f4 x f6 f7 := ⟨S.1.wr W, S.2.1.other W (Or.inr (slot_ne (C := "com/example/locks_over_messages/locksovermessages/Simulation$Settings") (a0 := a0) (Or.inr (hw _ (List.mem_of_getElem? (i := 19) rfl))) (Or.inl (hw _ (List.mem_of_getElem? (i := 36) rfl))) (by decide) (t := .int) (by decide) (t' := .double) (by decide))), S.2.2.1.other W (Or.inr (slot_ne (C := "com/example/locks_over_messages/locksovermessages/Simulation$Settings") (a0 := a0) (Or.inr (hw _ (List.mem_of_getElem? (i := 21) rfl))) (Or.inl (hw _ (List.mem_of_getElem? (i := 36) rfl))) (by decide) (t := .int) (by decide) (t' := .double) (by decide))), S.2.2.2.1.other W (Or.inr (slot_ne (C := "com/example/locks_over_messages/locksovermessages/Simulation$Settings") (a0 := a0) (Or.inl (hw _ (List.mem_of_getElem? (i := 15) rfl))) (Or.inl (hw _ (List.mem_of_getElem? (i := 36) rfl))) (by decide) (t := .double) (by decide) (t' := .double) (by decide))), S.2.2.2.2.1.other W (Or.inr (slot_ne (C := "com/example/locks_over_messages/locksovermessages/Simulation$Settings") (a0 := a0) (Or.inl (hw _ (List.mem_of_getElem? (i := 32) rfl))) (Or.inl (hw _ (List.mem_of_getElem? (i := 36) rfl))) (by decide) (t := .double) (by decide) (t' := .double) (by decide))), S.2.2.2.2.2.1.other W (Or.inr (slot_ne (C := "com/example/locks_over_messages/locksovermessages/Simulation$Settings") (a0 := a0) (Or.inl (hw _ (List.mem_of_getElem? (i := 34) rfl))) (Or.inl (hw _ (List.mem_of_getElem? (i := 36) rfl))) (by decide) (t := .double) (by decide) (t' := .double) (by decide))), S.2.2.2.2.2.2.1.same W, S.2.2.2.2.2.2.2.1.other W (Or.inr (slot_ne (C := "com/example/locks_over_messages/locksovermessages/Simulation$Settings") (a0 := a0) (Or.inl (hw _ (List.mem_of_getElem? (i := 17) rfl))) (Or.inl (hw _ (List.mem_of_getElem? (i := 36) rfl))) (by decide) (t := .long) (by decide) (t' := .double) (by decide))), S.2.2.2.2.2.2.2.2.other W (Or.inr (slot_ne (C := "com/example/locks_over_messages/locksovermessages/Simulation$Settings") (a0 := a0) (Or.inl (hw _ (List.mem_of_getElem? (i := 38) rfl))) (Or.inl (hw _ (List.mem_of_getElem? (i := 36) rfl))) (by decide) (t := .boolean) (by decide) (t' := .double) (by decide)))⟩
theorem own_Set.wr6 {Z : State} {a0 : Array Value} (hw : ∀ d ∈ tables_1, d.before a0 Z = true) {h h' : Heap} {a : Addr} {x : Int64} {f0 : Int32} {f1 : Int32} {f2 : UInt64} {f3 : UInt64} {f4 : UInt64} {f5 : UInt64} {f6 : Int64} {f7 : Int32} (W : Wr h h' a (Jvm.RoadKit.slotOf Z "com/example/locks_over_messages/locksovermessages/Simulation$Settings" "seed" "J") (.long x)) (S : own_Set Z h a f0 f1 f2 f3 f4 f5 f6 f7) : own_Set Z h' a f0 f1 f2 f3 f4 f5 x f7 := ⟨S.1.wr W, S.2.1.other W (Or.inr (slot_ne (C := "com/example/locks_over_messages/locksovermessages/Simulation$Settings") (a0 := a0) (Or.inr (hw _ (List.mem_of_getElem? (i := 19) rfl))) (Or.inl (hw _ (List.mem_of_getElem? (i := 17) rfl))) (by decide) (t := .int) (by decide) (t' := .long) (by decide))), S.2.2.1.other W (Or.inr (slot_ne (C := "com/example/locks_over_messages/locksovermessages/Simulation$Settings") (a0 := a0) (Or.inr (hw _ (List.mem_of_getElem? (i := 21) rfl))) (Or.inl (hw _ (List.mem_of_getElem? (i := 17) rfl))) (by decide) (t := .int) (by decide) (t' := .long) (by decide))), S.2.2.2.1.other W (Or.inr (slot_ne (C := "com/example/locks_over_messages/locksovermessages/Simulation$Settings") (a0 := a0) (Or.inl (hw _ (List.mem_of_getElem? (i := 15) rfl))) (Or.inl (hw _ (List.mem_of_getElem? (i := 17) rfl))) (by decide) (t := .double) (by decide) (t' := .long) (by decide))), S.2.2.2.2.1.other W (Or.inr (slot_ne (C := "com/example/locks_over_messages/locksovermessages/Simulation$Settings") (a0 := a0) (Or.inl (hw _ (List.mem_of_getElem? (i := 32) rfl))) (Or.inl (hw _ (List.mem_of_getElem? (i := 17) rfl))) (by decide) (t := .double) (by decide) (t' := .long) (by decide))), S.2.2.2.2.2.1.other W (Or.inr (slot_ne (C := "com/example/locks_over_messages/locksovermessages/Simulation$Settings") (a0 := a0) (Or.inl (hw _ (List.mem_of_getElem? (i := 34) rfl))) (Or.inl (hw _ (List.mem_of_getElem? (i := 17) rfl))) (by decide) (t := .double) (by decide) (t' := .long) (by decide))), S.2.2.2.2.2.2.1.other W (Or.inr (slot_ne (C := "com/example/locks_over_messages/locksovermessages/Simulation$Settings") (a0 := a0) (Or.inl (hw _ (List.mem_of_getElem? (i := 36) rfl))) (Or.inl (hw _ (List.mem_of_getElem? (i := 17) rfl))) (by decide) (t := .double) (by decide) (t' := .long) (by decide))), S.2.2.2.2.2.2.2.1.same W, S.2.2.2.2.2.2.2.2.other W (Or.inr (slot_ne (C := "com/example/locks_over_messages/locksovermessages/Simulation$Settings") (a0 := a0) (Or.inl (hw _ (List.mem_of_getElem? (i := 38) rfl))) (Or.inl (hw _ (List.mem_of_getElem? (i := 17) rfl))) (by decide) (t := .boolean) (by decide) (t' := .long) (by decide)))⟩
theorem own_Set.wr7 {Z : State} {a0 : Array Value} (hw : ∀ d ∈ tables_1, d.before a0 Z = true) {h h' : Heap} {a : Addr} {x : Int32} {f0 : Int32} {f1 : Int32} {f2 : UInt64} {f3 : UInt64} {f4 : UInt64} {f5 : UInt64} {f6 : Int64} {f7 : Int32} (W : Wr h h' a (Jvm.RoadKit.slotOf Z "com/example/locks_over_messages/locksovermessages/Simulation$Settings" "entriesRecorded" "Z") (.int x)) (S : own_Set Z h a f0 f1 f2 f3 f4 f5 f6 f7) : own_Set Z h' a f0 f1 f2 f3 f4 f5 f6 x := ⟨S.1.wr W, S.2.1.other W (Or.inr (slot_ne (C := "com/example/locks_over_messages/locksovermessages/Simulation$Settings") (a0 := a0) (Or.inr (hw _ (List.mem_of_getElem? (i := 19) rfl))) (Or.inl (hw _ (List.mem_of_getElem? (i := 38) rfl))) (by decide) (t := .int) (by decide) (t' := .boolean) (by decide))), S.2.2.1.other W (Or.inr (slot_ne (C := "com/example/locks_over_messages/locksovermessages/Simulation$Settings") (a0 := a0) (Or.inr (hw _ (List.mem_of_getElem? (i := 21) rfl))) (Or.inl (hw _ (List.mem_of_getElem? (i := 38) rfl))) (by decide) (t := .int) (by decide) (t' := .boolean) (by decide))), S.2.2.2.1.other W (Or.inr (slot_ne (C := "com/example/locks_over_messages/locksovermessages/Simulation$Settings") (a0 := a0) (Or.inl (hw _ (List.mem_of_getElem? (i := 15) rfl))) (Or.inl (hw _ (List.mem_of_getElem? (i := 38) rfl))) (by decide) (t := .double) (by decide) (t' := .boolean) (by decide))), S.2.2.2.2.1.other W (Or.inr (slot_ne (C := "com/example/locks_over_messages/locksovermessages/Simulation$Settings") (a0 := a0) (Or.inl (hw _ (List.mem_of_getElem? (i := 32) rfl))) (Or.inl (hw _ (List.mem_of_getElem? (i := 38) rfl))) (by decide) (t := .double) (by decide) (t' := .boolean) (by decide))), S.2.2.2.2.2.1.other W (Or.inr (slot_ne (C := "com/example/locks_over_messages/locksovermessages/Simulation$Settings") (a0 := a0) (Or.inl (hw _ (List.mem_of_getElem? (i := 34) rfl))) (Or.inl (hw _ (List.mem_of_getElem? (i := 38) rfl))) (by decide) (t := .double) (by decide) (t' := .boolean) (by decide))), S.2.2.2.2.2.2.1.other W (Or.inr (slot_ne (C := "com/example/locks_over_messages/locksovermessages/Simulation$Settings") (a0 := a0) (Or.inl (hw _ (List.mem_of_getElem? (i := 36) rfl))) (Or.inl (hw _ (List.mem_of_getElem? (i := 38) rfl))) (by decide) (t := .double) (by decide) (t' := .boolean) (by decide))), S.2.2.2.2.2.2.2.1.other W (Or.inr (slot_ne (C := "com/example/locks_over_messages/locksovermessages/Simulation$Settings") (a0 := a0) (Or.inl (hw _ (List.mem_of_getElem? (i := 17) rfl))) (Or.inl (hw _ (List.mem_of_getElem? (i := 38) rfl))) (by decide) (t := .long) (by decide) (t' := .boolean) (by decide))), S.2.2.2.2.2.2.2.2.same W⟩
theorem own_fld_eq {Z : State} {h : Heap} {a : Addr} {C n d : String} {v w : Value} (F : Fld Z h a C n d v) (e : v = w) : Fld Z h a C n d w := e ▸ F
theorem d1_0 : decode jdk_29_method_65_code 0 = .ok (.iload_n 0, 1) := by decide +kernel
theorem d1_1 : decode jdk_29_method_65_code 1 = .ok (.iload_n 1, 1) := by decide +kernel
theorem d1_2 : decode jdk_29_method_65_code 2 = .ok (.if_icmp .lt 7, 3) := by decide +kernel
theorem d1_5 : decode jdk_29_method_65_code 5 = .ok (.iload_n 0, 1) := by decide +kernel
theorem d1_6 : decode jdk_29_method_65_code 6 = .ok (.goto 4, 3) := by decide +kernel
theorem d1_9 : decode jdk_29_method_65_code 9 = .ok (.iload_n 1, 1) := by decide +kernel
theorem d1_10 : decode jdk_29_method_65_code 10 = .ok (.ireturn, 1) := by decide +kernel
theorem d2_0 : decode prog_49_method_1_code 0 = .ok (.aload_n 0, 1) := by decide +kernel
theorem d2_1 : decode prog_49_method_1_code 1 = .ok (.invokespecial 1, 3) := by decide +kernel
theorem d2_4 : decode prog_49_method_1_code 4 = .ok (.aload_n 0, 1) := by decide +kernel
theorem d2_5 : decode prog_49_method_1_code 5 = .ok (.dconst 1, 1) := by decide +kernel
theorem d2_6 : decode prog_49_method_1_code 6 = .ok (.putfield 7, 3) := by decide +kernel
theorem d2_9 : decode prog_49_method_1_code 9 = .ok (.aload_n 0, 1) := by decide +kernel
theorem d2_10 : decode prog_49_method_1_code 10 = .ok (.lconst 1, 1) := by decide +kernel
theorem d2_11 : decode prog_49_method_1_code 11 = .ok (.putfield 13, 3) := by decide +kernel
theorem d2_14 : decode prog_49_method_1_code 14 = .ok (.iload_n 1, 1) := by decide +kernel
theorem d2_15 : decode prog_49_method_1_code 15 = .ok (.iconst 1, 1) := by decide +kernel
theorem d2_16 : decode prog_49_method_1_code 16 = .ok (.if_icmp .ge 17, 3) := by decide +kernel
theorem d2_19 : decode prog_49_method_1_code 19 = .ok (.new 17, 3) := by decide +kernel
theorem d2_22 : decode prog_49_method_1_code 22 = .ok (.dup, 1) := by decide +kernel
theorem d2_23 : decode prog_49_method_1_code 23 = .ok (.iload_n 1, 1) := by decide +kernel
theorem d2_24 : decode prog_49_method_1_code 24 = .ok (.invokedynamic 19, 5) := by decide +kernel
theorem d2_29 : decode prog_49_method_1_code 29 = .ok (.invokespecial 23, 3) := by decide +kernel
theorem d2_32 : decode prog_49_method_1_code 32 = .ok (.athrow, 1) := by decide +kernel
theorem d2_33 : decode prog_49_method_1_code 33 = .ok (.iload_n 2, 1) := by decide +kernel
theorem d2_34 : decode prog_49_method_1_code 34 = .ok (.iconst 1, 1) := by decide +kernel
theorem d2_35 : decode prog_49_method_1_code 35 = .ok (.if_icmp .ge 17, 3) := by decide +kernel
theorem d2_38 : decode prog_49_method_1_code 38 = .ok (.new 17, 3) := by decide +kernel
theorem d2_41 : decode prog_49_method_1_code 41 = .ok (.dup, 1) := by decide +kernel
theorem d2_42 : decode prog_49_method_1_code 42 = .ok (.iload_n 2, 1) := by decide +kernel
theorem d2_43 : decode prog_49_method_1_code 43 = .ok (.invokedynamic 26, 5) := by decide +kernel
theorem d2_48 : decode prog_49_method_1_code 48 = .ok (.invokespecial 23, 3) := by decide +kernel
theorem d2_51 : decode prog_49_method_1_code 51 = .ok (.athrow, 1) := by decide +kernel
theorem d2_52 : decode prog_49_method_1_code 52 = .ok (.aload_n 0, 1) := by decide +kernel
theorem d2_53 : decode prog_49_method_1_code 53 = .ok (.iload_n 1, 1) := by decide +kernel
theorem d2_54 : decode prog_49_method_1_code 54 = .ok (.putfield 27, 3) := by decide +kernel
theorem d2_57 : decode prog_49_method_1_code 57 = .ok (.aload_n 0, 1) := by decide +kernel
theorem d2_58 : decode prog_49_method_1_code 58 = .ok (.iload_n 2, 1) := by decide +kernel
theorem d2_59 : decode prog_49_method_1_code 59 = .ok (.putfield 31, 3) := by decide +kernel
theorem d2_62 : decode prog_49_method_1_code 62 = .ok (.return_, 1) := by decide +kernel
theorem d4_0 : decode prog_49_method_11_code 0 = .ok (.new 8, 3) := by decide +kernel
theorem d4_3 : decode prog_49_method_11_code 3 = .ok (.dup, 1) := by decide +kernel
theorem d4_4 : decode prog_49_method_11_code 4 = .ok (.aload_n 0, 1) := by decide +kernel
theorem d4_5 : decode prog_49_method_11_code 5 = .ok (.invokespecial 47, 3) := by decide +kernel
theorem d4_8 : decode prog_49_method_11_code 8 = .ok (.astore_n 3, 1) := by decide +kernel
theorem d4_9 : decode prog_49_method_11_code 9 = .ok (.aload_n 3, 1) := by decide +kernel
theorem d4_10 : decode prog_49_method_11_code 10 = .ok (.ldc 50, 2) := by decide +kernel
theorem d4_12 : decode prog_49_method_11_code 12 = .ok (.dload_n 1, 1) := by decide +kernel
theorem d4_13 : decode prog_49_method_11_code 13 = .ok (.invokestatic 51, 3) := by decide +kernel
theorem d4_16 : decode prog_49_method_11_code 16 = .ok (.putfield 7, 3) := by decide +kernel
theorem d4_19 : decode prog_49_method_11_code 19 = .ok (.aload_n 3, 1) := by decide +kernel
theorem d4_20 : decode prog_49_method_11_code 20 = .ok (.areturn, 1) := by decide +kernel
theorem d5_0 : decode prog_49_method_2_code 0 = .ok (.aload_n 0, 1) := by decide +kernel
theorem d5_1 : decode prog_49_method_2_code 1 = .ok (.invokespecial 1, 3) := by decide +kernel
theorem d5_4 : decode prog_49_method_2_code 4 = .ok (.aload_n 0, 1) := by decide +kernel
theorem d5_5 : decode prog_49_method_2_code 5 = .ok (.dconst 1, 1) := by decide +kernel
theorem d5_6 : decode prog_49_method_2_code 6 = .ok (.putfield 7, 3) := by decide +kernel
theorem d5_9 : decode prog_49_method_2_code 9 = .ok (.aload_n 0, 1) := by decide +kernel
theorem d5_10 : decode prog_49_method_2_code 10 = .ok (.lconst 1, 1) := by decide +kernel
theorem d5_11 : decode prog_49_method_2_code 11 = .ok (.putfield 13, 3) := by decide +kernel
theorem d5_14 : decode prog_49_method_2_code 14 = .ok (.aload_n 0, 1) := by decide +kernel
theorem d5_15 : decode prog_49_method_2_code 15 = .ok (.aload_n 1, 1) := by decide +kernel
theorem d5_16 : decode prog_49_method_2_code 16 = .ok (.getfield 27, 3) := by decide +kernel
theorem d5_19 : decode prog_49_method_2_code 19 = .ok (.putfield 27, 3) := by decide +kernel
theorem d5_22 : decode prog_49_method_2_code 22 = .ok (.aload_n 0, 1) := by decide +kernel
theorem d5_23 : decode prog_49_method_2_code 23 = .ok (.aload_n 1, 1) := by decide +kernel
theorem d5_24 : decode prog_49_method_2_code 24 = .ok (.getfield 31, 3) := by decide +kernel
theorem d5_27 : decode prog_49_method_2_code 27 = .ok (.putfield 31, 3) := by decide +kernel
theorem d5_30 : decode prog_49_method_2_code 30 = .ok (.aload_n 0, 1) := by decide +kernel
theorem d5_31 : decode prog_49_method_2_code 31 = .ok (.aload_n 1, 1) := by decide +kernel
theorem d5_32 : decode prog_49_method_2_code 32 = .ok (.getfield 7, 3) := by decide +kernel
theorem d5_35 : decode prog_49_method_2_code 35 = .ok (.putfield 7, 3) := by decide +kernel
theorem d5_38 : decode prog_49_method_2_code 38 = .ok (.aload_n 0, 1) := by decide +kernel
theorem d5_39 : decode prog_49_method_2_code 39 = .ok (.aload_n 1, 1) := by decide +kernel
theorem d5_40 : decode prog_49_method_2_code 40 = .ok (.getfield 34, 3) := by decide +kernel
theorem d5_43 : decode prog_49_method_2_code 43 = .ok (.putfield 34, 3) := by decide +kernel
theorem d5_46 : decode prog_49_method_2_code 46 = .ok (.aload_n 0, 1) := by decide +kernel
theorem d5_47 : decode prog_49_method_2_code 47 = .ok (.aload_n 1, 1) := by decide +kernel
theorem d5_48 : decode prog_49_method_2_code 48 = .ok (.getfield 37, 3) := by decide +kernel
theorem d5_51 : decode prog_49_method_2_code 51 = .ok (.putfield 37, 3) := by decide +kernel
theorem d5_54 : decode prog_49_method_2_code 54 = .ok (.aload_n 0, 1) := by decide +kernel
theorem d5_55 : decode prog_49_method_2_code 55 = .ok (.aload_n 1, 1) := by decide +kernel
theorem d5_56 : decode prog_49_method_2_code 56 = .ok (.getfield 40, 3) := by decide +kernel
theorem d5_59 : decode prog_49_method_2_code 59 = .ok (.putfield 40, 3) := by decide +kernel
theorem d5_62 : decode prog_49_method_2_code 62 = .ok (.aload_n 0, 1) := by decide +kernel
theorem d5_63 : decode prog_49_method_2_code 63 = .ok (.aload_n 1, 1) := by decide +kernel
theorem d5_64 : decode prog_49_method_2_code 64 = .ok (.getfield 13, 3) := by decide +kernel
theorem d5_67 : decode prog_49_method_2_code 67 = .ok (.putfield 13, 3) := by decide +kernel
theorem d5_70 : decode prog_49_method_2_code 70 = .ok (.aload_n 0, 1) := by decide +kernel
theorem d5_71 : decode prog_49_method_2_code 71 = .ok (.aload_n 1, 1) := by decide +kernel
theorem d5_72 : decode prog_49_method_2_code 72 = .ok (.getfield 43, 3) := by decide +kernel
theorem d5_75 : decode prog_49_method_2_code 75 = .ok (.putfield 43, 3) := by decide +kernel
theorem d5_78 : decode prog_49_method_2_code 78 = .ok (.return_, 1) := by decide +kernel
theorem d6_0 : decode prog_49_method_17_code 0 = .ok (.dload_n 1, 1) := by decide +kernel
theorem d6_1 : decode prog_49_method_17_code 1 = .ok (.invokestatic 58, 3) := by decide +kernel
theorem d6_4 : decode prog_49_method_17_code 4 = .ok (.ifCond .eq 9, 3) := by decide +kernel
theorem d6_7 : decode prog_49_method_17_code 7 = .ok (.dload_n 1, 1) := by decide +kernel
theorem d6_8 : decode prog_49_method_17_code 8 = .ok (.dconst 0, 1) := by decide +kernel
theorem d6_9 : decode prog_49_method_17_code 9 = .ok (.dcmp .g, 1) := by decide +kernel
theorem d6_10 : decode prog_49_method_17_code 10 = .ok (.ifCond .ge 18, 3) := by decide +kernel
theorem d6_13 : decode prog_49_method_17_code 13 = .ok (.new 17, 3) := by decide +kernel
theorem d6_16 : decode prog_49_method_17_code 16 = .ok (.dup, 1) := by decide +kernel
theorem d6_17 : decode prog_49_method_17_code 17 = .ok (.aload_n 0, 1) := by decide +kernel
theorem d6_18 : decode prog_49_method_17_code 18 = .ok (.dload_n 1, 1) := by decide +kernel
theorem d6_19 : decode prog_49_method_17_code 19 = .ok (.invokedynamic 64, 5) := by decide +kernel
theorem d6_24 : decode prog_49_method_17_code 24 = .ok (.invokespecial 23, 3) := by decide +kernel
theorem d6_27 : decode prog_49_method_17_code 27 = .ok (.athrow, 1) := by decide +kernel
theorem d6_28 : decode prog_49_method_17_code 28 = .ok (.dload_n 1, 1) := by decide +kernel
theorem d6_29 : decode prog_49_method_17_code 29 = .ok (.dreturn, 1) := by decide +kernel
theorem d7_0 : decode jdk_117_method_8_code 0 = .ok (.dload_n 0, 1) := by decide +kernel
theorem d7_1 : decode jdk_117_method_8_code 1 = .ok (.invokestatic 38, 3) := by decide +kernel
theorem d7_4 : decode jdk_117_method_8_code 4 = .ok (.ldc2_w 111, 3) := by decide +kernel
theorem d7_7 : decode jdk_117_method_8_code 7 = .ok (.dcmp .g, 1) := by decide +kernel
theorem d7_8 : decode jdk_117_method_8_code 8 = .ok (.ifCond .gt 7, 3) := by decide +kernel
theorem d7_11 : decode jdk_117_method_8_code 11 = .ok (.iconst 1, 1) := by decide +kernel
theorem d7_12 : decode jdk_117_method_8_code 12 = .ok (.goto 4, 3) := by decide +kernel
theorem d7_15 : decode jdk_117_method_8_code 15 = .ok (.iconst 0, 1) := by decide +kernel
theorem d7_16 : decode jdk_117_method_8_code 16 = .ok (.ireturn, 1) := by decide +kernel
theorem d9_0 : decode prog_49_method_12_code 0 = .ok (.new 8, 3) := by decide +kernel
theorem d9_3 : decode prog_49_method_12_code 3 = .ok (.dup, 1) := by decide +kernel
theorem d9_4 : decode prog_49_method_12_code 4 = .ok (.aload_n 0, 1) := by decide +kernel
theorem d9_5 : decode prog_49_method_12_code 5 = .ok (.invokespecial 47, 3) := by decide +kernel
theorem d9_8 : decode prog_49_method_12_code 8 = .ok (.astore_n 3, 1) := by decide +kernel
theorem d9_9 : decode prog_49_method_12_code 9 = .ok (.aload_n 3, 1) := by decide +kernel
theorem d9_10 : decode prog_49_method_12_code 10 = .ok (.ldc 55, 2) := by decide +kernel
theorem d9_12 : decode prog_49_method_12_code 12 = .ok (.dload_n 1, 1) := by decide +kernel
theorem d9_13 : decode prog_49_method_12_code 13 = .ok (.invokestatic 51, 3) := by decide +kernel
theorem d9_16 : decode prog_49_method_12_code 16 = .ok (.putfield 34, 3) := by decide +kernel
theorem d9_19 : decode prog_49_method_12_code 19 = .ok (.aload_n 3, 1) := by decide +kernel
theorem d9_20 : decode prog_49_method_12_code 20 = .ok (.areturn, 1) := by decide +kernel
theorem d10_0 : decode prog_49_method_13_code 0 = .ok (.new 8, 3) := by decide +kernel
theorem d10_3 : decode prog_49_method_13_code 3 = .ok (.dup, 1) := by decide +kernel
theorem d10_4 : decode prog_49_method_13_code 4 = .ok (.aload_n 0, 1) := by decide +kernel
theorem d10_5 : decode prog_49_method_13_code 5 = .ok (.invokespecial 47, 3) := by decide +kernel
theorem d10_8 : decode prog_49_method_13_code 8 = .ok (.astore_n 3, 1) := by decide +kernel
theorem d10_9 : decode prog_49_method_13_code 9 = .ok (.aload_n 3, 1) := by decide +kernel
theorem d10_10 : decode prog_49_method_13_code 10 = .ok (.ldc 56, 2) := by decide +kernel
theorem d10_12 : decode prog_49_method_13_code 12 = .ok (.dload_n 1, 1) := by decide +kernel
theorem d10_13 : decode prog_49_method_13_code 13 = .ok (.invokestatic 51, 3) := by decide +kernel
theorem d10_16 : decode prog_49_method_13_code 16 = .ok (.putfield 37, 3) := by decide +kernel
theorem d10_19 : decode prog_49_method_13_code 19 = .ok (.aload_n 3, 1) := by decide +kernel
theorem d10_20 : decode prog_49_method_13_code 20 = .ok (.areturn, 1) := by decide +kernel
theorem d11_0 : decode prog_49_method_14_code 0 = .ok (.new 8, 3) := by decide +kernel
theorem d11_3 : decode prog_49_method_14_code 3 = .ok (.dup, 1) := by decide +kernel
theorem d11_4 : decode prog_49_method_14_code 4 = .ok (.aload_n 0, 1) := by decide +kernel
theorem d11_5 : decode prog_49_method_14_code 5 = .ok (.invokespecial 47, 3) := by decide +kernel
theorem d11_8 : decode prog_49_method_14_code 8 = .ok (.astore_n 3, 1) := by decide +kernel
theorem d11_9 : decode prog_49_method_14_code 9 = .ok (.aload_n 3, 1) := by decide +kernel
theorem d11_10 : decode prog_49_method_14_code 10 = .ok (.ldc 57, 2) := by decide +kernel
theorem d11_12 : decode prog_49_method_14_code 12 = .ok (.dload_n 1, 1) := by decide +kernel
theorem d11_13 : decode prog_49_method_14_code 13 = .ok (.invokestatic 51, 3) := by decide +kernel
theorem d11_16 : decode prog_49_method_14_code 16 = .ok (.putfield 40, 3) := by decide +kernel
theorem d11_19 : decode prog_49_method_14_code 19 = .ok (.aload_n 3, 1) := by decide +kernel
theorem d11_20 : decode prog_49_method_14_code 20 = .ok (.areturn, 1) := by decide +kernel
theorem d12_0 : decode prog_49_method_15_code 0 = .ok (.new 8, 3) := by decide +kernel
theorem d12_3 : decode prog_49_method_15_code 3 = .ok (.dup, 1) := by decide +kernel
theorem d12_4 : decode prog_49_method_15_code 4 = .ok (.aload_n 0, 1) := by decide +kernel
theorem d12_5 : decode prog_49_method_15_code 5 = .ok (.invokespecial 47, 3) := by decide +kernel
theorem d12_8 : decode prog_49_method_15_code 8 = .ok (.astore_n 3, 1) := by decide +kernel
theorem d12_9 : decode prog_49_method_15_code 9 = .ok (.aload_n 3, 1) := by decide +kernel
theorem d12_10 : decode prog_49_method_15_code 10 = .ok (.lload_n 1, 1) := by decide +kernel
theorem d12_11 : decode prog_49_method_15_code 11 = .ok (.putfield 13, 3) := by decide +kernel
theorem d12_14 : decode prog_49_method_15_code 14 = .ok (.aload_n 3, 1) := by decide +kernel
theorem d12_15 : decode prog_49_method_15_code 15 = .ok (.areturn, 1) := by decide +kernel
theorem d13_0 : decode prog_49_method_16_code 0 = .ok (.new 8, 3) := by decide +kernel
theorem d13_3 : decode prog_49_method_16_code 3 = .ok (.dup, 1) := by decide +kernel
theorem d13_4 : decode prog_49_method_16_code 4 = .ok (.aload_n 0, 1) := by decide +kernel
theorem d13_5 : decode prog_49_method_16_code 5 = .ok (.invokespecial 47, 3) := by decide +kernel
theorem d13_8 : decode prog_49_method_16_code 8 = .ok (.astore_n 2, 1) := by decide +kernel
theorem d13_9 : decode prog_49_method_16_code 9 = .ok (.aload_n 2, 1) := by decide +kernel
theorem d13_10 : decode prog_49_method_16_code 10 = .ok (.iload_n 1, 1) := by decide +kernel
theorem d13_11 : decode prog_49_method_16_code 11 = .ok (.putfield 43, 3) := by decide +kernel
theorem d13_14 : decode prog_49_method_16_code 14 = .ok (.aload_n 2, 1) := by decide +kernel
theorem d13_15 : decode prog_49_method_16_code 15 = .ok (.areturn, 1) := by decide +kernel
theorem d14_0 : decode prog_49_method_10_code 0 = .ok (.aload_n 0, 1) := by decide +kernel
theorem d14_1 : decode prog_49_method_10_code 1 = .ok (.getfield 43, 3) := by decide +kernel
theorem d14_4 : decode prog_49_method_10_code 4 = .ok (.ireturn, 1) := by decide +kernel
theorem d15_0 : decode prog_49_method_3_code 0 = .ok (.aload_n 0, 1) := by decide +kernel
theorem d15_1 : decode prog_49_method_3_code 1 = .ok (.getfield 27, 3) := by decide +kernel
theorem d15_4 : decode prog_49_method_3_code 4 = .ok (.ireturn, 1) := by decide +kernel
theorem d16_0 : decode prog_49_method_4_code 0 = .ok (.aload_n 0, 1) := by decide +kernel
theorem d16_1 : decode prog_49_method_4_code 1 = .ok (.getfield 31, 3) := by decide +kernel
theorem d16_4 : decode prog_49_method_4_code 4 = .ok (.ireturn, 1) := by decide +kernel
theorem d17_0 : decode prog_49_method_5_code 0 = .ok (.aload_n 0, 1) := by decide +kernel
theorem d17_1 : decode prog_49_method_5_code 1 = .ok (.getfield 7, 3) := by decide +kernel
theorem d17_4 : decode prog_49_method_5_code 4 = .ok (.dreturn, 1) := by decide +kernel
theorem d18_0 : decode prog_49_method_6_code 0 = .ok (.aload_n 0, 1) := by decide +kernel
theorem d18_1 : decode prog_49_method_6_code 1 = .ok (.getfield 34, 3) := by decide +kernel
theorem d18_4 : decode prog_49_method_6_code 4 = .ok (.dreturn, 1) := by decide +kernel
theorem d19_0 : decode prog_49_method_7_code 0 = .ok (.aload_n 0, 1) := by decide +kernel
theorem d19_1 : decode prog_49_method_7_code 1 = .ok (.getfield 37, 3) := by decide +kernel
theorem d19_4 : decode prog_49_method_7_code 4 = .ok (.dreturn, 1) := by decide +kernel
theorem d20_0 : decode prog_49_method_8_code 0 = .ok (.aload_n 0, 1) := by decide +kernel
theorem d20_1 : decode prog_49_method_8_code 1 = .ok (.getfield 40, 3) := by decide +kernel
theorem d20_4 : decode prog_49_method_8_code 4 = .ok (.dreturn, 1) := by decide +kernel
theorem d21_0 : decode prog_49_method_9_code 0 = .ok (.aload_n 0, 1) := by decide +kernel
theorem d21_1 : decode prog_49_method_9_code 1 = .ok (.getfield 13, 3) := by decide +kernel
theorem d21_4 : decode prog_49_method_9_code 4 = .ok (.lreturn, 1) := by decide +kernel
theorem pd1 : parseMethodDescriptor "(IIIJI)Z" = some ⟨[.int, .int, .int, .long, .int], some .boolean⟩ := by decide +kernel
theorem pd2 : parseMethodDescriptor "(II)I" = some ⟨[.int, .int], some .int⟩ := by decide +kernel
theorem pd3 : parseMethodDescriptor "(II)V" = some ⟨[.int, .int], none⟩ := by decide +kernel
theorem pd4 : parseMethodDescriptor "()V" = some ⟨[], none⟩ := by decide +kernel
theorem pd5 : parseMethodDescriptor "(D)Lcom/example/locks_over_messages/locksovermessages/Simulation$Settings;" = some ⟨[.double], (some (.object "com/example/locks_over_messages/locksovermessages/Simulation$Settings"))⟩ := by decide +kernel
theorem pd6 : parseMethodDescriptor "(Lcom/example/locks_over_messages/locksovermessages/Simulation$Settings;)V" = some ⟨[(.object "com/example/locks_over_messages/locksovermessages/Simulation$Settings")], none⟩ := by decide +kernel
theorem pd7 : parseMethodDescriptor "(Ljava/lang/String;D)D" = some ⟨[(.object "java/lang/String"), .double], some .double⟩ := by decide +kernel
theorem pd8 : parseMethodDescriptor "(D)Z" = some ⟨[.double], some .boolean⟩ := by decide +kernel
theorem pd9 : parseMethodDescriptor "(D)D" = some ⟨[.double], some .double⟩ := by decide +kernel
theorem pd10 : parseMethodDescriptor "(J)Lcom/example/locks_over_messages/locksovermessages/Simulation$Settings;" = some ⟨[.long], (some (.object "com/example/locks_over_messages/locksovermessages/Simulation$Settings"))⟩ := by decide +kernel
theorem pd11 : parseMethodDescriptor "(Z)Lcom/example/locks_over_messages/locksovermessages/Simulation$Settings;" = some ⟨[.boolean], (some (.object "com/example/locks_over_messages/locksovermessages/Simulation$Settings"))⟩ := by decide +kernel
theorem pd12 : parseMethodDescriptor "()Z" = some ⟨[], some .boolean⟩ := by decide +kernel
theorem pd13 : parseMethodDescriptor "()I" = some ⟨[], some .int⟩ := by decide +kernel
theorem pd14 : parseMethodDescriptor "()D" = some ⟨[], some .double⟩ := by decide +kernel
theorem pd15 : parseMethodDescriptor "()J" = some ⟨[], some .long⟩ := by decide +kernel
theorem own_plain_max : plainFor (⟨"java/lang/Math", "max", "(II)I"⟩ : MethodName) = true := Jvm.Free.JP.mathPlain rfl (by decide +kernel)
def Q1 (Z : State) (x : Int32) (y : Int32) (h0 : Heap) (n0 : Nat) (v : Option Value) (h : Heap) (L : List Loc) : Prop := v = some (.int (if x < y then y else x)) ∧ Fr n0 L ∧ h0 = h
set_option maxRecDepth 65536 in
set_option maxHeartbeats 40000000 in
theorem rm1 (l : Launch) (Z : State) (a0 : Array Value) (hw : ∀ d ∈ tables_1, d.before a0 Z = true) (ws : List Jvm.Cond) (x : Int32) (y : Int32) (h0 : Heap) (n0 : Nat) (Z0 : n0 ≤ h0.size)  :
    MetFree l (⟨"java/lang/Math", "max", "(II)I"⟩ : MethodName) (head1 (Jvm.Cond.code (⟨"java/lang/Math", "max", "(II)I"⟩ : MethodName) jdk_29_method_65_code 2 (some .int) :: ws) ({ frames := 0, cells := 0, slots := 0, locals := 0 } : Room)) (fun aa_ U => aa_ = #[(.int x), (.int y)] ∧ Z.Warmed39 U.vm ∧ U.heap = h0) (fun _ _ _ _ _ => True) (fun _ U o U' => ∃ v L, o = .returned v ∧ Q1 Z x y h0 n0 v U'.heap L ∧ FrameEnd U o U' L ({ frames := 0, cells := 0, slots := 0, locals := 0 } : Room).cells ({ frames := 0, cells := 0, slots := 0, locals := 0 } : Room).slots) := by
  refine MetFree.of_bodySF (Jvm.Free.JP.mathPlain rfl (by decide +kernel)) hisR ?_
  intro p e s m args below meth c s₁ Bd hml0 hP hK
  obtain ⟨rfl, hZ, hh⟩ := hP
  have hx := Bd.exec
  have hby := Bd.bytes
  have hml : c.maxLocals = 2 := hml0
  have hown : s.vm.findClass "java/lang/Math" = some m.cls := findClass_of_methodNamed Bd.named
  have hnm := (name_of_methodNamed Bd.named Bd.method).1
  have X0 : Stand p l e ({ frames := 0, cells := 0, slots := 0, locals := 0 } : Room) s m #[(.int x), (.int y)] below meth c s₁ [] 0 0 := Stand.of_body Bd
  have e0 : s₁.heap = h0 := by rw [← hh, Bd.state]; rfl
  have N0 := Fr.nil n0
  obtain ⟨G, hG⟩ : ∃ G, G = entryFrame m #[(.int x), (.int y)] 2 := ⟨_, rfl⟩
  have S0 : own_Go p e below s₁ G s₁ (mkF m 0 #[.val (.int x), .val (.int y)] []) := fun tg_ kk_ => castTop (by rw [hG]; first | rfl | simp [entryFrame, mkF, argsToLocals, Value.category, maxLocals]) kk_
  have S1 : own_Go p e below s₁ G s₁ (mkF m 2 #[.val (.int x), .val (.int y)] [(.int y), (.int x)]) := fun tg_ kk_ => S0 tg_ (by
    refine XS.iloadN X0.here hx rfl (hb hby d1_0) rfl ?_
    show Steps p.tables e below (s₁.setTop (mkF m 1 #[.val (.int x), .val (.int y)] [(.int x)])) _
    refine XS.iloadN X0.here hx rfl (hb hby d1_1) rfl ?_
    exact kk_)
  by_cases hc : x < y
  · have hq : (if x < y then y else x) = y := if_pos hc
    have S2 : own_Go p e below s₁ G s₁ (mkF m 10 #[.val (.int x), .val (.int y)] [(.int y)]) := fun tg_ kk_ => S1 tg_ (by
      refine XS.icmpYes X0.here hx rfl (pc0 := 2) (pc' := 9) rfl (hb hby d1_2) rfl (tlt hc).1 (by decide) (by decide) ?_
      show Steps p.tables e below (s₁.setTop (mkF m 9 #[.val (.int x), .val (.int y)] [])) _
      refine XS.iloadN X0.here hx rfl (hb hby d1_9) rfl ?_
      exact kk_)
    obtain ⟨fs, hr, hrun, hended, hW, hsame⟩ := X0.leave (v := some (.int y)) (fun h => by rw [Bd.returns] at h; cases h)
    refine ⟨_, _, ?_, hrun, hended, _, _, rfl, ?_, ⟨_, rfl⟩, hW, hsame.mono (by decide) (by decide)⟩
    · rw [← hG]; exact S2 _ (retI X0 hx Bd.returns (hb hby d1_10) hr)
    · show Q1 Z x y h0 n0 _ s₁.heap _
      rw [e0]
      exact ⟨by rw [hq], N0, rfl⟩
  · have hq : (if x < y then y else x) = x := if_neg hc
    have S3 : own_Go p e below s₁ G s₁ (mkF m 10 #[.val (.int x), .val (.int y)] [(.int x)]) := fun tg_ kk_ => S1 tg_ (by
      refine XS.icmpNo X0.here hx rfl (hb hby d1_2) rfl (flt hc).1 ?_
      show Steps p.tables e below (s₁.setTop (mkF m 5 #[.val (.int x), .val (.int y)] [])) _
      refine XS.iloadN X0.here hx rfl (hb hby d1_5) rfl ?_
      show Steps p.tables e below (s₁.setTop (mkF m 6 #[.val (.int x), .val (.int y)] [(.int x)])) _
      refine XS.goto X0.here hx rfl (pc0 := 6) (pc' := 10) rfl (hb hby d1_6) (by decide) (by decide) ?_
      exact kk_)
    obtain ⟨fs, hr, hrun, hended, hW, hsame⟩ := X0.leave (v := some (.int x)) (fun h => by rw [Bd.returns] at h; cases h)
    refine ⟨_, _, ?_, hrun, hended, _, _, rfl, ?_, ⟨_, rfl⟩, hW, hsame.mono (by decide) (by decide)⟩
    · rw [← hG]; exact S3 _ (retI X0 hx Bd.returns (hb hby d1_10) hr)
    · show Q1 Z x y h0 n0 _ s₁.heap _
      rw [e0]
      exact ⟨by rw [hq], N0, rfl⟩
theorem pn2 : plainName "com/example/locks_over_messages/locksovermessages/Simulation$Settings" = true := by first | (simp [plainName, overriddenIn]; done) | decide +kernel
def Q2 (Z : State) (a : Addr) (mc : Int32) (ec : Int32) (h0 : Heap) (n0 : Nat) (v : Option Value) (h : Heap) (L : List Loc) : Prop := v = none ∧ Fr n0 L ∧ Keep h0 h [a] ∧ own_Set Z h a mc ec FP.dconst1 0 0 0 1 0
set_option maxRecDepth 65536 in
set_option maxHeartbeats 40000000 in
theorem rm2 (l : Launch) (Z : State) (a0 : Array Value) (hw : ∀ d ∈ tables_1, d.before a0 Z = true) (ws : List Jvm.Cond) (a : Addr) (mc : Int32) (ec : Int32) (h0 : Heap) (n0 : Nat) (Z0 : n0 ≤ h0.size) (S : own_Set Z h0 a 0 0 0 0 0 0 0 0) (ha : n0 ≤ a) (h1 : ¬ mc < 1) (h2 : ¬ ec < 1) :
    MetFree l (⟨"com/example/locks_over_messages/locksovermessages/Simulation$Settings", "<init>", "(II)V"⟩ : MethodName) (head1 (Jvm.Cond.code (⟨"com/example/locks_over_messages/locksovermessages/Simulation$Settings", "<init>", "(II)V"⟩ : MethodName) prog_49_method_1_code 3 none :: ws) ({ frames := 1, cells := 0, slots := 0, locals := 12 } : Room)) (fun aa_ U => aa_ = #[(.ref a), (.int mc), (.int ec)] ∧ Z.Warmed39 U.vm ∧ U.heap = h0) (fun _ _ _ _ _ => True) (fun _ U o U' => ∃ v L, o = .returned v ∧ Q2 Z a mc ec h0 n0 v U'.heap L ∧ FrameEnd U o U' L ({ frames := 1, cells := 0, slots := 0, locals := 12 } : Room).cells ({ frames := 1, cells := 0, slots := 0, locals := 12 } : Room).slots) := by
  refine MetFree.of_bodySF (plainFor_of_name pn2) hisR ?_
  intro p e s m args below meth c s₁ Bd hml0 hP hK
  obtain ⟨rfl, hZ, hh⟩ := hP
  have hx := Bd.exec
  have hby := Bd.bytes
  have hml : c.maxLocals = 3 := hml0
  have hown : s.vm.findClass "com/example/locks_over_messages/locksovermessages/Simulation$Settings" = some m.cls := findClass_of_methodNamed Bd.named
  have hnm := (name_of_methodNamed Bd.named Bd.method).1
  have X0 : Stand p l e ({ frames := 1, cells := 0, slots := 0, locals := 12 } : Room) s m #[(.ref a), (.int mc), (.int ec)] below meth c s₁ [] 0 0 := Stand.of_body Bd
  have e0 : s₁.heap = h0 := by rw [← hh, Bd.state]; rfl
  have N0 := Fr.nil n0
  obtain ⟨G, hG⟩ : ∃ G, G = entryFrame m #[(.ref a), (.int mc), (.int ec)] 3 := ⟨_, rfl⟩
  have S0 : own_Go p e below s₁ G s₁ (mkF m 0 #[.val (.ref a), .val (.int mc), .val (.int ec)] []) := fun tg_ kk_ => castTop (by rw [hG]; first | rfl | simp [entryFrame, mkF, argsToLocals, Value.category, maxLocals]) kk_
  have S4 : own_Go p e below s₁ G s₁ (mkF m 1 #[.val (.ref a), .val (.int mc), .val (.int ec)] [(.ref a)]) := fun tg_ kk_ => S0 tg_ (by
    refine XS.aloadN X0.here hx rfl (hb hby d2_0) rfl rfl ?_
    exact kk_)
  obtain ⟨T5, X5, e5, st5⟩ := initO X0 hx hZ hown (hw _ (List.mem_of_getElem? (i := 11) rfl)) (hw _ (List.mem_of_getElem? (i := 12) rfl)) (hw _ (List.mem_of_getElem? (i := 13) rfl)) e0 (g := (mkF m 1 #[.val (.ref a), .val (.int mc), .val (.int ec)] [(.ref a)])) rfl (by rw [hml]; rfl) rfl (hb hby d2_1) (by decide) (W := 0) (by show 2 * 0 + _ ≤ _; exact Nat.le_of_eq rfl) (by decide)
  have S6 : own_Go p e below s₁ G T5 (mkF m 4 #[.val (.ref a), .val (.int mc), .val (.int ec)] []) := fun tg_ kk_ => S4 tg_ (st5 tg_ kk_)
  have S7 : own_Go p e below s₁ G T5 (mkF m 6 #[.val (.ref a), .val (.int mc), .val (.int ec)] [(.double FP.dconst1), (.ref a)]) := fun tg_ kk_ => S6 tg_ (by
    refine XS.aloadN X5.here hx rfl (hb hby d2_4) rfl rfl ?_
    show Steps p.tables e below (T5.setTop (mkF m 5 #[.val (.ref a), .val (.int mc), .val (.int ec)] [(.ref a)])) _
    refine XS.dconst1 X5.here hx rfl (hb hby d2_5) rfl ?_
    exact kk_)
  obtain ⟨T8, h8, X8, e8, W8, st8⟩ := putF X5 hx hZ hown (host := "") (Or.inl (hw _ (List.mem_of_getElem? (i := 14) rfl))) Via.refl e5 S.2.2.2.1 S.1 (Or.inl (hw _ (List.mem_of_getElem? (i := 15) rfl))) (hw _ (List.mem_of_getElem? (i := 6) rfl)) (ty := .double) (by decide) rfl rfl (g := (mkF m 6 #[.val (.ref a), .val (.int mc), .val (.int ec)] [(.double FP.dconst1), (.ref a)])) rfl rfl (hb hby d2_6)
  have S9 : own_Go p e below s₁ G T8 (mkF m 9 #[.val (.ref a), .val (.int mc), .val (.int ec)] []) := fun tg_ kk_ => S7 tg_ (st8 tg_ kk_)
  have N8 := Fr.snoc X8 N0 ha
  have S8x := own_Set.wr2 hw W8 S
  have K8 : Keep h0 h8 [a] := (Keep.refl h0 [a]).wr W8 (Or.inl (List.mem_of_getElem? (i := 0) rfl))
  have S10 : own_Go p e below s₁ G T8 (mkF m 11 #[.val (.ref a), .val (.int mc), .val (.int ec)] [(.long (1 : Int64)), (.ref a)]) := fun tg_ kk_ => S9 tg_ (by
    refine XS.aloadN X8.here hx rfl (hb hby d2_9) rfl rfl ?_
    show Steps p.tables e below (T8.setTop (mkF m 10 #[.val (.ref a), .val (.int mc), .val (.int ec)] [(.ref a)])) _
    refine XT.lconst X8.here hx rfl (hb hby d2_10) ?_
    exact kk_)
  obtain ⟨T11, h11, X11, e11, W11, st11⟩ := putF X8 hx hZ hown (host := "") (Or.inl (hw _ (List.mem_of_getElem? (i := 16) rfl))) Via.refl e8 S8x.2.2.2.2.2.2.2.1 S8x.1 (Or.inl (hw _ (List.mem_of_getElem? (i := 17) rfl))) (hw _ (List.mem_of_getElem? (i := 6) rfl)) (ty := .long) (by decide) rfl rfl (g := (mkF m 11 #[.val (.ref a), .val (.int mc), .val (.int ec)] [(.long (1 : Int64)), (.ref a)])) rfl rfl (hb hby d2_11)
  have S12 : own_Go p e below s₁ G T11 (mkF m 14 #[.val (.ref a), .val (.int mc), .val (.int ec)] []) := fun tg_ kk_ => S10 tg_ (st11 tg_ kk_)
  have N11 := Fr.snoc X11 N8 ha
  have S11x := own_Set.wr6 hw W11 S8x
  have K11 : Keep h0 h11 [a] := K8.wr W11 (Or.inl (List.mem_of_getElem? (i := 0) rfl))
  have S13 : own_Go p e below s₁ G T11 (mkF m 54 #[.val (.ref a), .val (.int mc), .val (.int ec)] [(.int mc), (.ref a)]) := fun tg_ kk_ => S12 tg_ (by
    refine XS.iloadN X11.here hx rfl (hb hby d2_14) rfl ?_
    show Steps p.tables e below (T11.setTop (mkF m 15 #[.val (.ref a), .val (.int mc), .val (.int ec)] [(.int mc)])) _
    refine XS.iconst X11.here hx rfl (hb hby d2_15) ?_
    show Steps p.tables e below (T11.setTop (mkF m 16 #[.val (.ref a), .val (.int mc), .val (.int ec)] [(.int (1 : Int32)), (.int mc)])) _
    refine XS.icmpYes X11.here hx rfl (pc0 := 16) (pc' := 33) rfl (hb hby d2_16) rfl (flt h1).2.1 (by decide) (by decide) ?_
    show Steps p.tables e below (T11.setTop (mkF m 33 #[.val (.ref a), .val (.int mc), .val (.int ec)] [])) _
    refine XS.iloadN X11.here hx rfl (hb hby d2_33) rfl ?_
    show Steps p.tables e below (T11.setTop (mkF m 34 #[.val (.ref a), .val (.int mc), .val (.int ec)] [(.int ec)])) _
    refine XS.iconst X11.here hx rfl (hb hby d2_34) ?_
    show Steps p.tables e below (T11.setTop (mkF m 35 #[.val (.ref a), .val (.int mc), .val (.int ec)] [(.int (1 : Int32)), (.int ec)])) _
    refine XS.icmpYes X11.here hx rfl (pc0 := 35) (pc' := 52) rfl (hb hby d2_35) rfl (flt h2).2.1 (by decide) (by decide) ?_
    show Steps p.tables e below (T11.setTop (mkF m 52 #[.val (.ref a), .val (.int mc), .val (.int ec)] [])) _
    refine XS.aloadN X11.here hx rfl (hb hby d2_52) rfl rfl ?_
    show Steps p.tables e below (T11.setTop (mkF m 53 #[.val (.ref a), .val (.int mc), .val (.int ec)] [(.ref a)])) _
    refine XS.iloadN X11.here hx rfl (hb hby d2_53) rfl ?_
    exact kk_)
  obtain ⟨T14, h14, X14, e14, W14, st14⟩ := putF X11 hx hZ hown (host := "") (Or.inl (hw _ (List.mem_of_getElem? (i := 18) rfl))) Via.refl e11 S11x.2.1 S11x.1 (Or.inr ⟨(hw _ (List.mem_of_getElem? (i := 19) rfl)), rfl, hnm⟩) (hw _ (List.mem_of_getElem? (i := 6) rfl)) (ty := .int) (by decide) rfl rfl (g := (mkF m 54 #[.val (.ref a), .val (.int mc), .val (.int ec)] [(.int mc), (.ref a)])) rfl rfl (hb hby d2_54)
  have S15 : own_Go p e below s₁ G T14 (mkF m 57 #[.val (.ref a), .val (.int mc), .val (.int ec)] []) := fun tg_ kk_ => S13 tg_ (st14 tg_ kk_)
  have N14 := Fr.snoc X14 N11 ha
  have S14x := own_Set.wr0 hw W14 S11x
  have K14 : Keep h0 h14 [a] := K11.wr W14 (Or.inl (List.mem_of_getElem? (i := 0) rfl))
  have S16 : own_Go p e below s₁ G T14 (mkF m 59 #[.val (.ref a), .val (.int mc), .val (.int ec)] [(.int ec), (.ref a)]) := fun tg_ kk_ => S15 tg_ (by
    refine XS.aloadN X14.here hx rfl (hb hby d2_57) rfl rfl ?_
    show Steps p.tables e below (T14.setTop (mkF m 58 #[.val (.ref a), .val (.int mc), .val (.int ec)] [(.ref a)])) _
    refine XS.iloadN X14.here hx rfl (hb hby d2_58) rfl ?_
    exact kk_)
  obtain ⟨T17, h17, X17, e17, W17, st17⟩ := putF X14 hx hZ hown (host := "") (Or.inl (hw _ (List.mem_of_getElem? (i := 20) rfl))) Via.refl e14 S14x.2.2.1 S14x.1 (Or.inr ⟨(hw _ (List.mem_of_getElem? (i := 21) rfl)), rfl, hnm⟩) (hw _ (List.mem_of_getElem? (i := 6) rfl)) (ty := .int) (by decide) rfl rfl (g := (mkF m 59 #[.val (.ref a), .val (.int mc), .val (.int ec)] [(.int ec), (.ref a)])) rfl rfl (hb hby d2_59)
  have S18 : own_Go p e below s₁ G T17 (mkF m 62 #[.val (.ref a), .val (.int mc), .val (.int ec)] []) := fun tg_ kk_ => S16 tg_ (st17 tg_ kk_)
  have N17 := Fr.snoc X17 N14 ha
  have S17x := own_Set.wr1 hw W17 S14x
  have K17 : Keep h0 h17 [a] := K14.wr W17 (Or.inl (List.mem_of_getElem? (i := 0) rfl))
  obtain ⟨fs, hr, hrun, hended, hW, hsame⟩ := X17.leave (v := none) (fun _ => rfl)
  refine ⟨_, _, ?_, hrun, hended, _, _, rfl, ?_, ⟨_, rfl⟩, hW, hsame.mono (by decide) (by decide)⟩
  · rw [← hG]; exact S18 _ (X17.returnOut hx Bd.returns (hb hby d2_62) hr)
  · show Q2 Z a mc ec h0 n0 _ T17.heap _
    rw [e17]
    exact ⟨rfl, N17, K17, S17x⟩
def Q5 (Z : State) (a : Addr) (b : Addr) (f0 : Int32) (f1 : Int32) (f2 : UInt64) (f3 : UInt64) (f4 : UInt64) (f5 : UInt64) (f6 : Int64) (f7 : Int32) (h0 : Heap) (n0 : Nat) (v : Option Value) (h : Heap) (L : List Loc) : Prop := v = none ∧ Fr n0 L ∧ Keep h0 h [a] ∧ own_Set Z h a f0 f1 f2 f3 f4 f5 f6 f7
set_option maxRecDepth 65536 in
set_option maxHeartbeats 40000000 in
theorem rm5 (l : Launch) (Z : State) (a0 : Array Value) (hw : ∀ d ∈ tables_1, d.before a0 Z = true) (ws : List Jvm.Cond) (a : Addr) (b : Addr) (f0 : Int32) (f1 : Int32) (f2 : UInt64) (f3 : UInt64) (f4 : UInt64) (f5 : UInt64) (f6 : Int64) (f7 : Int32) (h0 : Heap) (n0 : Nat) (Z0 : n0 ≤ h0.size) (S : own_Set Z h0 a 0 0 0 0 0 0 0 0) (O : own_Set Z h0 b f0 f1 f2 f3 f4 f5 f6 f7) (ha : n0 ≤ a) (hab : b ≠ a) (hbo : f7 = 0 ∨ f7 = 1) :
    MetFree l (⟨"com/example/locks_over_messages/locksovermessages/Simulation$Settings", "<init>", "(Lcom/example/locks_over_messages/locksovermessages/Simulation$Settings;)V"⟩ : MethodName) (head1 (Jvm.Cond.code (⟨"com/example/locks_over_messages/locksovermessages/Simulation$Settings", "<init>", "(Lcom/example/locks_over_messages/locksovermessages/Simulation$Settings;)V"⟩ : MethodName) prog_49_method_2_code 2 none :: ws) ({ frames := 1, cells := 0, slots := 0, locals := 13 } : Room)) (fun aa_ U => aa_ = #[(.ref a), (.ref b)] ∧ Z.Warmed39 U.vm ∧ U.heap = h0) (fun _ _ _ _ _ => True) (fun _ U o U' => ∃ v L, o = .returned v ∧ Q5 Z a b f0 f1 f2 f3 f4 f5 f6 f7 h0 n0 v U'.heap L ∧ FrameEnd U o U' L ({ frames := 1, cells := 0, slots := 0, locals := 13 } : Room).cells ({ frames := 1, cells := 0, slots := 0, locals := 13 } : Room).slots) := by
  refine MetFree.of_bodySF (plainFor_of_name pn2) hisR ?_
  intro p e s m args below meth c s₁ Bd hml0 hP hK
  obtain ⟨rfl, hZ, hh⟩ := hP
  have hx := Bd.exec
  have hby := Bd.bytes
  have hml : c.maxLocals = 2 := hml0
  have hown : s.vm.findClass "com/example/locks_over_messages/locksovermessages/Simulation$Settings" = some m.cls := findClass_of_methodNamed Bd.named
  have hnm := (name_of_methodNamed Bd.named Bd.method).1
  have X0 : Stand p l e ({ frames := 1, cells := 0, slots := 0, locals := 13 } : Room) s m #[(.ref a), (.ref b)] below meth c s₁ [] 0 0 := Stand.of_body Bd
  have e0 : s₁.heap = h0 := by rw [← hh, Bd.state]; rfl
  have N0 := Fr.nil n0
  obtain ⟨G, hG⟩ : ∃ G, G = entryFrame m #[(.ref a), (.ref b)] 2 := ⟨_, rfl⟩
  have S0 : own_Go p e below s₁ G s₁ (mkF m 0 #[.val (.ref a), .val (.ref b)] []) := fun tg_ kk_ => castTop (by rw [hG]; first | rfl | simp [entryFrame, mkF, argsToLocals, Value.category, maxLocals]) kk_
  have S19 : own_Go p e below s₁ G s₁ (mkF m 1 #[.val (.ref a), .val (.ref b)] [(.ref a)]) := fun tg_ kk_ => S0 tg_ (by
    refine XS.aloadN X0.here hx rfl (hb hby d5_0) rfl rfl ?_
    exact kk_)
  obtain ⟨T20, X20, e20, st20⟩ := initO X0 hx hZ hown (hw _ (List.mem_of_getElem? (i := 11) rfl)) (hw _ (List.mem_of_getElem? (i := 12) rfl)) (hw _ (List.mem_of_getElem? (i := 13) rfl)) e0 (g := (mkF m 1 #[.val (.ref a), .val (.ref b)] [(.ref a)])) rfl (by rw [hml]; rfl) rfl (hb hby d5_1) (by decide) (W := 0) (by show 2 * 0 + _ ≤ _; exact Nat.le_of_eq rfl) (by decide)
  have S21 : own_Go p e below s₁ G T20 (mkF m 4 #[.val (.ref a), .val (.ref b)] []) := fun tg_ kk_ => S19 tg_ (st20 tg_ kk_)
  have S22 : own_Go p e below s₁ G T20 (mkF m 6 #[.val (.ref a), .val (.ref b)] [(.double FP.dconst1), (.ref a)]) := fun tg_ kk_ => S21 tg_ (by
    refine XS.aloadN X20.here hx rfl (hb hby d5_4) rfl rfl ?_
    show Steps p.tables e below (T20.setTop (mkF m 5 #[.val (.ref a), .val (.ref b)] [(.ref a)])) _
    refine XS.dconst1 X20.here hx rfl (hb hby d5_5) rfl ?_
    exact kk_)
  obtain ⟨T23, h23, X23, e23, W23, st23⟩ := putF X20 hx hZ hown (host := "") (Or.inl (hw _ (List.mem_of_getElem? (i := 14) rfl))) Via.refl e20 S.2.2.2.1 S.1 (Or.inl (hw _ (List.mem_of_getElem? (i := 15) rfl))) (hw _ (List.mem_of_getElem? (i := 6) rfl)) (ty := .double) (by decide) rfl rfl (g := (mkF m 6 #[.val (.ref a), .val (.ref b)] [(.double FP.dconst1), (.ref a)])) rfl rfl (hb hby d5_6)
  have S24 : own_Go p e below s₁ G T23 (mkF m 9 #[.val (.ref a), .val (.ref b)] []) := fun tg_ kk_ => S22 tg_ (st23 tg_ kk_)
  have N23 := Fr.snoc X23 N0 ha
  have S23x := own_Set.wr2 hw W23 S
  have K23 : Keep h0 h23 [a] := (Keep.refl h0 [a]).wr W23 (Or.inl (List.mem_of_getElem? (i := 0) rfl))
  have O23 := own_Set.other W23 hab O
  have S25 : own_Go p e below s₁ G T23 (mkF m 11 #[.val (.ref a), .val (.ref b)] [(.long (1 : Int64)), (.ref a)]) := fun tg_ kk_ => S24 tg_ (by
    refine XS.aloadN X23.here hx rfl (hb hby d5_9) rfl rfl ?_
    show Steps p.tables e below (T23.setTop (mkF m 10 #[.val (.ref a), .val (.ref b)] [(.ref a)])) _
    refine XT.lconst X23.here hx rfl (hb hby d5_10) ?_
    exact kk_)
  obtain ⟨T26, h26, X26, e26, W26, st26⟩ := putF X23 hx hZ hown (host := "") (Or.inl (hw _ (List.mem_of_getElem? (i := 16) rfl))) Via.refl e23 S23x.2.2.2.2.2.2.2.1 S23x.1 (Or.inl (hw _ (List.mem_of_getElem? (i := 17) rfl))) (hw _ (List.mem_of_getElem? (i := 6) rfl)) (ty := .long) (by decide) rfl rfl (g := (mkF m 11 #[.val (.ref a), .val (.ref b)] [(.long (1 : Int64)), (.ref a)])) rfl rfl (hb hby d5_11)
  have S27 : own_Go p e below s₁ G T26 (mkF m 14 #[.val (.ref a), .val (.ref b)] []) := fun tg_ kk_ => S25 tg_ (st26 tg_ kk_)
  have N26 := Fr.snoc X26 N23 ha
  have S26x := own_Set.wr6 hw W26 S23x
  have K26 : Keep h0 h26 [a] := K23.wr W26 (Or.inl (List.mem_of_getElem? (i := 0) rfl))
  have O26 := own_Set.other W26 hab O23
  have S28 : own_Go p e below s₁ G T26 (mkF m 16 #[.val (.ref a), .val (.ref b)] [(.ref b), (.ref a)]) := fun tg_ kk_ => S27 tg_ (by
    refine XS.aloadN X26.here hx rfl (hb hby d5_14) rfl rfl ?_
    show Steps p.tables e below (T26.setTop (mkF m 15 #[.val (.ref a), .val (.ref b)] [(.ref a)])) _
    refine XS.aloadN X26.here hx rfl (hb hby d5_15) rfl rfl ?_
    exact kk_)
  obtain ⟨T29, X29, e29, st29⟩ := getF X26 hx hZ hown (host := "") (Or.inl (hw _ (List.mem_of_getElem? (i := 18) rfl))) Via.refl e26 O26.2.1 (g := (mkF m 16 #[.val (.ref a), .val (.ref b)] [(.ref b), (.ref a)])) rfl rfl (hb hby d5_16)
  have S30 : own_Go p e below s₁ G T29 (mkF m 19 #[.val (.ref a), .val (.ref b)] [(.int f0), (.ref a)]) := fun tg_ kk_ => S28 tg_ (st29 tg_ kk_)
  obtain ⟨T31, h31, X31, e31, W31, st31⟩ := putF X29 hx hZ hown (host := "") (Or.inl (hw _ (List.mem_of_getElem? (i := 18) rfl))) Via.refl e29 S26x.2.1 S26x.1 (Or.inr ⟨(hw _ (List.mem_of_getElem? (i := 19) rfl)), rfl, hnm⟩) (hw _ (List.mem_of_getElem? (i := 6) rfl)) (ty := .int) (by decide) rfl rfl (g := (mkF m 19 #[.val (.ref a), .val (.ref b)] [(.int f0), (.ref a)])) rfl rfl (hb hby d5_19)
  have S32 : own_Go p e below s₁ G T31 (mkF m 22 #[.val (.ref a), .val (.ref b)] []) := fun tg_ kk_ => S30 tg_ (st31 tg_ kk_)
  have N31 := Fr.snoc X31 N26 ha
  have S31x := own_Set.wr0 hw W31 S26x
  have K31 : Keep h0 h31 [a] := K26.wr W31 (Or.inl (List.mem_of_getElem? (i := 0) rfl))
  have O31 := own_Set.other W31 hab O26
  have S33 : own_Go p e below s₁ G T31 (mkF m 24 #[.val (.ref a), .val (.ref b)] [(.ref b), (.ref a)]) := fun tg_ kk_ => S32 tg_ (by
    refine XS.aloadN X31.here hx rfl (hb hby d5_22) rfl rfl ?_
    show Steps p.tables e below (T31.setTop (mkF m 23 #[.val (.ref a), .val (.ref b)] [(.ref a)])) _
    refine XS.aloadN X31.here hx rfl (hb hby d5_23) rfl rfl ?_
    exact kk_)
  obtain ⟨T34, X34, e34, st34⟩ := getF X31 hx hZ hown (host := "") (Or.inl (hw _ (List.mem_of_getElem? (i := 20) rfl))) Via.refl e31 O31.2.2.1 (g := (mkF m 24 #[.val (.ref a), .val (.ref b)] [(.ref b), (.ref a)])) rfl rfl (hb hby d5_24)
  have S35 : own_Go p e below s₁ G T34 (mkF m 27 #[.val (.ref a), .val (.ref b)] [(.int f1), (.ref a)]) := fun tg_ kk_ => S33 tg_ (st34 tg_ kk_)
  obtain ⟨T36, h36, X36, e36, W36, st36⟩ := putF X34 hx hZ hown (host := "") (Or.inl (hw _ (List.mem_of_getElem? (i := 20) rfl))) Via.refl e34 S31x.2.2.1 S31x.1 (Or.inr ⟨(hw _ (List.mem_of_getElem? (i := 21) rfl)), rfl, hnm⟩) (hw _ (List.mem_of_getElem? (i := 6) rfl)) (ty := .int) (by decide) rfl rfl (g := (mkF m 27 #[.val (.ref a), .val (.ref b)] [(.int f1), (.ref a)])) rfl rfl (hb hby d5_27)
  have S37 : own_Go p e below s₁ G T36 (mkF m 30 #[.val (.ref a), .val (.ref b)] []) := fun tg_ kk_ => S35 tg_ (st36 tg_ kk_)
  have N36 := Fr.snoc X36 N31 ha
  have S36x := own_Set.wr1 hw W36 S31x
  have K36 : Keep h0 h36 [a] := K31.wr W36 (Or.inl (List.mem_of_getElem? (i := 0) rfl))
  have O36 := own_Set.other W36 hab O31
  have S38 : own_Go p e below s₁ G T36 (mkF m 32 #[.val (.ref a), .val (.ref b)] [(.ref b), (.ref a)]) := fun tg_ kk_ => S37 tg_ (by
    refine XS.aloadN X36.here hx rfl (hb hby d5_30) rfl rfl ?_
    show Steps p.tables e below (T36.setTop (mkF m 31 #[.val (.ref a), .val (.ref b)] [(.ref a)])) _
    refine XS.aloadN X36.here hx rfl (hb hby d5_31) rfl rfl ?_
    exact kk_)
  obtain ⟨T39, X39, e39, st39⟩ := getF X36 hx hZ hown (host := "") (Or.inl (hw _ (List.mem_of_getElem? (i := 14) rfl))) Via.refl e36 O36.2.2.2.1 (g := (mkF m 32 #[.val (.ref a), .val (.ref b)] [(.ref b), (.ref a)])) rfl rfl (hb hby d5_32)
  have S40 : own_Go p e below s₁ G T39 (mkF m 35 #[.val (.ref a), .val (.ref b)] [(.double f2), (.ref a)]) := fun tg_ kk_ => S38 tg_ (st39 tg_ kk_)
  obtain ⟨T41, h41, X41, e41, W41, st41⟩ := putF X39 hx hZ hown (host := "") (Or.inl (hw _ (List.mem_of_getElem? (i := 14) rfl))) Via.refl e39 S36x.2.2.2.1 S36x.1 (Or.inl (hw _ (List.mem_of_getElem? (i := 15) rfl))) (hw _ (List.mem_of_getElem? (i := 6) rfl)) (ty := .double) (by decide) rfl rfl (g := (mkF m 35 #[.val (.ref a), .val (.ref b)] [(.double f2), (.ref a)])) rfl rfl (hb hby d5_35)
  have S42 : own_Go p e below s₁ G T41 (mkF m 38 #[.val (.ref a), .val (.ref b)] []) := fun tg_ kk_ => S40 tg_ (st41 tg_ kk_)
  have N41 := Fr.snoc X41 N36 ha
  have S41x := own_Set.wr2 hw W41 S36x
  have K41 : Keep h0 h41 [a] := K36.wr W41 (Or.inl (List.mem_of_getElem? (i := 0) rfl))
  have O41 := own_Set.other W41 hab O36
  have S43 : own_Go p e below s₁ G T41 (mkF m 40 #[.val (.ref a), .val (.ref b)] [(.ref b), (.ref a)]) := fun tg_ kk_ => S42 tg_ (by
    refine XS.aloadN X41.here hx rfl (hb hby d5_38) rfl rfl ?_
    show Steps p.tables e below (T41.setTop (mkF m 39 #[.val (.ref a), .val (.ref b)] [(.ref a)])) _
    refine XS.aloadN X41.here hx rfl (hb hby d5_39) rfl rfl ?_
    exact kk_)
  obtain ⟨T44, X44, e44, st44⟩ := getF X41 hx hZ hown (host := "") (Or.inl (hw _ (List.mem_of_getElem? (i := 31) rfl))) Via.refl e41 O41.2.2.2.2.1 (g := (mkF m 40 #[.val (.ref a), .val (.ref b)] [(.ref b), (.ref a)])) rfl rfl (hb hby d5_40)
  have S45 : own_Go p e below s₁ G T44 (mkF m 43 #[.val (.ref a), .val (.ref b)] [(.double f3), (.ref a)]) := fun tg_ kk_ => S43 tg_ (st44 tg_ kk_)
  obtain ⟨T46, h46, X46, e46, W46, st46⟩ := putF X44 hx hZ hown (host := "") (Or.inl (hw _ (List.mem_of_getElem? (i := 31) rfl))) Via.refl e44 S41x.2.2.2.2.1 S41x.1 (Or.inl (hw _ (List.mem_of_getElem? (i := 32) rfl))) (hw _ (List.mem_of_getElem? (i := 6) rfl)) (ty := .double) (by decide) rfl rfl (g := (mkF m 43 #[.val (.ref a), .val (.ref b)] [(.double f3), (.ref a)])) rfl rfl (hb hby d5_43)
  have S47 : own_Go p e below s₁ G T46 (mkF m 46 #[.val (.ref a), .val (.ref b)] []) := fun tg_ kk_ => S45 tg_ (st46 tg_ kk_)
  have N46 := Fr.snoc X46 N41 ha
  have S46x := own_Set.wr3 hw W46 S41x
  have K46 : Keep h0 h46 [a] := K41.wr W46 (Or.inl (List.mem_of_getElem? (i := 0) rfl))
  have O46 := own_Set.other W46 hab O41
  have S48 : own_Go p e below s₁ G T46 (mkF m 48 #[.val (.ref a), .val (.ref b)] [(.ref b), (.ref a)]) := fun tg_ kk_ => S47 tg_ (by
    refine XS.aloadN X46.here hx rfl (hb hby d5_46) rfl rfl ?_
    show Steps p.tables e below (T46.setTop (mkF m 47 #[.val (.ref a), .val (.ref b)] [(.ref a)])) _
    refine XS.aloadN X46.here hx rfl (hb hby d5_47) rfl rfl ?_
    exact kk_)
  obtain ⟨T49, X49, e49, st49⟩ := getF X46 hx hZ hown (host := "") (Or.inl (hw _ (List.mem_of_getElem? (i := 33) rfl))) Via.refl e46 O46.2.2.2.2.2.1 (g := (mkF m 48 #[.val (.ref a), .val (.ref b)] [(.ref b), (.ref a)])) rfl rfl (hb hby d5_48)
  have S50 : own_Go p e below s₁ G T49 (mkF m 51 #[.val (.ref a), .val (.ref b)] [(.double f4), (.ref a)]) := fun tg_ kk_ => S48 tg_ (st49 tg_ kk_)
  obtain ⟨T51, h51, X51, e51, W51, st51⟩ := putF X49 hx hZ hown (host := "") (Or.inl (hw _ (List.mem_of_getElem? (i := 33) rfl))) Via.refl e49 S46x.2.2.2.2.2.1 S46x.1 (Or.inl (hw _ (List.mem_of_getElem? (i := 34) rfl))) (hw _ (List.mem_of_getElem? (i := 6) rfl)) (ty := .double) (by decide) rfl rfl (g := (mkF m 51 #[.val (.ref a), .val (.ref b)] [(.double f4), (.ref a)])) rfl rfl (hb hby d5_51)
  have S52 : own_Go p e below s₁ G T51 (mkF m 54 #[.val (.ref a), .val (.ref b)] []) := fun tg_ kk_ => S50 tg_ (st51 tg_ kk_)
  have N51 := Fr.snoc X51 N46 ha
  have S51x := own_Set.wr4 hw W51 S46x
  have K51 : Keep h0 h51 [a] := K46.wr W51 (Or.inl (List.mem_of_getElem? (i := 0) rfl))
  have O51 := own_Set.other W51 hab O46
  have S53 : own_Go p e below s₁ G T51 (mkF m 56 #[.val (.ref a), .val (.ref b)] [(.ref b), (.ref a)]) := fun tg_ kk_ => S52 tg_ (by
    refine XS.aloadN X51.here hx rfl (hb hby d5_54) rfl rfl ?_
    show Steps p.tables e below (T51.setTop (mkF m 55 #[.val (.ref a), .val (.ref b)] [(.ref a)])) _
    refine XS.aloadN X51.here hx rfl (hb hby d5_55) rfl rfl ?_
    exact kk_)
  obtain ⟨T54, X54, e54, st54⟩ := getF X51 hx hZ hown (host := "") (Or.inl (hw _ (List.mem_of_getElem? (i := 35) rfl))) Via.refl e51 O51.2.2.2.2.2.2.1 (g := (mkF m 56 #[.val (.ref a), .val (.ref b)] [(.ref b), (.ref a)])) rfl rfl (hb hby d5_56)
  have S55 : own_Go p e below s₁ G T54 (mkF m 59 #[.val (.ref a), .val (.ref b)] [(.double f5), (.ref a)]) := fun tg_ kk_ => S53 tg_ (st54 tg_ kk_)
  obtain ⟨T56, h56, X56, e56, W56, st56⟩ := putF X54 hx hZ hown (host := "") (Or.inl (hw _ (List.mem_of_getElem? (i := 35) rfl))) Via.refl e54 S51x.2.2.2.2.2.2.1 S51x.1 (Or.inl (hw _ (List.mem_of_getElem? (i := 36) rfl))) (hw _ (List.mem_of_getElem? (i := 6) rfl)) (ty := .double) (by decide) rfl rfl (g := (mkF m 59 #[.val (.ref a), .val (.ref b)] [(.double f5), (.ref a)])) rfl rfl (hb hby d5_59)
  have S57 : own_Go p e below s₁ G T56 (mkF m 62 #[.val (.ref a), .val (.ref b)] []) := fun tg_ kk_ => S55 tg_ (st56 tg_ kk_)
  have N56 := Fr.snoc X56 N51 ha
  have S56x := own_Set.wr5 hw W56 S51x
  have K56 : Keep h0 h56 [a] := K51.wr W56 (Or.inl (List.mem_of_getElem? (i := 0) rfl))
  have O56 := own_Set.other W56 hab O51
  have S58 : own_Go p e below s₁ G T56 (mkF m 64 #[.val (.ref a), .val (.ref b)] [(.ref b), (.ref a)]) := fun tg_ kk_ => S57 tg_ (by
    refine XS.aloadN X56.here hx rfl (hb hby d5_62) rfl rfl ?_
    show Steps p.tables e below (T56.setTop (mkF m 63 #[.val (.ref a), .val (.ref b)] [(.ref a)])) _
    refine XS.aloadN X56.here hx rfl (hb hby d5_63) rfl rfl ?_
    exact kk_)
  obtain ⟨T59, X59, e59, st59⟩ := getF X56 hx hZ hown (host := "") (Or.inl (hw _ (List.mem_of_getElem? (i := 16) rfl))) Via.refl e56 O56.2.2.2.2.2.2.2.1 (g := (mkF m 64 #[.val (.ref a), .val (.ref b)] [(.ref b), (.ref a)])) rfl rfl (hb hby d5_64)
  have S60 : own_Go p e below s₁ G T59 (mkF m 67 #[.val (.ref a), .val (.ref b)] [(.long f6), (.ref a)]) := fun tg_ kk_ => S58 tg_ (st59 tg_ kk_)
  obtain ⟨T61, h61, X61, e61, W61, st61⟩ := putF X59 hx hZ hown (host := "") (Or.inl (hw _ (List.mem_of_getElem? (i := 16) rfl))) Via.refl e59 S56x.2.2.2.2.2.2.2.1 S56x.1 (Or.inl (hw _ (List.mem_of_getElem? (i := 17) rfl))) (hw _ (List.mem_of_getElem? (i := 6) rfl)) (ty := .long) (by decide) rfl rfl (g := (mkF m 67 #[.val (.ref a), .val (.ref b)] [(.long f6), (.ref a)])) rfl rfl (hb hby d5_67)
  have S62 : own_Go p e below s₁ G T61 (mkF m 70 #[.val (.ref a), .val (.ref b)] []) := fun tg_ kk_ => S60 tg_ (st61 tg_ kk_)
  have N61 := Fr.snoc X61 N56 ha
  have S61x := own_Set.wr6 hw W61 S56x
  have K61 : Keep h0 h61 [a] := K56.wr W61 (Or.inl (List.mem_of_getElem? (i := 0) rfl))
  have O61 := own_Set.other W61 hab O56
  have S63 : own_Go p e below s₁ G T61 (mkF m 72 #[.val (.ref a), .val (.ref b)] [(.ref b), (.ref a)]) := fun tg_ kk_ => S62 tg_ (by
    refine XS.aloadN X61.here hx rfl (hb hby d5_70) rfl rfl ?_
    show Steps p.tables e below (T61.setTop (mkF m 71 #[.val (.ref a), .val (.ref b)] [(.ref a)])) _
    refine XS.aloadN X61.here hx rfl (hb hby d5_71) rfl rfl ?_
    exact kk_)
  obtain ⟨T64, X64, e64, st64⟩ := getF X61 hx hZ hown (host := "") (Or.inl (hw _ (List.mem_of_getElem? (i := 37) rfl))) Via.refl e61 O61.2.2.2.2.2.2.2.2 (g := (mkF m 72 #[.val (.ref a), .val (.ref b)] [(.ref b), (.ref a)])) rfl rfl (hb hby d5_72)
  have S65 : own_Go p e below s₁ G T64 (mkF m 75 #[.val (.ref a), .val (.ref b)] [(.int f7), (.ref a)]) := fun tg_ kk_ => S63 tg_ (st64 tg_ kk_)
  obtain ⟨T66, h66, X66, e66, W66, st66⟩ := putF X64 hx hZ hown (host := "") (Or.inl (hw _ (List.mem_of_getElem? (i := 37) rfl))) Via.refl e64 S61x.2.2.2.2.2.2.2.2 S61x.1 (Or.inl (hw _ (List.mem_of_getElem? (i := 38) rfl))) (hw _ (List.mem_of_getElem? (i := 6) rfl)) (ty := .boolean) (by decide) (by rcases hbo with rfl | rfl <;> rfl) (by rcases hbo with rfl | rfl <;> rfl) (g := (mkF m 75 #[.val (.ref a), .val (.ref b)] [(.int f7), (.ref a)])) rfl rfl (hb hby d5_75)
  have S67 : own_Go p e below s₁ G T66 (mkF m 78 #[.val (.ref a), .val (.ref b)] []) := fun tg_ kk_ => S65 tg_ (st66 tg_ kk_)
  have N66 := Fr.snoc X66 N61 ha
  have S66x := own_Set.wr7 hw W66 S61x
  have K66 : Keep h0 h66 [a] := K61.wr W66 (Or.inl (List.mem_of_getElem? (i := 0) rfl))
  have O66 := own_Set.other W66 hab O61
  obtain ⟨fs, hr, hrun, hended, hW, hsame⟩ := X66.leave (v := none) (fun _ => rfl)
  refine ⟨_, _, ?_, hrun, hended, _, _, rfl, ?_, ⟨_, rfl⟩, hW, hsame.mono (by decide) (by decide)⟩
  · rw [← hG]; exact S67 _ (X66.returnOut hx Bd.returns (hb hby d5_78) hr)
  · show Q5 Z a b f0 f1 f2 f3 f4 f5 f6 f7 h0 n0 _ T66.heap _
    rw [e66]
    exact ⟨rfl, N66, K66, S66x⟩
def Q14 (Z : State) (b : Addr) (x : Int32) (h0 : Heap) (n0 : Nat) (v : Option Value) (h : Heap) (L : List Loc) : Prop := v = some (.int x) ∧ Fr n0 L ∧ h0 = h
set_option maxRecDepth 65536 in
set_option maxHeartbeats 40000000 in
theorem rm14 (l : Launch) (Z : State) (a0 : Array Value) (hw : ∀ d ∈ tables_1, d.before a0 Z = true) (ws : List Jvm.Cond) (b : Addr) (x : Int32) (h0 : Heap) (n0 : Nat) (Z0 : n0 ≤ h0.size) (O : Fld Z h0 b "com/example/locks_over_messages/locksovermessages/Simulation$Settings" "entriesRecorded" "Z" (.int x)) (hbo : x = 0 ∨ x = 1) :
    MetFree l (⟨"com/example/locks_over_messages/locksovermessages/Simulation$Settings", "areEntriesRecorded", "()Z"⟩ : MethodName) (head1 (Jvm.Cond.code (⟨"com/example/locks_over_messages/locksovermessages/Simulation$Settings", "areEntriesRecorded", "()Z"⟩ : MethodName) prog_49_method_10_code 1 (some .boolean) :: ws) ({ frames := 0, cells := 0, slots := 0, locals := 0 } : Room)) (fun aa_ U => aa_ = #[(.ref b)] ∧ Z.Warmed39 U.vm ∧ U.heap = h0) (fun _ _ _ _ _ => True) (fun _ U o U' => ∃ v L, o = .returned v ∧ Q14 Z b x h0 n0 v U'.heap L ∧ FrameEnd U o U' L ({ frames := 0, cells := 0, slots := 0, locals := 0 } : Room).cells ({ frames := 0, cells := 0, slots := 0, locals := 0 } : Room).slots) := by
  refine MetFree.of_bodySF (plainFor_of_name pn2) hisR ?_
  intro p e s m args below meth c s₁ Bd hml0 hP hK
  obtain ⟨rfl, hZ, hh⟩ := hP
  have hx := Bd.exec
  have hby := Bd.bytes
  have hml : c.maxLocals = 1 := hml0
  have hown : s.vm.findClass "com/example/locks_over_messages/locksovermessages/Simulation$Settings" = some m.cls := findClass_of_methodNamed Bd.named
  have hnm := (name_of_methodNamed Bd.named Bd.method).1
  have X0 : Stand p l e ({ frames := 0, cells := 0, slots := 0, locals := 0 } : Room) s m #[(.ref b)] below meth c s₁ [] 0 0 := Stand.of_body Bd
  have e0 : s₁.heap = h0 := by rw [← hh, Bd.state]; rfl
  have N0 := Fr.nil n0
  obtain ⟨G, hG⟩ : ∃ G, G = entryFrame m #[(.ref b)] 1 := ⟨_, rfl⟩
  have S0 : own_Go p e below s₁ G s₁ (mkF m 0 #[.val (.ref b)] []) := fun tg_ kk_ => castTop (by rw [hG]; first | rfl | simp [entryFrame, mkF, argsToLocals, Value.category, maxLocals]) kk_
  have S68 : own_Go p e below s₁ G s₁ (mkF m 1 #[.val (.ref b)] [(.ref b)]) := fun tg_ kk_ => S0 tg_ (by
    refine XS.aloadN X0.here hx rfl (hb hby d14_0) rfl rfl ?_
    exact kk_)
  obtain ⟨T69, X69, e69, st69⟩ := getF X0 hx hZ hown (host := "") (Or.inl (hw _ (List.mem_of_getElem? (i := 37) rfl))) Via.refl e0 O (g := (mkF m 1 #[.val (.ref b)] [(.ref b)])) rfl rfl (hb hby d14_1)
  have S70 : own_Go p e below s₁ G T69 (mkF m 4 #[.val (.ref b)] [(.int x)]) := fun tg_ kk_ => S68 tg_ (st69 tg_ kk_)
  rcases hbo with rfl | rfl
  · have _ := N0
    obtain ⟨fs, hr, hrun, hended, hW, hsame⟩ := X69.leave (v := some (.int (0 : Int32))) (fun h => by rw [Bd.returns] at h; cases h)
    refine ⟨_, _, ?_, hrun, hended, _, _, rfl, ?_, ⟨_, rfl⟩, hW, hsame.mono (by decide) (by decide)⟩
    · rw [← hG]; exact S70 _ (retN X69 hx (t := .boolean) Bd.returns (by simp) (hb hby d14_4) hr)
    · show Q14 Z b (0 : Int32) h0 n0 _ T69.heap _
      rw [e69]
      exact ⟨rfl, N0, rfl⟩
  · have _ := N0
    obtain ⟨fs, hr, hrun, hended, hW, hsame⟩ := X69.leave (v := some (.int (1 : Int32))) (fun h => by rw [Bd.returns] at h; cases h)
    refine ⟨_, _, ?_, hrun, hended, _, _, rfl, ?_, ⟨_, rfl⟩, hW, hsame.mono (by decide) (by decide)⟩
    · rw [← hG]; exact S70 _ (retN X69 hx (t := .boolean) Bd.returns (by simp) (hb hby d14_4) hr)
    · show Q14 Z b (1 : Int32) h0 n0 _ T69.heap _
      rw [e69]
      exact ⟨rfl, N0, rfl⟩
def Q15 (Z : State) (b : Addr) (x : Int32) (h0 : Heap) (n0 : Nat) (v : Option Value) (h : Heap) (L : List Loc) : Prop := v = some (.int x) ∧ Fr n0 L ∧ h0 = h
set_option maxRecDepth 65536 in
set_option maxHeartbeats 40000000 in
theorem rm15 (l : Launch) (Z : State) (a0 : Array Value) (hw : ∀ d ∈ tables_1, d.before a0 Z = true) (ws : List Jvm.Cond) (b : Addr) (x : Int32) (h0 : Heap) (n0 : Nat) (Z0 : n0 ≤ h0.size) (O : Fld Z h0 b "com/example/locks_over_messages/locksovermessages/Simulation$Settings" "memberCount" "I" (.int x)) :
    MetFree l (⟨"com/example/locks_over_messages/locksovermessages/Simulation$Settings", "getMemberCount", "()I"⟩ : MethodName) (head1 (Jvm.Cond.code (⟨"com/example/locks_over_messages/locksovermessages/Simulation$Settings", "getMemberCount", "()I"⟩ : MethodName) prog_49_method_3_code 1 (some .int) :: ws) ({ frames := 0, cells := 0, slots := 0, locals := 0 } : Room)) (fun aa_ U => aa_ = #[(.ref b)] ∧ Z.Warmed39 U.vm ∧ U.heap = h0) (fun _ _ _ _ _ => True) (fun _ U o U' => ∃ v L, o = .returned v ∧ Q15 Z b x h0 n0 v U'.heap L ∧ FrameEnd U o U' L ({ frames := 0, cells := 0, slots := 0, locals := 0 } : Room).cells ({ frames := 0, cells := 0, slots := 0, locals := 0 } : Room).slots) := by
  refine MetFree.of_bodySF (plainFor_of_name pn2) hisR ?_
  intro p e s m args below meth c s₁ Bd hml0 hP hK
  obtain ⟨rfl, hZ, hh⟩ := hP
  have hx := Bd.exec
  have hby := Bd.bytes
  have hml : c.maxLocals = 1 := hml0
  have hown : s.vm.findClass "com/example/locks_over_messages/locksovermessages/Simulation$Settings" = some m.cls := findClass_of_methodNamed Bd.named
  have hnm := (name_of_methodNamed Bd.named Bd.method).1
  have X0 : Stand p l e ({ frames := 0, cells := 0, slots := 0, locals := 0 } : Room) s m #[(.ref b)] below meth c s₁ [] 0 0 := Stand.of_body Bd
  have e0 : s₁.heap = h0 := by rw [← hh, Bd.state]; rfl
  have N0 := Fr.nil n0
  obtain ⟨G, hG⟩ : ∃ G, G = entryFrame m #[(.ref b)] 1 := ⟨_, rfl⟩
  have S0 : own_Go p e below s₁ G s₁ (mkF m 0 #[.val (.ref b)] []) := fun tg_ kk_ => castTop (by rw [hG]; first | rfl | simp [entryFrame, mkF, argsToLocals, Value.category, maxLocals]) kk_
  have S71 : own_Go p e below s₁ G s₁ (mkF m 1 #[.val (.ref b)] [(.ref b)]) := fun tg_ kk_ => S0 tg_ (by
    refine XS.aloadN X0.here hx rfl (hb hby d15_0) rfl rfl ?_
    exact kk_)
  obtain ⟨T72, X72, e72, st72⟩ := getF X0 hx hZ hown (host := "") (Or.inl (hw _ (List.mem_of_getElem? (i := 18) rfl))) Via.refl e0 O (g := (mkF m 1 #[.val (.ref b)] [(.ref b)])) rfl rfl (hb hby d15_1)
  have S73 : own_Go p e below s₁ G T72 (mkF m 4 #[.val (.ref b)] [(.int x)]) := fun tg_ kk_ => S71 tg_ (st72 tg_ kk_)
  obtain ⟨fs, hr, hrun, hended, hW, hsame⟩ := X72.leave (v := some (.int x)) (fun h => by rw [Bd.returns] at h; cases h)
  refine ⟨_, _, ?_, hrun, hended, _, _, rfl, ?_, ⟨_, rfl⟩, hW, hsame.mono (by decide) (by decide)⟩
  · rw [← hG]; exact S73 _ (retI X72 hx Bd.returns (hb hby d15_4) hr)
  · show Q15 Z b x h0 n0 _ T72.heap _
    rw [e72]
    exact ⟨rfl, N0, rfl⟩
def Q16 (Z : State) (b : Addr) (x : Int32) (h0 : Heap) (n0 : Nat) (v : Option Value) (h : Heap) (L : List Loc) : Prop := v = some (.int x) ∧ Fr n0 L ∧ h0 = h
set_option maxRecDepth 65536 in
set_option maxHeartbeats 40000000 in
theorem rm16 (l : Launch) (Z : State) (a0 : Array Value) (hw : ∀ d ∈ tables_1, d.before a0 Z = true) (ws : List Jvm.Cond) (b : Addr) (x : Int32) (h0 : Heap) (n0 : Nat) (Z0 : n0 ≤ h0.size) (O : Fld Z h0 b "com/example/locks_over_messages/locksovermessages/Simulation$Settings" "entriesEach" "I" (.int x)) :
    MetFree l (⟨"com/example/locks_over_messages/locksovermessages/Simulation$Settings", "getEntriesEach", "()I"⟩ : MethodName) (head1 (Jvm.Cond.code (⟨"com/example/locks_over_messages/locksovermessages/Simulation$Settings", "getEntriesEach", "()I"⟩ : MethodName) prog_49_method_4_code 1 (some .int) :: ws) ({ frames := 0, cells := 0, slots := 0, locals := 0 } : Room)) (fun aa_ U => aa_ = #[(.ref b)] ∧ Z.Warmed39 U.vm ∧ U.heap = h0) (fun _ _ _ _ _ => True) (fun _ U o U' => ∃ v L, o = .returned v ∧ Q16 Z b x h0 n0 v U'.heap L ∧ FrameEnd U o U' L ({ frames := 0, cells := 0, slots := 0, locals := 0 } : Room).cells ({ frames := 0, cells := 0, slots := 0, locals := 0 } : Room).slots) := by
  refine MetFree.of_bodySF (plainFor_of_name pn2) hisR ?_
  intro p e s m args below meth c s₁ Bd hml0 hP hK
  obtain ⟨rfl, hZ, hh⟩ := hP
  have hx := Bd.exec
  have hby := Bd.bytes
  have hml : c.maxLocals = 1 := hml0
  have hown : s.vm.findClass "com/example/locks_over_messages/locksovermessages/Simulation$Settings" = some m.cls := findClass_of_methodNamed Bd.named
  have hnm := (name_of_methodNamed Bd.named Bd.method).1
  have X0 : Stand p l e ({ frames := 0, cells := 0, slots := 0, locals := 0 } : Room) s m #[(.ref b)] below meth c s₁ [] 0 0 := Stand.of_body Bd
  have e0 : s₁.heap = h0 := by rw [← hh, Bd.state]; rfl
  have N0 := Fr.nil n0
  obtain ⟨G, hG⟩ : ∃ G, G = entryFrame m #[(.ref b)] 1 := ⟨_, rfl⟩
  have S0 : own_Go p e below s₁ G s₁ (mkF m 0 #[.val (.ref b)] []) := fun tg_ kk_ => castTop (by rw [hG]; first | rfl | simp [entryFrame, mkF, argsToLocals, Value.category, maxLocals]) kk_
  have S74 : own_Go p e below s₁ G s₁ (mkF m 1 #[.val (.ref b)] [(.ref b)]) := fun tg_ kk_ => S0 tg_ (by
    refine XS.aloadN X0.here hx rfl (hb hby d16_0) rfl rfl ?_
    exact kk_)
  obtain ⟨T75, X75, e75, st75⟩ := getF X0 hx hZ hown (host := "") (Or.inl (hw _ (List.mem_of_getElem? (i := 20) rfl))) Via.refl e0 O (g := (mkF m 1 #[.val (.ref b)] [(.ref b)])) rfl rfl (hb hby d16_1)
  have S76 : own_Go p e below s₁ G T75 (mkF m 4 #[.val (.ref b)] [(.int x)]) := fun tg_ kk_ => S74 tg_ (st75 tg_ kk_)
  obtain ⟨fs, hr, hrun, hended, hW, hsame⟩ := X75.leave (v := some (.int x)) (fun h => by rw [Bd.returns] at h; cases h)
  refine ⟨_, _, ?_, hrun, hended, _, _, rfl, ?_, ⟨_, rfl⟩, hW, hsame.mono (by decide) (by decide)⟩
  · rw [← hG]; exact S76 _ (retI X75 hx Bd.returns (hb hby d16_4) hr)
  · show Q16 Z b x h0 n0 _ T75.heap _
    rw [e75]
    exact ⟨rfl, N0, rfl⟩
def Q17 (Z : State) (b : Addr) (x : UInt64) (h0 : Heap) (n0 : Nat) (v : Option Value) (h : Heap) (L : List Loc) : Prop := v = some (.double x) ∧ Fr n0 L ∧ h0 = h
set_option maxRecDepth 65536 in
set_option maxHeartbeats 40000000 in
theorem rm17 (l : Launch) (Z : State) (a0 : Array Value) (hw : ∀ d ∈ tables_1, d.before a0 Z = true) (ws : List Jvm.Cond) (b : Addr) (x : UInt64) (h0 : Heap) (n0 : Nat) (Z0 : n0 ≤ h0.size) (O : Fld Z h0 b "com/example/locks_over_messages/locksovermessages/Simulation$Settings" "hold" "D" (.double x)) :
    MetFree l (⟨"com/example/locks_over_messages/locksovermessages/Simulation$Settings", "getHold", "()D"⟩ : MethodName) (head1 (Jvm.Cond.code (⟨"com/example/locks_over_messages/locksovermessages/Simulation$Settings", "getHold", "()D"⟩ : MethodName) prog_49_method_5_code 1 (some .double) :: ws) ({ frames := 0, cells := 0, slots := 0, locals := 0 } : Room)) (fun aa_ U => aa_ = #[(.ref b)] ∧ Z.Warmed39 U.vm ∧ U.heap = h0) (fun _ _ _ _ _ => True) (fun _ U o U' => ∃ v L, o = .returned v ∧ Q17 Z b x h0 n0 v U'.heap L ∧ FrameEnd U o U' L ({ frames := 0, cells := 0, slots := 0, locals := 0 } : Room).cells ({ frames := 0, cells := 0, slots := 0, locals := 0 } : Room).slots) := by
  refine MetFree.of_bodySF (plainFor_of_name pn2) hisR ?_
  intro p e s m args below meth c s₁ Bd hml0 hP hK
  obtain ⟨rfl, hZ, hh⟩ := hP
  have hx := Bd.exec
  have hby := Bd.bytes
  have hml : c.maxLocals = 1 := hml0
  have hown : s.vm.findClass "com/example/locks_over_messages/locksovermessages/Simulation$Settings" = some m.cls := findClass_of_methodNamed Bd.named
  have hnm := (name_of_methodNamed Bd.named Bd.method).1
  have X0 : Stand p l e ({ frames := 0, cells := 0, slots := 0, locals := 0 } : Room) s m #[(.ref b)] below meth c s₁ [] 0 0 := Stand.of_body Bd
  have e0 : s₁.heap = h0 := by rw [← hh, Bd.state]; rfl
  have N0 := Fr.nil n0
  obtain ⟨G, hG⟩ : ∃ G, G = entryFrame m #[(.ref b)] 1 := ⟨_, rfl⟩
  have S0 : own_Go p e below s₁ G s₁ (mkF m 0 #[.val (.ref b)] []) := fun tg_ kk_ => castTop (by rw [hG]; first | rfl | simp [entryFrame, mkF, argsToLocals, Value.category, maxLocals]) kk_
  have S77 : own_Go p e below s₁ G s₁ (mkF m 1 #[.val (.ref b)] [(.ref b)]) := fun tg_ kk_ => S0 tg_ (by
    refine XS.aloadN X0.here hx rfl (hb hby d17_0) rfl rfl ?_
    exact kk_)
  obtain ⟨T78, X78, e78, st78⟩ := getF X0 hx hZ hown (host := "") (Or.inl (hw _ (List.mem_of_getElem? (i := 14) rfl))) Via.refl e0 O (g := (mkF m 1 #[.val (.ref b)] [(.ref b)])) rfl rfl (hb hby d17_1)
  have S79 : own_Go p e below s₁ G T78 (mkF m 4 #[.val (.ref b)] [(.double x)]) := fun tg_ kk_ => S77 tg_ (st78 tg_ kk_)
  obtain ⟨fs, hr, hrun, hended, hW, hsame⟩ := X78.leave (v := some (.double x)) (fun h => by rw [Bd.returns] at h; cases h)
  refine ⟨_, _, ?_, hrun, hended, _, _, rfl, ?_, ⟨_, rfl⟩, hW, hsame.mono (by decide) (by decide)⟩
  · rw [← hG]; exact S79 _ (retOut X78 hx Bd.returns rfl (Or.inr (Or.inr (Or.inl ⟨rfl, rfl, _, rfl⟩))) (hb hby d17_4) hr)
  · show Q17 Z b x h0 n0 _ T78.heap _
    rw [e78]
    exact ⟨rfl, N0, rfl⟩
def Q18 (Z : State) (b : Addr) (x : UInt64) (h0 : Heap) (n0 : Nat) (v : Option Value) (h : Heap) (L : List Loc) : Prop := v = some (.double x) ∧ Fr n0 L ∧ h0 = h
set_option maxRecDepth 65536 in
set_option maxHeartbeats 40000000 in
theorem rm18 (l : Launch) (Z : State) (a0 : Array Value) (hw : ∀ d ∈ tables_1, d.before a0 Z = true) (ws : List Jvm.Cond) (b : Addr) (x : UInt64) (h0 : Heap) (n0 : Nat) (Z0 : n0 ≤ h0.size) (O : Fld Z h0 b "com/example/locks_over_messages/locksovermessages/Simulation$Settings" "think" "D" (.double x)) :
    MetFree l (⟨"com/example/locks_over_messages/locksovermessages/Simulation$Settings", "getThink", "()D"⟩ : MethodName) (head1 (Jvm.Cond.code (⟨"com/example/locks_over_messages/locksovermessages/Simulation$Settings", "getThink", "()D"⟩ : MethodName) prog_49_method_6_code 1 (some .double) :: ws) ({ frames := 0, cells := 0, slots := 0, locals := 0 } : Room)) (fun aa_ U => aa_ = #[(.ref b)] ∧ Z.Warmed39 U.vm ∧ U.heap = h0) (fun _ _ _ _ _ => True) (fun _ U o U' => ∃ v L, o = .returned v ∧ Q18 Z b x h0 n0 v U'.heap L ∧ FrameEnd U o U' L ({ frames := 0, cells := 0, slots := 0, locals := 0 } : Room).cells ({ frames := 0, cells := 0, slots := 0, locals := 0 } : Room).slots) := by
  refine MetFree.of_bodySF (plainFor_of_name pn2) hisR ?_
  intro p e s m args below meth c s₁ Bd hml0 hP hK
  obtain ⟨rfl, hZ, hh⟩ := hP
  have hx := Bd.exec
  have hby := Bd.bytes
  have hml : c.maxLocals = 1 := hml0
  have hown : s.vm.findClass "com/example/locks_over_messages/locksovermessages/Simulation$Settings" = some m.cls := findClass_of_methodNamed Bd.named
  have hnm := (name_of_methodNamed Bd.named Bd.method).1
  have X0 : Stand p l e ({ frames := 0, cells := 0, slots := 0, locals := 0 } : Room) s m #[(.ref b)] below meth c s₁ [] 0 0 := Stand.of_body Bd
  have e0 : s₁.heap = h0 := by rw [← hh, Bd.state]; rfl
  have N0 := Fr.nil n0
  obtain ⟨G, hG⟩ : ∃ G, G = entryFrame m #[(.ref b)] 1 := ⟨_, rfl⟩
  have S0 : own_Go p e below s₁ G s₁ (mkF m 0 #[.val (.ref b)] []) := fun tg_ kk_ => castTop (by rw [hG]; first | rfl | simp [entryFrame, mkF, argsToLocals, Value.category, maxLocals]) kk_
  have S80 : own_Go p e below s₁ G s₁ (mkF m 1 #[.val (.ref b)] [(.ref b)]) := fun tg_ kk_ => S0 tg_ (by
    refine XS.aloadN X0.here hx rfl (hb hby d18_0) rfl rfl ?_
    exact kk_)
  obtain ⟨T81, X81, e81, st81⟩ := getF X0 hx hZ hown (host := "") (Or.inl (hw _ (List.mem_of_getElem? (i := 31) rfl))) Via.refl e0 O (g := (mkF m 1 #[.val (.ref b)] [(.ref b)])) rfl rfl (hb hby d18_1)
  have S82 : own_Go p e below s₁ G T81 (mkF m 4 #[.val (.ref b)] [(.double x)]) := fun tg_ kk_ => S80 tg_ (st81 tg_ kk_)
  obtain ⟨fs, hr, hrun, hended, hW, hsame⟩ := X81.leave (v := some (.double x)) (fun h => by rw [Bd.returns] at h; cases h)
  refine ⟨_, _, ?_, hrun, hended, _, _, rfl, ?_, ⟨_, rfl⟩, hW, hsame.mono (by decide) (by decide)⟩
  · rw [← hG]; exact S82 _ (retOut X81 hx Bd.returns rfl (Or.inr (Or.inr (Or.inl ⟨rfl, rfl, _, rfl⟩))) (hb hby d18_4) hr)
  · show Q18 Z b x h0 n0 _ T81.heap _
    rw [e81]
    exact ⟨rfl, N0, rfl⟩
def Q19 (Z : State) (b : Addr) (x : UInt64) (h0 : Heap) (n0 : Nat) (v : Option Value) (h : Heap) (L : List Loc) : Prop := v = some (.double x) ∧ Fr n0 L ∧ h0 = h
set_option maxRecDepth 65536 in
set_option maxHeartbeats 40000000 in
theorem rm19 (l : Launch) (Z : State) (a0 : Array Value) (hw : ∀ d ∈ tables_1, d.before a0 Z = true) (ws : List Jvm.Cond) (b : Addr) (x : UInt64) (h0 : Heap) (n0 : Nat) (Z0 : n0 ≤ h0.size) (O : Fld Z h0 b "com/example/locks_over_messages/locksovermessages/Simulation$Settings" "stagger" "D" (.double x)) :
    MetFree l (⟨"com/example/locks_over_messages/locksovermessages/Simulation$Settings", "getStagger", "()D"⟩ : MethodName) (head1 (Jvm.Cond.code (⟨"com/example/locks_over_messages/locksovermessages/Simulation$Settings", "getStagger", "()D"⟩ : MethodName) prog_49_method_7_code 1 (some .double) :: ws) ({ frames := 0, cells := 0, slots := 0, locals := 0 } : Room)) (fun aa_ U => aa_ = #[(.ref b)] ∧ Z.Warmed39 U.vm ∧ U.heap = h0) (fun _ _ _ _ _ => True) (fun _ U o U' => ∃ v L, o = .returned v ∧ Q19 Z b x h0 n0 v U'.heap L ∧ FrameEnd U o U' L ({ frames := 0, cells := 0, slots := 0, locals := 0 } : Room).cells ({ frames := 0, cells := 0, slots := 0, locals := 0 } : Room).slots) := by
  refine MetFree.of_bodySF (plainFor_of_name pn2) hisR ?_
  intro p e s m args below meth c s₁ Bd hml0 hP hK
  obtain ⟨rfl, hZ, hh⟩ := hP
  have hx := Bd.exec
  have hby := Bd.bytes
  have hml : c.maxLocals = 1 := hml0
  have hown : s.vm.findClass "com/example/locks_over_messages/locksovermessages/Simulation$Settings" = some m.cls := findClass_of_methodNamed Bd.named
  have hnm := (name_of_methodNamed Bd.named Bd.method).1
  have X0 : Stand p l e ({ frames := 0, cells := 0, slots := 0, locals := 0 } : Room) s m #[(.ref b)] below meth c s₁ [] 0 0 := Stand.of_body Bd
  have e0 : s₁.heap = h0 := by rw [← hh, Bd.state]; rfl
  have N0 := Fr.nil n0
  obtain ⟨G, hG⟩ : ∃ G, G = entryFrame m #[(.ref b)] 1 := ⟨_, rfl⟩
  have S0 : own_Go p e below s₁ G s₁ (mkF m 0 #[.val (.ref b)] []) := fun tg_ kk_ => castTop (by rw [hG]; first | rfl | simp [entryFrame, mkF, argsToLocals, Value.category, maxLocals]) kk_
  have S83 : own_Go p e below s₁ G s₁ (mkF m 1 #[.val (.ref b)] [(.ref b)]) := fun tg_ kk_ => S0 tg_ (by
    refine XS.aloadN X0.here hx rfl (hb hby d19_0) rfl rfl ?_
    exact kk_)
  obtain ⟨T84, X84, e84, st84⟩ := getF X0 hx hZ hown (host := "") (Or.inl (hw _ (List.mem_of_getElem? (i := 33) rfl))) Via.refl e0 O (g := (mkF m 1 #[.val (.ref b)] [(.ref b)])) rfl rfl (hb hby d19_1)
  have S85 : own_Go p e below s₁ G T84 (mkF m 4 #[.val (.ref b)] [(.double x)]) := fun tg_ kk_ => S83 tg_ (st84 tg_ kk_)
  obtain ⟨fs, hr, hrun, hended, hW, hsame⟩ := X84.leave (v := some (.double x)) (fun h => by rw [Bd.returns] at h; cases h)
  refine ⟨_, _, ?_, hrun, hended, _, _, rfl, ?_, ⟨_, rfl⟩, hW, hsame.mono (by decide) (by decide)⟩
  · rw [← hG]; exact S85 _ (retOut X84 hx Bd.returns rfl (Or.inr (Or.inr (Or.inl ⟨rfl, rfl, _, rfl⟩))) (hb hby d19_4) hr)
  · show Q19 Z b x h0 n0 _ T84.heap _
    rw [e84]
    exact ⟨rfl, N0, rfl⟩
def Q20 (Z : State) (b : Addr) (x : UInt64) (h0 : Heap) (n0 : Nat) (v : Option Value) (h : Heap) (L : List Loc) : Prop := v = some (.double x) ∧ Fr n0 L ∧ h0 = h
set_option maxRecDepth 65536 in
set_option maxHeartbeats 40000000 in
theorem rm20 (l : Launch) (Z : State) (a0 : Array Value) (hw : ∀ d ∈ tables_1, d.before a0 Z = true) (ws : List Jvm.Cond) (b : Addr) (x : UInt64) (h0 : Heap) (n0 : Nat) (Z0 : n0 ≤ h0.size) (O : Fld Z h0 b "com/example/locks_over_messages/locksovermessages/Simulation$Settings" "jitter" "D" (.double x)) :
    MetFree l (⟨"com/example/locks_over_messages/locksovermessages/Simulation$Settings", "getJitter", "()D"⟩ : MethodName) (head1 (Jvm.Cond.code (⟨"com/example/locks_over_messages/locksovermessages/Simulation$Settings", "getJitter", "()D"⟩ : MethodName) prog_49_method_8_code 1 (some .double) :: ws) ({ frames := 0, cells := 0, slots := 0, locals := 0 } : Room)) (fun aa_ U => aa_ = #[(.ref b)] ∧ Z.Warmed39 U.vm ∧ U.heap = h0) (fun _ _ _ _ _ => True) (fun _ U o U' => ∃ v L, o = .returned v ∧ Q20 Z b x h0 n0 v U'.heap L ∧ FrameEnd U o U' L ({ frames := 0, cells := 0, slots := 0, locals := 0 } : Room).cells ({ frames := 0, cells := 0, slots := 0, locals := 0 } : Room).slots) := by
  refine MetFree.of_bodySF (plainFor_of_name pn2) hisR ?_
  intro p e s m args below meth c s₁ Bd hml0 hP hK
  obtain ⟨rfl, hZ, hh⟩ := hP
  have hx := Bd.exec
  have hby := Bd.bytes
  have hml : c.maxLocals = 1 := hml0
  have hown : s.vm.findClass "com/example/locks_over_messages/locksovermessages/Simulation$Settings" = some m.cls := findClass_of_methodNamed Bd.named
  have hnm := (name_of_methodNamed Bd.named Bd.method).1
  have X0 : Stand p l e ({ frames := 0, cells := 0, slots := 0, locals := 0 } : Room) s m #[(.ref b)] below meth c s₁ [] 0 0 := Stand.of_body Bd
  have e0 : s₁.heap = h0 := by rw [← hh, Bd.state]; rfl
  have N0 := Fr.nil n0
  obtain ⟨G, hG⟩ : ∃ G, G = entryFrame m #[(.ref b)] 1 := ⟨_, rfl⟩
  have S0 : own_Go p e below s₁ G s₁ (mkF m 0 #[.val (.ref b)] []) := fun tg_ kk_ => castTop (by rw [hG]; first | rfl | simp [entryFrame, mkF, argsToLocals, Value.category, maxLocals]) kk_
  have S86 : own_Go p e below s₁ G s₁ (mkF m 1 #[.val (.ref b)] [(.ref b)]) := fun tg_ kk_ => S0 tg_ (by
    refine XS.aloadN X0.here hx rfl (hb hby d20_0) rfl rfl ?_
    exact kk_)
  obtain ⟨T87, X87, e87, st87⟩ := getF X0 hx hZ hown (host := "") (Or.inl (hw _ (List.mem_of_getElem? (i := 35) rfl))) Via.refl e0 O (g := (mkF m 1 #[.val (.ref b)] [(.ref b)])) rfl rfl (hb hby d20_1)
  have S88 : own_Go p e below s₁ G T87 (mkF m 4 #[.val (.ref b)] [(.double x)]) := fun tg_ kk_ => S86 tg_ (st87 tg_ kk_)
  obtain ⟨fs, hr, hrun, hended, hW, hsame⟩ := X87.leave (v := some (.double x)) (fun h => by rw [Bd.returns] at h; cases h)
  refine ⟨_, _, ?_, hrun, hended, _, _, rfl, ?_, ⟨_, rfl⟩, hW, hsame.mono (by decide) (by decide)⟩
  · rw [← hG]; exact S88 _ (retOut X87 hx Bd.returns rfl (Or.inr (Or.inr (Or.inl ⟨rfl, rfl, _, rfl⟩))) (hb hby d20_4) hr)
  · show Q20 Z b x h0 n0 _ T87.heap _
    rw [e87]
    exact ⟨rfl, N0, rfl⟩
def Q21 (Z : State) (b : Addr) (x : Int64) (h0 : Heap) (n0 : Nat) (v : Option Value) (h : Heap) (L : List Loc) : Prop := v = some (.long x) ∧ Fr n0 L ∧ h0 = h
set_option maxRecDepth 65536 in
set_option maxHeartbeats 40000000 in
theorem rm21 (l : Launch) (Z : State) (a0 : Array Value) (hw : ∀ d ∈ tables_1, d.before a0 Z = true) (ws : List Jvm.Cond) (b : Addr) (x : Int64) (h0 : Heap) (n0 : Nat) (Z0 : n0 ≤ h0.size) (O : Fld Z h0 b "com/example/locks_over_messages/locksovermessages/Simulation$Settings" "seed" "J" (.long x)) :
    MetFree l (⟨"com/example/locks_over_messages/locksovermessages/Simulation$Settings", "getSeed", "()J"⟩ : MethodName) (head1 (Jvm.Cond.code (⟨"com/example/locks_over_messages/locksovermessages/Simulation$Settings", "getSeed", "()J"⟩ : MethodName) prog_49_method_9_code 1 (some .long) :: ws) ({ frames := 0, cells := 0, slots := 0, locals := 0 } : Room)) (fun aa_ U => aa_ = #[(.ref b)] ∧ Z.Warmed39 U.vm ∧ U.heap = h0) (fun _ _ _ _ _ => True) (fun _ U o U' => ∃ v L, o = .returned v ∧ Q21 Z b x h0 n0 v U'.heap L ∧ FrameEnd U o U' L ({ frames := 0, cells := 0, slots := 0, locals := 0 } : Room).cells ({ frames := 0, cells := 0, slots := 0, locals := 0 } : Room).slots) := by
  refine MetFree.of_bodySF (plainFor_of_name pn2) hisR ?_
  intro p e s m args below meth c s₁ Bd hml0 hP hK
  obtain ⟨rfl, hZ, hh⟩ := hP
  have hx := Bd.exec
  have hby := Bd.bytes
  have hml : c.maxLocals = 1 := hml0
  have hown : s.vm.findClass "com/example/locks_over_messages/locksovermessages/Simulation$Settings" = some m.cls := findClass_of_methodNamed Bd.named
  have hnm := (name_of_methodNamed Bd.named Bd.method).1
  have X0 : Stand p l e ({ frames := 0, cells := 0, slots := 0, locals := 0 } : Room) s m #[(.ref b)] below meth c s₁ [] 0 0 := Stand.of_body Bd
  have e0 : s₁.heap = h0 := by rw [← hh, Bd.state]; rfl
  have N0 := Fr.nil n0
  obtain ⟨G, hG⟩ : ∃ G, G = entryFrame m #[(.ref b)] 1 := ⟨_, rfl⟩
  have S0 : own_Go p e below s₁ G s₁ (mkF m 0 #[.val (.ref b)] []) := fun tg_ kk_ => castTop (by rw [hG]; first | rfl | simp [entryFrame, mkF, argsToLocals, Value.category, maxLocals]) kk_
  have S89 : own_Go p e below s₁ G s₁ (mkF m 1 #[.val (.ref b)] [(.ref b)]) := fun tg_ kk_ => S0 tg_ (by
    refine XS.aloadN X0.here hx rfl (hb hby d21_0) rfl rfl ?_
    exact kk_)
  obtain ⟨T90, X90, e90, st90⟩ := getF X0 hx hZ hown (host := "") (Or.inl (hw _ (List.mem_of_getElem? (i := 16) rfl))) Via.refl e0 O (g := (mkF m 1 #[.val (.ref b)] [(.ref b)])) rfl rfl (hb hby d21_1)
  have S91 : own_Go p e below s₁ G T90 (mkF m 4 #[.val (.ref b)] [(.long x)]) := fun tg_ kk_ => S89 tg_ (st90 tg_ kk_)
  obtain ⟨fs, hr, hrun, hended, hW, hsame⟩ := X90.leave (v := some (.long x)) (fun h => by rw [Bd.returns] at h; cases h)
  refine ⟨_, _, ?_, hrun, hended, _, _, rfl, ?_, ⟨_, rfl⟩, hW, hsame.mono (by decide) (by decide)⟩
  · rw [← hG]; exact S91 _ (retOut X90 hx Bd.returns rfl (Or.inr (Or.inl ⟨rfl, rfl, _, rfl⟩)) (hb hby d21_4) hr)
  · show Q21 Z b x h0 n0 _ T90.heap _
    rw [e90]
    exact ⟨rfl, N0, rfl⟩
/-- a time that is finite and not below 0 -/
def own_Time (x : UInt64) : Prop := Jvm.Free.Fl.NoNaN64 x ∧ ¬ 0 < cmpValue (FP.dcmp (x &&& 0x7fffffffffffffff) 9218868437227405311) .g ∧ ¬ cmpValue (FP.dcmp x FP.dconst0) .g < 0 ∧ cmpValue (FP.dcmp x x) .l = 0
theorem pn3 : plainName "java/lang/Double" = true := by first | (simp [plainName, overriddenIn]; done) | decide +kernel
def Q7 (Z : State) (x : UInt64) (h0 : Heap) (n0 : Nat) (v : Option Value) (h : Heap) (L : List Loc) : Prop := v = some (.int 1) ∧ Fr n0 L ∧ h0 = h
set_option maxRecDepth 65536 in
set_option maxHeartbeats 40000000 in
theorem rm7 (l : Launch) (Z : State) (a0 : Array Value) (hw : ∀ d ∈ tables_1, d.before a0 Z = true) (ws : List Jvm.Cond) (x : UInt64) (h0 : Heap) (n0 : Nat) (Z0 : n0 ≤ h0.size) (ht : own_Time x) :
    MetFree l (⟨"java/lang/Double", "isFinite", "(D)Z"⟩ : MethodName) (head1 (Jvm.Cond.code (⟨"java/lang/Double", "isFinite", "(D)Z"⟩ : MethodName) jdk_117_method_8_code 2 (some .boolean) :: ws) ({ frames := 1, cells := 0, slots := 0, locals := 13 } : Room)) (fun aa_ U => aa_ = #[(.double x)] ∧ Z.Warmed39 U.vm ∧ U.heap = h0) (fun _ _ _ _ _ => True) (fun _ U o U' => ∃ v L, o = .returned v ∧ Q7 Z x h0 n0 v U'.heap L ∧ FrameEnd U o U' L ({ frames := 1, cells := 0, slots := 0, locals := 13 } : Room).cells ({ frames := 1, cells := 0, slots := 0, locals := 13 } : Room).slots) := by
  refine MetFree.of_bodySF (plainFor_of_name pn3) hisR ?_
  intro p e s m args below meth c s₁ Bd hml0 hP hK
  obtain ⟨rfl, hZ, hh⟩ := hP
  have hx := Bd.exec
  have hby := Bd.bytes
  have hml : c.maxLocals = 2 := hml0
  have hown : s.vm.findClass "java/lang/Double" = some m.cls := findClass_of_methodNamed Bd.named
  have hnm := (name_of_methodNamed Bd.named Bd.method).1
  have X0 : Stand p l e ({ frames := 1, cells := 0, slots := 0, locals := 13 } : Room) s m #[(.double x)] below meth c s₁ [] 0 0 := Stand.of_body Bd
  have e0 : s₁.heap = h0 := by rw [← hh, Bd.state]; rfl
  have N0 := Fr.nil n0
  obtain ⟨G, hG⟩ : ∃ G, G = entryFrame m #[(.double x)] 2 := ⟨_, rfl⟩
  have S0 : own_Go p e below s₁ G s₁ (mkF m 0 #[.val (.double x), .second] []) := fun tg_ kk_ => castTop (by rw [hG]; simp [entryFrame, mkF, argsToLocals, Value.category, maxLocals]) kk_
  have S92 : own_Go p e below s₁ G s₁ (mkF m 1 #[.val (.double x), .second] [(.double x)]) := fun tg_ kk_ => S0 tg_ (by
    refine XS.dloadN X0.here hx rfl (hb hby d7_0) rfl ?_
    exact kk_)
  obtain ⟨T1, X1, e1, st1⟩ := natS X0 hx hZ (y := Jvm.Free.Fl.Abs.absDN) hown (hw _ (List.mem_of_getElem? (i := 54) rfl)) (hw _ (List.mem_of_getElem? (i := 55) rfl)) (hw _ (List.mem_of_getElem? (i := 3) rfl)) (by0 := Jvm.Free.Fl.Abs.absDCode) (hw _ (List.mem_of_getElem? (i := 56) rfl)) (by decide) e0 (W := 0) (fun hcd => Jvm.Free.Fl.Abs.absD_pays x hcd (by decide) (by decide)) (g := (mkF m 1 #[.val (.double x), .second] [(.double x)])) rfl (by rw [hml]; rfl) (argsL := [(.double x)]) (rest := []) (lenOf pd9 rfl) rfl (by show 2 * 0 + _ ≤ _; exact Nat.le_of_eq rfl) (hb hby d7_1) (by decide) (by decide) ⟨rfl, ht.1⟩ rfl
  have S93 : own_Go p e below s₁ G T1 (mkF m 4 #[.val (.double x), .second] [(.double (x &&& 0x7fffffffffffffff))]) := fun tg_ kk_ => S92 tg_ (st1 tg_ kk_)
  have S94 : own_Go p e below s₁ G T1 (mkF m 16 #[.val (.double x), .second] [(.int (1 : Int32))]) := fun tg_ kk_ => S93 tg_ (by
    refine X1.ldc2DoubleC hx hown (mvT hZ (hw _ (List.mem_of_getElem? (i := 57) rfl))) (g := (mkF m 4 #[.val (.double x), .second] [(.double (x &&& 0x7fffffffffffffff))])) rfl (hb hby d7_4) _ ?_
    show Steps p.tables e below (T1.setTop (mkF m 7 #[.val (.double x), .second] [(.double (9218868437227405311 : UInt64)), (.double (x &&& 0x7fffffffffffffff))])) _
    refine XS.dcmpS X1.here hx rfl (hb hby d7_7) rfl rfl ?_
    show Steps p.tables e below (T1.setTop (mkF m 8 #[.val (.double x), .second] [(.int (cmpValue (FP.dcmp (x &&& 0x7fffffffffffffff) (9218868437227405311 : UInt64)) .g))])) _
    refine XS.ifNo X1.here hx rfl (hb hby d7_8) rfl (XT.i0_gt_f ht.2.1) ?_
    show Steps p.tables e below (T1.setTop (mkF m 11 #[.val (.double x), .second] [])) _
    refine XS.iconst X1.here hx rfl (hb hby d7_11) ?_
    show Steps p.tables e below (T1.setTop (mkF m 12 #[.val (.double x), .second] [(.int (1 : Int32))])) _
    refine XS.goto X1.here hx rfl (pc0 := 12) (pc' := 16) rfl (hb hby d7_12) (by decide) (by decide) ?_
    exact kk_)
  obtain ⟨fs, hr, hrun, hended, hW, hsame⟩ := X1.leave (v := some (.int (1 : Int32))) (fun h => by rw [Bd.returns] at h; cases h)
  refine ⟨_, _, ?_, hrun, hended, _, _, rfl, ?_, ⟨_, rfl⟩, hW, hsame.mono (by decide) (by decide)⟩
  · rw [← hG]; exact S94 _ (retN X1 hx (t := .boolean) Bd.returns (by simp) (hb hby d7_16) hr)
  · show Q7 Z x h0 n0 _ T1.heap _
    rw [e1]
    exact ⟨rfl, N0, rfl⟩
def Q6 (Z : State) (nm : Addr) (x : UInt64) (h0 : Heap) (n0 : Nat) (v : Option Value) (h : Heap) (L : List Loc) : Prop := v = some (.double x) ∧ Fr n0 L ∧ h0 = h
set_option maxRecDepth 65536 in
set_option maxHeartbeats 40000000 in
theorem rm6 (l : Launch) (Z : State) (a0 : Array Value) (hw : ∀ d ∈ tables_1, d.before a0 Z = true) (ws : List Jvm.Cond) (nm : Addr) (x : UInt64) (h0 : Heap) (n0 : Nat) (Z0 : n0 ≤ h0.size) (ht : own_Time x) :
    MetFree l (⟨"com/example/locks_over_messages/locksovermessages/Simulation$Settings", "requireTime", "(Ljava/lang/String;D)D"⟩ : MethodName) (head1 (Jvm.Cond.code (⟨"com/example/locks_over_messages/locksovermessages/Simulation$Settings", "requireTime", "(Ljava/lang/String;D)D"⟩ : MethodName) prog_49_method_17_code 3 (some .double) :: ws) ({ frames := 2, cells := 0, slots := 0, locals := 28 } : Room)) (fun aa_ U => aa_ = #[(.ref nm), (.double x)] ∧ Z.Warmed39 U.vm ∧ U.heap = h0) (fun _ _ _ _ _ => True) (fun _ U o U' => ∃ v L, o = .returned v ∧ Q6 Z nm x h0 n0 v U'.heap L ∧ FrameEnd U o U' L ({ frames := 2, cells := 0, slots := 0, locals := 28 } : Room).cells ({ frames := 2, cells := 0, slots := 0, locals := 28 } : Room).slots) := by
  refine MetFree.of_bodySF (plainFor_of_name pn2) hisR ?_
  intro p e s m args below meth c s₁ Bd hml0 hP hK
  obtain ⟨rfl, hZ, hh⟩ := hP
  have hx := Bd.exec
  have hby := Bd.bytes
  have hml : c.maxLocals = 3 := hml0
  have hown : s.vm.findClass "com/example/locks_over_messages/locksovermessages/Simulation$Settings" = some m.cls := findClass_of_methodNamed Bd.named
  have hnm := (name_of_methodNamed Bd.named Bd.method).1
  have X0 : Stand p l e ({ frames := 2, cells := 0, slots := 0, locals := 28 } : Room) s m #[(.ref nm), (.double x)] below meth c s₁ [] 0 0 := Stand.of_body Bd
  have e0 : s₁.heap = h0 := by rw [← hh, Bd.state]; rfl
  have N0 := Fr.nil n0
  obtain ⟨G, hG⟩ : ∃ G, G = entryFrame m #[(.ref nm), (.double x)] 3 := ⟨_, rfl⟩
  have S0 : own_Go p e below s₁ G s₁ (mkF m 0 #[.val (.ref nm), .val (.double x), .second] []) := fun tg_ kk_ => castTop (by rw [hG]; simp [entryFrame, mkF, argsToLocals, Value.category, maxLocals]) kk_
  have S95 : own_Go p e below s₁ G s₁ (mkF m 1 #[.val (.ref nm), .val (.double x), .second] [(.double x)]) := fun tg_ kk_ => S0 tg_ (by
    refine XS.dloadN X0.here hx rfl (hb hby d6_0) rfl ?_
    exact kk_)
  obtain ⟨_, T96, h96, L96, X96, e96, hQ96, st96⟩ := own_callS X0 hx hZ (y := (⟨"java/lang/Double", "isFinite", "(D)Z"⟩ : MethodName)) hown (hw _ (List.mem_of_getElem? (i := 50) rfl)) (hw _ (List.mem_of_getElem? (i := 51) rfl)) (hw _ (List.mem_of_getElem? (i := 52) rfl)) (hw _ (List.mem_of_getElem? (i := 53) rfl)) (by decide) 0 (g := (mkF m 1 #[.val (.ref nm), .val (.double x), .second] [(.double x)])) rfl (by rw [hml]; rfl) [(.double x)] [] (rm7 l Z a0 hw [] x h0 n0 Z0 ht) (lenOf pd8 rfl) rfl (by show 2 * 0 + _ ≤ _; exact Nat.le_of_eq rfl) (hb hby d6_1) (by decide) (by decide) e0 (by decide) (by decide)
  obtain ⟨rfl, N96, rfl⟩ := hQ96
  have S97 : own_Go p e below s₁ G T96 (mkF m 4 #[.val (.ref nm), .val (.double x), .second] [(.int (1 : Int32))]) := fun tg_ kk_ => S95 tg_ (st96 tg_ kk_)
  have M96 := Fr.app N0 N96
  have S98 : own_Go p e below s₁ G T96 (mkF m 29 #[.val (.ref nm), .val (.double x), .second] [(.double x)]) := fun tg_ kk_ => S97 tg_ (by
    refine XS.ifNo X96.here hx rfl (hb hby d6_4) rfl (by decide) ?_
    show Steps p.tables e below (T96.setTop (mkF m 7 #[.val (.ref nm), .val (.double x), .second] [])) _
    refine XS.dloadN X96.here hx rfl (hb hby d6_7) rfl ?_
    show Steps p.tables e below (T96.setTop (mkF m 8 #[.val (.ref nm), .val (.double x), .second] [(.double x)])) _
    refine XS.dconst0 X96.here hx rfl (hb hby d6_8) rfl ?_
    show Steps p.tables e below (T96.setTop (mkF m 9 #[.val (.ref nm), .val (.double x), .second] [(.double FP.dconst0), (.double x)])) _
    refine XS.dcmpS X96.here hx rfl (hb hby d6_9) rfl rfl ?_
    show Steps p.tables e below (T96.setTop (mkF m 10 #[.val (.ref nm), .val (.double x), .second] [(.int (cmpValue (FP.dcmp x (FP.dconst0)) .g))])) _
    refine XS.ifYes X96.here hx rfl (pc0 := 10) (pc' := 28) rfl (hb hby d6_10) rfl (XT.i0_ge_t ht.2.2.1) (by decide) (by decide) ?_
    show Steps p.tables e below (T96.setTop (mkF m 28 #[.val (.ref nm), .val (.double x), .second] [])) _
    refine XS.dloadN X96.here hx rfl (hb hby d6_28) rfl ?_
    exact kk_)
  obtain ⟨fs, hr, hrun, hended, hW, hsame⟩ := X96.leave (v := some (.double x)) (fun h => by rw [Bd.returns] at h; cases h)
  refine ⟨_, _, ?_, hrun, hended, _, _, rfl, ?_, ⟨_, rfl⟩, hW, hsame.mono (by decide) (by decide)⟩
  · rw [← hG]; exact S98 _ (retOut X96 hx Bd.returns rfl (Or.inr (Or.inr (Or.inl ⟨rfl, rfl, _, rfl⟩))) (hb hby d6_29) hr)
  · show Q6 Z nm x h0 n0 _ T96.heap _
    rw [e96]
    exact ⟨rfl, M96, rfl⟩
theorem own_wS0 {Z : State} {a0 : Array Value} (hw : ∀ d ∈ tables_1, d.before a0 Z = true) : ∀ a ∈ Bundle.stringAtoms, a.before a0 Z = true := by
  intro a ha
  have h : ∀ a ∈ Bundle.stringAtoms, a ∈ tables_1 := by decide +kernel
  exact hw a (h a ha)
def Q4 (Z : State) (b : Addr) (x : UInt64) (f0 : Int32) (f1 : Int32) (f2 : UInt64) (f3 : UInt64) (f4 : UInt64) (f5 : UInt64) (f6 : Int64) (f7 : Int32) (h0 : Heap) (n0 : Nat) (v : Option Value) (h : Heap) (L : List Loc) : Prop := v = some (.ref h0.size) ∧ Fr n0 L ∧ Keep h0 h [] ∧ own_Set Z h h0.size f0 f1 x f3 f4 f5 f6 f7
set_option maxRecDepth 65536 in
set_option maxHeartbeats 40000000 in
theorem rm4 (l : Launch) (Z : State) (a0 : Array Value) (hw : ∀ d ∈ tables_1, d.before a0 Z = true) (ws : List Jvm.Cond) (b : Addr) (x : UInt64) (f0 : Int32) (f1 : Int32) (f2 : UInt64) (f3 : UInt64) (f4 : UInt64) (f5 : UInt64) (f6 : Int64) (f7 : Int32) (h0 : Heap) (n0 : Nat) (Z0 : n0 ≤ h0.size) (O : own_Set Z h0 b f0 f1 f2 f3 f4 f5 f6 f7) (hbo : f7 = 0 ∨ f7 = 1) (ht : own_Time x) :
    MetFree l (⟨"com/example/locks_over_messages/locksovermessages/Simulation$Settings", "withHold", "(D)Lcom/example/locks_over_messages/locksovermessages/Simulation$Settings;"⟩ : MethodName) (head1 (Jvm.Cond.code (⟨"com/example/locks_over_messages/locksovermessages/Simulation$Settings", "withHold", "(D)Lcom/example/locks_over_messages/locksovermessages/Simulation$Settings;"⟩ : MethodName) prog_49_method_11_code 4 (some (.object "com/example/locks_over_messages/locksovermessages/Simulation$Settings")) :: ws) ({ frames := 3, cells := 3, slots := 44, locals := 50 } : Room)) (fun aa_ U => aa_ = #[(.ref b), (.double x)] ∧ Z.Warmed39 U.vm ∧ U.heap = h0) (fun _ _ _ _ _ => True) (fun _ U o U' => ∃ v L, o = .returned v ∧ Q4 Z b x f0 f1 f2 f3 f4 f5 f6 f7 h0 n0 v U'.heap L ∧ ReturnedEndW U o U' L ({ frames := 3, cells := 3, slots := 44, locals := 50 } : Room).cells ({ frames := 3, cells := 3, slots := 44, locals := 50 } : Room).slots) := by
  refine MetFree.of_bodySF (plainFor_of_name pn2) hisR ?_
  intro p e s m args below meth c s₁ Bd hml0 hP hK
  obtain ⟨rfl, hZ, hh⟩ := hP
  have hx := Bd.exec
  have hby := Bd.bytes
  have hml : c.maxLocals = 4 := hml0
  have hown : s.vm.findClass "com/example/locks_over_messages/locksovermessages/Simulation$Settings" = some m.cls := findClass_of_methodNamed Bd.named
  have hnm := (name_of_methodNamed Bd.named Bd.method).1
  have X0 : Stand p l e ({ frames := 3, cells := 3, slots := 44, locals := 50 } : Room) s m #[(.ref b), (.double x)] below meth c s₁ [] 0 0 := Stand.of_body Bd
  have e0 : s₁.heap = h0 := by rw [← hh, Bd.state]; rfl
  have N0 := Fr.nil n0
  obtain ⟨G, hG⟩ : ∃ G, G = entryFrame m #[(.ref b), (.double x)] 4 := ⟨_, rfl⟩
  have S0 : own_Go p e below s₁ G s₁ (mkF m 0 #[.val (.ref b), .val (.double x), .second, .unset] []) := fun tg_ kk_ => castTop (by rw [hG]; simp [entryFrame, mkF, argsToLocals, Value.category, maxLocals]) kk_
  obtain ⟨T99, h99, X99, e99, E99, A99, D99, -, st99⟩ := newO X0 hx hZ hown (hw _ (List.mem_of_getElem? (i := 27) rfl)) (hw _ (List.mem_of_getElem? (i := 6) rfl)) (hw _ (List.mem_of_getElem? (i := 7) rfl)) e0 (g := (mkF m 0 #[.val (.ref b), .val (.double x), .second, .unset] [])) rfl (hb hby d4_0) (by decide) (by decide)
  obtain ⟨a99, g99⟩ : ∃ z, z = h0.size := ⟨_, rfl⟩
  rw [← g99] at A99 D99 st99
  have S100 : own_Go p e below s₁ G T99 (mkF m 3 #[.val (.ref b), .val (.double x), .second, .unset] [(.ref a99)]) := fun tg_ kk_ => S0 tg_ (st99 tg_ kk_)
  have S0x : own_Set Z h99 a99 0 0 0 0 0 0 0 0 := ⟨A99, D99 (Or.inr (hw _ (List.mem_of_getElem? (i := 19) rfl))) (ty := .int) (by decide), D99 (Or.inr (hw _ (List.mem_of_getElem? (i := 21) rfl))) (ty := .int) (by decide), D99 (Or.inl (hw _ (List.mem_of_getElem? (i := 15) rfl))) (ty := .double) (by decide), D99 (Or.inl (hw _ (List.mem_of_getElem? (i := 32) rfl))) (ty := .double) (by decide), D99 (Or.inl (hw _ (List.mem_of_getElem? (i := 34) rfl))) (ty := .double) (by decide), D99 (Or.inl (hw _ (List.mem_of_getElem? (i := 36) rfl))) (ty := .double) (by decide), D99 (Or.inl (hw _ (List.mem_of_getElem? (i := 17) rfl))) (ty := .long) (by decide), D99 (Or.inl (hw _ (List.mem_of_getElem? (i := 38) rfl))) (ty := .boolean) (by decide)⟩
  have O1 := O.ext E99
  have ha : n0 ≤ a99 := Nat.le_trans Z0 (Nat.le_of_eq g99.symm)
  have Z1 : n0 ≤ h99.size := Nat.le_trans Z0 E99.1
  have hab : b ≠ a99 := Nat.ne_of_lt (Nat.lt_of_lt_of_le O.1.lt (Nat.le_of_eq g99.symm))
  have S101 : own_Go p e below s₁ G T99 (mkF m 5 #[.val (.ref b), .val (.double x), .second, .unset] [(.ref b), (.ref a99), (.ref a99)]) := fun tg_ kk_ => S100 tg_ (by
    refine XS.dup X99.here hx rfl (hb hby d4_3) rfl rfl ?_
    show Steps p.tables e below (T99.setTop (mkF m 4 #[.val (.ref b), .val (.double x), .second, .unset] [(.ref a99), (.ref a99)])) _
    refine XS.aloadN X99.here hx rfl (hb hby d4_4) rfl rfl ?_
    exact kk_)
  obtain ⟨_, T102, h102, L102, X102, e102, hQ102, st102⟩ := own_callI X99 hx hZ (y := (⟨"com/example/locks_over_messages/locksovermessages/Simulation$Settings", "<init>", "(Lcom/example/locks_over_messages/locksovermessages/Simulation$Settings;)V"⟩ : MethodName)) rfl hown (hw _ (List.mem_of_getElem? (i := 28) rfl)) (hw _ (List.mem_of_getElem? (i := 29) rfl)) (hw _ (List.mem_of_getElem? (i := 7) rfl)) (hw _ (List.mem_of_getElem? (i := 30) rfl)) (by decide) 1 (g := (mkF m 5 #[.val (.ref b), .val (.double x), .second, .unset] [(.ref b), (.ref a99), (.ref a99)])) rfl (by rw [hml]; rfl) a99 [(.ref b)] [(.ref a99)] (rm5 l Z a0 hw [] a99 b f0 f1 f2 f3 f4 f5 f6 f7 h99 n0 Z1 S0x O1 ha hab hbo) (lenOf pd6 rfl) rfl (by show 2 * 0 + _ ≤ _; exact Nat.le_of_eq rfl) (hb hby d4_5) (by decide) (by decide) e99 (by decide) (by decide)
  obtain ⟨rfl, N102, K102, S102x⟩ := hQ102
  have S103 : own_Go p e below s₁ G T102 (mkF m 8 #[.val (.ref b), .val (.double x), .second, .unset] [(.ref a99)]) := fun tg_ kk_ => S101 tg_ (st102 tg_ kk_)
  have M1 := Fr.app N0 N102
  have K1 : Keep h0 h102 [] := ((Keep.refl h0 []).ext E99).trans K102 (allS (Or.inr (Nat.le_of_eq g99.symm)) all0)
  have S104 : own_Go p e below s₁ G T102 (mkF m 10 #[.val (.ref b), .val (.double x), .second, .val (.ref a99)] [(.ref a99)]) := fun tg_ kk_ => S103 tg_ (by
    refine XS.astoreN X102.here hx rfl (hb hby d4_8) rfl rfl (l' := #[.val (.ref b), .val (.double x), .second, .val (.ref a99)]) rfl ?_
    show Steps p.tables e below (T102.setTop (mkF m 9 #[.val (.ref b), .val (.double x), .second, .val (.ref a99)] [])) _
    refine XS.aloadN X102.here hx rfl (hb hby d4_9) rfl rfl ?_
    exact kk_)
  have XW : Stand p l e ({ frames := 3, cells := 3, slots := 44, locals := 50 } : Room) (s.setVm s.vm) m #[(.ref b), (.double x)] below meth c T102 _ _ _ := X102
  obtain ⟨q105, T105, h105, k105, X105, e105, E105, hS105, hk105, hZ105, hown105, st105⟩ := ldcS XW hx hZ hown (hw _ (List.mem_of_getElem? (i := 39) rfl)) (own_wS0 hw) e102 ((State.WarmedH.refl s).since 0) (Nat.zero_le _) (g := (mkF m 10 #[.val (.ref b), .val (.double x), .second, .val (.ref a99)] [(.ref a99)])) rfl (hb hby d4_10) (n := 32) (by decide) (by decide) (by decide) (by decide)
  have S106 : own_Go p e below s₁ G T105 (mkF m 12 #[.val (.ref b), .val (.double x), .second, .val (.ref a99)] [(.ref q105), (.ref a99)]) := fun tg_ kk_ => S104 tg_ (st105 tg_ kk_)
  have S3x := own_Set.ext E105 S102x
  have K3 := K1.ext E105
  have Z3 : n0 ≤ h105.size := Nat.le_trans Z0 K3.1
  have S107 : own_Go p e below s₁ G T105 (mkF m 13 #[.val (.ref b), .val (.double x), .second, .val (.ref a99)] [(.double x), (.ref q105), (.ref a99)]) := fun tg_ kk_ => S106 tg_ (by
    refine XS.dloadN X105.here hx rfl (hb hby d4_12) rfl ?_
    exact kk_)
  obtain ⟨_, T108, h108, L108, X108, e108, hQ108, st108⟩ := own_callS X105 hx hZ105 (y := (⟨"com/example/locks_over_messages/locksovermessages/Simulation$Settings", "requireTime", "(Ljava/lang/String;D)D"⟩ : MethodName)) hown105 (hw _ (List.mem_of_getElem? (i := 47) rfl)) (hw _ (List.mem_of_getElem? (i := 48) rfl)) (hw _ (List.mem_of_getElem? (i := 7) rfl)) (hw _ (List.mem_of_getElem? (i := 49) rfl)) (by decide) 1 (g := (mkF m 13 #[.val (.ref b), .val (.double x), .second, .val (.ref a99)] [(.double x), (.ref q105), (.ref a99)])) rfl (by rw [hml]; rfl) [(.ref q105), (.double x)] [(.ref a99)] (rm6 l Z a0 hw [] q105 x h105 n0 Z3 ht) (lenOf pd7 rfl) rfl (by show 2 * 0 + _ ≤ _; exact Nat.le_of_eq rfl) (hb hby d4_13) (by decide) (by decide) e105 (by decide) (by decide)
  obtain ⟨rfl, N108, rfl⟩ := hQ108
  have S109 : own_Go p e below s₁ G T108 (mkF m 16 #[.val (.ref b), .val (.double x), .second, .val (.ref a99)] [(.double x), (.ref a99)]) := fun tg_ kk_ => S107 tg_ (st108 tg_ kk_)
  have M2 := Fr.app M1 N108
  obtain ⟨T110, h110, X110, e110, W110, st110⟩ := putF X108 hx hZ105 hown105 (host := "") (Or.inl (hw _ (List.mem_of_getElem? (i := 14) rfl))) Via.refl e108 S3x.2.2.2.1 S3x.1 (Or.inl (hw _ (List.mem_of_getElem? (i := 15) rfl))) (hw _ (List.mem_of_getElem? (i := 6) rfl)) (ty := .double) (by decide) rfl rfl (g := (mkF m 16 #[.val (.ref b), .val (.double x), .second, .val (.ref a99)] [(.double x), (.ref a99)])) rfl rfl (hb hby d4_16)
  have S111 : own_Go p e below s₁ G T110 (mkF m 19 #[.val (.ref b), .val (.double x), .second, .val (.ref a99)] []) := fun tg_ kk_ => S109 tg_ (st110 tg_ kk_)
  have N110 := Fr.snoc X110 M2 ha
  have S110x := own_Set.wr2 hw W110 S3x
  have K110 : Keep h0 h110 [] := K3.wr W110 (Or.inr (Nat.le_of_eq g99.symm))
  have hkz : k105 ≤ h110.size := by rw [W110.size]; exact hk105
  have S112 : own_Go p e below s₁ G T110 (mkF m 20 #[.val (.ref b), .val (.double x), .second, .val (.ref a99)] [(.ref a99)]) := fun tg_ kk_ => S111 tg_ (by
    refine XS.aloadN X110.here hx rfl (hb hby d4_19) rfl rfl ?_
    exact kk_)
  rw [g99] at S112
  rw [g99] at S110x
  obtain ⟨fs, hr, hrun, hended, hend⟩ := X110.leaveW hS105 (by rw [e110]; exact hkz) (v := some (.ref h0.size)) (fun h => by rw [Bd.returns] at h; cases h)
  refine ⟨_, _, ?_, hrun, hended, _, _, rfl, ?_, hend.1, hend.2.1, hend.2.2.1, hend.2.2.2.mono (by decide) (by decide)⟩
  · rw [← hG]; exact S112 _ (retOut X110 hx Bd.returns (by first | rfl | cases (.ref h0.size) <;> rfl) (Or.inr (Or.inr (Or.inr (Or.inr ⟨rfl, rfl, rfl⟩)))) (hb hby d4_20) hr)
  · show Q4 Z b x f0 f1 f2 f3 f4 f5 f6 f7 h0 n0 _ T110.heap _
    rw [e110]
    exact ⟨rfl, N110, K110, S110x⟩
def Q9 (Z : State) (b : Addr) (x : UInt64) (f0 : Int32) (f1 : Int32) (f2 : UInt64) (f3 : UInt64) (f4 : UInt64) (f5 : UInt64) (f6 : Int64) (f7 : Int32) (h0 : Heap) (n0 : Nat) (v : Option Value) (h : Heap) (L : List Loc) : Prop := v = some (.ref h0.size) ∧ Fr n0 L ∧ Keep h0 h [] ∧ own_Set Z h h0.size f0 f1 f2 x f4 f5 f6 f7
set_option maxRecDepth 65536 in
set_option maxHeartbeats 40000000 in
theorem rm9 (l : Launch) (Z : State) (a0 : Array Value) (hw : ∀ d ∈ tables_1, d.before a0 Z = true) (ws : List Jvm.Cond) (b : Addr) (x : UInt64) (f0 : Int32) (f1 : Int32) (f2 : UInt64) (f3 : UInt64) (f4 : UInt64) (f5 : UInt64) (f6 : Int64) (f7 : Int32) (h0 : Heap) (n0 : Nat) (Z0 : n0 ≤ h0.size) (O : own_Set Z h0 b f0 f1 f2 f3 f4 f5 f6 f7) (hbo : f7 = 0 ∨ f7 = 1) (ht : own_Time x) :
    MetFree l (⟨"com/example/locks_over_messages/locksovermessages/Simulation$Settings", "withThink", "(D)Lcom/example/locks_over_messages/locksovermessages/Simulation$Settings;"⟩ : MethodName) (head1 (Jvm.Cond.code (⟨"com/example/locks_over_messages/locksovermessages/Simulation$Settings", "withThink", "(D)Lcom/example/locks_over_messages/locksovermessages/Simulation$Settings;"⟩ : MethodName) prog_49_method_12_code 4 (some (.object "com/example/locks_over_messages/locksovermessages/Simulation$Settings")) :: ws) ({ frames := 3, cells := 3, slots := 44, locals := 50 } : Room)) (fun aa_ U => aa_ = #[(.ref b), (.double x)] ∧ Z.Warmed39 U.vm ∧ U.heap = h0) (fun _ _ _ _ _ => True) (fun _ U o U' => ∃ v L, o = .returned v ∧ Q9 Z b x f0 f1 f2 f3 f4 f5 f6 f7 h0 n0 v U'.heap L ∧ ReturnedEndW U o U' L ({ frames := 3, cells := 3, slots := 44, locals := 50 } : Room).cells ({ frames := 3, cells := 3, slots := 44, locals := 50 } : Room).slots) := by
  refine MetFree.of_bodySF (plainFor_of_name pn2) hisR ?_
  intro p e s m args below meth c s₁ Bd hml0 hP hK
  obtain ⟨rfl, hZ, hh⟩ := hP
  have hx := Bd.exec
  have hby := Bd.bytes
  have hml : c.maxLocals = 4 := hml0
  have hown : s.vm.findClass "com/example/locks_over_messages/locksovermessages/Simulation$Settings" = some m.cls := findClass_of_methodNamed Bd.named
  have hnm := (name_of_methodNamed Bd.named Bd.method).1
  have X0 : Stand p l e ({ frames := 3, cells := 3, slots := 44, locals := 50 } : Room) s m #[(.ref b), (.double x)] below meth c s₁ [] 0 0 := Stand.of_body Bd
  have e0 : s₁.heap = h0 := by rw [← hh, Bd.state]; rfl
  have N0 := Fr.nil n0
  obtain ⟨G, hG⟩ : ∃ G, G = entryFrame m #[(.ref b), (.double x)] 4 := ⟨_, rfl⟩
  have S0 : own_Go p e below s₁ G s₁ (mkF m 0 #[.val (.ref b), .val (.double x), .second, .unset] []) := fun tg_ kk_ => castTop (by rw [hG]; simp [entryFrame, mkF, argsToLocals, Value.category, maxLocals]) kk_
  obtain ⟨T113, h113, X113, e113, E113, A113, D113, -, st113⟩ := newO X0 hx hZ hown (hw _ (List.mem_of_getElem? (i := 27) rfl)) (hw _ (List.mem_of_getElem? (i := 6) rfl)) (hw _ (List.mem_of_getElem? (i := 7) rfl)) e0 (g := (mkF m 0 #[.val (.ref b), .val (.double x), .second, .unset] [])) rfl (hb hby d9_0) (by decide) (by decide)
  obtain ⟨a113, g113⟩ : ∃ z, z = h0.size := ⟨_, rfl⟩
  rw [← g113] at A113 D113 st113
  have S114 : own_Go p e below s₁ G T113 (mkF m 3 #[.val (.ref b), .val (.double x), .second, .unset] [(.ref a113)]) := fun tg_ kk_ => S0 tg_ (st113 tg_ kk_)
  have S0x : own_Set Z h113 a113 0 0 0 0 0 0 0 0 := ⟨A113, D113 (Or.inr (hw _ (List.mem_of_getElem? (i := 19) rfl))) (ty := .int) (by decide), D113 (Or.inr (hw _ (List.mem_of_getElem? (i := 21) rfl))) (ty := .int) (by decide), D113 (Or.inl (hw _ (List.mem_of_getElem? (i := 15) rfl))) (ty := .double) (by decide), D113 (Or.inl (hw _ (List.mem_of_getElem? (i := 32) rfl))) (ty := .double) (by decide), D113 (Or.inl (hw _ (List.mem_of_getElem? (i := 34) rfl))) (ty := .double) (by decide), D113 (Or.inl (hw _ (List.mem_of_getElem? (i := 36) rfl))) (ty := .double) (by decide), D113 (Or.inl (hw _ (List.mem_of_getElem? (i := 17) rfl))) (ty := .long) (by decide), D113 (Or.inl (hw _ (List.mem_of_getElem? (i := 38) rfl))) (ty := .boolean) (by decide)⟩
  have O1 := O.ext E113
  have ha : n0 ≤ a113 := Nat.le_trans Z0 (Nat.le_of_eq g113.symm)
  have Z1 : n0 ≤ h113.size := Nat.le_trans Z0 E113.1
  have hab : b ≠ a113 := Nat.ne_of_lt (Nat.lt_of_lt_of_le O.1.lt (Nat.le_of_eq g113.symm))
  have S115 : own_Go p e below s₁ G T113 (mkF m 5 #[.val (.ref b), .val (.double x), .second, .unset] [(.ref b), (.ref a113), (.ref a113)]) := fun tg_ kk_ => S114 tg_ (by
    refine XS.dup X113.here hx rfl (hb hby d9_3) rfl rfl ?_
    show Steps p.tables e below (T113.setTop (mkF m 4 #[.val (.ref b), .val (.double x), .second, .unset] [(.ref a113), (.ref a113)])) _
    refine XS.aloadN X113.here hx rfl (hb hby d9_4) rfl rfl ?_
    exact kk_)
  obtain ⟨_, T116, h116, L116, X116, e116, hQ116, st116⟩ := own_callI X113 hx hZ (y := (⟨"com/example/locks_over_messages/locksovermessages/Simulation$Settings", "<init>", "(Lcom/example/locks_over_messages/locksovermessages/Simulation$Settings;)V"⟩ : MethodName)) rfl hown (hw _ (List.mem_of_getElem? (i := 28) rfl)) (hw _ (List.mem_of_getElem? (i := 29) rfl)) (hw _ (List.mem_of_getElem? (i := 7) rfl)) (hw _ (List.mem_of_getElem? (i := 30) rfl)) (by decide) 1 (g := (mkF m 5 #[.val (.ref b), .val (.double x), .second, .unset] [(.ref b), (.ref a113), (.ref a113)])) rfl (by rw [hml]; rfl) a113 [(.ref b)] [(.ref a113)] (rm5 l Z a0 hw [] a113 b f0 f1 f2 f3 f4 f5 f6 f7 h113 n0 Z1 S0x O1 ha hab hbo) (lenOf pd6 rfl) rfl (by show 2 * 0 + _ ≤ _; exact Nat.le_of_eq rfl) (hb hby d9_5) (by decide) (by decide) e113 (by decide) (by decide)
  obtain ⟨rfl, N116, K116, S116x⟩ := hQ116
  have S117 : own_Go p e below s₁ G T116 (mkF m 8 #[.val (.ref b), .val (.double x), .second, .unset] [(.ref a113)]) := fun tg_ kk_ => S115 tg_ (st116 tg_ kk_)
  have M1 := Fr.app N0 N116
  have K1 : Keep h0 h116 [] := ((Keep.refl h0 []).ext E113).trans K116 (allS (Or.inr (Nat.le_of_eq g113.symm)) all0)
  have S118 : own_Go p e below s₁ G T116 (mkF m 10 #[.val (.ref b), .val (.double x), .second, .val (.ref a113)] [(.ref a113)]) := fun tg_ kk_ => S117 tg_ (by
    refine XS.astoreN X116.here hx rfl (hb hby d9_8) rfl rfl (l' := #[.val (.ref b), .val (.double x), .second, .val (.ref a113)]) rfl ?_
    show Steps p.tables e below (T116.setTop (mkF m 9 #[.val (.ref b), .val (.double x), .second, .val (.ref a113)] [])) _
    refine XS.aloadN X116.here hx rfl (hb hby d9_9) rfl rfl ?_
    exact kk_)
  have XW : Stand p l e ({ frames := 3, cells := 3, slots := 44, locals := 50 } : Room) (s.setVm s.vm) m #[(.ref b), (.double x)] below meth c T116 _ _ _ := X116
  obtain ⟨q119, T119, h119, k119, X119, e119, E119, hS119, hk119, hZ119, hown119, st119⟩ := ldcS XW hx hZ hown (hw _ (List.mem_of_getElem? (i := 63) rfl)) (own_wS0 hw) e116 ((State.WarmedH.refl s).since 0) (Nat.zero_le _) (g := (mkF m 10 #[.val (.ref b), .val (.double x), .second, .val (.ref a113)] [(.ref a113)])) rfl (hb hby d9_10) (n := 32) (by decide) (by decide) (by decide) (by decide)
  have S120 : own_Go p e below s₁ G T119 (mkF m 12 #[.val (.ref b), .val (.double x), .second, .val (.ref a113)] [(.ref q119), (.ref a113)]) := fun tg_ kk_ => S118 tg_ (st119 tg_ kk_)
  have S3x := own_Set.ext E119 S116x
  have K3 := K1.ext E119
  have Z3 : n0 ≤ h119.size := Nat.le_trans Z0 K3.1
  have S121 : own_Go p e below s₁ G T119 (mkF m 13 #[.val (.ref b), .val (.double x), .second, .val (.ref a113)] [(.double x), (.ref q119), (.ref a113)]) := fun tg_ kk_ => S120 tg_ (by
    refine XS.dloadN X119.here hx rfl (hb hby d9_12) rfl ?_
    exact kk_)
  obtain ⟨_, T122, h122, L122, X122, e122, hQ122, st122⟩ := own_callS X119 hx hZ119 (y := (⟨"com/example/locks_over_messages/locksovermessages/Simulation$Settings", "requireTime", "(Ljava/lang/String;D)D"⟩ : MethodName)) hown119 (hw _ (List.mem_of_getElem? (i := 47) rfl)) (hw _ (List.mem_of_getElem? (i := 48) rfl)) (hw _ (List.mem_of_getElem? (i := 7) rfl)) (hw _ (List.mem_of_getElem? (i := 49) rfl)) (by decide) 1 (g := (mkF m 13 #[.val (.ref b), .val (.double x), .second, .val (.ref a113)] [(.double x), (.ref q119), (.ref a113)])) rfl (by rw [hml]; rfl) [(.ref q119), (.double x)] [(.ref a113)] (rm6 l Z a0 hw [] q119 x h119 n0 Z3 ht) (lenOf pd7 rfl) rfl (by show 2 * 0 + _ ≤ _; exact Nat.le_of_eq rfl) (hb hby d9_13) (by decide) (by decide) e119 (by decide) (by decide)
  obtain ⟨rfl, N122, rfl⟩ := hQ122
  have S123 : own_Go p e below s₁ G T122 (mkF m 16 #[.val (.ref b), .val (.double x), .second, .val (.ref a113)] [(.double x), (.ref a113)]) := fun tg_ kk_ => S121 tg_ (st122 tg_ kk_)
  have M2 := Fr.app M1 N122
  obtain ⟨T124, h124, X124, e124, W124, st124⟩ := putF X122 hx hZ119 hown119 (host := "") (Or.inl (hw _ (List.mem_of_getElem? (i := 31) rfl))) Via.refl e122 S3x.2.2.2.2.1 S3x.1 (Or.inl (hw _ (List.mem_of_getElem? (i := 32) rfl))) (hw _ (List.mem_of_getElem? (i := 6) rfl)) (ty := .double) (by decide) rfl rfl (g := (mkF m 16 #[.val (.ref b), .val (.double x), .second, .val (.ref a113)] [(.double x), (.ref a113)])) rfl rfl (hb hby d9_16)
  have S125 : own_Go p e below s₁ G T124 (mkF m 19 #[.val (.ref b), .val (.double x), .second, .val (.ref a113)] []) := fun tg_ kk_ => S123 tg_ (st124 tg_ kk_)
  have N124 := Fr.snoc X124 M2 ha
  have S124x := own_Set.wr3 hw W124 S3x
  have K124 : Keep h0 h124 [] := K3.wr W124 (Or.inr (Nat.le_of_eq g113.symm))
  have hkz : k119 ≤ h124.size := by rw [W124.size]; exact hk119
  have S126 : own_Go p e below s₁ G T124 (mkF m 20 #[.val (.ref b), .val (.double x), .second, .val (.ref a113)] [(.ref a113)]) := fun tg_ kk_ => S125 tg_ (by
    refine XS.aloadN X124.here hx rfl (hb hby d9_19) rfl rfl ?_
    exact kk_)
  rw [g113] at S126
  rw [g113] at S124x
  obtain ⟨fs, hr, hrun, hended, hend⟩ := X124.leaveW hS119 (by rw [e124]; exact hkz) (v := some (.ref h0.size)) (fun h => by rw [Bd.returns] at h; cases h)
  refine ⟨_, _, ?_, hrun, hended, _, _, rfl, ?_, hend.1, hend.2.1, hend.2.2.1, hend.2.2.2.mono (by decide) (by decide)⟩
  · rw [← hG]; exact S126 _ (retOut X124 hx Bd.returns (by first | rfl | cases (.ref h0.size) <;> rfl) (Or.inr (Or.inr (Or.inr (Or.inr ⟨rfl, rfl, rfl⟩)))) (hb hby d9_20) hr)
  · show Q9 Z b x f0 f1 f2 f3 f4 f5 f6 f7 h0 n0 _ T124.heap _
    rw [e124]
    exact ⟨rfl, N124, K124, S124x⟩
def Q10 (Z : State) (b : Addr) (x : UInt64) (f0 : Int32) (f1 : Int32) (f2 : UInt64) (f3 : UInt64) (f4 : UInt64) (f5 : UInt64) (f6 : Int64) (f7 : Int32) (h0 : Heap) (n0 : Nat) (v : Option Value) (h : Heap) (L : List Loc) : Prop := v = some (.ref h0.size) ∧ Fr n0 L ∧ Keep h0 h [] ∧ own_Set Z h h0.size f0 f1 f2 f3 x f5 f6 f7
set_option maxRecDepth 65536 in
set_option maxHeartbeats 40000000 in
theorem rm10 (l : Launch) (Z : State) (a0 : Array Value) (hw : ∀ d ∈ tables_1, d.before a0 Z = true) (ws : List Jvm.Cond) (b : Addr) (x : UInt64) (f0 : Int32) (f1 : Int32) (f2 : UInt64) (f3 : UInt64) (f4 : UInt64) (f5 : UInt64) (f6 : Int64) (f7 : Int32) (h0 : Heap) (n0 : Nat) (Z0 : n0 ≤ h0.size) (O : own_Set Z h0 b f0 f1 f2 f3 f4 f5 f6 f7) (hbo : f7 = 0 ∨ f7 = 1) (ht : own_Time x) :
    MetFree l (⟨"com/example/locks_over_messages/locksovermessages/Simulation$Settings", "withStagger", "(D)Lcom/example/locks_over_messages/locksovermessages/Simulation$Settings;"⟩ : MethodName) (head1 (Jvm.Cond.code (⟨"com/example/locks_over_messages/locksovermessages/Simulation$Settings", "withStagger", "(D)Lcom/example/locks_over_messages/locksovermessages/Simulation$Settings;"⟩ : MethodName) prog_49_method_13_code 4 (some (.object "com/example/locks_over_messages/locksovermessages/Simulation$Settings")) :: ws) ({ frames := 3, cells := 3, slots := 44, locals := 50 } : Room)) (fun aa_ U => aa_ = #[(.ref b), (.double x)] ∧ Z.Warmed39 U.vm ∧ U.heap = h0) (fun _ _ _ _ _ => True) (fun _ U o U' => ∃ v L, o = .returned v ∧ Q10 Z b x f0 f1 f2 f3 f4 f5 f6 f7 h0 n0 v U'.heap L ∧ ReturnedEndW U o U' L ({ frames := 3, cells := 3, slots := 44, locals := 50 } : Room).cells ({ frames := 3, cells := 3, slots := 44, locals := 50 } : Room).slots) := by
  refine MetFree.of_bodySF (plainFor_of_name pn2) hisR ?_
  intro p e s m args below meth c s₁ Bd hml0 hP hK
  obtain ⟨rfl, hZ, hh⟩ := hP
  have hx := Bd.exec
  have hby := Bd.bytes
  have hml : c.maxLocals = 4 := hml0
  have hown : s.vm.findClass "com/example/locks_over_messages/locksovermessages/Simulation$Settings" = some m.cls := findClass_of_methodNamed Bd.named
  have hnm := (name_of_methodNamed Bd.named Bd.method).1
  have X0 : Stand p l e ({ frames := 3, cells := 3, slots := 44, locals := 50 } : Room) s m #[(.ref b), (.double x)] below meth c s₁ [] 0 0 := Stand.of_body Bd
  have e0 : s₁.heap = h0 := by rw [← hh, Bd.state]; rfl
  have N0 := Fr.nil n0
  obtain ⟨G, hG⟩ : ∃ G, G = entryFrame m #[(.ref b), (.double x)] 4 := ⟨_, rfl⟩
  have S0 : own_Go p e below s₁ G s₁ (mkF m 0 #[.val (.ref b), .val (.double x), .second, .unset] []) := fun tg_ kk_ => castTop (by rw [hG]; simp [entryFrame, mkF, argsToLocals, Value.category, maxLocals]) kk_
  obtain ⟨T127, h127, X127, e127, E127, A127, D127, -, st127⟩ := newO X0 hx hZ hown (hw _ (List.mem_of_getElem? (i := 27) rfl)) (hw _ (List.mem_of_getElem? (i := 6) rfl)) (hw _ (List.mem_of_getElem? (i := 7) rfl)) e0 (g := (mkF m 0 #[.val (.ref b), .val (.double x), .second, .unset] [])) rfl (hb hby d10_0) (by decide) (by decide)
  obtain ⟨a127, g127⟩ : ∃ z, z = h0.size := ⟨_, rfl⟩
  rw [← g127] at A127 D127 st127
  have S128 : own_Go p e below s₁ G T127 (mkF m 3 #[.val (.ref b), .val (.double x), .second, .unset] [(.ref a127)]) := fun tg_ kk_ => S0 tg_ (st127 tg_ kk_)
  have S0x : own_Set Z h127 a127 0 0 0 0 0 0 0 0 := ⟨A127, D127 (Or.inr (hw _ (List.mem_of_getElem? (i := 19) rfl))) (ty := .int) (by decide), D127 (Or.inr (hw _ (List.mem_of_getElem? (i := 21) rfl))) (ty := .int) (by decide), D127 (Or.inl (hw _ (List.mem_of_getElem? (i := 15) rfl))) (ty := .double) (by decide), D127 (Or.inl (hw _ (List.mem_of_getElem? (i := 32) rfl))) (ty := .double) (by decide), D127 (Or.inl (hw _ (List.mem_of_getElem? (i := 34) rfl))) (ty := .double) (by decide), D127 (Or.inl (hw _ (List.mem_of_getElem? (i := 36) rfl))) (ty := .double) (by decide), D127 (Or.inl (hw _ (List.mem_of_getElem? (i := 17) rfl))) (ty := .long) (by decide), D127 (Or.inl (hw _ (List.mem_of_getElem? (i := 38) rfl))) (ty := .boolean) (by decide)⟩
  have O1 := O.ext E127
  have ha : n0 ≤ a127 := Nat.le_trans Z0 (Nat.le_of_eq g127.symm)
  have Z1 : n0 ≤ h127.size := Nat.le_trans Z0 E127.1
  have hab : b ≠ a127 := Nat.ne_of_lt (Nat.lt_of_lt_of_le O.1.lt (Nat.le_of_eq g127.symm))
  have S129 : own_Go p e below s₁ G T127 (mkF m 5 #[.val (.ref b), .val (.double x), .second, .unset] [(.ref b), (.ref a127), (.ref a127)]) := fun tg_ kk_ => S128 tg_ (by
    refine XS.dup X127.here hx rfl (hb hby d10_3) rfl rfl ?_
    show Steps p.tables e below (T127.setTop (mkF m 4 #[.val (.ref b), .val (.double x), .second, .unset] [(.ref a127), (.ref a127)])) _
    refine XS.aloadN X127.here hx rfl (hb hby d10_4) rfl rfl ?_
    exact kk_)
  obtain ⟨_, T130, h130, L130, X130, e130, hQ130, st130⟩ := own_callI X127 hx hZ (y := (⟨"com/example/locks_over_messages/locksovermessages/Simulation$Settings", "<init>", "(Lcom/example/locks_over_messages/locksovermessages/Simulation$Settings;)V"⟩ : MethodName)) rfl hown (hw _ (List.mem_of_getElem? (i := 28) rfl)) (hw _ (List.mem_of_getElem? (i := 29) rfl)) (hw _ (List.mem_of_getElem? (i := 7) rfl)) (hw _ (List.mem_of_getElem? (i := 30) rfl)) (by decide) 1 (g := (mkF m 5 #[.val (.ref b), .val (.double x), .second, .unset] [(.ref b), (.ref a127), (.ref a127)])) rfl (by rw [hml]; rfl) a127 [(.ref b)] [(.ref a127)] (rm5 l Z a0 hw [] a127 b f0 f1 f2 f3 f4 f5 f6 f7 h127 n0 Z1 S0x O1 ha hab hbo) (lenOf pd6 rfl) rfl (by show 2 * 0 + _ ≤ _; exact Nat.le_of_eq rfl) (hb hby d10_5) (by decide) (by decide) e127 (by decide) (by decide)
  obtain ⟨rfl, N130, K130, S130x⟩ := hQ130
  have S131 : own_Go p e below s₁ G T130 (mkF m 8 #[.val (.ref b), .val (.double x), .second, .unset] [(.ref a127)]) := fun tg_ kk_ => S129 tg_ (st130 tg_ kk_)
  have M1 := Fr.app N0 N130
  have K1 : Keep h0 h130 [] := ((Keep.refl h0 []).ext E127).trans K130 (allS (Or.inr (Nat.le_of_eq g127.symm)) all0)
  have S132 : own_Go p e below s₁ G T130 (mkF m 10 #[.val (.ref b), .val (.double x), .second, .val (.ref a127)] [(.ref a127)]) := fun tg_ kk_ => S131 tg_ (by
    refine XS.astoreN X130.here hx rfl (hb hby d10_8) rfl rfl (l' := #[.val (.ref b), .val (.double x), .second, .val (.ref a127)]) rfl ?_
    show Steps p.tables e below (T130.setTop (mkF m 9 #[.val (.ref b), .val (.double x), .second, .val (.ref a127)] [])) _
    refine XS.aloadN X130.here hx rfl (hb hby d10_9) rfl rfl ?_
    exact kk_)
  have XW : Stand p l e ({ frames := 3, cells := 3, slots := 44, locals := 50 } : Room) (s.setVm s.vm) m #[(.ref b), (.double x)] below meth c T130 _ _ _ := X130
  obtain ⟨q133, T133, h133, k133, X133, e133, E133, hS133, hk133, hZ133, hown133, st133⟩ := ldcS XW hx hZ hown (hw _ (List.mem_of_getElem? (i := 69) rfl)) (own_wS0 hw) e130 ((State.WarmedH.refl s).since 0) (Nat.zero_le _) (g := (mkF m 10 #[.val (.ref b), .val (.double x), .second, .val (.ref a127)] [(.ref a127)])) rfl (hb hby d10_10) (n := 32) (by decide) (by decide) (by decide) (by decide)
  have S134 : own_Go p e below s₁ G T133 (mkF m 12 #[.val (.ref b), .val (.double x), .second, .val (.ref a127)] [(.ref q133), (.ref a127)]) := fun tg_ kk_ => S132 tg_ (st133 tg_ kk_)
  have S3x := own_Set.ext E133 S130x
  have K3 := K1.ext E133
  have Z3 : n0 ≤ h133.size := Nat.le_trans Z0 K3.1
  have S135 : own_Go p e below s₁ G T133 (mkF m 13 #[.val (.ref b), .val (.double x), .second, .val (.ref a127)] [(.double x), (.ref q133), (.ref a127)]) := fun tg_ kk_ => S134 tg_ (by
    refine XS.dloadN X133.here hx rfl (hb hby d10_12) rfl ?_
    exact kk_)
  obtain ⟨_, T136, h136, L136, X136, e136, hQ136, st136⟩ := own_callS X133 hx hZ133 (y := (⟨"com/example/locks_over_messages/locksovermessages/Simulation$Settings", "requireTime", "(Ljava/lang/String;D)D"⟩ : MethodName)) hown133 (hw _ (List.mem_of_getElem? (i := 47) rfl)) (hw _ (List.mem_of_getElem? (i := 48) rfl)) (hw _ (List.mem_of_getElem? (i := 7) rfl)) (hw _ (List.mem_of_getElem? (i := 49) rfl)) (by decide) 1 (g := (mkF m 13 #[.val (.ref b), .val (.double x), .second, .val (.ref a127)] [(.double x), (.ref q133), (.ref a127)])) rfl (by rw [hml]; rfl) [(.ref q133), (.double x)] [(.ref a127)] (rm6 l Z a0 hw [] q133 x h133 n0 Z3 ht) (lenOf pd7 rfl) rfl (by show 2 * 0 + _ ≤ _; exact Nat.le_of_eq rfl) (hb hby d10_13) (by decide) (by decide) e133 (by decide) (by decide)
  obtain ⟨rfl, N136, rfl⟩ := hQ136
  have S137 : own_Go p e below s₁ G T136 (mkF m 16 #[.val (.ref b), .val (.double x), .second, .val (.ref a127)] [(.double x), (.ref a127)]) := fun tg_ kk_ => S135 tg_ (st136 tg_ kk_)
  have M2 := Fr.app M1 N136
  obtain ⟨T138, h138, X138, e138, W138, st138⟩ := putF X136 hx hZ133 hown133 (host := "") (Or.inl (hw _ (List.mem_of_getElem? (i := 33) rfl))) Via.refl e136 S3x.2.2.2.2.2.1 S3x.1 (Or.inl (hw _ (List.mem_of_getElem? (i := 34) rfl))) (hw _ (List.mem_of_getElem? (i := 6) rfl)) (ty := .double) (by decide) rfl rfl (g := (mkF m 16 #[.val (.ref b), .val (.double x), .second, .val (.ref a127)] [(.double x), (.ref a127)])) rfl rfl (hb hby d10_16)
  have S139 : own_Go p e below s₁ G T138 (mkF m 19 #[.val (.ref b), .val (.double x), .second, .val (.ref a127)] []) := fun tg_ kk_ => S137 tg_ (st138 tg_ kk_)
  have N138 := Fr.snoc X138 M2 ha
  have S138x := own_Set.wr4 hw W138 S3x
  have K138 : Keep h0 h138 [] := K3.wr W138 (Or.inr (Nat.le_of_eq g127.symm))
  have hkz : k133 ≤ h138.size := by rw [W138.size]; exact hk133
  have S140 : own_Go p e below s₁ G T138 (mkF m 20 #[.val (.ref b), .val (.double x), .second, .val (.ref a127)] [(.ref a127)]) := fun tg_ kk_ => S139 tg_ (by
    refine XS.aloadN X138.here hx rfl (hb hby d10_19) rfl rfl ?_
    exact kk_)
  rw [g127] at S140
  rw [g127] at S138x
  obtain ⟨fs, hr, hrun, hended, hend⟩ := X138.leaveW hS133 (by rw [e138]; exact hkz) (v := some (.ref h0.size)) (fun h => by rw [Bd.returns] at h; cases h)
  refine ⟨_, _, ?_, hrun, hended, _, _, rfl, ?_, hend.1, hend.2.1, hend.2.2.1, hend.2.2.2.mono (by decide) (by decide)⟩
  · rw [← hG]; exact S140 _ (retOut X138 hx Bd.returns (by first | rfl | cases (.ref h0.size) <;> rfl) (Or.inr (Or.inr (Or.inr (Or.inr ⟨rfl, rfl, rfl⟩)))) (hb hby d10_20) hr)
  · show Q10 Z b x f0 f1 f2 f3 f4 f5 f6 f7 h0 n0 _ T138.heap _
    rw [e138]
    exact ⟨rfl, N138, K138, S138x⟩
def Q11 (Z : State) (b : Addr) (x : UInt64) (f0 : Int32) (f1 : Int32) (f2 : UInt64) (f3 : UInt64) (f4 : UInt64) (f5 : UInt64) (f6 : Int64) (f7 : Int32) (h0 : Heap) (n0 : Nat) (v : Option Value) (h : Heap) (L : List Loc) : Prop := v = some (.ref h0.size) ∧ Fr n0 L ∧ Keep h0 h [] ∧ own_Set Z h h0.size f0 f1 f2 f3 f4 x f6 f7
set_option maxRecDepth 65536 in
set_option maxHeartbeats 40000000 in
theorem rm11 (l : Launch) (Z : State) (a0 : Array Value) (hw : ∀ d ∈ tables_1, d.before a0 Z = true) (ws : List Jvm.Cond) (b : Addr) (x : UInt64) (f0 : Int32) (f1 : Int32) (f2 : UInt64) (f3 : UInt64) (f4 : UInt64) (f5 : UInt64) (f6 : Int64) (f7 : Int32) (h0 : Heap) (n0 : Nat) (Z0 : n0 ≤ h0.size) (O : own_Set Z h0 b f0 f1 f2 f3 f4 f5 f6 f7) (hbo : f7 = 0 ∨ f7 = 1) (ht : own_Time x) :
    MetFree l (⟨"com/example/locks_over_messages/locksovermessages/Simulation$Settings", "withJitter", "(D)Lcom/example/locks_over_messages/locksovermessages/Simulation$Settings;"⟩ : MethodName) (head1 (Jvm.Cond.code (⟨"com/example/locks_over_messages/locksovermessages/Simulation$Settings", "withJitter", "(D)Lcom/example/locks_over_messages/locksovermessages/Simulation$Settings;"⟩ : MethodName) prog_49_method_14_code 4 (some (.object "com/example/locks_over_messages/locksovermessages/Simulation$Settings")) :: ws) ({ frames := 3, cells := 3, slots := 44, locals := 50 } : Room)) (fun aa_ U => aa_ = #[(.ref b), (.double x)] ∧ Z.Warmed39 U.vm ∧ U.heap = h0) (fun _ _ _ _ _ => True) (fun _ U o U' => ∃ v L, o = .returned v ∧ Q11 Z b x f0 f1 f2 f3 f4 f5 f6 f7 h0 n0 v U'.heap L ∧ ReturnedEndW U o U' L ({ frames := 3, cells := 3, slots := 44, locals := 50 } : Room).cells ({ frames := 3, cells := 3, slots := 44, locals := 50 } : Room).slots) := by
  refine MetFree.of_bodySF (plainFor_of_name pn2) hisR ?_
  intro p e s m args below meth c s₁ Bd hml0 hP hK
  obtain ⟨rfl, hZ, hh⟩ := hP
  have hx := Bd.exec
  have hby := Bd.bytes
  have hml : c.maxLocals = 4 := hml0
  have hown : s.vm.findClass "com/example/locks_over_messages/locksovermessages/Simulation$Settings" = some m.cls := findClass_of_methodNamed Bd.named
  have hnm := (name_of_methodNamed Bd.named Bd.method).1
  have X0 : Stand p l e ({ frames := 3, cells := 3, slots := 44, locals := 50 } : Room) s m #[(.ref b), (.double x)] below meth c s₁ [] 0 0 := Stand.of_body Bd
  have e0 : s₁.heap = h0 := by rw [← hh, Bd.state]; rfl
  have N0 := Fr.nil n0
  obtain ⟨G, hG⟩ : ∃ G, G = entryFrame m #[(.ref b), (.double x)] 4 := ⟨_, rfl⟩
  have S0 : own_Go p e below s₁ G s₁ (mkF m 0 #[.val (.ref b), .val (.double x), .second, .unset] []) := fun tg_ kk_ => castTop (by rw [hG]; simp [entryFrame, mkF, argsToLocals, Value.category, maxLocals]) kk_
  obtain ⟨T141, h141, X141, e141, E141, A141, D141, -, st141⟩ := newO X0 hx hZ hown (hw _ (List.mem_of_getElem? (i := 27) rfl)) (hw _ (List.mem_of_getElem? (i := 6) rfl)) (hw _ (List.mem_of_getElem? (i := 7) rfl)) e0 (g := (mkF m 0 #[.val (.ref b), .val (.double x), .second, .unset] [])) rfl (hb hby d11_0) (by decide) (by decide)
  obtain ⟨a141, g141⟩ : ∃ z, z = h0.size := ⟨_, rfl⟩
  rw [← g141] at A141 D141 st141
  have S142 : own_Go p e below s₁ G T141 (mkF m 3 #[.val (.ref b), .val (.double x), .second, .unset] [(.ref a141)]) := fun tg_ kk_ => S0 tg_ (st141 tg_ kk_)
  have S0x : own_Set Z h141 a141 0 0 0 0 0 0 0 0 := ⟨A141, D141 (Or.inr (hw _ (List.mem_of_getElem? (i := 19) rfl))) (ty := .int) (by decide), D141 (Or.inr (hw _ (List.mem_of_getElem? (i := 21) rfl))) (ty := .int) (by decide), D141 (Or.inl (hw _ (List.mem_of_getElem? (i := 15) rfl))) (ty := .double) (by decide), D141 (Or.inl (hw _ (List.mem_of_getElem? (i := 32) rfl))) (ty := .double) (by decide), D141 (Or.inl (hw _ (List.mem_of_getElem? (i := 34) rfl))) (ty := .double) (by decide), D141 (Or.inl (hw _ (List.mem_of_getElem? (i := 36) rfl))) (ty := .double) (by decide), D141 (Or.inl (hw _ (List.mem_of_getElem? (i := 17) rfl))) (ty := .long) (by decide), D141 (Or.inl (hw _ (List.mem_of_getElem? (i := 38) rfl))) (ty := .boolean) (by decide)⟩
  have O1 := O.ext E141
  have ha : n0 ≤ a141 := Nat.le_trans Z0 (Nat.le_of_eq g141.symm)
  have Z1 : n0 ≤ h141.size := Nat.le_trans Z0 E141.1
  have hab : b ≠ a141 := Nat.ne_of_lt (Nat.lt_of_lt_of_le O.1.lt (Nat.le_of_eq g141.symm))
  have S143 : own_Go p e below s₁ G T141 (mkF m 5 #[.val (.ref b), .val (.double x), .second, .unset] [(.ref b), (.ref a141), (.ref a141)]) := fun tg_ kk_ => S142 tg_ (by
    refine XS.dup X141.here hx rfl (hb hby d11_3) rfl rfl ?_
    show Steps p.tables e below (T141.setTop (mkF m 4 #[.val (.ref b), .val (.double x), .second, .unset] [(.ref a141), (.ref a141)])) _
    refine XS.aloadN X141.here hx rfl (hb hby d11_4) rfl rfl ?_
    exact kk_)
  obtain ⟨_, T144, h144, L144, X144, e144, hQ144, st144⟩ := own_callI X141 hx hZ (y := (⟨"com/example/locks_over_messages/locksovermessages/Simulation$Settings", "<init>", "(Lcom/example/locks_over_messages/locksovermessages/Simulation$Settings;)V"⟩ : MethodName)) rfl hown (hw _ (List.mem_of_getElem? (i := 28) rfl)) (hw _ (List.mem_of_getElem? (i := 29) rfl)) (hw _ (List.mem_of_getElem? (i := 7) rfl)) (hw _ (List.mem_of_getElem? (i := 30) rfl)) (by decide) 1 (g := (mkF m 5 #[.val (.ref b), .val (.double x), .second, .unset] [(.ref b), (.ref a141), (.ref a141)])) rfl (by rw [hml]; rfl) a141 [(.ref b)] [(.ref a141)] (rm5 l Z a0 hw [] a141 b f0 f1 f2 f3 f4 f5 f6 f7 h141 n0 Z1 S0x O1 ha hab hbo) (lenOf pd6 rfl) rfl (by show 2 * 0 + _ ≤ _; exact Nat.le_of_eq rfl) (hb hby d11_5) (by decide) (by decide) e141 (by decide) (by decide)
  obtain ⟨rfl, N144, K144, S144x⟩ := hQ144
  have S145 : own_Go p e below s₁ G T144 (mkF m 8 #[.val (.ref b), .val (.double x), .second, .unset] [(.ref a141)]) := fun tg_ kk_ => S143 tg_ (st144 tg_ kk_)
  have M1 := Fr.app N0 N144
  have K1 : Keep h0 h144 [] := ((Keep.refl h0 []).ext E141).trans K144 (allS (Or.inr (Nat.le_of_eq g141.symm)) all0)
  have S146 : own_Go p e below s₁ G T144 (mkF m 10 #[.val (.ref b), .val (.double x), .second, .val (.ref a141)] [(.ref a141)]) := fun tg_ kk_ => S145 tg_ (by
    refine XS.astoreN X144.here hx rfl (hb hby d11_8) rfl rfl (l' := #[.val (.ref b), .val (.double x), .second, .val (.ref a141)]) rfl ?_
    show Steps p.tables e below (T144.setTop (mkF m 9 #[.val (.ref b), .val (.double x), .second, .val (.ref a141)] [])) _
    refine XS.aloadN X144.here hx rfl (hb hby d11_9) rfl rfl ?_
    exact kk_)
  have XW : Stand p l e ({ frames := 3, cells := 3, slots := 44, locals := 50 } : Room) (s.setVm s.vm) m #[(.ref b), (.double x)] below meth c T144 _ _ _ := X144
  obtain ⟨q147, T147, h147, k147, X147, e147, E147, hS147, hk147, hZ147, hown147, st147⟩ := ldcS XW hx hZ hown (hw _ (List.mem_of_getElem? (i := 75) rfl)) (own_wS0 hw) e144 ((State.WarmedH.refl s).since 0) (Nat.zero_le _) (g := (mkF m 10 #[.val (.ref b), .val (.double x), .second, .val (.ref a141)] [(.ref a141)])) rfl (hb hby d11_10) (n := 32) (by decide) (by decide) (by decide) (by decide)
  have S148 : own_Go p e below s₁ G T147 (mkF m 12 #[.val (.ref b), .val (.double x), .second, .val (.ref a141)] [(.ref q147), (.ref a141)]) := fun tg_ kk_ => S146 tg_ (st147 tg_ kk_)
  have S3x := own_Set.ext E147 S144x
  have K3 := K1.ext E147
  have Z3 : n0 ≤ h147.size := Nat.le_trans Z0 K3.1
  have S149 : own_Go p e below s₁ G T147 (mkF m 13 #[.val (.ref b), .val (.double x), .second, .val (.ref a141)] [(.double x), (.ref q147), (.ref a141)]) := fun tg_ kk_ => S148 tg_ (by
    refine XS.dloadN X147.here hx rfl (hb hby d11_12) rfl ?_
    exact kk_)
  obtain ⟨_, T150, h150, L150, X150, e150, hQ150, st150⟩ := own_callS X147 hx hZ147 (y := (⟨"com/example/locks_over_messages/locksovermessages/Simulation$Settings", "requireTime", "(Ljava/lang/String;D)D"⟩ : MethodName)) hown147 (hw _ (List.mem_of_getElem? (i := 47) rfl)) (hw _ (List.mem_of_getElem? (i := 48) rfl)) (hw _ (List.mem_of_getElem? (i := 7) rfl)) (hw _ (List.mem_of_getElem? (i := 49) rfl)) (by decide) 1 (g := (mkF m 13 #[.val (.ref b), .val (.double x), .second, .val (.ref a141)] [(.double x), (.ref q147), (.ref a141)])) rfl (by rw [hml]; rfl) [(.ref q147), (.double x)] [(.ref a141)] (rm6 l Z a0 hw [] q147 x h147 n0 Z3 ht) (lenOf pd7 rfl) rfl (by show 2 * 0 + _ ≤ _; exact Nat.le_of_eq rfl) (hb hby d11_13) (by decide) (by decide) e147 (by decide) (by decide)
  obtain ⟨rfl, N150, rfl⟩ := hQ150
  have S151 : own_Go p e below s₁ G T150 (mkF m 16 #[.val (.ref b), .val (.double x), .second, .val (.ref a141)] [(.double x), (.ref a141)]) := fun tg_ kk_ => S149 tg_ (st150 tg_ kk_)
  have M2 := Fr.app M1 N150
  obtain ⟨T152, h152, X152, e152, W152, st152⟩ := putF X150 hx hZ147 hown147 (host := "") (Or.inl (hw _ (List.mem_of_getElem? (i := 35) rfl))) Via.refl e150 S3x.2.2.2.2.2.2.1 S3x.1 (Or.inl (hw _ (List.mem_of_getElem? (i := 36) rfl))) (hw _ (List.mem_of_getElem? (i := 6) rfl)) (ty := .double) (by decide) rfl rfl (g := (mkF m 16 #[.val (.ref b), .val (.double x), .second, .val (.ref a141)] [(.double x), (.ref a141)])) rfl rfl (hb hby d11_16)
  have S153 : own_Go p e below s₁ G T152 (mkF m 19 #[.val (.ref b), .val (.double x), .second, .val (.ref a141)] []) := fun tg_ kk_ => S151 tg_ (st152 tg_ kk_)
  have N152 := Fr.snoc X152 M2 ha
  have S152x := own_Set.wr5 hw W152 S3x
  have K152 : Keep h0 h152 [] := K3.wr W152 (Or.inr (Nat.le_of_eq g141.symm))
  have hkz : k147 ≤ h152.size := by rw [W152.size]; exact hk147
  have S154 : own_Go p e below s₁ G T152 (mkF m 20 #[.val (.ref b), .val (.double x), .second, .val (.ref a141)] [(.ref a141)]) := fun tg_ kk_ => S153 tg_ (by
    refine XS.aloadN X152.here hx rfl (hb hby d11_19) rfl rfl ?_
    exact kk_)
  rw [g141] at S154
  rw [g141] at S152x
  obtain ⟨fs, hr, hrun, hended, hend⟩ := X152.leaveW hS147 (by rw [e152]; exact hkz) (v := some (.ref h0.size)) (fun h => by rw [Bd.returns] at h; cases h)
  refine ⟨_, _, ?_, hrun, hended, _, _, rfl, ?_, hend.1, hend.2.1, hend.2.2.1, hend.2.2.2.mono (by decide) (by decide)⟩
  · rw [← hG]; exact S154 _ (retOut X152 hx Bd.returns (by first | rfl | cases (.ref h0.size) <;> rfl) (Or.inr (Or.inr (Or.inr (Or.inr ⟨rfl, rfl, rfl⟩)))) (hb hby d11_20) hr)
  · show Q11 Z b x f0 f1 f2 f3 f4 f5 f6 f7 h0 n0 _ T152.heap _
    rw [e152]
    exact ⟨rfl, N152, K152, S152x⟩
def Q12 (Z : State) (b : Addr) (x : Int64) (f0 : Int32) (f1 : Int32) (f2 : UInt64) (f3 : UInt64) (f4 : UInt64) (f5 : UInt64) (f6 : Int64) (f7 : Int32) (h0 : Heap) (n0 : Nat) (v : Option Value) (h : Heap) (L : List Loc) : Prop := v = some (.ref h0.size) ∧ Fr n0 L ∧ Keep h0 h [] ∧ own_Set Z h h0.size f0 f1 f2 f3 f4 f5 x f7
set_option maxRecDepth 65536 in
set_option maxHeartbeats 40000000 in
theorem rm12 (l : Launch) (Z : State) (a0 : Array Value) (hw : ∀ d ∈ tables_1, d.before a0 Z = true) (ws : List Jvm.Cond) (b : Addr) (x : Int64) (f0 : Int32) (f1 : Int32) (f2 : UInt64) (f3 : UInt64) (f4 : UInt64) (f5 : UInt64) (f6 : Int64) (f7 : Int32) (h0 : Heap) (n0 : Nat) (Z0 : n0 ≤ h0.size) (O : own_Set Z h0 b f0 f1 f2 f3 f4 f5 f6 f7) (hbo : f7 = 0 ∨ f7 = 1) :
    MetFree l (⟨"com/example/locks_over_messages/locksovermessages/Simulation$Settings", "withSeed", "(J)Lcom/example/locks_over_messages/locksovermessages/Simulation$Settings;"⟩ : MethodName) (head1 (Jvm.Cond.code (⟨"com/example/locks_over_messages/locksovermessages/Simulation$Settings", "withSeed", "(J)Lcom/example/locks_over_messages/locksovermessages/Simulation$Settings;"⟩ : MethodName) prog_49_method_15_code 4 (some (.object "com/example/locks_over_messages/locksovermessages/Simulation$Settings")) :: ws) ({ frames := 3, cells := 1, slots := 8, locals := 50 } : Room)) (fun aa_ U => aa_ = #[(.ref b), (.long x)] ∧ Z.Warmed39 U.vm ∧ U.heap = h0) (fun _ _ _ _ _ => True) (fun _ U o U' => ∃ v L, o = .returned v ∧ Q12 Z b x f0 f1 f2 f3 f4 f5 f6 f7 h0 n0 v U'.heap L ∧ FrameEnd U o U' L ({ frames := 3, cells := 1, slots := 8, locals := 50 } : Room).cells ({ frames := 3, cells := 1, slots := 8, locals := 50 } : Room).slots) := by
  refine MetFree.of_bodySF (plainFor_of_name pn2) hisR ?_
  intro p e s m args below meth c s₁ Bd hml0 hP hK
  obtain ⟨rfl, hZ, hh⟩ := hP
  have hx := Bd.exec
  have hby := Bd.bytes
  have hml : c.maxLocals = 4 := hml0
  have hown : s.vm.findClass "com/example/locks_over_messages/locksovermessages/Simulation$Settings" = some m.cls := findClass_of_methodNamed Bd.named
  have hnm := (name_of_methodNamed Bd.named Bd.method).1
  have X0 : Stand p l e ({ frames := 3, cells := 1, slots := 8, locals := 50 } : Room) s m #[(.ref b), (.long x)] below meth c s₁ [] 0 0 := Stand.of_body Bd
  have e0 : s₁.heap = h0 := by rw [← hh, Bd.state]; rfl
  have N0 := Fr.nil n0
  obtain ⟨G, hG⟩ : ∃ G, G = entryFrame m #[(.ref b), (.long x)] 4 := ⟨_, rfl⟩
  have S0 : own_Go p e below s₁ G s₁ (mkF m 0 #[.val (.ref b), .val (.long x), .second, .unset] []) := fun tg_ kk_ => castTop (by rw [hG]; simp [entryFrame, mkF, argsToLocals, Value.category, maxLocals]) kk_
  obtain ⟨T155, h155, X155, e155, E155, A155, D155, -, st155⟩ := newO X0 hx hZ hown (hw _ (List.mem_of_getElem? (i := 27) rfl)) (hw _ (List.mem_of_getElem? (i := 6) rfl)) (hw _ (List.mem_of_getElem? (i := 7) rfl)) e0 (g := (mkF m 0 #[.val (.ref b), .val (.long x), .second, .unset] [])) rfl (hb hby d12_0) (by decide) (by decide)
  obtain ⟨a155, g155⟩ : ∃ z, z = h0.size := ⟨_, rfl⟩
  rw [← g155] at A155 D155 st155
  have S156 : own_Go p e below s₁ G T155 (mkF m 3 #[.val (.ref b), .val (.long x), .second, .unset] [(.ref a155)]) := fun tg_ kk_ => S0 tg_ (st155 tg_ kk_)
  have S0x : own_Set Z h155 a155 0 0 0 0 0 0 0 0 := ⟨A155, D155 (Or.inr (hw _ (List.mem_of_getElem? (i := 19) rfl))) (ty := .int) (by decide), D155 (Or.inr (hw _ (List.mem_of_getElem? (i := 21) rfl))) (ty := .int) (by decide), D155 (Or.inl (hw _ (List.mem_of_getElem? (i := 15) rfl))) (ty := .double) (by decide), D155 (Or.inl (hw _ (List.mem_of_getElem? (i := 32) rfl))) (ty := .double) (by decide), D155 (Or.inl (hw _ (List.mem_of_getElem? (i := 34) rfl))) (ty := .double) (by decide), D155 (Or.inl (hw _ (List.mem_of_getElem? (i := 36) rfl))) (ty := .double) (by decide), D155 (Or.inl (hw _ (List.mem_of_getElem? (i := 17) rfl))) (ty := .long) (by decide), D155 (Or.inl (hw _ (List.mem_of_getElem? (i := 38) rfl))) (ty := .boolean) (by decide)⟩
  have O1 := O.ext E155
  have ha : n0 ≤ a155 := Nat.le_trans Z0 (Nat.le_of_eq g155.symm)
  have Z1 : n0 ≤ h155.size := Nat.le_trans Z0 E155.1
  have hab : b ≠ a155 := Nat.ne_of_lt (Nat.lt_of_lt_of_le O.1.lt (Nat.le_of_eq g155.symm))
  have S157 : own_Go p e below s₁ G T155 (mkF m 5 #[.val (.ref b), .val (.long x), .second, .unset] [(.ref b), (.ref a155), (.ref a155)]) := fun tg_ kk_ => S156 tg_ (by
    refine XS.dup X155.here hx rfl (hb hby d12_3) rfl rfl ?_
    show Steps p.tables e below (T155.setTop (mkF m 4 #[.val (.ref b), .val (.long x), .second, .unset] [(.ref a155), (.ref a155)])) _
    refine XS.aloadN X155.here hx rfl (hb hby d12_4) rfl rfl ?_
    exact kk_)
  obtain ⟨_, T158, h158, L158, X158, e158, hQ158, st158⟩ := own_callI X155 hx hZ (y := (⟨"com/example/locks_over_messages/locksovermessages/Simulation$Settings", "<init>", "(Lcom/example/locks_over_messages/locksovermessages/Simulation$Settings;)V"⟩ : MethodName)) rfl hown (hw _ (List.mem_of_getElem? (i := 28) rfl)) (hw _ (List.mem_of_getElem? (i := 29) rfl)) (hw _ (List.mem_of_getElem? (i := 7) rfl)) (hw _ (List.mem_of_getElem? (i := 30) rfl)) (by decide) 1 (g := (mkF m 5 #[.val (.ref b), .val (.long x), .second, .unset] [(.ref b), (.ref a155), (.ref a155)])) rfl (by rw [hml]; rfl) a155 [(.ref b)] [(.ref a155)] (rm5 l Z a0 hw [] a155 b f0 f1 f2 f3 f4 f5 f6 f7 h155 n0 Z1 S0x O1 ha hab hbo) (lenOf pd6 rfl) rfl (by show 2 * 0 + _ ≤ _; exact Nat.le_of_eq rfl) (hb hby d12_5) (by decide) (by decide) e155 (by decide) (by decide)
  obtain ⟨rfl, N158, K158, S158x⟩ := hQ158
  have S159 : own_Go p e below s₁ G T158 (mkF m 8 #[.val (.ref b), .val (.long x), .second, .unset] [(.ref a155)]) := fun tg_ kk_ => S157 tg_ (st158 tg_ kk_)
  have M1 := Fr.app N0 N158
  have K1 : Keep h0 h158 [] := ((Keep.refl h0 []).ext E155).trans K158 (allS (Or.inr (Nat.le_of_eq g155.symm)) all0)
  have S160 : own_Go p e below s₁ G T158 (mkF m 11 #[.val (.ref b), .val (.long x), .second, .val (.ref a155)] [(.long x), (.ref a155)]) := fun tg_ kk_ => S159 tg_ (by
    refine XS.astoreN X158.here hx rfl (hb hby d12_8) rfl rfl (l' := #[.val (.ref b), .val (.long x), .second, .val (.ref a155)]) rfl ?_
    show Steps p.tables e below (T158.setTop (mkF m 9 #[.val (.ref b), .val (.long x), .second, .val (.ref a155)] [])) _
    refine XS.aloadN X158.here hx rfl (hb hby d12_9) rfl rfl ?_
    show Steps p.tables e below (T158.setTop (mkF m 10 #[.val (.ref b), .val (.long x), .second, .val (.ref a155)] [(.ref a155)])) _
    refine XT.lloadN X158.here hx rfl (hb hby d12_10) rfl ?_
    exact kk_)
  obtain ⟨T161, h161, X161, e161, W161, st161⟩ := putF X158 hx hZ hown (host := "") (Or.inl (hw _ (List.mem_of_getElem? (i := 16) rfl))) Via.refl e158 S158x.2.2.2.2.2.2.2.1 S158x.1 (Or.inl (hw _ (List.mem_of_getElem? (i := 17) rfl))) (hw _ (List.mem_of_getElem? (i := 6) rfl)) (ty := .long) (by decide) rfl rfl (g := (mkF m 11 #[.val (.ref b), .val (.long x), .second, .val (.ref a155)] [(.long x), (.ref a155)])) rfl rfl (hb hby d12_11)
  have S162 : own_Go p e below s₁ G T161 (mkF m 14 #[.val (.ref b), .val (.long x), .second, .val (.ref a155)] []) := fun tg_ kk_ => S160 tg_ (st161 tg_ kk_)
  have N161 := Fr.snoc X161 M1 ha
  have S161x := own_Set.wr6 hw W161 S158x
  have K161 : Keep h0 h161 [] := K1.wr W161 (Or.inr (Nat.le_of_eq g155.symm))
  have S163 : own_Go p e below s₁ G T161 (mkF m 15 #[.val (.ref b), .val (.long x), .second, .val (.ref a155)] [(.ref a155)]) := fun tg_ kk_ => S162 tg_ (by
    refine XS.aloadN X161.here hx rfl (hb hby d12_14) rfl rfl ?_
    exact kk_)
  rw [g155] at S163
  rw [g155] at S161x
  obtain ⟨fs, hr, hrun, hended, hW, hsame⟩ := X161.leave (v := some (.ref h0.size)) (fun h => by rw [Bd.returns] at h; cases h)
  refine ⟨_, _, ?_, hrun, hended, _, _, rfl, ?_, ⟨_, rfl⟩, hW, hsame.mono (by decide) (by decide)⟩
  · rw [← hG]; exact S163 _ (retOut X161 hx Bd.returns (by first | rfl | cases (.ref h0.size) <;> rfl) (Or.inr (Or.inr (Or.inr (Or.inr ⟨rfl, rfl, rfl⟩)))) (hb hby d12_15) hr)
  · show Q12 Z b x f0 f1 f2 f3 f4 f5 f6 f7 h0 n0 _ T161.heap _
    rw [e161]
    exact ⟨rfl, N161, K161, S161x⟩
def Q13 (Z : State) (b : Addr) (x : Int32) (f0 : Int32) (f1 : Int32) (f2 : UInt64) (f3 : UInt64) (f4 : UInt64) (f5 : UInt64) (f6 : Int64) (f7 : Int32) (h0 : Heap) (n0 : Nat) (v : Option Value) (h : Heap) (L : List Loc) : Prop := v = some (.ref h0.size) ∧ Fr n0 L ∧ Keep h0 h [] ∧ own_Set Z h h0.size f0 f1 f2 f3 f4 f5 f6 x
set_option maxRecDepth 65536 in
set_option maxHeartbeats 40000000 in
theorem rm13 (l : Launch) (Z : State) (a0 : Array Value) (hw : ∀ d ∈ tables_1, d.before a0 Z = true) (ws : List Jvm.Cond) (b : Addr) (x : Int32) (f0 : Int32) (f1 : Int32) (f2 : UInt64) (f3 : UInt64) (f4 : UInt64) (f5 : UInt64) (f6 : Int64) (f7 : Int32) (h0 : Heap) (n0 : Nat) (Z0 : n0 ≤ h0.size) (O : own_Set Z h0 b f0 f1 f2 f3 f4 f5 f6 f7) (hbo : f7 = 0 ∨ f7 = 1) (hb2 : x = 0 ∨ x = 1) :
    MetFree l (⟨"com/example/locks_over_messages/locksovermessages/Simulation$Settings", "withEntriesRecorded", "(Z)Lcom/example/locks_over_messages/locksovermessages/Simulation$Settings;"⟩ : MethodName) (head1 (Jvm.Cond.code (⟨"com/example/locks_over_messages/locksovermessages/Simulation$Settings", "withEntriesRecorded", "(Z)Lcom/example/locks_over_messages/locksovermessages/Simulation$Settings;"⟩ : MethodName) prog_49_method_16_code 3 (some (.object "com/example/locks_over_messages/locksovermessages/Simulation$Settings")) :: ws) ({ frames := 3, cells := 1, slots := 8, locals := 50 } : Room)) (fun aa_ U => aa_ = #[(.ref b), (.int x)] ∧ Z.Warmed39 U.vm ∧ U.heap = h0) (fun _ _ _ _ _ => True) (fun _ U o U' => ∃ v L, o = .returned v ∧ Q13 Z b x f0 f1 f2 f3 f4 f5 f6 f7 h0 n0 v U'.heap L ∧ FrameEnd U o U' L ({ frames := 3, cells := 1, slots := 8, locals := 50 } : Room).cells ({ frames := 3, cells := 1, slots := 8, locals := 50 } : Room).slots) := by
  refine MetFree.of_bodySF (plainFor_of_name pn2) hisR ?_
  intro p e s m args below meth c s₁ Bd hml0 hP hK
  obtain ⟨rfl, hZ, hh⟩ := hP
  have hx := Bd.exec
  have hby := Bd.bytes
  have hml : c.maxLocals = 3 := hml0
  have hown : s.vm.findClass "com/example/locks_over_messages/locksovermessages/Simulation$Settings" = some m.cls := findClass_of_methodNamed Bd.named
  have hnm := (name_of_methodNamed Bd.named Bd.method).1
  have X0 : Stand p l e ({ frames := 3, cells := 1, slots := 8, locals := 50 } : Room) s m #[(.ref b), (.int x)] below meth c s₁ [] 0 0 := Stand.of_body Bd
  have e0 : s₁.heap = h0 := by rw [← hh, Bd.state]; rfl
  have N0 := Fr.nil n0
  obtain ⟨G, hG⟩ : ∃ G, G = entryFrame m #[(.ref b), (.int x)] 3 := ⟨_, rfl⟩
  have S0 : own_Go p e below s₁ G s₁ (mkF m 0 #[.val (.ref b), .val (.int x), .unset] []) := fun tg_ kk_ => castTop (by rw [hG]; first | rfl | simp [entryFrame, mkF, argsToLocals, Value.category, maxLocals]) kk_
  obtain ⟨T164, h164, X164, e164, E164, A164, D164, -, st164⟩ := newO X0 hx hZ hown (hw _ (List.mem_of_getElem? (i := 27) rfl)) (hw _ (List.mem_of_getElem? (i := 6) rfl)) (hw _ (List.mem_of_getElem? (i := 7) rfl)) e0 (g := (mkF m 0 #[.val (.ref b), .val (.int x), .unset] [])) rfl (hb hby d13_0) (by decide) (by decide)
  obtain ⟨a164, g164⟩ : ∃ z, z = h0.size := ⟨_, rfl⟩
  rw [← g164] at A164 D164 st164
  have S165 : own_Go p e below s₁ G T164 (mkF m 3 #[.val (.ref b), .val (.int x), .unset] [(.ref a164)]) := fun tg_ kk_ => S0 tg_ (st164 tg_ kk_)
  have S0x : own_Set Z h164 a164 0 0 0 0 0 0 0 0 := ⟨A164, D164 (Or.inr (hw _ (List.mem_of_getElem? (i := 19) rfl))) (ty := .int) (by decide), D164 (Or.inr (hw _ (List.mem_of_getElem? (i := 21) rfl))) (ty := .int) (by decide), D164 (Or.inl (hw _ (List.mem_of_getElem? (i := 15) rfl))) (ty := .double) (by decide), D164 (Or.inl (hw _ (List.mem_of_getElem? (i := 32) rfl))) (ty := .double) (by decide), D164 (Or.inl (hw _ (List.mem_of_getElem? (i := 34) rfl))) (ty := .double) (by decide), D164 (Or.inl (hw _ (List.mem_of_getElem? (i := 36) rfl))) (ty := .double) (by decide), D164 (Or.inl (hw _ (List.mem_of_getElem? (i := 17) rfl))) (ty := .long) (by decide), D164 (Or.inl (hw _ (List.mem_of_getElem? (i := 38) rfl))) (ty := .boolean) (by decide)⟩
  have O1 := O.ext E164
  have ha : n0 ≤ a164 := Nat.le_trans Z0 (Nat.le_of_eq g164.symm)
  have Z1 : n0 ≤ h164.size := Nat.le_trans Z0 E164.1
  have hab : b ≠ a164 := Nat.ne_of_lt (Nat.lt_of_lt_of_le O.1.lt (Nat.le_of_eq g164.symm))
  have S166 : own_Go p e below s₁ G T164 (mkF m 5 #[.val (.ref b), .val (.int x), .unset] [(.ref b), (.ref a164), (.ref a164)]) := fun tg_ kk_ => S165 tg_ (by
    refine XS.dup X164.here hx rfl (hb hby d13_3) rfl rfl ?_
    show Steps p.tables e below (T164.setTop (mkF m 4 #[.val (.ref b), .val (.int x), .unset] [(.ref a164), (.ref a164)])) _
    refine XS.aloadN X164.here hx rfl (hb hby d13_4) rfl rfl ?_
    exact kk_)
  obtain ⟨_, T167, h167, L167, X167, e167, hQ167, st167⟩ := own_callI X164 hx hZ (y := (⟨"com/example/locks_over_messages/locksovermessages/Simulation$Settings", "<init>", "(Lcom/example/locks_over_messages/locksovermessages/Simulation$Settings;)V"⟩ : MethodName)) rfl hown (hw _ (List.mem_of_getElem? (i := 28) rfl)) (hw _ (List.mem_of_getElem? (i := 29) rfl)) (hw _ (List.mem_of_getElem? (i := 7) rfl)) (hw _ (List.mem_of_getElem? (i := 30) rfl)) (by decide) 1 (g := (mkF m 5 #[.val (.ref b), .val (.int x), .unset] [(.ref b), (.ref a164), (.ref a164)])) rfl (by rw [hml]; rfl) a164 [(.ref b)] [(.ref a164)] (rm5 l Z a0 hw [] a164 b f0 f1 f2 f3 f4 f5 f6 f7 h164 n0 Z1 S0x O1 ha hab hbo) (lenOf pd6 rfl) rfl (by show 2 * 0 + _ ≤ _; exact Nat.le_of_eq rfl) (hb hby d13_5) (by decide) (by decide) e164 (by decide) (by decide)
  obtain ⟨rfl, N167, K167, S167x⟩ := hQ167
  have S168 : own_Go p e below s₁ G T167 (mkF m 8 #[.val (.ref b), .val (.int x), .unset] [(.ref a164)]) := fun tg_ kk_ => S166 tg_ (st167 tg_ kk_)
  have M1 := Fr.app N0 N167
  have K1 : Keep h0 h167 [] := ((Keep.refl h0 []).ext E164).trans K167 (allS (Or.inr (Nat.le_of_eq g164.symm)) all0)
  have S169 : own_Go p e below s₁ G T167 (mkF m 11 #[.val (.ref b), .val (.int x), .val (.ref a164)] [(.int x), (.ref a164)]) := fun tg_ kk_ => S168 tg_ (by
    refine XS.astoreN X167.here hx rfl (hb hby d13_8) rfl rfl (l' := #[.val (.ref b), .val (.int x), .val (.ref a164)]) rfl ?_
    show Steps p.tables e below (T167.setTop (mkF m 9 #[.val (.ref b), .val (.int x), .val (.ref a164)] [])) _
    refine XS.aloadN X167.here hx rfl (hb hby d13_9) rfl rfl ?_
    show Steps p.tables e below (T167.setTop (mkF m 10 #[.val (.ref b), .val (.int x), .val (.ref a164)] [(.ref a164)])) _
    refine XS.iloadN X167.here hx rfl (hb hby d13_10) rfl ?_
    exact kk_)
  obtain ⟨T170, h170, X170, e170, W170, st170⟩ := putF X167 hx hZ hown (host := "") (Or.inl (hw _ (List.mem_of_getElem? (i := 37) rfl))) Via.refl e167 S167x.2.2.2.2.2.2.2.2 S167x.1 (Or.inl (hw _ (List.mem_of_getElem? (i := 38) rfl))) (hw _ (List.mem_of_getElem? (i := 6) rfl)) (ty := .boolean) (by decide) (by rcases hb2 with rfl | rfl <;> rfl) (by rcases hb2 with rfl | rfl <;> rfl) (g := (mkF m 11 #[.val (.ref b), .val (.int x), .val (.ref a164)] [(.int x), (.ref a164)])) rfl rfl (hb hby d13_11)
  have S171 : own_Go p e below s₁ G T170 (mkF m 14 #[.val (.ref b), .val (.int x), .val (.ref a164)] []) := fun tg_ kk_ => S169 tg_ (st170 tg_ kk_)
  have N170 := Fr.snoc X170 M1 ha
  have S170x := own_Set.wr7 hw W170 S167x
  have K170 : Keep h0 h170 [] := K1.wr W170 (Or.inr (Nat.le_of_eq g164.symm))
  have S172 : own_Go p e below s₁ G T170 (mkF m 15 #[.val (.ref b), .val (.int x), .val (.ref a164)] [(.ref a164)]) := fun tg_ kk_ => S171 tg_ (by
    refine XS.aloadN X170.here hx rfl (hb hby d13_14) rfl rfl ?_
    exact kk_)
  rw [g164] at S172
  rw [g164] at S170x
  obtain ⟨fs, hr, hrun, hended, hW, hsame⟩ := X170.leave (v := some (.ref h0.size)) (fun h => by rw [Bd.returns] at h; cases h)
  refine ⟨_, _, ?_, hrun, hended, _, _, rfl, ?_, ⟨_, rfl⟩, hW, hsame.mono (by decide) (by decide)⟩
  · rw [← hG]; exact S172 _ (retOut X170 hx Bd.returns (by first | rfl | cases (.ref h0.size) <;> rfl) (Or.inr (Or.inr (Or.inr (Or.inr ⟨rfl, rfl, rfl⟩)))) (hb hby d13_15) hr)
  · show Q13 Z b x f0 f1 f2 f3 f4 f5 f6 f7 h0 n0 _ T170.heap _
    rw [e170]
    exact ⟨rfl, N170, K170, S170x⟩
theorem own_mask255 (x : Int32) : ∃ j : Fin 256, x &&& 255 = Int32.ofInt (j.1 : Int) := by
  have h := c_mask x 255 8 (by decide) (by decide)
  refine ⟨⟨(x &&& 255).toInt.toNat, by omega⟩, Int32.toInt_inj.mp ?_⟩
  rw [Int32.toInt_ofInt_of_le (by show _ ≤ ((_ : Nat) : Int); omega) (by show ((_ : Nat) : Int) < _; omega)]
  show (x &&& 255).toInt = (((x &&& 255).toInt.toNat : Nat) : Int)
  omega
def own_TimeB (x : UInt64) : Bool := decide (x &&& 0x7fffffffffffffff ≤ 0x7ff0000000000000) && decide (¬ 0 < cmpValue (FP.dcmp (x &&& 0x7fffffffffffffff) 9218868437227405311) .g) && decide (¬ cmpValue (FP.dcmp x FP.dconst0) .g < 0) && decide (cmpValue (FP.dcmp x x) .l = 0)
theorem own_time_of {x : UInt64} (h : own_TimeB x = true) : own_Time x := by
  simp only [own_TimeB, Bool.and_eq_true, decide_eq_true_eq] at h
  exact ⟨h.1.1.1, h.1.1.2, h.1.2, h.2⟩
set_option maxRecDepth 100000 in
theorem own_times : ∀ j : Fin 256, own_TimeB (FP.i2d (Int32.ofInt (j.1 : Int))) = true := by decide +kernel
theorem own_time (x : Int32) : own_Time (FP.i2d (x &&& 255)) := by
  obtain ⟨j, hj⟩ := own_mask255 x
  rw [hj]
  exact own_time_of (own_times j)
theorem own_max1 (x : Int32) : ¬ (if (1 : Int32) < x then x else 1) < 1 := by
  split
  · rename_i h; exact fun q => absurd (Int32.lt_trans h q) Int32.lt_irrefl
  · exact Int32.lt_irrefl
theorem pn4 : plainName "com/example/locks_over_messages/locksovermessages/SettingsWithEntriesRecordedPinLaw" = true := by first | (simp [plainName, overriddenIn]; done) | decide +kernel
def Q0 (Z : State) (p0 : Int32) (p1 : Int32) (p2 : Int32) (p3 : Int64) (p4 : Int32) (h0 : Heap) (n0 : Nat) (v : Option Value) (h : Heap) (L : List Loc) : Prop := v = some (.int 1) ∧ Fr n0 L
set_option maxRecDepth 65536 in
set_option maxHeartbeats 40000000 in
theorem rm0 (l : Launch) (Z : State) (a0 : Array Value) (hw : ∀ d ∈ tables_1, d.before a0 Z = true) (ws : List Jvm.Cond) (p0 : Int32) (p1 : Int32) (p2 : Int32) (p3 : Int64) (p4 : Int32) (h0 : Heap) (n0 : Nat) (Z0 : n0 ≤ h0.size)  :
    MetFree l x (head1 (Jvm.Cond.code x code maxLocals ret :: ws) room_1) (fun aa_ U => aa_ = #[(.int p0), (.int p1), (.int p2), (.long p3), (.int p4)] ∧ Z.Warmed39 U.vm ∧ U.heap = h0) (fun _ _ _ _ _ => True) (fun _ U o U' => ∃ v L, o = .returned v ∧ Q0 Z p0 p1 p2 p3 p4 h0 n0 v U'.heap L ∧ ReturnedEndW U o U' L 32 4352) := by
  refine MetFree.of_bodySF (plainFor_of_name pn4) hisR ?_
  intro p e s m args below meth c s₁ Bd hml0 hP hK
  obtain ⟨rfl, hZ, hh⟩ := hP
  have hx := Bd.exec
  have hby := Bd.bytes
  have hml : c.maxLocals = 20 := hml0
  have hown : s.vm.findClass "com/example/locks_over_messages/locksovermessages/SettingsWithEntriesRecordedPinLaw" = some m.cls := findClass_of_methodNamed Bd.named
  have hnm := (name_of_methodNamed Bd.named Bd.method).1
  have X0 : Stand p l e room_1 s m #[(.int p0), (.int p1), (.int p2), (.long p3), (.int p4)] below meth c s₁ [] 0 0 := Stand.of_body Bd
  have e0 : s₁.heap = h0 := by rw [← hh, Bd.state]; rfl
  have N0 := Fr.nil n0
  obtain ⟨G, hG⟩ : ∃ G, G = entryFrame m #[(.int p0), (.int p1), (.int p2), (.long p3), (.int p4)] maxLocals := ⟨_, rfl⟩
  have S0 : own_Go p e below s₁ G s₁ (mkF m 0 #[.val (.int p0), .val (.int p1), .val (.int p2), .val (.long p3), .second, .val (.int p4), .unset, .unset, .unset, .unset, .unset, .unset, .unset, .unset, .unset, .unset, .unset, .unset, .unset, .unset] []) := fun tg_ kk_ => castTop (by rw [hG]; simp [entryFrame, mkF, argsToLocals, Value.category, maxLocals]) kk_
  have S173 : own_Go p e below s₁ G s₁ (mkF m 5 #[.val (.int p0), .val (.int p1), .val (.int p2), .val (.long p3), .second, .val (.int p4), .unset, .unset, .unset, .unset, .unset, .unset, .unset, .unset, .unset, .unset, .unset, .unset, .unset, .unset] [(.int (p0 &&& (2147483647 : Int32))), (.int (1 : Int32))]) := fun tg_ kk_ => S0 tg_ (by
    refine XS.iconst X0.here hx rfl (hb hby at_0) ?_
    show Steps p.tables e below (s₁.setTop (mkF m 1 #[.val (.int p0), .val (.int p1), .val (.int p2), .val (.long p3), .second, .val (.int p4), .unset, .unset, .unset, .unset, .unset, .unset, .unset, .unset, .unset, .unset, .unset, .unset, .unset, .unset] [(.int (1 : Int32))])) _
    refine XS.iloadN X0.here hx rfl (hb hby at_1) rfl ?_
    show Steps p.tables e below (s₁.setTop (mkF m 2 #[.val (.int p0), .val (.int p1), .val (.int p2), .val (.long p3), .second, .val (.int p4), .unset, .unset, .unset, .unset, .unset, .unset, .unset, .unset, .unset, .unset, .unset, .unset, .unset, .unset] [(.int p0), (.int (1 : Int32))])) _
    refine X0.ldcInt hx hown (mvT hZ (hw _ (List.mem_of_getElem? (i := 0) rfl))) (g := (mkF m 2 #[.val (.int p0), .val (.int p1), .val (.int p2), .val (.long p3), .second, .val (.int p4), .unset, .unset, .unset, .unset, .unset, .unset, .unset, .unset, .unset, .unset, .unset, .unset, .unset, .unset] [(.int p0), (.int (1 : Int32))])) rfl (hb hby at_2) _ ?_
    show Steps p.tables e below (s₁.setTop (mkF m 4 #[.val (.int p0), .val (.int p1), .val (.int p2), .val (.long p3), .second, .val (.int p4), .unset, .unset, .unset, .unset, .unset, .unset, .unset, .unset, .unset, .unset, .unset, .unset, .unset, .unset] [(.int (2147483647 : Int32)), (.int p0), (.int (1 : Int32))])) _
    refine XS.iand X0.here hx rfl (hb hby at_4) rfl ?_
    exact kk_)
  obtain ⟨_, T174, h174, L174, X174, e174, hQ174, st174⟩ := own_callS X0 hx hZ (y := (⟨"java/lang/Math", "max", "(II)I"⟩ : MethodName)) hown (hw _ (List.mem_of_getElem? (i := 1) rfl)) (hw _ (List.mem_of_getElem? (i := 2) rfl)) (hw _ (List.mem_of_getElem? (i := 3) rfl)) (hw _ (List.mem_of_getElem? (i := 4) rfl)) (by decide) 0 (g := (mkF m 5 #[.val (.int p0), .val (.int p1), .val (.int p2), .val (.long p3), .second, .val (.int p4), .unset, .unset, .unset, .unset, .unset, .unset, .unset, .unset, .unset, .unset, .unset, .unset, .unset, .unset] [(.int (p0 &&& (2147483647 : Int32))), (.int (1 : Int32))])) rfl (by rw [hml]; rfl) [(.int (1 : Int32)), (.int (p0 &&& (2147483647 : Int32)))] [] (rm1 l Z a0 hw [] (1 : Int32) (p0 &&& (2147483647 : Int32)) h0 n0 Z0) (lenOf pd2 rfl) rfl (by show 2 * 0 + _ ≤ _; exact Nat.le_of_eq rfl) (hb hby at_5) (by decide) (by decide) e0 (by decide) (by decide)
  obtain ⟨rfl, N174, rfl⟩ := hQ174
  have S175 : own_Go p e below s₁ G T174 (mkF m 8 #[.val (.int p0), .val (.int p1), .val (.int p2), .val (.long p3), .second, .val (.int p4), .unset, .unset, .unset, .unset, .unset, .unset, .unset, .unset, .unset, .unset, .unset, .unset, .unset, .unset] [(.int (if (1 : Int32) < (p0 &&& (2147483647 : Int32)) then (p0 &&& (2147483647 : Int32)) else (1 : Int32)))]) := fun tg_ kk_ => S173 tg_ (st174 tg_ kk_)
  have NN174 := Fr.app N0 N174
  obtain ⟨mc, hmc⟩ : ∃ z, z = (if (1 : Int32) < (p0 &&& (2147483647 : Int32)) then (p0 &&& (2147483647 : Int32)) else (1 : Int32)) := ⟨_, rfl⟩
  have hm1 : ¬ mc < 1 := by rw [hmc]; exact own_max1 _
  rw [← hmc] at S175
  have S176 : own_Go p e below s₁ G T174 (mkF m 15 #[.val (.int p0), .val (.int p1), .val (.int p2), .val (.long p3), .second, .val (.int p4), .val (.int mc), .unset, .unset, .unset, .unset, .unset, .unset, .unset, .unset, .unset, .unset, .unset, .unset, .unset] [(.int (p1 &&& (2147483647 : Int32))), (.int (1 : Int32))]) := fun tg_ kk_ => S175 tg_ (by
    refine XS.istore X174.here hx rfl (hb hby at_8) rfl (l' := #[.val (.int p0), .val (.int p1), .val (.int p2), .val (.long p3), .second, .val (.int p4), .val (.int mc), .unset, .unset, .unset, .unset, .unset, .unset, .unset, .unset, .unset, .unset, .unset, .unset, .unset]) rfl ?_
    show Steps p.tables e below (T174.setTop (mkF m 10 #[.val (.int p0), .val (.int p1), .val (.int p2), .val (.long p3), .second, .val (.int p4), .val (.int mc), .unset, .unset, .unset, .unset, .unset, .unset, .unset, .unset, .unset, .unset, .unset, .unset, .unset] [])) _
    refine XS.iconst X174.here hx rfl (hb hby at_10) ?_
    show Steps p.tables e below (T174.setTop (mkF m 11 #[.val (.int p0), .val (.int p1), .val (.int p2), .val (.long p3), .second, .val (.int p4), .val (.int mc), .unset, .unset, .unset, .unset, .unset, .unset, .unset, .unset, .unset, .unset, .unset, .unset, .unset] [(.int (1 : Int32))])) _
    refine XS.iloadN X174.here hx rfl (hb hby at_11) rfl ?_
    show Steps p.tables e below (T174.setTop (mkF m 12 #[.val (.int p0), .val (.int p1), .val (.int p2), .val (.long p3), .second, .val (.int p4), .val (.int mc), .unset, .unset, .unset, .unset, .unset, .unset, .unset, .unset, .unset, .unset, .unset, .unset, .unset] [(.int p1), (.int (1 : Int32))])) _
    refine X174.ldcInt hx hown (mvT hZ (hw _ (List.mem_of_getElem? (i := 0) rfl))) (g := (mkF m 12 #[.val (.int p0), .val (.int p1), .val (.int p2), .val (.long p3), .second, .val (.int p4), .val (.int mc), .unset, .unset, .unset, .unset, .unset, .unset, .unset, .unset, .unset, .unset, .unset, .unset, .unset] [(.int p1), (.int (1 : Int32))])) rfl (hb hby at_12) _ ?_
    show Steps p.tables e below (T174.setTop (mkF m 14 #[.val (.int p0), .val (.int p1), .val (.int p2), .val (.long p3), .second, .val (.int p4), .val (.int mc), .unset, .unset, .unset, .unset, .unset, .unset, .unset, .unset, .unset, .unset, .unset, .unset, .unset] [(.int (2147483647 : Int32)), (.int p1), (.int (1 : Int32))])) _
    refine XS.iand X174.here hx rfl (hb hby at_14) rfl ?_
    exact kk_)
  obtain ⟨_, T177, h177, L177, X177, e177, hQ177, st177⟩ := own_callS X174 hx hZ (y := (⟨"java/lang/Math", "max", "(II)I"⟩ : MethodName)) hown (hw _ (List.mem_of_getElem? (i := 1) rfl)) (hw _ (List.mem_of_getElem? (i := 2) rfl)) (hw _ (List.mem_of_getElem? (i := 3) rfl)) (hw _ (List.mem_of_getElem? (i := 4) rfl)) (by decide) 0 (g := (mkF m 15 #[.val (.int p0), .val (.int p1), .val (.int p2), .val (.long p3), .second, .val (.int p4), .val (.int mc), .unset, .unset, .unset, .unset, .unset, .unset, .unset, .unset, .unset, .unset, .unset, .unset, .unset] [(.int (p1 &&& (2147483647 : Int32))), (.int (1 : Int32))])) rfl (by rw [hml]; rfl) [(.int (1 : Int32)), (.int (p1 &&& (2147483647 : Int32)))] [] (rm1 l Z a0 hw [] (1 : Int32) (p1 &&& (2147483647 : Int32)) h0 n0 Z0) (lenOf pd2 rfl) rfl (by show 2 * 0 + _ ≤ _; exact Nat.le_of_eq rfl) (hb hby at_15) (by decide) (by decide) e174 (by decide) (by decide)
  obtain ⟨rfl, N177, rfl⟩ := hQ177
  have S178 : own_Go p e below s₁ G T177 (mkF m 18 #[.val (.int p0), .val (.int p1), .val (.int p2), .val (.long p3), .second, .val (.int p4), .val (.int mc), .unset, .unset, .unset, .unset, .unset, .unset, .unset, .unset, .unset, .unset, .unset, .unset, .unset] [(.int (if (1 : Int32) < (p1 &&& (2147483647 : Int32)) then (p1 &&& (2147483647 : Int32)) else (1 : Int32)))]) := fun tg_ kk_ => S176 tg_ (st177 tg_ kk_)
  have NN177 := Fr.app NN174 N177
  obtain ⟨ec, hec⟩ : ∃ z, z = (if (1 : Int32) < (p1 &&& (2147483647 : Int32)) then (p1 &&& (2147483647 : Int32)) else (1 : Int32)) := ⟨_, rfl⟩
  have hm2 : ¬ ec < 1 := by rw [hec]; exact own_max1 _
  rw [← hec] at S178
  have S179 : own_Go p e below s₁ G T177 (mkF m 61 #[.val (.int p0), .val (.int p1), .val (.int p2), .val (.long p3), .second, .val (.int p4), .val (.int mc), .val (.int ec), .val (.int (p2 &&& (255 : Int32))), .val (.int ((XT.ushr p2 (8 : Int32)) &&& (255 : Int32))), .val (.int ((XT.ushr p2 (16 : Int32)) &&& (255 : Int32))), .val (.int ((XT.ushr p2 (24 : Int32)) &&& (255 : Int32))), .unset, .unset, .unset, .unset, .unset, .unset, .unset, .unset] [(.int (p4 &&& (1 : Int32)))]) := fun tg_ kk_ => S178 tg_ (by
    refine XS.istore X177.here hx rfl (hb hby at_18) rfl (l' := #[.val (.int p0), .val (.int p1), .val (.int p2), .val (.long p3), .second, .val (.int p4), .val (.int mc), .val (.int ec), .unset, .unset, .unset, .unset, .unset, .unset, .unset, .unset, .unset, .unset, .unset, .unset]) rfl ?_
    show Steps p.tables e below (T177.setTop (mkF m 20 #[.val (.int p0), .val (.int p1), .val (.int p2), .val (.long p3), .second, .val (.int p4), .val (.int mc), .val (.int ec), .unset, .unset, .unset, .unset, .unset, .unset, .unset, .unset, .unset, .unset, .unset, .unset] [])) _
    refine XS.iloadN X177.here hx rfl (hb hby at_20) rfl ?_
    show Steps p.tables e below (T177.setTop (mkF m 21 #[.val (.int p0), .val (.int p1), .val (.int p2), .val (.long p3), .second, .val (.int p4), .val (.int mc), .val (.int ec), .unset, .unset, .unset, .unset, .unset, .unset, .unset, .unset, .unset, .unset, .unset, .unset] [(.int p2)])) _
    refine XS.sipush X177.here hx rfl (hb hby at_21) ?_
    show Steps p.tables e below (T177.setTop (mkF m 24 #[.val (.int p0), .val (.int p1), .val (.int p2), .val (.long p3), .second, .val (.int p4), .val (.int mc), .val (.int ec), .unset, .unset, .unset, .unset, .unset, .unset, .unset, .unset, .unset, .unset, .unset, .unset] [(.int (255 : Int32)), (.int p2)])) _
    refine XS.iand X177.here hx rfl (hb hby at_24) rfl ?_
    show Steps p.tables e below (T177.setTop (mkF m 25 #[.val (.int p0), .val (.int p1), .val (.int p2), .val (.long p3), .second, .val (.int p4), .val (.int mc), .val (.int ec), .unset, .unset, .unset, .unset, .unset, .unset, .unset, .unset, .unset, .unset, .unset, .unset] [(.int (p2 &&& (255 : Int32)))])) _
    refine XS.istore X177.here hx rfl (hb hby at_25) rfl (l' := #[.val (.int p0), .val (.int p1), .val (.int p2), .val (.long p3), .second, .val (.int p4), .val (.int mc), .val (.int ec), .val (.int (p2 &&& (255 : Int32))), .unset, .unset, .unset, .unset, .unset, .unset, .unset, .unset, .unset, .unset, .unset]) rfl ?_
    show Steps p.tables e below (T177.setTop (mkF m 27 #[.val (.int p0), .val (.int p1), .val (.int p2), .val (.long p3), .second, .val (.int p4), .val (.int mc), .val (.int ec), .val (.int (p2 &&& (255 : Int32))), .unset, .unset, .unset, .unset, .unset, .unset, .unset, .unset, .unset, .unset, .unset] [])) _
    refine XS.iloadN X177.here hx rfl (hb hby at_27) rfl ?_
    show Steps p.tables e below (T177.setTop (mkF m 28 #[.val (.int p0), .val (.int p1), .val (.int p2), .val (.long p3), .second, .val (.int p4), .val (.int mc), .val (.int ec), .val (.int (p2 &&& (255 : Int32))), .unset, .unset, .unset, .unset, .unset, .unset, .unset, .unset, .unset, .unset, .unset] [(.int p2)])) _
    refine XS.bipush X177.here hx rfl (hb hby at_28) ?_
    show Steps p.tables e below (T177.setTop (mkF m 30 #[.val (.int p0), .val (.int p1), .val (.int p2), .val (.long p3), .second, .val (.int p4), .val (.int mc), .val (.int ec), .val (.int (p2 &&& (255 : Int32))), .unset, .unset, .unset, .unset, .unset, .unset, .unset, .unset, .unset, .unset, .unset] [(.int (8 : Int32)), (.int p2)])) _
    refine XT.iushr X177.here hx rfl (hb hby at_30) rfl ?_
    show Steps p.tables e below (T177.setTop (mkF m 31 #[.val (.int p0), .val (.int p1), .val (.int p2), .val (.long p3), .second, .val (.int p4), .val (.int mc), .val (.int ec), .val (.int (p2 &&& (255 : Int32))), .unset, .unset, .unset, .unset, .unset, .unset, .unset, .unset, .unset, .unset, .unset] [(.int (XT.ushr p2 (8 : Int32)))])) _
    refine XS.sipush X177.here hx rfl (hb hby at_31) ?_
    show Steps p.tables e below (T177.setTop (mkF m 34 #[.val (.int p0), .val (.int p1), .val (.int p2), .val (.long p3), .second, .val (.int p4), .val (.int mc), .val (.int ec), .val (.int (p2 &&& (255 : Int32))), .unset, .unset, .unset, .unset, .unset, .unset, .unset, .unset, .unset, .unset, .unset] [(.int (255 : Int32)), (.int (XT.ushr p2 (8 : Int32)))])) _
    refine XS.iand X177.here hx rfl (hb hby at_34) rfl ?_
    show Steps p.tables e below (T177.setTop (mkF m 35 #[.val (.int p0), .val (.int p1), .val (.int p2), .val (.long p3), .second, .val (.int p4), .val (.int mc), .val (.int ec), .val (.int (p2 &&& (255 : Int32))), .unset, .unset, .unset, .unset, .unset, .unset, .unset, .unset, .unset, .unset, .unset] [(.int ((XT.ushr p2 (8 : Int32)) &&& (255 : Int32)))])) _
    refine XS.istore X177.here hx rfl (hb hby at_35) rfl (l' := #[.val (.int p0), .val (.int p1), .val (.int p2), .val (.long p3), .second, .val (.int p4), .val (.int mc), .val (.int ec), .val (.int (p2 &&& (255 : Int32))), .val (.int ((XT.ushr p2 (8 : Int32)) &&& (255 : Int32))), .unset, .unset, .unset, .unset, .unset, .unset, .unset, .unset, .unset, .unset]) rfl ?_
    show Steps p.tables e below (T177.setTop (mkF m 37 #[.val (.int p0), .val (.int p1), .val (.int p2), .val (.long p3), .second, .val (.int p4), .val (.int mc), .val (.int ec), .val (.int (p2 &&& (255 : Int32))), .val (.int ((XT.ushr p2 (8 : Int32)) &&& (255 : Int32))), .unset, .unset, .unset, .unset, .unset, .unset, .unset, .unset, .unset, .unset] [])) _
    refine XS.iloadN X177.here hx rfl (hb hby at_37) rfl ?_
    show Steps p.tables e below (T177.setTop (mkF m 38 #[.val (.int p0), .val (.int p1), .val (.int p2), .val (.long p3), .second, .val (.int p4), .val (.int mc), .val (.int ec), .val (.int (p2 &&& (255 : Int32))), .val (.int ((XT.ushr p2 (8 : Int32)) &&& (255 : Int32))), .unset, .unset, .unset, .unset, .unset, .unset, .unset, .unset, .unset, .unset] [(.int p2)])) _
    refine XS.bipush X177.here hx rfl (hb hby at_38) ?_
    show Steps p.tables e below (T177.setTop (mkF m 40 #[.val (.int p0), .val (.int p1), .val (.int p2), .val (.long p3), .second, .val (.int p4), .val (.int mc), .val (.int ec), .val (.int (p2 &&& (255 : Int32))), .val (.int ((XT.ushr p2 (8 : Int32)) &&& (255 : Int32))), .unset, .unset, .unset, .unset, .unset, .unset, .unset, .unset, .unset, .unset] [(.int (16 : Int32)), (.int p2)])) _
    refine XT.iushr X177.here hx rfl (hb hby at_40) rfl ?_
    show Steps p.tables e below (T177.setTop (mkF m 41 #[.val (.int p0), .val (.int p1), .val (.int p2), .val (.long p3), .second, .val (.int p4), .val (.int mc), .val (.int ec), .val (.int (p2 &&& (255 : Int32))), .val (.int ((XT.ushr p2 (8 : Int32)) &&& (255 : Int32))), .unset, .unset, .unset, .unset, .unset, .unset, .unset, .unset, .unset, .unset] [(.int (XT.ushr p2 (16 : Int32)))])) _
    refine XS.sipush X177.here hx rfl (hb hby at_41) ?_
    show Steps p.tables e below (T177.setTop (mkF m 44 #[.val (.int p0), .val (.int p1), .val (.int p2), .val (.long p3), .second, .val (.int p4), .val (.int mc), .val (.int ec), .val (.int (p2 &&& (255 : Int32))), .val (.int ((XT.ushr p2 (8 : Int32)) &&& (255 : Int32))), .unset, .unset, .unset, .unset, .unset, .unset, .unset, .unset, .unset, .unset] [(.int (255 : Int32)), (.int (XT.ushr p2 (16 : Int32)))])) _
    refine XS.iand X177.here hx rfl (hb hby at_44) rfl ?_
    show Steps p.tables e below (T177.setTop (mkF m 45 #[.val (.int p0), .val (.int p1), .val (.int p2), .val (.long p3), .second, .val (.int p4), .val (.int mc), .val (.int ec), .val (.int (p2 &&& (255 : Int32))), .val (.int ((XT.ushr p2 (8 : Int32)) &&& (255 : Int32))), .unset, .unset, .unset, .unset, .unset, .unset, .unset, .unset, .unset, .unset] [(.int ((XT.ushr p2 (16 : Int32)) &&& (255 : Int32)))])) _
    refine XS.istore X177.here hx rfl (hb hby at_45) rfl (l' := #[.val (.int p0), .val (.int p1), .val (.int p2), .val (.long p3), .second, .val (.int p4), .val (.int mc), .val (.int ec), .val (.int (p2 &&& (255 : Int32))), .val (.int ((XT.ushr p2 (8 : Int32)) &&& (255 : Int32))), .val (.int ((XT.ushr p2 (16 : Int32)) &&& (255 : Int32))), .unset, .unset, .unset, .unset, .unset, .unset, .unset, .unset, .unset]) rfl ?_
    show Steps p.tables e below (T177.setTop (mkF m 47 #[.val (.int p0), .val (.int p1), .val (.int p2), .val (.long p3), .second, .val (.int p4), .val (.int mc), .val (.int ec), .val (.int (p2 &&& (255 : Int32))), .val (.int ((XT.ushr p2 (8 : Int32)) &&& (255 : Int32))), .val (.int ((XT.ushr p2 (16 : Int32)) &&& (255 : Int32))), .unset, .unset, .unset, .unset, .unset, .unset, .unset, .unset, .unset] [])) _
    refine XS.iloadN X177.here hx rfl (hb hby at_47) rfl ?_
    show Steps p.tables e below (T177.setTop (mkF m 48 #[.val (.int p0), .val (.int p1), .val (.int p2), .val (.long p3), .second, .val (.int p4), .val (.int mc), .val (.int ec), .val (.int (p2 &&& (255 : Int32))), .val (.int ((XT.ushr p2 (8 : Int32)) &&& (255 : Int32))), .val (.int ((XT.ushr p2 (16 : Int32)) &&& (255 : Int32))), .unset, .unset, .unset, .unset, .unset, .unset, .unset, .unset, .unset] [(.int p2)])) _
    refine XS.bipush X177.here hx rfl (hb hby at_48) ?_
    show Steps p.tables e below (T177.setTop (mkF m 50 #[.val (.int p0), .val (.int p1), .val (.int p2), .val (.long p3), .second, .val (.int p4), .val (.int mc), .val (.int ec), .val (.int (p2 &&& (255 : Int32))), .val (.int ((XT.ushr p2 (8 : Int32)) &&& (255 : Int32))), .val (.int ((XT.ushr p2 (16 : Int32)) &&& (255 : Int32))), .unset, .unset, .unset, .unset, .unset, .unset, .unset, .unset, .unset] [(.int (24 : Int32)), (.int p2)])) _
    refine XT.iushr X177.here hx rfl (hb hby at_50) rfl ?_
    show Steps p.tables e below (T177.setTop (mkF m 51 #[.val (.int p0), .val (.int p1), .val (.int p2), .val (.long p3), .second, .val (.int p4), .val (.int mc), .val (.int ec), .val (.int (p2 &&& (255 : Int32))), .val (.int ((XT.ushr p2 (8 : Int32)) &&& (255 : Int32))), .val (.int ((XT.ushr p2 (16 : Int32)) &&& (255 : Int32))), .unset, .unset, .unset, .unset, .unset, .unset, .unset, .unset, .unset] [(.int (XT.ushr p2 (24 : Int32)))])) _
    refine XS.sipush X177.here hx rfl (hb hby at_51) ?_
    show Steps p.tables e below (T177.setTop (mkF m 54 #[.val (.int p0), .val (.int p1), .val (.int p2), .val (.long p3), .second, .val (.int p4), .val (.int mc), .val (.int ec), .val (.int (p2 &&& (255 : Int32))), .val (.int ((XT.ushr p2 (8 : Int32)) &&& (255 : Int32))), .val (.int ((XT.ushr p2 (16 : Int32)) &&& (255 : Int32))), .unset, .unset, .unset, .unset, .unset, .unset, .unset, .unset, .unset] [(.int (255 : Int32)), (.int (XT.ushr p2 (24 : Int32)))])) _
    refine XS.iand X177.here hx rfl (hb hby at_54) rfl ?_
    show Steps p.tables e below (T177.setTop (mkF m 55 #[.val (.int p0), .val (.int p1), .val (.int p2), .val (.long p3), .second, .val (.int p4), .val (.int mc), .val (.int ec), .val (.int (p2 &&& (255 : Int32))), .val (.int ((XT.ushr p2 (8 : Int32)) &&& (255 : Int32))), .val (.int ((XT.ushr p2 (16 : Int32)) &&& (255 : Int32))), .unset, .unset, .unset, .unset, .unset, .unset, .unset, .unset, .unset] [(.int ((XT.ushr p2 (24 : Int32)) &&& (255 : Int32)))])) _
    refine XS.istore X177.here hx rfl (hb hby at_55) rfl (l' := #[.val (.int p0), .val (.int p1), .val (.int p2), .val (.long p3), .second, .val (.int p4), .val (.int mc), .val (.int ec), .val (.int (p2 &&& (255 : Int32))), .val (.int ((XT.ushr p2 (8 : Int32)) &&& (255 : Int32))), .val (.int ((XT.ushr p2 (16 : Int32)) &&& (255 : Int32))), .val (.int ((XT.ushr p2 (24 : Int32)) &&& (255 : Int32))), .unset, .unset, .unset, .unset, .unset, .unset, .unset, .unset]) rfl ?_
    show Steps p.tables e below (T177.setTop (mkF m 57 #[.val (.int p0), .val (.int p1), .val (.int p2), .val (.long p3), .second, .val (.int p4), .val (.int mc), .val (.int ec), .val (.int (p2 &&& (255 : Int32))), .val (.int ((XT.ushr p2 (8 : Int32)) &&& (255 : Int32))), .val (.int ((XT.ushr p2 (16 : Int32)) &&& (255 : Int32))), .val (.int ((XT.ushr p2 (24 : Int32)) &&& (255 : Int32))), .unset, .unset, .unset, .unset, .unset, .unset, .unset, .unset] [])) _
    refine XS.iload X177.here hx rfl (hb hby at_57) rfl ?_
    show Steps p.tables e below (T177.setTop (mkF m 59 #[.val (.int p0), .val (.int p1), .val (.int p2), .val (.long p3), .second, .val (.int p4), .val (.int mc), .val (.int ec), .val (.int (p2 &&& (255 : Int32))), .val (.int ((XT.ushr p2 (8 : Int32)) &&& (255 : Int32))), .val (.int ((XT.ushr p2 (16 : Int32)) &&& (255 : Int32))), .val (.int ((XT.ushr p2 (24 : Int32)) &&& (255 : Int32))), .unset, .unset, .unset, .unset, .unset, .unset, .unset, .unset] [(.int p4)])) _
    refine XS.iconst X177.here hx rfl (hb hby at_59) ?_
    show Steps p.tables e below (T177.setTop (mkF m 60 #[.val (.int p0), .val (.int p1), .val (.int p2), .val (.long p3), .second, .val (.int p4), .val (.int mc), .val (.int ec), .val (.int (p2 &&& (255 : Int32))), .val (.int ((XT.ushr p2 (8 : Int32)) &&& (255 : Int32))), .val (.int ((XT.ushr p2 (16 : Int32)) &&& (255 : Int32))), .val (.int ((XT.ushr p2 (24 : Int32)) &&& (255 : Int32))), .unset, .unset, .unset, .unset, .unset, .unset, .unset, .unset] [(.int (1 : Int32)), (.int p4)])) _
    refine XS.iand X177.here hx rfl (hb hby at_60) rfl ?_
    exact kk_)
  obtain ⟨b1, hb180, J180⟩ : ∃ z : Int32, (z = 0 ∨ z = 1) ∧ own_Go p e below s₁ G T177 (mkF m 69 #[.val (.int p0), .val (.int p1), .val (.int p2), .val (.long p3), .second, .val (.int p4), .val (.int mc), .val (.int ec), .val (.int (p2 &&& (255 : Int32))), .val (.int ((XT.ushr p2 (8 : Int32)) &&& (255 : Int32))), .val (.int ((XT.ushr p2 (16 : Int32)) &&& (255 : Int32))), .val (.int ((XT.ushr p2 (24 : Int32)) &&& (255 : Int32))), .unset, .unset, .unset, .unset, .unset, .unset, .unset, .unset] [(.int z)]) := by
    by_cases hc : (p4 &&& (1 : Int32)) = 0
    · refine ⟨0, Or.inl rfl, ?_⟩
      have S181 : own_Go p e below s₁ G T177 (mkF m 69 #[.val (.int p0), .val (.int p1), .val (.int p2), .val (.long p3), .second, .val (.int p4), .val (.int mc), .val (.int ec), .val (.int (p2 &&& (255 : Int32))), .val (.int ((XT.ushr p2 (8 : Int32)) &&& (255 : Int32))), .val (.int ((XT.ushr p2 (16 : Int32)) &&& (255 : Int32))), .val (.int ((XT.ushr p2 (24 : Int32)) &&& (255 : Int32))), .unset, .unset, .unset, .unset, .unset, .unset, .unset, .unset] [(.int (0 : Int32))]) := fun tg_ kk_ => S179 tg_ (by
        refine XS.ifYes X177.here hx rfl (pc0 := 61) (pc' := 68) rfl (hb hby at_61) rfl (XT.i0_eq_t hc) (by decide) (by decide) ?_
        show Steps p.tables e below (T177.setTop (mkF m 68 #[.val (.int p0), .val (.int p1), .val (.int p2), .val (.long p3), .second, .val (.int p4), .val (.int mc), .val (.int ec), .val (.int (p2 &&& (255 : Int32))), .val (.int ((XT.ushr p2 (8 : Int32)) &&& (255 : Int32))), .val (.int ((XT.ushr p2 (16 : Int32)) &&& (255 : Int32))), .val (.int ((XT.ushr p2 (24 : Int32)) &&& (255 : Int32))), .unset, .unset, .unset, .unset, .unset, .unset, .unset, .unset] [])) _
        refine XS.iconst X177.here hx rfl (hb hby at_68) ?_
        exact kk_)
      exact S181
    · refine ⟨1, Or.inr rfl, ?_⟩
      have S182 : own_Go p e below s₁ G T177 (mkF m 69 #[.val (.int p0), .val (.int p1), .val (.int p2), .val (.long p3), .second, .val (.int p4), .val (.int mc), .val (.int ec), .val (.int (p2 &&& (255 : Int32))), .val (.int ((XT.ushr p2 (8 : Int32)) &&& (255 : Int32))), .val (.int ((XT.ushr p2 (16 : Int32)) &&& (255 : Int32))), .val (.int ((XT.ushr p2 (24 : Int32)) &&& (255 : Int32))), .unset, .unset, .unset, .unset, .unset, .unset, .unset, .unset] [(.int (1 : Int32))]) := fun tg_ kk_ => S179 tg_ (by
        refine XS.ifNo X177.here hx rfl (hb hby at_61) rfl (XT.i0_eq_f hc) ?_
        show Steps p.tables e below (T177.setTop (mkF m 64 #[.val (.int p0), .val (.int p1), .val (.int p2), .val (.long p3), .second, .val (.int p4), .val (.int mc), .val (.int ec), .val (.int (p2 &&& (255 : Int32))), .val (.int ((XT.ushr p2 (8 : Int32)) &&& (255 : Int32))), .val (.int ((XT.ushr p2 (16 : Int32)) &&& (255 : Int32))), .val (.int ((XT.ushr p2 (24 : Int32)) &&& (255 : Int32))), .unset, .unset, .unset, .unset, .unset, .unset, .unset, .unset] [])) _
        refine XS.iconst X177.here hx rfl (hb hby at_64) ?_
        show Steps p.tables e below (T177.setTop (mkF m 65 #[.val (.int p0), .val (.int p1), .val (.int p2), .val (.long p3), .second, .val (.int p4), .val (.int mc), .val (.int ec), .val (.int (p2 &&& (255 : Int32))), .val (.int ((XT.ushr p2 (8 : Int32)) &&& (255 : Int32))), .val (.int ((XT.ushr p2 (16 : Int32)) &&& (255 : Int32))), .val (.int ((XT.ushr p2 (24 : Int32)) &&& (255 : Int32))), .unset, .unset, .unset, .unset, .unset, .unset, .unset, .unset] [(.int (1 : Int32))])) _
        refine XS.goto X177.here hx rfl (pc0 := 65) (pc' := 69) rfl (hb hby at_65) (by decide) (by decide) ?_
        exact kk_)
      exact S182
  have S183 : own_Go p e below s₁ G T177 (mkF m 75 #[.val (.int p0), .val (.int p1), .val (.int p2), .val (.long p3), .second, .val (.int p4), .val (.int mc), .val (.int ec), .val (.int (p2 &&& (255 : Int32))), .val (.int ((XT.ushr p2 (8 : Int32)) &&& (255 : Int32))), .val (.int ((XT.ushr p2 (16 : Int32)) &&& (255 : Int32))), .val (.int ((XT.ushr p2 (24 : Int32)) &&& (255 : Int32))), .val (.int b1), .unset, .unset, .unset, .unset, .unset, .unset, .unset] [(.int (p4 &&& (2 : Int32)))]) := fun tg_ kk_ => J180 tg_ (by
    refine XS.istore X177.here hx rfl (hb hby at_69) rfl (l' := #[.val (.int p0), .val (.int p1), .val (.int p2), .val (.long p3), .second, .val (.int p4), .val (.int mc), .val (.int ec), .val (.int (p2 &&& (255 : Int32))), .val (.int ((XT.ushr p2 (8 : Int32)) &&& (255 : Int32))), .val (.int ((XT.ushr p2 (16 : Int32)) &&& (255 : Int32))), .val (.int ((XT.ushr p2 (24 : Int32)) &&& (255 : Int32))), .val (.int b1), .unset, .unset, .unset, .unset, .unset, .unset, .unset]) rfl ?_
    show Steps p.tables e below (T177.setTop (mkF m 71 #[.val (.int p0), .val (.int p1), .val (.int p2), .val (.long p3), .second, .val (.int p4), .val (.int mc), .val (.int ec), .val (.int (p2 &&& (255 : Int32))), .val (.int ((XT.ushr p2 (8 : Int32)) &&& (255 : Int32))), .val (.int ((XT.ushr p2 (16 : Int32)) &&& (255 : Int32))), .val (.int ((XT.ushr p2 (24 : Int32)) &&& (255 : Int32))), .val (.int b1), .unset, .unset, .unset, .unset, .unset, .unset, .unset] [])) _
    refine XS.iload X177.here hx rfl (hb hby at_71) rfl ?_
    show Steps p.tables e below (T177.setTop (mkF m 73 #[.val (.int p0), .val (.int p1), .val (.int p2), .val (.long p3), .second, .val (.int p4), .val (.int mc), .val (.int ec), .val (.int (p2 &&& (255 : Int32))), .val (.int ((XT.ushr p2 (8 : Int32)) &&& (255 : Int32))), .val (.int ((XT.ushr p2 (16 : Int32)) &&& (255 : Int32))), .val (.int ((XT.ushr p2 (24 : Int32)) &&& (255 : Int32))), .val (.int b1), .unset, .unset, .unset, .unset, .unset, .unset, .unset] [(.int p4)])) _
    refine XS.iconst X177.here hx rfl (hb hby at_73) ?_
    show Steps p.tables e below (T177.setTop (mkF m 74 #[.val (.int p0), .val (.int p1), .val (.int p2), .val (.long p3), .second, .val (.int p4), .val (.int mc), .val (.int ec), .val (.int (p2 &&& (255 : Int32))), .val (.int ((XT.ushr p2 (8 : Int32)) &&& (255 : Int32))), .val (.int ((XT.ushr p2 (16 : Int32)) &&& (255 : Int32))), .val (.int ((XT.ushr p2 (24 : Int32)) &&& (255 : Int32))), .val (.int b1), .unset, .unset, .unset, .unset, .unset, .unset, .unset] [(.int (2 : Int32)), (.int p4)])) _
    refine XS.iand X177.here hx rfl (hb hby at_74) rfl ?_
    exact kk_)
  obtain ⟨b2, hb184, J184⟩ : ∃ z : Int32, (z = 0 ∨ z = 1) ∧ own_Go p e below s₁ G T177 (mkF m 83 #[.val (.int p0), .val (.int p1), .val (.int p2), .val (.long p3), .second, .val (.int p4), .val (.int mc), .val (.int ec), .val (.int (p2 &&& (255 : Int32))), .val (.int ((XT.ushr p2 (8 : Int32)) &&& (255 : Int32))), .val (.int ((XT.ushr p2 (16 : Int32)) &&& (255 : Int32))), .val (.int ((XT.ushr p2 (24 : Int32)) &&& (255 : Int32))), .val (.int b1), .unset, .unset, .unset, .unset, .unset, .unset, .unset] [(.int z)]) := by
    by_cases hc : (p4 &&& (2 : Int32)) = 0
    · refine ⟨0, Or.inl rfl, ?_⟩
      have S185 : own_Go p e below s₁ G T177 (mkF m 83 #[.val (.int p0), .val (.int p1), .val (.int p2), .val (.long p3), .second, .val (.int p4), .val (.int mc), .val (.int ec), .val (.int (p2 &&& (255 : Int32))), .val (.int ((XT.ushr p2 (8 : Int32)) &&& (255 : Int32))), .val (.int ((XT.ushr p2 (16 : Int32)) &&& (255 : Int32))), .val (.int ((XT.ushr p2 (24 : Int32)) &&& (255 : Int32))), .val (.int b1), .unset, .unset, .unset, .unset, .unset, .unset, .unset] [(.int (0 : Int32))]) := fun tg_ kk_ => S183 tg_ (by
        refine XS.ifYes X177.here hx rfl (pc0 := 75) (pc' := 82) rfl (hb hby at_75) rfl (XT.i0_eq_t hc) (by decide) (by decide) ?_
        show Steps p.tables e below (T177.setTop (mkF m 82 #[.val (.int p0), .val (.int p1), .val (.int p2), .val (.long p3), .second, .val (.int p4), .val (.int mc), .val (.int ec), .val (.int (p2 &&& (255 : Int32))), .val (.int ((XT.ushr p2 (8 : Int32)) &&& (255 : Int32))), .val (.int ((XT.ushr p2 (16 : Int32)) &&& (255 : Int32))), .val (.int ((XT.ushr p2 (24 : Int32)) &&& (255 : Int32))), .val (.int b1), .unset, .unset, .unset, .unset, .unset, .unset, .unset] [])) _
        refine XS.iconst X177.here hx rfl (hb hby at_82) ?_
        exact kk_)
      exact S185
    · refine ⟨1, Or.inr rfl, ?_⟩
      have S186 : own_Go p e below s₁ G T177 (mkF m 83 #[.val (.int p0), .val (.int p1), .val (.int p2), .val (.long p3), .second, .val (.int p4), .val (.int mc), .val (.int ec), .val (.int (p2 &&& (255 : Int32))), .val (.int ((XT.ushr p2 (8 : Int32)) &&& (255 : Int32))), .val (.int ((XT.ushr p2 (16 : Int32)) &&& (255 : Int32))), .val (.int ((XT.ushr p2 (24 : Int32)) &&& (255 : Int32))), .val (.int b1), .unset, .unset, .unset, .unset, .unset, .unset, .unset] [(.int (1 : Int32))]) := fun tg_ kk_ => S183 tg_ (by
        refine XS.ifNo X177.here hx rfl (hb hby at_75) rfl (XT.i0_eq_f hc) ?_
        show Steps p.tables e below (T177.setTop (mkF m 78 #[.val (.int p0), .val (.int p1), .val (.int p2), .val (.long p3), .second, .val (.int p4), .val (.int mc), .val (.int ec), .val (.int (p2 &&& (255 : Int32))), .val (.int ((XT.ushr p2 (8 : Int32)) &&& (255 : Int32))), .val (.int ((XT.ushr p2 (16 : Int32)) &&& (255 : Int32))), .val (.int ((XT.ushr p2 (24 : Int32)) &&& (255 : Int32))), .val (.int b1), .unset, .unset, .unset, .unset, .unset, .unset, .unset] [])) _
        refine XS.iconst X177.here hx rfl (hb hby at_78) ?_
        show Steps p.tables e below (T177.setTop (mkF m 79 #[.val (.int p0), .val (.int p1), .val (.int p2), .val (.long p3), .second, .val (.int p4), .val (.int mc), .val (.int ec), .val (.int (p2 &&& (255 : Int32))), .val (.int ((XT.ushr p2 (8 : Int32)) &&& (255 : Int32))), .val (.int ((XT.ushr p2 (16 : Int32)) &&& (255 : Int32))), .val (.int ((XT.ushr p2 (24 : Int32)) &&& (255 : Int32))), .val (.int b1), .unset, .unset, .unset, .unset, .unset, .unset, .unset] [(.int (1 : Int32))])) _
        refine XS.goto X177.here hx rfl (pc0 := 79) (pc' := 83) rfl (hb hby at_79) (by decide) (by decide) ?_
        exact kk_)
      exact S186
  have S187 : own_Go p e below s₁ G T177 (mkF m 85 #[.val (.int p0), .val (.int p1), .val (.int p2), .val (.long p3), .second, .val (.int p4), .val (.int mc), .val (.int ec), .val (.int (p2 &&& (255 : Int32))), .val (.int ((XT.ushr p2 (8 : Int32)) &&& (255 : Int32))), .val (.int ((XT.ushr p2 (16 : Int32)) &&& (255 : Int32))), .val (.int ((XT.ushr p2 (24 : Int32)) &&& (255 : Int32))), .val (.int b1), .val (.int b2), .unset, .unset, .unset, .unset, .unset, .unset] []) := fun tg_ kk_ => J184 tg_ (by
    refine XS.istore X177.here hx rfl (hb hby at_83) rfl (l' := #[.val (.int p0), .val (.int p1), .val (.int p2), .val (.long p3), .second, .val (.int p4), .val (.int mc), .val (.int ec), .val (.int (p2 &&& (255 : Int32))), .val (.int ((XT.ushr p2 (8 : Int32)) &&& (255 : Int32))), .val (.int ((XT.ushr p2 (16 : Int32)) &&& (255 : Int32))), .val (.int ((XT.ushr p2 (24 : Int32)) &&& (255 : Int32))), .val (.int b1), .val (.int b2), .unset, .unset, .unset, .unset, .unset, .unset]) rfl ?_
    exact kk_)
  obtain ⟨T188, h188, X188, e188, E188, A188, D188, -, st188⟩ := newO X177 hx hZ hown (hw _ (List.mem_of_getElem? (i := 5) rfl)) (hw _ (List.mem_of_getElem? (i := 6) rfl)) (hw _ (List.mem_of_getElem? (i := 7) rfl)) e177 (g := (mkF m 85 #[.val (.int p0), .val (.int p1), .val (.int p2), .val (.long p3), .second, .val (.int p4), .val (.int mc), .val (.int ec), .val (.int (p2 &&& (255 : Int32))), .val (.int ((XT.ushr p2 (8 : Int32)) &&& (255 : Int32))), .val (.int ((XT.ushr p2 (16 : Int32)) &&& (255 : Int32))), .val (.int ((XT.ushr p2 (24 : Int32)) &&& (255 : Int32))), .val (.int b1), .val (.int b2), .unset, .unset, .unset, .unset, .unset, .unset] [])) rfl (hb hby at_85) (by decide) (by decide)
  obtain ⟨a188, g188⟩ : ∃ z, z = h0.size := ⟨_, rfl⟩
  rw [← g188] at A188 D188 st188
  have S189 : own_Go p e below s₁ G T188 (mkF m 88 #[.val (.int p0), .val (.int p1), .val (.int p2), .val (.long p3), .second, .val (.int p4), .val (.int mc), .val (.int ec), .val (.int (p2 &&& (255 : Int32))), .val (.int ((XT.ushr p2 (8 : Int32)) &&& (255 : Int32))), .val (.int ((XT.ushr p2 (16 : Int32)) &&& (255 : Int32))), .val (.int ((XT.ushr p2 (24 : Int32)) &&& (255 : Int32))), .val (.int b1), .val (.int b2), .unset, .unset, .unset, .unset, .unset, .unset] [(.ref a188)]) := fun tg_ kk_ => S187 tg_ (st188 tg_ kk_)
  have S0x : own_Set Z h188 a188 0 0 0 0 0 0 0 0 := ⟨A188, D188 (Or.inr (hw _ (List.mem_of_getElem? (i := 19) rfl))) (ty := .int) (by decide), D188 (Or.inr (hw _ (List.mem_of_getElem? (i := 21) rfl))) (ty := .int) (by decide), D188 (Or.inl (hw _ (List.mem_of_getElem? (i := 15) rfl))) (ty := .double) (by decide), D188 (Or.inl (hw _ (List.mem_of_getElem? (i := 32) rfl))) (ty := .double) (by decide), D188 (Or.inl (hw _ (List.mem_of_getElem? (i := 34) rfl))) (ty := .double) (by decide), D188 (Or.inl (hw _ (List.mem_of_getElem? (i := 36) rfl))) (ty := .double) (by decide), D188 (Or.inl (hw _ (List.mem_of_getElem? (i := 17) rfl))) (ty := .long) (by decide), D188 (Or.inl (hw _ (List.mem_of_getElem? (i := 38) rfl))) (ty := .boolean) (by decide)⟩
  have ha : n0 ≤ a188 := Nat.le_trans Z0 (Nat.le_of_eq g188.symm)
  have Z1 : n0 ≤ h188.size := Nat.le_trans Z0 E188.1
  have S190 : own_Go p e below s₁ G T188 (mkF m 93 #[.val (.int p0), .val (.int p1), .val (.int p2), .val (.long p3), .second, .val (.int p4), .val (.int mc), .val (.int ec), .val (.int (p2 &&& (255 : Int32))), .val (.int ((XT.ushr p2 (8 : Int32)) &&& (255 : Int32))), .val (.int ((XT.ushr p2 (16 : Int32)) &&& (255 : Int32))), .val (.int ((XT.ushr p2 (24 : Int32)) &&& (255 : Int32))), .val (.int b1), .val (.int b2), .unset, .unset, .unset, .unset, .unset, .unset] [(.int ec), (.int mc), (.ref a188), (.ref a188)]) := fun tg_ kk_ => S189 tg_ (by
    refine XS.dup X188.here hx rfl (hb hby at_88) rfl rfl ?_
    show Steps p.tables e below (T188.setTop (mkF m 89 #[.val (.int p0), .val (.int p1), .val (.int p2), .val (.long p3), .second, .val (.int p4), .val (.int mc), .val (.int ec), .val (.int (p2 &&& (255 : Int32))), .val (.int ((XT.ushr p2 (8 : Int32)) &&& (255 : Int32))), .val (.int ((XT.ushr p2 (16 : Int32)) &&& (255 : Int32))), .val (.int ((XT.ushr p2 (24 : Int32)) &&& (255 : Int32))), .val (.int b1), .val (.int b2), .unset, .unset, .unset, .unset, .unset, .unset] [(.ref a188), (.ref a188)])) _
    refine XS.iload X188.here hx rfl (hb hby at_89) rfl ?_
    show Steps p.tables e below (T188.setTop (mkF m 91 #[.val (.int p0), .val (.int p1), .val (.int p2), .val (.long p3), .second, .val (.int p4), .val (.int mc), .val (.int ec), .val (.int (p2 &&& (255 : Int32))), .val (.int ((XT.ushr p2 (8 : Int32)) &&& (255 : Int32))), .val (.int ((XT.ushr p2 (16 : Int32)) &&& (255 : Int32))), .val (.int ((XT.ushr p2 (24 : Int32)) &&& (255 : Int32))), .val (.int b1), .val (.int b2), .unset, .unset, .unset, .unset, .unset, .unset] [(.int mc), (.ref a188), (.ref a188)])) _
    refine XS.iload X188.here hx rfl (hb hby at_91) rfl ?_
    exact kk_)
  obtain ⟨_, T191, h191, L191, X191, e191, hQ191, st191⟩ := own_callI X188 hx hZ (y := (⟨"com/example/locks_over_messages/locksovermessages/Simulation$Settings", "<init>", "(II)V"⟩ : MethodName)) rfl hown (hw _ (List.mem_of_getElem? (i := 8) rfl)) (hw _ (List.mem_of_getElem? (i := 9) rfl)) (hw _ (List.mem_of_getElem? (i := 7) rfl)) (hw _ (List.mem_of_getElem? (i := 10) rfl)) (by decide) 1 (g := (mkF m 93 #[.val (.int p0), .val (.int p1), .val (.int p2), .val (.long p3), .second, .val (.int p4), .val (.int mc), .val (.int ec), .val (.int (p2 &&& (255 : Int32))), .val (.int ((XT.ushr p2 (8 : Int32)) &&& (255 : Int32))), .val (.int ((XT.ushr p2 (16 : Int32)) &&& (255 : Int32))), .val (.int ((XT.ushr p2 (24 : Int32)) &&& (255 : Int32))), .val (.int b1), .val (.int b2), .unset, .unset, .unset, .unset, .unset, .unset] [(.int ec), (.int mc), (.ref a188), (.ref a188)])) rfl (by rw [hml]; rfl) a188 [(.int mc), (.int ec)] [(.ref a188)] (rm2 l Z a0 hw [] a188 mc ec h188 n0 Z1 S0x ha hm1 hm2) (lenOf pd3 rfl) rfl (by show 2 * 0 + _ ≤ _; exact Nat.le_of_eq rfl) (hb hby at_93) (by decide) (by decide) e188 (by decide) (by decide)
  obtain ⟨rfl, N191, K191, S191x⟩ := hQ191
  have S192 : own_Go p e below s₁ G T191 (mkF m 96 #[.val (.int p0), .val (.int p1), .val (.int p2), .val (.long p3), .second, .val (.int p4), .val (.int mc), .val (.int ec), .val (.int (p2 &&& (255 : Int32))), .val (.int ((XT.ushr p2 (8 : Int32)) &&& (255 : Int32))), .val (.int ((XT.ushr p2 (16 : Int32)) &&& (255 : Int32))), .val (.int ((XT.ushr p2 (24 : Int32)) &&& (255 : Int32))), .val (.int b1), .val (.int b2), .unset, .unset, .unset, .unset, .unset, .unset] [(.ref a188)]) := fun tg_ kk_ => S190 tg_ (st191 tg_ kk_)
  have NN191 := Fr.app NN177 N191
  have Zx191 : n0 ≤ h191.size := Nat.le_trans Z1 K191.1
  have S193 : own_Go p e below s₁ G T191 (mkF m 99 #[.val (.int p0), .val (.int p1), .val (.int p2), .val (.long p3), .second, .val (.int p4), .val (.int mc), .val (.int ec), .val (.int (p2 &&& (255 : Int32))), .val (.int ((XT.ushr p2 (8 : Int32)) &&& (255 : Int32))), .val (.int ((XT.ushr p2 (16 : Int32)) &&& (255 : Int32))), .val (.int ((XT.ushr p2 (24 : Int32)) &&& (255 : Int32))), .val (.int b1), .val (.int b2), .unset, .unset, .unset, .unset, .unset, .unset] [(.double (FP.i2d (p2 &&& (255 : Int32)))), (.ref a188)]) := fun tg_ kk_ => S192 tg_ (by
    refine XS.iload X191.here hx rfl (hb hby at_96) rfl ?_
    show Steps p.tables e below (T191.setTop (mkF m 98 #[.val (.int p0), .val (.int p1), .val (.int p2), .val (.long p3), .second, .val (.int p4), .val (.int mc), .val (.int ec), .val (.int (p2 &&& (255 : Int32))), .val (.int ((XT.ushr p2 (8 : Int32)) &&& (255 : Int32))), .val (.int ((XT.ushr p2 (16 : Int32)) &&& (255 : Int32))), .val (.int ((XT.ushr p2 (24 : Int32)) &&& (255 : Int32))), .val (.int b1), .val (.int b2), .unset, .unset, .unset, .unset, .unset, .unset] [(.int (p2 &&& (255 : Int32))), (.ref a188)])) _
    refine XS.i2dS X191.here hx rfl (hb hby at_98) rfl rfl ?_
    exact kk_)
  have XW : Stand p l e room_1 (s.setVm s.vm) m #[(.int p0), (.int p1), (.int p2), (.long p3), (.int p4)] below meth c T191 _ _ _ := X191
  have hSW : s.Since s.vm 0 := (State.WarmedH.refl s).since 0
  have ht2 : own_Time (FP.i2d (p2 &&& (255 : Int32))) := own_time p2
  obtain ⟨_, T194, h194, L194, X194, e194, hS194, hZ194, hown194, hQ194, st194⟩ := own_callVS XW hx hZ (y := (⟨"com/example/locks_over_messages/locksovermessages/Simulation$Settings", "withHold", "(D)Lcom/example/locks_over_messages/locksovermessages/Simulation$Settings;"⟩ : MethodName)) hown (hw _ (List.mem_of_getElem? (i := 22) rfl)) (hw _ (List.mem_of_getElem? (i := 23) rfl)) (hw _ (List.mem_of_getElem? (i := 25) rfl)) (hw _ (List.mem_of_getElem? (i := 24) rfl)) (hw _ (List.mem_of_getElem? (i := 7) rfl)) (hw _ (List.mem_of_getElem? (i := 26) rfl)) (by decide) 0 (g := (mkF m 99 #[.val (.int p0), .val (.int p1), .val (.int p2), .val (.long p3), .second, .val (.int p4), .val (.int mc), .val (.int ec), .val (.int (p2 &&& (255 : Int32))), .val (.int ((XT.ushr p2 (8 : Int32)) &&& (255 : Int32))), .val (.int ((XT.ushr p2 (16 : Int32)) &&& (255 : Int32))), .val (.int ((XT.ushr p2 (24 : Int32)) &&& (255 : Int32))), .val (.int b1), .val (.int b2), .unset, .unset, .unset, .unset, .unset, .unset] [(.double (FP.i2d (p2 &&& (255 : Int32)))), (.ref a188)])) rfl (by rw [hml]; rfl) a188 S191x.1 [(.double (FP.i2d (p2 &&& (255 : Int32))))] [] (rm4 l Z a0 hw [] a188 (FP.i2d (p2 &&& (255 : Int32))) mc ec (FP.dconst1) 0 0 0 1 0 h191 n0 Zx191 S191x (Or.inl rfl) ht2) (lenOf pd5 rfl) rfl (by show 2 * 0 + _ ≤ _; exact Nat.le_of_eq rfl) (hb hby at_99) (by decide) (by decide) e191 (by decide) (by decide) hSW (Nat.zero_le _)
  obtain ⟨rfl, N194, K194, S194x⟩ := hQ194
  have S195 : own_Go p e below s₁ G T194 (mkF m 102 #[.val (.int p0), .val (.int p1), .val (.int p2), .val (.long p3), .second, .val (.int p4), .val (.int mc), .val (.int ec), .val (.int (p2 &&& (255 : Int32))), .val (.int ((XT.ushr p2 (8 : Int32)) &&& (255 : Int32))), .val (.int ((XT.ushr p2 (16 : Int32)) &&& (255 : Int32))), .val (.int ((XT.ushr p2 (24 : Int32)) &&& (255 : Int32))), .val (.int b1), .val (.int b2), .unset, .unset, .unset, .unset, .unset, .unset] [(.ref h191.size)]) := fun tg_ kk_ => S193 tg_ (st194 tg_ kk_)
  have NN194 := Fr.app NN191 N194
  obtain ⟨c194, gc194⟩ : ∃ z, z = h191.size := ⟨_, rfl⟩
  rw [← gc194] at S195
  rw [← gc194] at S194x
  have Zx194 : n0 ≤ h194.size := Nat.le_trans Zx191 K194.1
  have S196 : own_Go p e below s₁ G T194 (mkF m 105 #[.val (.int p0), .val (.int p1), .val (.int p2), .val (.long p3), .second, .val (.int p4), .val (.int mc), .val (.int ec), .val (.int (p2 &&& (255 : Int32))), .val (.int ((XT.ushr p2 (8 : Int32)) &&& (255 : Int32))), .val (.int ((XT.ushr p2 (16 : Int32)) &&& (255 : Int32))), .val (.int ((XT.ushr p2 (24 : Int32)) &&& (255 : Int32))), .val (.int b1), .val (.int b2), .unset, .unset, .unset, .unset, .unset, .unset] [(.double (FP.i2d ((XT.ushr p2 (8 : Int32)) &&& (255 : Int32)))), (.ref c194)]) := fun tg_ kk_ => S195 tg_ (by
    refine XS.iload X194.here hx rfl (hb hby at_102) rfl ?_
    show Steps p.tables e below (T194.setTop (mkF m 104 #[.val (.int p0), .val (.int p1), .val (.int p2), .val (.long p3), .second, .val (.int p4), .val (.int mc), .val (.int ec), .val (.int (p2 &&& (255 : Int32))), .val (.int ((XT.ushr p2 (8 : Int32)) &&& (255 : Int32))), .val (.int ((XT.ushr p2 (16 : Int32)) &&& (255 : Int32))), .val (.int ((XT.ushr p2 (24 : Int32)) &&& (255 : Int32))), .val (.int b1), .val (.int b2), .unset, .unset, .unset, .unset, .unset, .unset] [(.int ((XT.ushr p2 (8 : Int32)) &&& (255 : Int32))), (.ref c194)])) _
    refine XS.i2dS X194.here hx rfl (hb hby at_104) rfl rfl ?_
    exact kk_)
  have ht3 : own_Time (FP.i2d ((XT.ushr p2 (8 : Int32)) &&& (255 : Int32))) := own_time (XT.ushr p2 (8 : Int32))
  obtain ⟨_, T197, h197, L197, X197, e197, hS197, hZ197, hown197, hQ197, st197⟩ := own_callVS X194 hx hZ194 (y := (⟨"com/example/locks_over_messages/locksovermessages/Simulation$Settings", "withThink", "(D)Lcom/example/locks_over_messages/locksovermessages/Simulation$Settings;"⟩ : MethodName)) hown194 (hw _ (List.mem_of_getElem? (i := 58) rfl)) (hw _ (List.mem_of_getElem? (i := 59) rfl)) (hw _ (List.mem_of_getElem? (i := 61) rfl)) (hw _ (List.mem_of_getElem? (i := 60) rfl)) (hw _ (List.mem_of_getElem? (i := 7) rfl)) (hw _ (List.mem_of_getElem? (i := 62) rfl)) (by decide) 0 (g := (mkF m 105 #[.val (.int p0), .val (.int p1), .val (.int p2), .val (.long p3), .second, .val (.int p4), .val (.int mc), .val (.int ec), .val (.int (p2 &&& (255 : Int32))), .val (.int ((XT.ushr p2 (8 : Int32)) &&& (255 : Int32))), .val (.int ((XT.ushr p2 (16 : Int32)) &&& (255 : Int32))), .val (.int ((XT.ushr p2 (24 : Int32)) &&& (255 : Int32))), .val (.int b1), .val (.int b2), .unset, .unset, .unset, .unset, .unset, .unset] [(.double (FP.i2d ((XT.ushr p2 (8 : Int32)) &&& (255 : Int32)))), (.ref c194)])) rfl (by rw [hml]; rfl) c194 S194x.1 [(.double (FP.i2d ((XT.ushr p2 (8 : Int32)) &&& (255 : Int32))))] [] (rm9 l Z a0 hw [] c194 (FP.i2d ((XT.ushr p2 (8 : Int32)) &&& (255 : Int32))) mc ec (FP.i2d (p2 &&& (255 : Int32))) 0 0 0 1 0 h194 n0 Zx194 S194x (Or.inl rfl) ht3) (lenOf pd5 rfl) rfl (by show 2 * 0 + _ ≤ _; exact Nat.le_of_eq rfl) (hb hby at_105) (by decide) (by decide) e194 (by decide) (by decide) hS194 (Nat.le_refl _)
  obtain ⟨rfl, N197, K197, S197x⟩ := hQ197
  have S198 : own_Go p e below s₁ G T197 (mkF m 108 #[.val (.int p0), .val (.int p1), .val (.int p2), .val (.long p3), .second, .val (.int p4), .val (.int mc), .val (.int ec), .val (.int (p2 &&& (255 : Int32))), .val (.int ((XT.ushr p2 (8 : Int32)) &&& (255 : Int32))), .val (.int ((XT.ushr p2 (16 : Int32)) &&& (255 : Int32))), .val (.int ((XT.ushr p2 (24 : Int32)) &&& (255 : Int32))), .val (.int b1), .val (.int b2), .unset, .unset, .unset, .unset, .unset, .unset] [(.ref h194.size)]) := fun tg_ kk_ => S196 tg_ (st197 tg_ kk_)
  have NN197 := Fr.app NN194 N197
  obtain ⟨c197, gc197⟩ : ∃ z, z = h194.size := ⟨_, rfl⟩
  rw [← gc197] at S198
  rw [← gc197] at S197x
  have Zx197 : n0 ≤ h197.size := Nat.le_trans Zx194 K197.1
  have S199 : own_Go p e below s₁ G T197 (mkF m 111 #[.val (.int p0), .val (.int p1), .val (.int p2), .val (.long p3), .second, .val (.int p4), .val (.int mc), .val (.int ec), .val (.int (p2 &&& (255 : Int32))), .val (.int ((XT.ushr p2 (8 : Int32)) &&& (255 : Int32))), .val (.int ((XT.ushr p2 (16 : Int32)) &&& (255 : Int32))), .val (.int ((XT.ushr p2 (24 : Int32)) &&& (255 : Int32))), .val (.int b1), .val (.int b2), .unset, .unset, .unset, .unset, .unset, .unset] [(.double (FP.i2d ((XT.ushr p2 (16 : Int32)) &&& (255 : Int32)))), (.ref c197)]) := fun tg_ kk_ => S198 tg_ (by
    refine XS.iload X197.here hx rfl (hb hby at_108) rfl ?_
    show Steps p.tables e below (T197.setTop (mkF m 110 #[.val (.int p0), .val (.int p1), .val (.int p2), .val (.long p3), .second, .val (.int p4), .val (.int mc), .val (.int ec), .val (.int (p2 &&& (255 : Int32))), .val (.int ((XT.ushr p2 (8 : Int32)) &&& (255 : Int32))), .val (.int ((XT.ushr p2 (16 : Int32)) &&& (255 : Int32))), .val (.int ((XT.ushr p2 (24 : Int32)) &&& (255 : Int32))), .val (.int b1), .val (.int b2), .unset, .unset, .unset, .unset, .unset, .unset] [(.int ((XT.ushr p2 (16 : Int32)) &&& (255 : Int32))), (.ref c197)])) _
    refine XS.i2dS X197.here hx rfl (hb hby at_110) rfl rfl ?_
    exact kk_)
  have ht4 : own_Time (FP.i2d ((XT.ushr p2 (16 : Int32)) &&& (255 : Int32))) := own_time (XT.ushr p2 (16 : Int32))
  obtain ⟨_, T200, h200, L200, X200, e200, hS200, hZ200, hown200, hQ200, st200⟩ := own_callVS X197 hx hZ197 (y := (⟨"com/example/locks_over_messages/locksovermessages/Simulation$Settings", "withStagger", "(D)Lcom/example/locks_over_messages/locksovermessages/Simulation$Settings;"⟩ : MethodName)) hown197 (hw _ (List.mem_of_getElem? (i := 64) rfl)) (hw _ (List.mem_of_getElem? (i := 65) rfl)) (hw _ (List.mem_of_getElem? (i := 67) rfl)) (hw _ (List.mem_of_getElem? (i := 66) rfl)) (hw _ (List.mem_of_getElem? (i := 7) rfl)) (hw _ (List.mem_of_getElem? (i := 68) rfl)) (by decide) 0 (g := (mkF m 111 #[.val (.int p0), .val (.int p1), .val (.int p2), .val (.long p3), .second, .val (.int p4), .val (.int mc), .val (.int ec), .val (.int (p2 &&& (255 : Int32))), .val (.int ((XT.ushr p2 (8 : Int32)) &&& (255 : Int32))), .val (.int ((XT.ushr p2 (16 : Int32)) &&& (255 : Int32))), .val (.int ((XT.ushr p2 (24 : Int32)) &&& (255 : Int32))), .val (.int b1), .val (.int b2), .unset, .unset, .unset, .unset, .unset, .unset] [(.double (FP.i2d ((XT.ushr p2 (16 : Int32)) &&& (255 : Int32)))), (.ref c197)])) rfl (by rw [hml]; rfl) c197 S197x.1 [(.double (FP.i2d ((XT.ushr p2 (16 : Int32)) &&& (255 : Int32))))] [] (rm10 l Z a0 hw [] c197 (FP.i2d ((XT.ushr p2 (16 : Int32)) &&& (255 : Int32))) mc ec (FP.i2d (p2 &&& (255 : Int32))) (FP.i2d ((XT.ushr p2 (8 : Int32)) &&& (255 : Int32))) 0 0 1 0 h197 n0 Zx197 S197x (Or.inl rfl) ht4) (lenOf pd5 rfl) rfl (by show 2 * 0 + _ ≤ _; exact Nat.le_of_eq rfl) (hb hby at_111) (by decide) (by decide) e197 (by decide) (by decide) hS197 (Nat.le_refl _)
  obtain ⟨rfl, N200, K200, S200x⟩ := hQ200
  have S201 : own_Go p e below s₁ G T200 (mkF m 114 #[.val (.int p0), .val (.int p1), .val (.int p2), .val (.long p3), .second, .val (.int p4), .val (.int mc), .val (.int ec), .val (.int (p2 &&& (255 : Int32))), .val (.int ((XT.ushr p2 (8 : Int32)) &&& (255 : Int32))), .val (.int ((XT.ushr p2 (16 : Int32)) &&& (255 : Int32))), .val (.int ((XT.ushr p2 (24 : Int32)) &&& (255 : Int32))), .val (.int b1), .val (.int b2), .unset, .unset, .unset, .unset, .unset, .unset] [(.ref h197.size)]) := fun tg_ kk_ => S199 tg_ (st200 tg_ kk_)
  have NN200 := Fr.app NN197 N200
  obtain ⟨c200, gc200⟩ : ∃ z, z = h197.size := ⟨_, rfl⟩
  rw [← gc200] at S201
  rw [← gc200] at S200x
  have Zx200 : n0 ≤ h200.size := Nat.le_trans Zx197 K200.1
  have S202 : own_Go p e below s₁ G T200 (mkF m 117 #[.val (.int p0), .val (.int p1), .val (.int p2), .val (.long p3), .second, .val (.int p4), .val (.int mc), .val (.int ec), .val (.int (p2 &&& (255 : Int32))), .val (.int ((XT.ushr p2 (8 : Int32)) &&& (255 : Int32))), .val (.int ((XT.ushr p2 (16 : Int32)) &&& (255 : Int32))), .val (.int ((XT.ushr p2 (24 : Int32)) &&& (255 : Int32))), .val (.int b1), .val (.int b2), .unset, .unset, .unset, .unset, .unset, .unset] [(.double (FP.i2d ((XT.ushr p2 (24 : Int32)) &&& (255 : Int32)))), (.ref c200)]) := fun tg_ kk_ => S201 tg_ (by
    refine XS.iload X200.here hx rfl (hb hby at_114) rfl ?_
    show Steps p.tables e below (T200.setTop (mkF m 116 #[.val (.int p0), .val (.int p1), .val (.int p2), .val (.long p3), .second, .val (.int p4), .val (.int mc), .val (.int ec), .val (.int (p2 &&& (255 : Int32))), .val (.int ((XT.ushr p2 (8 : Int32)) &&& (255 : Int32))), .val (.int ((XT.ushr p2 (16 : Int32)) &&& (255 : Int32))), .val (.int ((XT.ushr p2 (24 : Int32)) &&& (255 : Int32))), .val (.int b1), .val (.int b2), .unset, .unset, .unset, .unset, .unset, .unset] [(.int ((XT.ushr p2 (24 : Int32)) &&& (255 : Int32))), (.ref c200)])) _
    refine XS.i2dS X200.here hx rfl (hb hby at_116) rfl rfl ?_
    exact kk_)
  have ht5 : own_Time (FP.i2d ((XT.ushr p2 (24 : Int32)) &&& (255 : Int32))) := own_time (XT.ushr p2 (24 : Int32))
  obtain ⟨_, T203, h203, L203, X203, e203, hS203, hZ203, hown203, hQ203, st203⟩ := own_callVS X200 hx hZ200 (y := (⟨"com/example/locks_over_messages/locksovermessages/Simulation$Settings", "withJitter", "(D)Lcom/example/locks_over_messages/locksovermessages/Simulation$Settings;"⟩ : MethodName)) hown200 (hw _ (List.mem_of_getElem? (i := 70) rfl)) (hw _ (List.mem_of_getElem? (i := 71) rfl)) (hw _ (List.mem_of_getElem? (i := 73) rfl)) (hw _ (List.mem_of_getElem? (i := 72) rfl)) (hw _ (List.mem_of_getElem? (i := 7) rfl)) (hw _ (List.mem_of_getElem? (i := 74) rfl)) (by decide) 0 (g := (mkF m 117 #[.val (.int p0), .val (.int p1), .val (.int p2), .val (.long p3), .second, .val (.int p4), .val (.int mc), .val (.int ec), .val (.int (p2 &&& (255 : Int32))), .val (.int ((XT.ushr p2 (8 : Int32)) &&& (255 : Int32))), .val (.int ((XT.ushr p2 (16 : Int32)) &&& (255 : Int32))), .val (.int ((XT.ushr p2 (24 : Int32)) &&& (255 : Int32))), .val (.int b1), .val (.int b2), .unset, .unset, .unset, .unset, .unset, .unset] [(.double (FP.i2d ((XT.ushr p2 (24 : Int32)) &&& (255 : Int32)))), (.ref c200)])) rfl (by rw [hml]; rfl) c200 S200x.1 [(.double (FP.i2d ((XT.ushr p2 (24 : Int32)) &&& (255 : Int32))))] [] (rm11 l Z a0 hw [] c200 (FP.i2d ((XT.ushr p2 (24 : Int32)) &&& (255 : Int32))) mc ec (FP.i2d (p2 &&& (255 : Int32))) (FP.i2d ((XT.ushr p2 (8 : Int32)) &&& (255 : Int32))) (FP.i2d ((XT.ushr p2 (16 : Int32)) &&& (255 : Int32))) 0 1 0 h200 n0 Zx200 S200x (Or.inl rfl) ht5) (lenOf pd5 rfl) rfl (by show 2 * 0 + _ ≤ _; exact Nat.le_of_eq rfl) (hb hby at_117) (by decide) (by decide) e200 (by decide) (by decide) hS200 (Nat.le_refl _)
  obtain ⟨rfl, N203, K203, S203x⟩ := hQ203
  have S204 : own_Go p e below s₁ G T203 (mkF m 120 #[.val (.int p0), .val (.int p1), .val (.int p2), .val (.long p3), .second, .val (.int p4), .val (.int mc), .val (.int ec), .val (.int (p2 &&& (255 : Int32))), .val (.int ((XT.ushr p2 (8 : Int32)) &&& (255 : Int32))), .val (.int ((XT.ushr p2 (16 : Int32)) &&& (255 : Int32))), .val (.int ((XT.ushr p2 (24 : Int32)) &&& (255 : Int32))), .val (.int b1), .val (.int b2), .unset, .unset, .unset, .unset, .unset, .unset] [(.ref h200.size)]) := fun tg_ kk_ => S202 tg_ (st203 tg_ kk_)
  have NN203 := Fr.app NN200 N203
  obtain ⟨c203, gc203⟩ : ∃ z, z = h200.size := ⟨_, rfl⟩
  rw [← gc203] at S204
  rw [← gc203] at S203x
  have Zx203 : n0 ≤ h203.size := Nat.le_trans Zx200 K203.1
  have S205 : own_Go p e below s₁ G T203 (mkF m 121 #[.val (.int p0), .val (.int p1), .val (.int p2), .val (.long p3), .second, .val (.int p4), .val (.int mc), .val (.int ec), .val (.int (p2 &&& (255 : Int32))), .val (.int ((XT.ushr p2 (8 : Int32)) &&& (255 : Int32))), .val (.int ((XT.ushr p2 (16 : Int32)) &&& (255 : Int32))), .val (.int ((XT.ushr p2 (24 : Int32)) &&& (255 : Int32))), .val (.int b1), .val (.int b2), .unset, .unset, .unset, .unset, .unset, .unset] [(.long p3), (.ref c203)]) := fun tg_ kk_ => S204 tg_ (by
    refine XT.lloadN X203.here hx rfl (hb hby at_120) rfl ?_
    exact kk_)
  obtain ⟨_, T206, h206, L206, X206, e206, hQ206, st206⟩ := own_callV X203 hx hZ203 (y := (⟨"com/example/locks_over_messages/locksovermessages/Simulation$Settings", "withSeed", "(J)Lcom/example/locks_over_messages/locksovermessages/Simulation$Settings;"⟩ : MethodName)) hown203 (hw _ (List.mem_of_getElem? (i := 76) rfl)) (hw _ (List.mem_of_getElem? (i := 77) rfl)) (hw _ (List.mem_of_getElem? (i := 79) rfl)) (hw _ (List.mem_of_getElem? (i := 78) rfl)) (hw _ (List.mem_of_getElem? (i := 7) rfl)) (hw _ (List.mem_of_getElem? (i := 80) rfl)) (by decide) 0 (g := (mkF m 121 #[.val (.int p0), .val (.int p1), .val (.int p2), .val (.long p3), .second, .val (.int p4), .val (.int mc), .val (.int ec), .val (.int (p2 &&& (255 : Int32))), .val (.int ((XT.ushr p2 (8 : Int32)) &&& (255 : Int32))), .val (.int ((XT.ushr p2 (16 : Int32)) &&& (255 : Int32))), .val (.int ((XT.ushr p2 (24 : Int32)) &&& (255 : Int32))), .val (.int b1), .val (.int b2), .unset, .unset, .unset, .unset, .unset, .unset] [(.long p3), (.ref c203)])) rfl (by rw [hml]; rfl) c203 S203x.1 [(.long p3)] [] (rm12 l Z a0 hw [] c203 p3 mc ec (FP.i2d (p2 &&& (255 : Int32))) (FP.i2d ((XT.ushr p2 (8 : Int32)) &&& (255 : Int32))) (FP.i2d ((XT.ushr p2 (16 : Int32)) &&& (255 : Int32))) (FP.i2d ((XT.ushr p2 (24 : Int32)) &&& (255 : Int32))) 1 0 h203 n0 Zx203 S203x (Or.inl rfl)) (lenOf pd10 rfl) rfl (by show 2 * 0 + _ ≤ _; exact Nat.le_of_eq rfl) (hb hby at_121) (by decide) (by decide) e203 (by decide) (by decide)
  obtain ⟨rfl, N206, K206, S206x⟩ := hQ206
  have S207 : own_Go p e below s₁ G T206 (mkF m 124 #[.val (.int p0), .val (.int p1), .val (.int p2), .val (.long p3), .second, .val (.int p4), .val (.int mc), .val (.int ec), .val (.int (p2 &&& (255 : Int32))), .val (.int ((XT.ushr p2 (8 : Int32)) &&& (255 : Int32))), .val (.int ((XT.ushr p2 (16 : Int32)) &&& (255 : Int32))), .val (.int ((XT.ushr p2 (24 : Int32)) &&& (255 : Int32))), .val (.int b1), .val (.int b2), .unset, .unset, .unset, .unset, .unset, .unset] [(.ref h203.size)]) := fun tg_ kk_ => S205 tg_ (st206 tg_ kk_)
  have NN206 := Fr.app NN203 N206
  obtain ⟨c206, gc206⟩ : ∃ z, z = h203.size := ⟨_, rfl⟩
  rw [← gc206] at S207
  rw [← gc206] at S206x
  have Zx206 : n0 ≤ h206.size := Nat.le_trans Zx203 K206.1
  have hk206 : _ ≤ h206.size := Nat.le_trans (Nat.le_refl _) K206.1
  have S208 : own_Go p e below s₁ G T206 (mkF m 126 #[.val (.int p0), .val (.int p1), .val (.int p2), .val (.long p3), .second, .val (.int p4), .val (.int mc), .val (.int ec), .val (.int (p2 &&& (255 : Int32))), .val (.int ((XT.ushr p2 (8 : Int32)) &&& (255 : Int32))), .val (.int ((XT.ushr p2 (16 : Int32)) &&& (255 : Int32))), .val (.int ((XT.ushr p2 (24 : Int32)) &&& (255 : Int32))), .val (.int b1), .val (.int b2), .unset, .unset, .unset, .unset, .unset, .unset] [(.int b1), (.ref c206)]) := fun tg_ kk_ => S207 tg_ (by
    refine XS.iload X206.here hx rfl (hb hby at_124) rfl ?_
    exact kk_)
  obtain ⟨_, T209, h209, L209, X209, e209, hQ209, st209⟩ := own_callV X206 hx hZ203 (y := (⟨"com/example/locks_over_messages/locksovermessages/Simulation$Settings", "withEntriesRecorded", "(Z)Lcom/example/locks_over_messages/locksovermessages/Simulation$Settings;"⟩ : MethodName)) hown203 (hw _ (List.mem_of_getElem? (i := 81) rfl)) (hw _ (List.mem_of_getElem? (i := 82) rfl)) (hw _ (List.mem_of_getElem? (i := 84) rfl)) (hw _ (List.mem_of_getElem? (i := 83) rfl)) (hw _ (List.mem_of_getElem? (i := 7) rfl)) (hw _ (List.mem_of_getElem? (i := 85) rfl)) (by decide) 0 (g := (mkF m 126 #[.val (.int p0), .val (.int p1), .val (.int p2), .val (.long p3), .second, .val (.int p4), .val (.int mc), .val (.int ec), .val (.int (p2 &&& (255 : Int32))), .val (.int ((XT.ushr p2 (8 : Int32)) &&& (255 : Int32))), .val (.int ((XT.ushr p2 (16 : Int32)) &&& (255 : Int32))), .val (.int ((XT.ushr p2 (24 : Int32)) &&& (255 : Int32))), .val (.int b1), .val (.int b2), .unset, .unset, .unset, .unset, .unset, .unset] [(.int b1), (.ref c206)])) rfl (by rw [hml]; rfl) c206 S206x.1 [(.int b1)] [] (rm13 l Z a0 hw [] c206 b1 mc ec (FP.i2d (p2 &&& (255 : Int32))) (FP.i2d ((XT.ushr p2 (8 : Int32)) &&& (255 : Int32))) (FP.i2d ((XT.ushr p2 (16 : Int32)) &&& (255 : Int32))) (FP.i2d ((XT.ushr p2 (24 : Int32)) &&& (255 : Int32))) p3 0 h206 n0 Zx206 S206x (Or.inl rfl) hb180) (lenOf pd11 rfl) rfl (by show 2 * 0 + _ ≤ _; exact Nat.le_of_eq rfl) (hb hby at_126) (by decide) (by decide) e206 (by decide) (by decide)
  obtain ⟨rfl, N209, K209, S209x⟩ := hQ209
  have S210 : own_Go p e below s₁ G T209 (mkF m 129 #[.val (.int p0), .val (.int p1), .val (.int p2), .val (.long p3), .second, .val (.int p4), .val (.int mc), .val (.int ec), .val (.int (p2 &&& (255 : Int32))), .val (.int ((XT.ushr p2 (8 : Int32)) &&& (255 : Int32))), .val (.int ((XT.ushr p2 (16 : Int32)) &&& (255 : Int32))), .val (.int ((XT.ushr p2 (24 : Int32)) &&& (255 : Int32))), .val (.int b1), .val (.int b2), .unset, .unset, .unset, .unset, .unset, .unset] [(.ref h206.size)]) := fun tg_ kk_ => S208 tg_ (st209 tg_ kk_)
  have NN209 := Fr.app NN206 N209
  obtain ⟨c209, gc209⟩ : ∃ z, z = h206.size := ⟨_, rfl⟩
  rw [← gc209] at S210
  rw [← gc209] at S209x
  have Zx209 : n0 ≤ h209.size := Nat.le_trans Zx206 K209.1
  have hk209 : _ ≤ h209.size := Nat.le_trans hk206 K209.1
  have S211 : own_Go p e below s₁ G T209 (mkF m 135 #[.val (.int p0), .val (.int p1), .val (.int p2), .val (.long p3), .second, .val (.int p4), .val (.int mc), .val (.int ec), .val (.int (p2 &&& (255 : Int32))), .val (.int ((XT.ushr p2 (8 : Int32)) &&& (255 : Int32))), .val (.int ((XT.ushr p2 (16 : Int32)) &&& (255 : Int32))), .val (.int ((XT.ushr p2 (24 : Int32)) &&& (255 : Int32))), .val (.int b1), .val (.int b2), .val (.ref c209), .unset, .unset, .unset, .unset, .unset] [(.int b2), (.ref c209)]) := fun tg_ kk_ => S210 tg_ (by
    refine XS.astore X209.here hx rfl (hb hby at_129) rfl rfl (l' := #[.val (.int p0), .val (.int p1), .val (.int p2), .val (.long p3), .second, .val (.int p4), .val (.int mc), .val (.int ec), .val (.int (p2 &&& (255 : Int32))), .val (.int ((XT.ushr p2 (8 : Int32)) &&& (255 : Int32))), .val (.int ((XT.ushr p2 (16 : Int32)) &&& (255 : Int32))), .val (.int ((XT.ushr p2 (24 : Int32)) &&& (255 : Int32))), .val (.int b1), .val (.int b2), .val (.ref c209), .unset, .unset, .unset, .unset, .unset]) rfl ?_
    show Steps p.tables e below (T209.setTop (mkF m 131 #[.val (.int p0), .val (.int p1), .val (.int p2), .val (.long p3), .second, .val (.int p4), .val (.int mc), .val (.int ec), .val (.int (p2 &&& (255 : Int32))), .val (.int ((XT.ushr p2 (8 : Int32)) &&& (255 : Int32))), .val (.int ((XT.ushr p2 (16 : Int32)) &&& (255 : Int32))), .val (.int ((XT.ushr p2 (24 : Int32)) &&& (255 : Int32))), .val (.int b1), .val (.int b2), .val (.ref c209), .unset, .unset, .unset, .unset, .unset] [])) _
    refine XS.aload X209.here hx rfl (hb hby at_131) rfl rfl ?_
    show Steps p.tables e below (T209.setTop (mkF m 133 #[.val (.int p0), .val (.int p1), .val (.int p2), .val (.long p3), .second, .val (.int p4), .val (.int mc), .val (.int ec), .val (.int (p2 &&& (255 : Int32))), .val (.int ((XT.ushr p2 (8 : Int32)) &&& (255 : Int32))), .val (.int ((XT.ushr p2 (16 : Int32)) &&& (255 : Int32))), .val (.int ((XT.ushr p2 (24 : Int32)) &&& (255 : Int32))), .val (.int b1), .val (.int b2), .val (.ref c209), .unset, .unset, .unset, .unset, .unset] [(.ref c209)])) _
    refine XS.iload X209.here hx rfl (hb hby at_133) rfl ?_
    exact kk_)
  obtain ⟨_, T212, h212, L212, X212, e212, hQ212, st212⟩ := own_callV X209 hx hZ203 (y := (⟨"com/example/locks_over_messages/locksovermessages/Simulation$Settings", "withEntriesRecorded", "(Z)Lcom/example/locks_over_messages/locksovermessages/Simulation$Settings;"⟩ : MethodName)) hown203 (hw _ (List.mem_of_getElem? (i := 81) rfl)) (hw _ (List.mem_of_getElem? (i := 82) rfl)) (hw _ (List.mem_of_getElem? (i := 84) rfl)) (hw _ (List.mem_of_getElem? (i := 83) rfl)) (hw _ (List.mem_of_getElem? (i := 7) rfl)) (hw _ (List.mem_of_getElem? (i := 85) rfl)) (by decide) 0 (g := (mkF m 135 #[.val (.int p0), .val (.int p1), .val (.int p2), .val (.long p3), .second, .val (.int p4), .val (.int mc), .val (.int ec), .val (.int (p2 &&& (255 : Int32))), .val (.int ((XT.ushr p2 (8 : Int32)) &&& (255 : Int32))), .val (.int ((XT.ushr p2 (16 : Int32)) &&& (255 : Int32))), .val (.int ((XT.ushr p2 (24 : Int32)) &&& (255 : Int32))), .val (.int b1), .val (.int b2), .val (.ref c209), .unset, .unset, .unset, .unset, .unset] [(.int b2), (.ref c209)])) rfl (by rw [hml]; rfl) c209 S209x.1 [(.int b2)] [] (rm13 l Z a0 hw [] c209 b2 mc ec (FP.i2d (p2 &&& (255 : Int32))) (FP.i2d ((XT.ushr p2 (8 : Int32)) &&& (255 : Int32))) (FP.i2d ((XT.ushr p2 (16 : Int32)) &&& (255 : Int32))) (FP.i2d ((XT.ushr p2 (24 : Int32)) &&& (255 : Int32))) p3 b1 h209 n0 Zx209 S209x hb180 hb184) (lenOf pd11 rfl) rfl (by show 2 * 0 + _ ≤ _; exact Nat.le_of_eq rfl) (hb hby at_135) (by decide) (by decide) e209 (by decide) (by decide)
  obtain ⟨rfl, N212, K212, S212x⟩ := hQ212
  have S213 : own_Go p e below s₁ G T212 (mkF m 138 #[.val (.int p0), .val (.int p1), .val (.int p2), .val (.long p3), .second, .val (.int p4), .val (.int mc), .val (.int ec), .val (.int (p2 &&& (255 : Int32))), .val (.int ((XT.ushr p2 (8 : Int32)) &&& (255 : Int32))), .val (.int ((XT.ushr p2 (16 : Int32)) &&& (255 : Int32))), .val (.int ((XT.ushr p2 (24 : Int32)) &&& (255 : Int32))), .val (.int b1), .val (.int b2), .val (.ref c209), .unset, .unset, .unset, .unset, .unset] [(.ref h209.size)]) := fun tg_ kk_ => S211 tg_ (st212 tg_ kk_)
  have NN212 := Fr.app NN209 N212
  obtain ⟨c212, gc212⟩ : ∃ z, z = h209.size := ⟨_, rfl⟩
  rw [← gc212] at S213
  rw [← gc212] at S212x
  have Zx212 : n0 ≤ h212.size := Nat.le_trans Zx209 K212.1
  have hk212 : _ ≤ h212.size := Nat.le_trans hk209 K212.1
  have SBx := own_Set.keep K212 nin0 S209x
  have hne : c212 ≠ c209 := Nat.ne_of_gt (Nat.lt_of_lt_of_le S209x.1.lt (Nat.le_of_eq gc212.symm))
  have S214 : own_Go p e below s₁ G T212 (mkF m 156 #[.val (.int p0), .val (.int p1), .val (.int p2), .val (.long p3), .second, .val (.int p4), .val (.int mc), .val (.int ec), .val (.int (p2 &&& (255 : Int32))), .val (.int ((XT.ushr p2 (8 : Int32)) &&& (255 : Int32))), .val (.int ((XT.ushr p2 (16 : Int32)) &&& (255 : Int32))), .val (.int ((XT.ushr p2 (24 : Int32)) &&& (255 : Int32))), .val (.int b1), .val (.int b2), .val (.ref c209), .val (.ref c212), .val (.int (1 : Int32)), .unset, .unset, .unset] [(.ref c212)]) := fun tg_ kk_ => S213 tg_ (by
    refine XS.astore X212.here hx rfl (hb hby at_138) rfl rfl (l' := #[.val (.int p0), .val (.int p1), .val (.int p2), .val (.long p3), .second, .val (.int p4), .val (.int mc), .val (.int ec), .val (.int (p2 &&& (255 : Int32))), .val (.int ((XT.ushr p2 (8 : Int32)) &&& (255 : Int32))), .val (.int ((XT.ushr p2 (16 : Int32)) &&& (255 : Int32))), .val (.int ((XT.ushr p2 (24 : Int32)) &&& (255 : Int32))), .val (.int b1), .val (.int b2), .val (.ref c209), .val (.ref c212), .unset, .unset, .unset, .unset]) rfl ?_
    show Steps p.tables e below (T212.setTop (mkF m 140 #[.val (.int p0), .val (.int p1), .val (.int p2), .val (.long p3), .second, .val (.int p4), .val (.int mc), .val (.int ec), .val (.int (p2 &&& (255 : Int32))), .val (.int ((XT.ushr p2 (8 : Int32)) &&& (255 : Int32))), .val (.int ((XT.ushr p2 (16 : Int32)) &&& (255 : Int32))), .val (.int ((XT.ushr p2 (24 : Int32)) &&& (255 : Int32))), .val (.int b1), .val (.int b2), .val (.ref c209), .val (.ref c212), .unset, .unset, .unset, .unset] [])) _
    refine XS.aload X212.here hx rfl (hb hby at_140) rfl rfl ?_
    show Steps p.tables e below (T212.setTop (mkF m 142 #[.val (.int p0), .val (.int p1), .val (.int p2), .val (.long p3), .second, .val (.int p4), .val (.int mc), .val (.int ec), .val (.int (p2 &&& (255 : Int32))), .val (.int ((XT.ushr p2 (8 : Int32)) &&& (255 : Int32))), .val (.int ((XT.ushr p2 (16 : Int32)) &&& (255 : Int32))), .val (.int ((XT.ushr p2 (24 : Int32)) &&& (255 : Int32))), .val (.int b1), .val (.int b2), .val (.ref c209), .val (.ref c212), .unset, .unset, .unset, .unset] [(.ref c212)])) _
    refine XS.aload X212.here hx rfl (hb hby at_142) rfl rfl ?_
    show Steps p.tables e below (T212.setTop (mkF m 144 #[.val (.int p0), .val (.int p1), .val (.int p2), .val (.long p3), .second, .val (.int p4), .val (.int mc), .val (.int ec), .val (.int (p2 &&& (255 : Int32))), .val (.int ((XT.ushr p2 (8 : Int32)) &&& (255 : Int32))), .val (.int ((XT.ushr p2 (16 : Int32)) &&& (255 : Int32))), .val (.int ((XT.ushr p2 (24 : Int32)) &&& (255 : Int32))), .val (.int b1), .val (.int b2), .val (.ref c209), .val (.ref c212), .unset, .unset, .unset, .unset] [(.ref c209), (.ref c212)])) _
    refine XT.acmpNo X212.here hx rfl (hb hby at_144) rfl (rfl) (rfl) (by simp [XT.acmp, hne]) ?_
    show Steps p.tables e below (T212.setTop (mkF m 147 #[.val (.int p0), .val (.int p1), .val (.int p2), .val (.long p3), .second, .val (.int p4), .val (.int mc), .val (.int ec), .val (.int (p2 &&& (255 : Int32))), .val (.int ((XT.ushr p2 (8 : Int32)) &&& (255 : Int32))), .val (.int ((XT.ushr p2 (16 : Int32)) &&& (255 : Int32))), .val (.int ((XT.ushr p2 (24 : Int32)) &&& (255 : Int32))), .val (.int b1), .val (.int b2), .val (.ref c209), .val (.ref c212), .unset, .unset, .unset, .unset] [])) _
    refine XS.iconst X212.here hx rfl (hb hby at_147) ?_
    show Steps p.tables e below (T212.setTop (mkF m 148 #[.val (.int p0), .val (.int p1), .val (.int p2), .val (.long p3), .second, .val (.int p4), .val (.int mc), .val (.int ec), .val (.int (p2 &&& (255 : Int32))), .val (.int ((XT.ushr p2 (8 : Int32)) &&& (255 : Int32))), .val (.int ((XT.ushr p2 (16 : Int32)) &&& (255 : Int32))), .val (.int ((XT.ushr p2 (24 : Int32)) &&& (255 : Int32))), .val (.int b1), .val (.int b2), .val (.ref c209), .val (.ref c212), .unset, .unset, .unset, .unset] [(.int (1 : Int32))])) _
    refine XS.goto X212.here hx rfl (pc0 := 148) (pc' := 152) rfl (hb hby at_148) (by decide) (by decide) ?_
    show Steps p.tables e below (T212.setTop (mkF m 152 #[.val (.int p0), .val (.int p1), .val (.int p2), .val (.long p3), .second, .val (.int p4), .val (.int mc), .val (.int ec), .val (.int (p2 &&& (255 : Int32))), .val (.int ((XT.ushr p2 (8 : Int32)) &&& (255 : Int32))), .val (.int ((XT.ushr p2 (16 : Int32)) &&& (255 : Int32))), .val (.int ((XT.ushr p2 (24 : Int32)) &&& (255 : Int32))), .val (.int b1), .val (.int b2), .val (.ref c209), .val (.ref c212), .unset, .unset, .unset, .unset] [(.int (1 : Int32))])) _
    refine XS.istore X212.here hx rfl (hb hby at_152) rfl (l' := #[.val (.int p0), .val (.int p1), .val (.int p2), .val (.long p3), .second, .val (.int p4), .val (.int mc), .val (.int ec), .val (.int (p2 &&& (255 : Int32))), .val (.int ((XT.ushr p2 (8 : Int32)) &&& (255 : Int32))), .val (.int ((XT.ushr p2 (16 : Int32)) &&& (255 : Int32))), .val (.int ((XT.ushr p2 (24 : Int32)) &&& (255 : Int32))), .val (.int b1), .val (.int b2), .val (.ref c209), .val (.ref c212), .val (.int (1 : Int32)), .unset, .unset, .unset]) rfl ?_
    show Steps p.tables e below (T212.setTop (mkF m 154 #[.val (.int p0), .val (.int p1), .val (.int p2), .val (.long p3), .second, .val (.int p4), .val (.int mc), .val (.int ec), .val (.int (p2 &&& (255 : Int32))), .val (.int ((XT.ushr p2 (8 : Int32)) &&& (255 : Int32))), .val (.int ((XT.ushr p2 (16 : Int32)) &&& (255 : Int32))), .val (.int ((XT.ushr p2 (24 : Int32)) &&& (255 : Int32))), .val (.int b1), .val (.int b2), .val (.ref c209), .val (.ref c212), .val (.int (1 : Int32)), .unset, .unset, .unset] [])) _
    refine XS.aload X212.here hx rfl (hb hby at_154) rfl rfl ?_
    exact kk_)
  obtain ⟨_, T215, h215, L215, X215, e215, hQ215, st215⟩ := own_callV X212 hx hZ203 (y := (⟨"com/example/locks_over_messages/locksovermessages/Simulation$Settings", "areEntriesRecorded", "()Z"⟩ : MethodName)) hown203 (hw _ (List.mem_of_getElem? (i := 86) rfl)) (hw _ (List.mem_of_getElem? (i := 87) rfl)) (hw _ (List.mem_of_getElem? (i := 89) rfl)) (hw _ (List.mem_of_getElem? (i := 88) rfl)) (hw _ (List.mem_of_getElem? (i := 7) rfl)) (hw _ (List.mem_of_getElem? (i := 90) rfl)) (by decide) 0 (g := (mkF m 156 #[.val (.int p0), .val (.int p1), .val (.int p2), .val (.long p3), .second, .val (.int p4), .val (.int mc), .val (.int ec), .val (.int (p2 &&& (255 : Int32))), .val (.int ((XT.ushr p2 (8 : Int32)) &&& (255 : Int32))), .val (.int ((XT.ushr p2 (16 : Int32)) &&& (255 : Int32))), .val (.int ((XT.ushr p2 (24 : Int32)) &&& (255 : Int32))), .val (.int b1), .val (.int b2), .val (.ref c209), .val (.ref c212), .val (.int (1 : Int32)), .unset, .unset, .unset] [(.ref c212)])) rfl (by rw [hml]; rfl) c212 S212x.1 [] [] (rm14 l Z a0 hw [] c212 b2 h212 n0 Zx212 S212x.2.2.2.2.2.2.2.2 hb184) (lenOf pd12 rfl) rfl (by show 2 * 0 + _ ≤ _; exact Nat.le_of_eq rfl) (hb hby at_156) (by decide) (by decide) e212 (by decide) (by decide)
  obtain ⟨rfl, N215, rfl⟩ := hQ215
  have S216 : own_Go p e below s₁ G T215 (mkF m 159 #[.val (.int p0), .val (.int p1), .val (.int p2), .val (.long p3), .second, .val (.int p4), .val (.int mc), .val (.int ec), .val (.int (p2 &&& (255 : Int32))), .val (.int ((XT.ushr p2 (8 : Int32)) &&& (255 : Int32))), .val (.int ((XT.ushr p2 (16 : Int32)) &&& (255 : Int32))), .val (.int ((XT.ushr p2 (24 : Int32)) &&& (255 : Int32))), .val (.int b1), .val (.int b2), .val (.ref c209), .val (.ref c212), .val (.int (1 : Int32)), .unset, .unset, .unset] [(.int b2)]) := fun tg_ kk_ => S214 tg_ (st215 tg_ kk_)
  have NN215 := Fr.app NN212 N215
  have S217 : own_Go p e below s₁ G T215 (mkF m 173 #[.val (.int p0), .val (.int p1), .val (.int p2), .val (.long p3), .second, .val (.int p4), .val (.int mc), .val (.int ec), .val (.int (p2 &&& (255 : Int32))), .val (.int ((XT.ushr p2 (8 : Int32)) &&& (255 : Int32))), .val (.int ((XT.ushr p2 (16 : Int32)) &&& (255 : Int32))), .val (.int ((XT.ushr p2 (24 : Int32)) &&& (255 : Int32))), .val (.int b1), .val (.int b2), .val (.ref c209), .val (.ref c212), .val (.int (1 : Int32)), .val (.int (1 : Int32)), .unset, .unset] [(.ref c209)]) := fun tg_ kk_ => S216 tg_ (by
    refine XS.iload X215.here hx rfl (hb hby at_159) rfl ?_
    show Steps p.tables e below (T215.setTop (mkF m 161 #[.val (.int p0), .val (.int p1), .val (.int p2), .val (.long p3), .second, .val (.int p4), .val (.int mc), .val (.int ec), .val (.int (p2 &&& (255 : Int32))), .val (.int ((XT.ushr p2 (8 : Int32)) &&& (255 : Int32))), .val (.int ((XT.ushr p2 (16 : Int32)) &&& (255 : Int32))), .val (.int ((XT.ushr p2 (24 : Int32)) &&& (255 : Int32))), .val (.int b1), .val (.int b2), .val (.ref c209), .val (.ref c212), .val (.int (1 : Int32)), .unset, .unset, .unset] [(.int b2), (.int b2)])) _
    refine XS.icmpNo X215.here hx rfl (hb hby at_161) rfl (teq rfl).2 ?_
    show Steps p.tables e below (T215.setTop (mkF m 164 #[.val (.int p0), .val (.int p1), .val (.int p2), .val (.long p3), .second, .val (.int p4), .val (.int mc), .val (.int ec), .val (.int (p2 &&& (255 : Int32))), .val (.int ((XT.ushr p2 (8 : Int32)) &&& (255 : Int32))), .val (.int ((XT.ushr p2 (16 : Int32)) &&& (255 : Int32))), .val (.int ((XT.ushr p2 (24 : Int32)) &&& (255 : Int32))), .val (.int b1), .val (.int b2), .val (.ref c209), .val (.ref c212), .val (.int (1 : Int32)), .unset, .unset, .unset] [])) _
    refine XS.iconst X215.here hx rfl (hb hby at_164) ?_
    show Steps p.tables e below (T215.setTop (mkF m 165 #[.val (.int p0), .val (.int p1), .val (.int p2), .val (.long p3), .second, .val (.int p4), .val (.int mc), .val (.int ec), .val (.int (p2 &&& (255 : Int32))), .val (.int ((XT.ushr p2 (8 : Int32)) &&& (255 : Int32))), .val (.int ((XT.ushr p2 (16 : Int32)) &&& (255 : Int32))), .val (.int ((XT.ushr p2 (24 : Int32)) &&& (255 : Int32))), .val (.int b1), .val (.int b2), .val (.ref c209), .val (.ref c212), .val (.int (1 : Int32)), .unset, .unset, .unset] [(.int (1 : Int32))])) _
    refine XS.goto X215.here hx rfl (pc0 := 165) (pc' := 169) rfl (hb hby at_165) (by decide) (by decide) ?_
    show Steps p.tables e below (T215.setTop (mkF m 169 #[.val (.int p0), .val (.int p1), .val (.int p2), .val (.long p3), .second, .val (.int p4), .val (.int mc), .val (.int ec), .val (.int (p2 &&& (255 : Int32))), .val (.int ((XT.ushr p2 (8 : Int32)) &&& (255 : Int32))), .val (.int ((XT.ushr p2 (16 : Int32)) &&& (255 : Int32))), .val (.int ((XT.ushr p2 (24 : Int32)) &&& (255 : Int32))), .val (.int b1), .val (.int b2), .val (.ref c209), .val (.ref c212), .val (.int (1 : Int32)), .unset, .unset, .unset] [(.int (1 : Int32))])) _
    refine XS.istore X215.here hx rfl (hb hby at_169) rfl (l' := #[.val (.int p0), .val (.int p1), .val (.int p2), .val (.long p3), .second, .val (.int p4), .val (.int mc), .val (.int ec), .val (.int (p2 &&& (255 : Int32))), .val (.int ((XT.ushr p2 (8 : Int32)) &&& (255 : Int32))), .val (.int ((XT.ushr p2 (16 : Int32)) &&& (255 : Int32))), .val (.int ((XT.ushr p2 (24 : Int32)) &&& (255 : Int32))), .val (.int b1), .val (.int b2), .val (.ref c209), .val (.ref c212), .val (.int (1 : Int32)), .val (.int (1 : Int32)), .unset, .unset]) rfl ?_
    show Steps p.tables e below (T215.setTop (mkF m 171 #[.val (.int p0), .val (.int p1), .val (.int p2), .val (.long p3), .second, .val (.int p4), .val (.int mc), .val (.int ec), .val (.int (p2 &&& (255 : Int32))), .val (.int ((XT.ushr p2 (8 : Int32)) &&& (255 : Int32))), .val (.int ((XT.ushr p2 (16 : Int32)) &&& (255 : Int32))), .val (.int ((XT.ushr p2 (24 : Int32)) &&& (255 : Int32))), .val (.int b1), .val (.int b2), .val (.ref c209), .val (.ref c212), .val (.int (1 : Int32)), .val (.int (1 : Int32)), .unset, .unset] [])) _
    refine XS.aload X215.here hx rfl (hb hby at_171) rfl rfl ?_
    exact kk_)
  obtain ⟨_, T218, h218, L218, X218, e218, hQ218, st218⟩ := own_callV X215 hx hZ203 (y := (⟨"com/example/locks_over_messages/locksovermessages/Simulation$Settings", "areEntriesRecorded", "()Z"⟩ : MethodName)) hown203 (hw _ (List.mem_of_getElem? (i := 86) rfl)) (hw _ (List.mem_of_getElem? (i := 87) rfl)) (hw _ (List.mem_of_getElem? (i := 89) rfl)) (hw _ (List.mem_of_getElem? (i := 88) rfl)) (hw _ (List.mem_of_getElem? (i := 7) rfl)) (hw _ (List.mem_of_getElem? (i := 90) rfl)) (by decide) 0 (g := (mkF m 173 #[.val (.int p0), .val (.int p1), .val (.int p2), .val (.long p3), .second, .val (.int p4), .val (.int mc), .val (.int ec), .val (.int (p2 &&& (255 : Int32))), .val (.int ((XT.ushr p2 (8 : Int32)) &&& (255 : Int32))), .val (.int ((XT.ushr p2 (16 : Int32)) &&& (255 : Int32))), .val (.int ((XT.ushr p2 (24 : Int32)) &&& (255 : Int32))), .val (.int b1), .val (.int b2), .val (.ref c209), .val (.ref c212), .val (.int (1 : Int32)), .val (.int (1 : Int32)), .unset, .unset] [(.ref c209)])) rfl (by rw [hml]; rfl) c209 SBx.1 [] [] (rm14 l Z a0 hw [] c209 b1 h212 n0 Zx212 SBx.2.2.2.2.2.2.2.2 hb180) (lenOf pd12 rfl) rfl (by show 2 * 0 + _ ≤ _; exact Nat.le_of_eq rfl) (hb hby at_173) (by decide) (by decide) e215 (by decide) (by decide)
  obtain ⟨rfl, N218, rfl⟩ := hQ218
  have S219 : own_Go p e below s₁ G T218 (mkF m 176 #[.val (.int p0), .val (.int p1), .val (.int p2), .val (.long p3), .second, .val (.int p4), .val (.int mc), .val (.int ec), .val (.int (p2 &&& (255 : Int32))), .val (.int ((XT.ushr p2 (8 : Int32)) &&& (255 : Int32))), .val (.int ((XT.ushr p2 (16 : Int32)) &&& (255 : Int32))), .val (.int ((XT.ushr p2 (24 : Int32)) &&& (255 : Int32))), .val (.int b1), .val (.int b2), .val (.ref c209), .val (.ref c212), .val (.int (1 : Int32)), .val (.int (1 : Int32)), .unset, .unset] [(.int b1)]) := fun tg_ kk_ => S217 tg_ (st218 tg_ kk_)
  have NN218 := Fr.app NN215 N218
  have S220 : own_Go p e below s₁ G T218 (mkF m 190 #[.val (.int p0), .val (.int p1), .val (.int p2), .val (.long p3), .second, .val (.int p4), .val (.int mc), .val (.int ec), .val (.int (p2 &&& (255 : Int32))), .val (.int ((XT.ushr p2 (8 : Int32)) &&& (255 : Int32))), .val (.int ((XT.ushr p2 (16 : Int32)) &&& (255 : Int32))), .val (.int ((XT.ushr p2 (24 : Int32)) &&& (255 : Int32))), .val (.int b1), .val (.int b2), .val (.ref c209), .val (.ref c212), .val (.int (1 : Int32)), .val (.int (1 : Int32)), .val (.int (1 : Int32)), .unset] [(.ref c212)]) := fun tg_ kk_ => S219 tg_ (by
    refine XS.iload X218.here hx rfl (hb hby at_176) rfl ?_
    show Steps p.tables e below (T218.setTop (mkF m 178 #[.val (.int p0), .val (.int p1), .val (.int p2), .val (.long p3), .second, .val (.int p4), .val (.int mc), .val (.int ec), .val (.int (p2 &&& (255 : Int32))), .val (.int ((XT.ushr p2 (8 : Int32)) &&& (255 : Int32))), .val (.int ((XT.ushr p2 (16 : Int32)) &&& (255 : Int32))), .val (.int ((XT.ushr p2 (24 : Int32)) &&& (255 : Int32))), .val (.int b1), .val (.int b2), .val (.ref c209), .val (.ref c212), .val (.int (1 : Int32)), .val (.int (1 : Int32)), .unset, .unset] [(.int b1), (.int b1)])) _
    refine XS.icmpNo X218.here hx rfl (hb hby at_178) rfl (teq rfl).2 ?_
    show Steps p.tables e below (T218.setTop (mkF m 181 #[.val (.int p0), .val (.int p1), .val (.int p2), .val (.long p3), .second, .val (.int p4), .val (.int mc), .val (.int ec), .val (.int (p2 &&& (255 : Int32))), .val (.int ((XT.ushr p2 (8 : Int32)) &&& (255 : Int32))), .val (.int ((XT.ushr p2 (16 : Int32)) &&& (255 : Int32))), .val (.int ((XT.ushr p2 (24 : Int32)) &&& (255 : Int32))), .val (.int b1), .val (.int b2), .val (.ref c209), .val (.ref c212), .val (.int (1 : Int32)), .val (.int (1 : Int32)), .unset, .unset] [])) _
    refine XS.iconst X218.here hx rfl (hb hby at_181) ?_
    show Steps p.tables e below (T218.setTop (mkF m 182 #[.val (.int p0), .val (.int p1), .val (.int p2), .val (.long p3), .second, .val (.int p4), .val (.int mc), .val (.int ec), .val (.int (p2 &&& (255 : Int32))), .val (.int ((XT.ushr p2 (8 : Int32)) &&& (255 : Int32))), .val (.int ((XT.ushr p2 (16 : Int32)) &&& (255 : Int32))), .val (.int ((XT.ushr p2 (24 : Int32)) &&& (255 : Int32))), .val (.int b1), .val (.int b2), .val (.ref c209), .val (.ref c212), .val (.int (1 : Int32)), .val (.int (1 : Int32)), .unset, .unset] [(.int (1 : Int32))])) _
    refine XS.goto X218.here hx rfl (pc0 := 182) (pc' := 186) rfl (hb hby at_182) (by decide) (by decide) ?_
    show Steps p.tables e below (T218.setTop (mkF m 186 #[.val (.int p0), .val (.int p1), .val (.int p2), .val (.long p3), .second, .val (.int p4), .val (.int mc), .val (.int ec), .val (.int (p2 &&& (255 : Int32))), .val (.int ((XT.ushr p2 (8 : Int32)) &&& (255 : Int32))), .val (.int ((XT.ushr p2 (16 : Int32)) &&& (255 : Int32))), .val (.int ((XT.ushr p2 (24 : Int32)) &&& (255 : Int32))), .val (.int b1), .val (.int b2), .val (.ref c209), .val (.ref c212), .val (.int (1 : Int32)), .val (.int (1 : Int32)), .unset, .unset] [(.int (1 : Int32))])) _
    refine XS.istore X218.here hx rfl (hb hby at_186) rfl (l' := #[.val (.int p0), .val (.int p1), .val (.int p2), .val (.long p3), .second, .val (.int p4), .val (.int mc), .val (.int ec), .val (.int (p2 &&& (255 : Int32))), .val (.int ((XT.ushr p2 (8 : Int32)) &&& (255 : Int32))), .val (.int ((XT.ushr p2 (16 : Int32)) &&& (255 : Int32))), .val (.int ((XT.ushr p2 (24 : Int32)) &&& (255 : Int32))), .val (.int b1), .val (.int b2), .val (.ref c209), .val (.ref c212), .val (.int (1 : Int32)), .val (.int (1 : Int32)), .val (.int (1 : Int32)), .unset]) rfl ?_
    show Steps p.tables e below (T218.setTop (mkF m 188 #[.val (.int p0), .val (.int p1), .val (.int p2), .val (.long p3), .second, .val (.int p4), .val (.int mc), .val (.int ec), .val (.int (p2 &&& (255 : Int32))), .val (.int ((XT.ushr p2 (8 : Int32)) &&& (255 : Int32))), .val (.int ((XT.ushr p2 (16 : Int32)) &&& (255 : Int32))), .val (.int ((XT.ushr p2 (24 : Int32)) &&& (255 : Int32))), .val (.int b1), .val (.int b2), .val (.ref c209), .val (.ref c212), .val (.int (1 : Int32)), .val (.int (1 : Int32)), .val (.int (1 : Int32)), .unset] [])) _
    refine XS.aload X218.here hx rfl (hb hby at_188) rfl rfl ?_
    exact kk_)
  obtain ⟨_, T221, h221, L221, X221, e221, hQ221, st221⟩ := own_callV X218 hx hZ203 (y := (⟨"com/example/locks_over_messages/locksovermessages/Simulation$Settings", "getMemberCount", "()I"⟩ : MethodName)) hown203 (hw _ (List.mem_of_getElem? (i := 91) rfl)) (hw _ (List.mem_of_getElem? (i := 92) rfl)) (hw _ (List.mem_of_getElem? (i := 94) rfl)) (hw _ (List.mem_of_getElem? (i := 93) rfl)) (hw _ (List.mem_of_getElem? (i := 7) rfl)) (hw _ (List.mem_of_getElem? (i := 95) rfl)) (by decide) 0 (g := (mkF m 190 #[.val (.int p0), .val (.int p1), .val (.int p2), .val (.long p3), .second, .val (.int p4), .val (.int mc), .val (.int ec), .val (.int (p2 &&& (255 : Int32))), .val (.int ((XT.ushr p2 (8 : Int32)) &&& (255 : Int32))), .val (.int ((XT.ushr p2 (16 : Int32)) &&& (255 : Int32))), .val (.int ((XT.ushr p2 (24 : Int32)) &&& (255 : Int32))), .val (.int b1), .val (.int b2), .val (.ref c209), .val (.ref c212), .val (.int (1 : Int32)), .val (.int (1 : Int32)), .val (.int (1 : Int32)), .unset] [(.ref c212)])) rfl (by rw [hml]; rfl) c212 S212x.1 [] [] (rm15 l Z a0 hw [] c212 mc h212 n0 Zx212 S212x.2.1) (lenOf pd13 rfl) rfl (by show 2 * 0 + _ ≤ _; exact Nat.le_of_eq rfl) (hb hby at_190) (by decide) (by decide) e218 (by decide) (by decide)
  obtain ⟨rfl, N221, rfl⟩ := hQ221
  have S222 : own_Go p e below s₁ G T221 (mkF m 193 #[.val (.int p0), .val (.int p1), .val (.int p2), .val (.long p3), .second, .val (.int p4), .val (.int mc), .val (.int ec), .val (.int (p2 &&& (255 : Int32))), .val (.int ((XT.ushr p2 (8 : Int32)) &&& (255 : Int32))), .val (.int ((XT.ushr p2 (16 : Int32)) &&& (255 : Int32))), .val (.int ((XT.ushr p2 (24 : Int32)) &&& (255 : Int32))), .val (.int b1), .val (.int b2), .val (.ref c209), .val (.ref c212), .val (.int (1 : Int32)), .val (.int (1 : Int32)), .val (.int (1 : Int32)), .unset] [(.int mc)]) := fun tg_ kk_ => S220 tg_ (st221 tg_ kk_)
  have NN221 := Fr.app NN218 N221
  have S223 : own_Go p e below s₁ G T221 (mkF m 200 #[.val (.int p0), .val (.int p1), .val (.int p2), .val (.long p3), .second, .val (.int p4), .val (.int mc), .val (.int ec), .val (.int (p2 &&& (255 : Int32))), .val (.int ((XT.ushr p2 (8 : Int32)) &&& (255 : Int32))), .val (.int ((XT.ushr p2 (16 : Int32)) &&& (255 : Int32))), .val (.int ((XT.ushr p2 (24 : Int32)) &&& (255 : Int32))), .val (.int b1), .val (.int b2), .val (.ref c209), .val (.ref c212), .val (.int (1 : Int32)), .val (.int (1 : Int32)), .val (.int (1 : Int32)), .unset] [(.ref c212)]) := fun tg_ kk_ => S222 tg_ (by
    refine XS.iload X221.here hx rfl (hb hby at_193) rfl ?_
    show Steps p.tables e below (T221.setTop (mkF m 195 #[.val (.int p0), .val (.int p1), .val (.int p2), .val (.long p3), .second, .val (.int p4), .val (.int mc), .val (.int ec), .val (.int (p2 &&& (255 : Int32))), .val (.int ((XT.ushr p2 (8 : Int32)) &&& (255 : Int32))), .val (.int ((XT.ushr p2 (16 : Int32)) &&& (255 : Int32))), .val (.int ((XT.ushr p2 (24 : Int32)) &&& (255 : Int32))), .val (.int b1), .val (.int b2), .val (.ref c209), .val (.ref c212), .val (.int (1 : Int32)), .val (.int (1 : Int32)), .val (.int (1 : Int32)), .unset] [(.int mc), (.int mc)])) _
    refine XS.icmpNo X221.here hx rfl (hb hby at_195) rfl (teq rfl).2 ?_
    show Steps p.tables e below (T221.setTop (mkF m 198 #[.val (.int p0), .val (.int p1), .val (.int p2), .val (.long p3), .second, .val (.int p4), .val (.int mc), .val (.int ec), .val (.int (p2 &&& (255 : Int32))), .val (.int ((XT.ushr p2 (8 : Int32)) &&& (255 : Int32))), .val (.int ((XT.ushr p2 (16 : Int32)) &&& (255 : Int32))), .val (.int ((XT.ushr p2 (24 : Int32)) &&& (255 : Int32))), .val (.int b1), .val (.int b2), .val (.ref c209), .val (.ref c212), .val (.int (1 : Int32)), .val (.int (1 : Int32)), .val (.int (1 : Int32)), .unset] [])) _
    refine XS.aload X221.here hx rfl (hb hby at_198) rfl rfl ?_
    exact kk_)
  obtain ⟨_, T224, h224, L224, X224, e224, hQ224, st224⟩ := own_callV X221 hx hZ203 (y := (⟨"com/example/locks_over_messages/locksovermessages/Simulation$Settings", "getEntriesEach", "()I"⟩ : MethodName)) hown203 (hw _ (List.mem_of_getElem? (i := 96) rfl)) (hw _ (List.mem_of_getElem? (i := 97) rfl)) (hw _ (List.mem_of_getElem? (i := 99) rfl)) (hw _ (List.mem_of_getElem? (i := 98) rfl)) (hw _ (List.mem_of_getElem? (i := 7) rfl)) (hw _ (List.mem_of_getElem? (i := 100) rfl)) (by decide) 0 (g := (mkF m 200 #[.val (.int p0), .val (.int p1), .val (.int p2), .val (.long p3), .second, .val (.int p4), .val (.int mc), .val (.int ec), .val (.int (p2 &&& (255 : Int32))), .val (.int ((XT.ushr p2 (8 : Int32)) &&& (255 : Int32))), .val (.int ((XT.ushr p2 (16 : Int32)) &&& (255 : Int32))), .val (.int ((XT.ushr p2 (24 : Int32)) &&& (255 : Int32))), .val (.int b1), .val (.int b2), .val (.ref c209), .val (.ref c212), .val (.int (1 : Int32)), .val (.int (1 : Int32)), .val (.int (1 : Int32)), .unset] [(.ref c212)])) rfl (by rw [hml]; rfl) c212 S212x.1 [] [] (rm16 l Z a0 hw [] c212 ec h212 n0 Zx212 S212x.2.2.1) (lenOf pd13 rfl) rfl (by show 2 * 0 + _ ≤ _; exact Nat.le_of_eq rfl) (hb hby at_200) (by decide) (by decide) e221 (by decide) (by decide)
  obtain ⟨rfl, N224, rfl⟩ := hQ224
  have S225 : own_Go p e below s₁ G T224 (mkF m 203 #[.val (.int p0), .val (.int p1), .val (.int p2), .val (.long p3), .second, .val (.int p4), .val (.int mc), .val (.int ec), .val (.int (p2 &&& (255 : Int32))), .val (.int ((XT.ushr p2 (8 : Int32)) &&& (255 : Int32))), .val (.int ((XT.ushr p2 (16 : Int32)) &&& (255 : Int32))), .val (.int ((XT.ushr p2 (24 : Int32)) &&& (255 : Int32))), .val (.int b1), .val (.int b2), .val (.ref c209), .val (.ref c212), .val (.int (1 : Int32)), .val (.int (1 : Int32)), .val (.int (1 : Int32)), .unset] [(.int ec)]) := fun tg_ kk_ => S223 tg_ (st224 tg_ kk_)
  have NN224 := Fr.app NN221 N224
  have S226 : own_Go p e below s₁ G T224 (mkF m 210 #[.val (.int p0), .val (.int p1), .val (.int p2), .val (.long p3), .second, .val (.int p4), .val (.int mc), .val (.int ec), .val (.int (p2 &&& (255 : Int32))), .val (.int ((XT.ushr p2 (8 : Int32)) &&& (255 : Int32))), .val (.int ((XT.ushr p2 (16 : Int32)) &&& (255 : Int32))), .val (.int ((XT.ushr p2 (24 : Int32)) &&& (255 : Int32))), .val (.int b1), .val (.int b2), .val (.ref c209), .val (.ref c212), .val (.int (1 : Int32)), .val (.int (1 : Int32)), .val (.int (1 : Int32)), .unset] [(.ref c212)]) := fun tg_ kk_ => S225 tg_ (by
    refine XS.iload X224.here hx rfl (hb hby at_203) rfl ?_
    show Steps p.tables e below (T224.setTop (mkF m 205 #[.val (.int p0), .val (.int p1), .val (.int p2), .val (.long p3), .second, .val (.int p4), .val (.int mc), .val (.int ec), .val (.int (p2 &&& (255 : Int32))), .val (.int ((XT.ushr p2 (8 : Int32)) &&& (255 : Int32))), .val (.int ((XT.ushr p2 (16 : Int32)) &&& (255 : Int32))), .val (.int ((XT.ushr p2 (24 : Int32)) &&& (255 : Int32))), .val (.int b1), .val (.int b2), .val (.ref c209), .val (.ref c212), .val (.int (1 : Int32)), .val (.int (1 : Int32)), .val (.int (1 : Int32)), .unset] [(.int ec), (.int ec)])) _
    refine XS.icmpNo X224.here hx rfl (hb hby at_205) rfl (teq rfl).2 ?_
    show Steps p.tables e below (T224.setTop (mkF m 208 #[.val (.int p0), .val (.int p1), .val (.int p2), .val (.long p3), .second, .val (.int p4), .val (.int mc), .val (.int ec), .val (.int (p2 &&& (255 : Int32))), .val (.int ((XT.ushr p2 (8 : Int32)) &&& (255 : Int32))), .val (.int ((XT.ushr p2 (16 : Int32)) &&& (255 : Int32))), .val (.int ((XT.ushr p2 (24 : Int32)) &&& (255 : Int32))), .val (.int b1), .val (.int b2), .val (.ref c209), .val (.ref c212), .val (.int (1 : Int32)), .val (.int (1 : Int32)), .val (.int (1 : Int32)), .unset] [])) _
    refine XS.aload X224.here hx rfl (hb hby at_208) rfl rfl ?_
    exact kk_)
  obtain ⟨_, T227, h227, L227, X227, e227, hQ227, st227⟩ := own_callV X224 hx hZ203 (y := (⟨"com/example/locks_over_messages/locksovermessages/Simulation$Settings", "getHold", "()D"⟩ : MethodName)) hown203 (hw _ (List.mem_of_getElem? (i := 101) rfl)) (hw _ (List.mem_of_getElem? (i := 102) rfl)) (hw _ (List.mem_of_getElem? (i := 104) rfl)) (hw _ (List.mem_of_getElem? (i := 103) rfl)) (hw _ (List.mem_of_getElem? (i := 7) rfl)) (hw _ (List.mem_of_getElem? (i := 105) rfl)) (by decide) 0 (g := (mkF m 210 #[.val (.int p0), .val (.int p1), .val (.int p2), .val (.long p3), .second, .val (.int p4), .val (.int mc), .val (.int ec), .val (.int (p2 &&& (255 : Int32))), .val (.int ((XT.ushr p2 (8 : Int32)) &&& (255 : Int32))), .val (.int ((XT.ushr p2 (16 : Int32)) &&& (255 : Int32))), .val (.int ((XT.ushr p2 (24 : Int32)) &&& (255 : Int32))), .val (.int b1), .val (.int b2), .val (.ref c209), .val (.ref c212), .val (.int (1 : Int32)), .val (.int (1 : Int32)), .val (.int (1 : Int32)), .unset] [(.ref c212)])) rfl (by rw [hml]; rfl) c212 S212x.1 [] [] (rm17 l Z a0 hw [] c212 (FP.i2d (p2 &&& (255 : Int32))) h212 n0 Zx212 S212x.2.2.2.1) (lenOf pd14 rfl) rfl (by show 2 * 0 + _ ≤ _; exact Nat.le_of_eq rfl) (hb hby at_210) (by decide) (by decide) e224 (by decide) (by decide)
  obtain ⟨rfl, N227, rfl⟩ := hQ227
  have S228 : own_Go p e below s₁ G T227 (mkF m 213 #[.val (.int p0), .val (.int p1), .val (.int p2), .val (.long p3), .second, .val (.int p4), .val (.int mc), .val (.int ec), .val (.int (p2 &&& (255 : Int32))), .val (.int ((XT.ushr p2 (8 : Int32)) &&& (255 : Int32))), .val (.int ((XT.ushr p2 (16 : Int32)) &&& (255 : Int32))), .val (.int ((XT.ushr p2 (24 : Int32)) &&& (255 : Int32))), .val (.int b1), .val (.int b2), .val (.ref c209), .val (.ref c212), .val (.int (1 : Int32)), .val (.int (1 : Int32)), .val (.int (1 : Int32)), .unset] [(.double (FP.i2d (p2 &&& (255 : Int32))))]) := fun tg_ kk_ => S226 tg_ (st227 tg_ kk_)
  have NN227 := Fr.app NN224 N227
  have S229 : own_Go p e below s₁ G T227 (mkF m 222 #[.val (.int p0), .val (.int p1), .val (.int p2), .val (.long p3), .second, .val (.int p4), .val (.int mc), .val (.int ec), .val (.int (p2 &&& (255 : Int32))), .val (.int ((XT.ushr p2 (8 : Int32)) &&& (255 : Int32))), .val (.int ((XT.ushr p2 (16 : Int32)) &&& (255 : Int32))), .val (.int ((XT.ushr p2 (24 : Int32)) &&& (255 : Int32))), .val (.int b1), .val (.int b2), .val (.ref c209), .val (.ref c212), .val (.int (1 : Int32)), .val (.int (1 : Int32)), .val (.int (1 : Int32)), .unset] [(.ref c212)]) := fun tg_ kk_ => S228 tg_ (by
    refine XS.iload X227.here hx rfl (hb hby at_213) rfl ?_
    show Steps p.tables e below (T227.setTop (mkF m 215 #[.val (.int p0), .val (.int p1), .val (.int p2), .val (.long p3), .second, .val (.int p4), .val (.int mc), .val (.int ec), .val (.int (p2 &&& (255 : Int32))), .val (.int ((XT.ushr p2 (8 : Int32)) &&& (255 : Int32))), .val (.int ((XT.ushr p2 (16 : Int32)) &&& (255 : Int32))), .val (.int ((XT.ushr p2 (24 : Int32)) &&& (255 : Int32))), .val (.int b1), .val (.int b2), .val (.ref c209), .val (.ref c212), .val (.int (1 : Int32)), .val (.int (1 : Int32)), .val (.int (1 : Int32)), .unset] [(.int (p2 &&& (255 : Int32))), (.double (FP.i2d (p2 &&& (255 : Int32))))])) _
    refine XS.i2dS X227.here hx rfl (hb hby at_215) rfl rfl ?_
    show Steps p.tables e below (T227.setTop (mkF m 216 #[.val (.int p0), .val (.int p1), .val (.int p2), .val (.long p3), .second, .val (.int p4), .val (.int mc), .val (.int ec), .val (.int (p2 &&& (255 : Int32))), .val (.int ((XT.ushr p2 (8 : Int32)) &&& (255 : Int32))), .val (.int ((XT.ushr p2 (16 : Int32)) &&& (255 : Int32))), .val (.int ((XT.ushr p2 (24 : Int32)) &&& (255 : Int32))), .val (.int b1), .val (.int b2), .val (.ref c209), .val (.ref c212), .val (.int (1 : Int32)), .val (.int (1 : Int32)), .val (.int (1 : Int32)), .unset] [(.double (FP.i2d (p2 &&& (255 : Int32)))), (.double (FP.i2d (p2 &&& (255 : Int32))))])) _
    refine XS.dcmpS X227.here hx rfl (hb hby at_216) rfl ht2.2.2.2 ?_
    show Steps p.tables e below (T227.setTop (mkF m 217 #[.val (.int p0), .val (.int p1), .val (.int p2), .val (.long p3), .second, .val (.int p4), .val (.int mc), .val (.int ec), .val (.int (p2 &&& (255 : Int32))), .val (.int ((XT.ushr p2 (8 : Int32)) &&& (255 : Int32))), .val (.int ((XT.ushr p2 (16 : Int32)) &&& (255 : Int32))), .val (.int ((XT.ushr p2 (24 : Int32)) &&& (255 : Int32))), .val (.int b1), .val (.int b2), .val (.ref c209), .val (.ref c212), .val (.int (1 : Int32)), .val (.int (1 : Int32)), .val (.int (1 : Int32)), .unset] [(.int (0 : Int32))])) _
    refine XS.ifNo X227.here hx rfl (hb hby at_217) rfl (by decide) ?_
    show Steps p.tables e below (T227.setTop (mkF m 220 #[.val (.int p0), .val (.int p1), .val (.int p2), .val (.long p3), .second, .val (.int p4), .val (.int mc), .val (.int ec), .val (.int (p2 &&& (255 : Int32))), .val (.int ((XT.ushr p2 (8 : Int32)) &&& (255 : Int32))), .val (.int ((XT.ushr p2 (16 : Int32)) &&& (255 : Int32))), .val (.int ((XT.ushr p2 (24 : Int32)) &&& (255 : Int32))), .val (.int b1), .val (.int b2), .val (.ref c209), .val (.ref c212), .val (.int (1 : Int32)), .val (.int (1 : Int32)), .val (.int (1 : Int32)), .unset] [])) _
    refine XS.aload X227.here hx rfl (hb hby at_220) rfl rfl ?_
    exact kk_)
  obtain ⟨_, T230, h230, L230, X230, e230, hQ230, st230⟩ := own_callV X227 hx hZ203 (y := (⟨"com/example/locks_over_messages/locksovermessages/Simulation$Settings", "getThink", "()D"⟩ : MethodName)) hown203 (hw _ (List.mem_of_getElem? (i := 106) rfl)) (hw _ (List.mem_of_getElem? (i := 107) rfl)) (hw _ (List.mem_of_getElem? (i := 109) rfl)) (hw _ (List.mem_of_getElem? (i := 108) rfl)) (hw _ (List.mem_of_getElem? (i := 7) rfl)) (hw _ (List.mem_of_getElem? (i := 110) rfl)) (by decide) 0 (g := (mkF m 222 #[.val (.int p0), .val (.int p1), .val (.int p2), .val (.long p3), .second, .val (.int p4), .val (.int mc), .val (.int ec), .val (.int (p2 &&& (255 : Int32))), .val (.int ((XT.ushr p2 (8 : Int32)) &&& (255 : Int32))), .val (.int ((XT.ushr p2 (16 : Int32)) &&& (255 : Int32))), .val (.int ((XT.ushr p2 (24 : Int32)) &&& (255 : Int32))), .val (.int b1), .val (.int b2), .val (.ref c209), .val (.ref c212), .val (.int (1 : Int32)), .val (.int (1 : Int32)), .val (.int (1 : Int32)), .unset] [(.ref c212)])) rfl (by rw [hml]; rfl) c212 S212x.1 [] [] (rm18 l Z a0 hw [] c212 (FP.i2d ((XT.ushr p2 (8 : Int32)) &&& (255 : Int32))) h212 n0 Zx212 S212x.2.2.2.2.1) (lenOf pd14 rfl) rfl (by show 2 * 0 + _ ≤ _; exact Nat.le_of_eq rfl) (hb hby at_222) (by decide) (by decide) e227 (by decide) (by decide)
  obtain ⟨rfl, N230, rfl⟩ := hQ230
  have S231 : own_Go p e below s₁ G T230 (mkF m 225 #[.val (.int p0), .val (.int p1), .val (.int p2), .val (.long p3), .second, .val (.int p4), .val (.int mc), .val (.int ec), .val (.int (p2 &&& (255 : Int32))), .val (.int ((XT.ushr p2 (8 : Int32)) &&& (255 : Int32))), .val (.int ((XT.ushr p2 (16 : Int32)) &&& (255 : Int32))), .val (.int ((XT.ushr p2 (24 : Int32)) &&& (255 : Int32))), .val (.int b1), .val (.int b2), .val (.ref c209), .val (.ref c212), .val (.int (1 : Int32)), .val (.int (1 : Int32)), .val (.int (1 : Int32)), .unset] [(.double (FP.i2d ((XT.ushr p2 (8 : Int32)) &&& (255 : Int32))))]) := fun tg_ kk_ => S229 tg_ (st230 tg_ kk_)
  have NN230 := Fr.app NN227 N230
  have S232 : own_Go p e below s₁ G T230 (mkF m 234 #[.val (.int p0), .val (.int p1), .val (.int p2), .val (.long p3), .second, .val (.int p4), .val (.int mc), .val (.int ec), .val (.int (p2 &&& (255 : Int32))), .val (.int ((XT.ushr p2 (8 : Int32)) &&& (255 : Int32))), .val (.int ((XT.ushr p2 (16 : Int32)) &&& (255 : Int32))), .val (.int ((XT.ushr p2 (24 : Int32)) &&& (255 : Int32))), .val (.int b1), .val (.int b2), .val (.ref c209), .val (.ref c212), .val (.int (1 : Int32)), .val (.int (1 : Int32)), .val (.int (1 : Int32)), .unset] [(.ref c212)]) := fun tg_ kk_ => S231 tg_ (by
    refine XS.iload X230.here hx rfl (hb hby at_225) rfl ?_
    show Steps p.tables e below (T230.setTop (mkF m 227 #[.val (.int p0), .val (.int p1), .val (.int p2), .val (.long p3), .second, .val (.int p4), .val (.int mc), .val (.int ec), .val (.int (p2 &&& (255 : Int32))), .val (.int ((XT.ushr p2 (8 : Int32)) &&& (255 : Int32))), .val (.int ((XT.ushr p2 (16 : Int32)) &&& (255 : Int32))), .val (.int ((XT.ushr p2 (24 : Int32)) &&& (255 : Int32))), .val (.int b1), .val (.int b2), .val (.ref c209), .val (.ref c212), .val (.int (1 : Int32)), .val (.int (1 : Int32)), .val (.int (1 : Int32)), .unset] [(.int ((XT.ushr p2 (8 : Int32)) &&& (255 : Int32))), (.double (FP.i2d ((XT.ushr p2 (8 : Int32)) &&& (255 : Int32))))])) _
    refine XS.i2dS X230.here hx rfl (hb hby at_227) rfl rfl ?_
    show Steps p.tables e below (T230.setTop (mkF m 228 #[.val (.int p0), .val (.int p1), .val (.int p2), .val (.long p3), .second, .val (.int p4), .val (.int mc), .val (.int ec), .val (.int (p2 &&& (255 : Int32))), .val (.int ((XT.ushr p2 (8 : Int32)) &&& (255 : Int32))), .val (.int ((XT.ushr p2 (16 : Int32)) &&& (255 : Int32))), .val (.int ((XT.ushr p2 (24 : Int32)) &&& (255 : Int32))), .val (.int b1), .val (.int b2), .val (.ref c209), .val (.ref c212), .val (.int (1 : Int32)), .val (.int (1 : Int32)), .val (.int (1 : Int32)), .unset] [(.double (FP.i2d ((XT.ushr p2 (8 : Int32)) &&& (255 : Int32)))), (.double (FP.i2d ((XT.ushr p2 (8 : Int32)) &&& (255 : Int32))))])) _
    refine XS.dcmpS X230.here hx rfl (hb hby at_228) rfl ht3.2.2.2 ?_
    show Steps p.tables e below (T230.setTop (mkF m 229 #[.val (.int p0), .val (.int p1), .val (.int p2), .val (.long p3), .second, .val (.int p4), .val (.int mc), .val (.int ec), .val (.int (p2 &&& (255 : Int32))), .val (.int ((XT.ushr p2 (8 : Int32)) &&& (255 : Int32))), .val (.int ((XT.ushr p2 (16 : Int32)) &&& (255 : Int32))), .val (.int ((XT.ushr p2 (24 : Int32)) &&& (255 : Int32))), .val (.int b1), .val (.int b2), .val (.ref c209), .val (.ref c212), .val (.int (1 : Int32)), .val (.int (1 : Int32)), .val (.int (1 : Int32)), .unset] [(.int (0 : Int32))])) _
    refine XS.ifNo X230.here hx rfl (hb hby at_229) rfl (by decide) ?_
    show Steps p.tables e below (T230.setTop (mkF m 232 #[.val (.int p0), .val (.int p1), .val (.int p2), .val (.long p3), .second, .val (.int p4), .val (.int mc), .val (.int ec), .val (.int (p2 &&& (255 : Int32))), .val (.int ((XT.ushr p2 (8 : Int32)) &&& (255 : Int32))), .val (.int ((XT.ushr p2 (16 : Int32)) &&& (255 : Int32))), .val (.int ((XT.ushr p2 (24 : Int32)) &&& (255 : Int32))), .val (.int b1), .val (.int b2), .val (.ref c209), .val (.ref c212), .val (.int (1 : Int32)), .val (.int (1 : Int32)), .val (.int (1 : Int32)), .unset] [])) _
    refine XS.aload X230.here hx rfl (hb hby at_232) rfl rfl ?_
    exact kk_)
  obtain ⟨_, T233, h233, L233, X233, e233, hQ233, st233⟩ := own_callV X230 hx hZ203 (y := (⟨"com/example/locks_over_messages/locksovermessages/Simulation$Settings", "getStagger", "()D"⟩ : MethodName)) hown203 (hw _ (List.mem_of_getElem? (i := 111) rfl)) (hw _ (List.mem_of_getElem? (i := 112) rfl)) (hw _ (List.mem_of_getElem? (i := 114) rfl)) (hw _ (List.mem_of_getElem? (i := 113) rfl)) (hw _ (List.mem_of_getElem? (i := 7) rfl)) (hw _ (List.mem_of_getElem? (i := 115) rfl)) (by decide) 0 (g := (mkF m 234 #[.val (.int p0), .val (.int p1), .val (.int p2), .val (.long p3), .second, .val (.int p4), .val (.int mc), .val (.int ec), .val (.int (p2 &&& (255 : Int32))), .val (.int ((XT.ushr p2 (8 : Int32)) &&& (255 : Int32))), .val (.int ((XT.ushr p2 (16 : Int32)) &&& (255 : Int32))), .val (.int ((XT.ushr p2 (24 : Int32)) &&& (255 : Int32))), .val (.int b1), .val (.int b2), .val (.ref c209), .val (.ref c212), .val (.int (1 : Int32)), .val (.int (1 : Int32)), .val (.int (1 : Int32)), .unset] [(.ref c212)])) rfl (by rw [hml]; rfl) c212 S212x.1 [] [] (rm19 l Z a0 hw [] c212 (FP.i2d ((XT.ushr p2 (16 : Int32)) &&& (255 : Int32))) h212 n0 Zx212 S212x.2.2.2.2.2.1) (lenOf pd14 rfl) rfl (by show 2 * 0 + _ ≤ _; exact Nat.le_of_eq rfl) (hb hby at_234) (by decide) (by decide) e230 (by decide) (by decide)
  obtain ⟨rfl, N233, rfl⟩ := hQ233
  have S234 : own_Go p e below s₁ G T233 (mkF m 237 #[.val (.int p0), .val (.int p1), .val (.int p2), .val (.long p3), .second, .val (.int p4), .val (.int mc), .val (.int ec), .val (.int (p2 &&& (255 : Int32))), .val (.int ((XT.ushr p2 (8 : Int32)) &&& (255 : Int32))), .val (.int ((XT.ushr p2 (16 : Int32)) &&& (255 : Int32))), .val (.int ((XT.ushr p2 (24 : Int32)) &&& (255 : Int32))), .val (.int b1), .val (.int b2), .val (.ref c209), .val (.ref c212), .val (.int (1 : Int32)), .val (.int (1 : Int32)), .val (.int (1 : Int32)), .unset] [(.double (FP.i2d ((XT.ushr p2 (16 : Int32)) &&& (255 : Int32))))]) := fun tg_ kk_ => S232 tg_ (st233 tg_ kk_)
  have NN233 := Fr.app NN230 N233
  have S235 : own_Go p e below s₁ G T233 (mkF m 246 #[.val (.int p0), .val (.int p1), .val (.int p2), .val (.long p3), .second, .val (.int p4), .val (.int mc), .val (.int ec), .val (.int (p2 &&& (255 : Int32))), .val (.int ((XT.ushr p2 (8 : Int32)) &&& (255 : Int32))), .val (.int ((XT.ushr p2 (16 : Int32)) &&& (255 : Int32))), .val (.int ((XT.ushr p2 (24 : Int32)) &&& (255 : Int32))), .val (.int b1), .val (.int b2), .val (.ref c209), .val (.ref c212), .val (.int (1 : Int32)), .val (.int (1 : Int32)), .val (.int (1 : Int32)), .unset] [(.ref c212)]) := fun tg_ kk_ => S234 tg_ (by
    refine XS.iload X233.here hx rfl (hb hby at_237) rfl ?_
    show Steps p.tables e below (T233.setTop (mkF m 239 #[.val (.int p0), .val (.int p1), .val (.int p2), .val (.long p3), .second, .val (.int p4), .val (.int mc), .val (.int ec), .val (.int (p2 &&& (255 : Int32))), .val (.int ((XT.ushr p2 (8 : Int32)) &&& (255 : Int32))), .val (.int ((XT.ushr p2 (16 : Int32)) &&& (255 : Int32))), .val (.int ((XT.ushr p2 (24 : Int32)) &&& (255 : Int32))), .val (.int b1), .val (.int b2), .val (.ref c209), .val (.ref c212), .val (.int (1 : Int32)), .val (.int (1 : Int32)), .val (.int (1 : Int32)), .unset] [(.int ((XT.ushr p2 (16 : Int32)) &&& (255 : Int32))), (.double (FP.i2d ((XT.ushr p2 (16 : Int32)) &&& (255 : Int32))))])) _
    refine XS.i2dS X233.here hx rfl (hb hby at_239) rfl rfl ?_
    show Steps p.tables e below (T233.setTop (mkF m 240 #[.val (.int p0), .val (.int p1), .val (.int p2), .val (.long p3), .second, .val (.int p4), .val (.int mc), .val (.int ec), .val (.int (p2 &&& (255 : Int32))), .val (.int ((XT.ushr p2 (8 : Int32)) &&& (255 : Int32))), .val (.int ((XT.ushr p2 (16 : Int32)) &&& (255 : Int32))), .val (.int ((XT.ushr p2 (24 : Int32)) &&& (255 : Int32))), .val (.int b1), .val (.int b2), .val (.ref c209), .val (.ref c212), .val (.int (1 : Int32)), .val (.int (1 : Int32)), .val (.int (1 : Int32)), .unset] [(.double (FP.i2d ((XT.ushr p2 (16 : Int32)) &&& (255 : Int32)))), (.double (FP.i2d ((XT.ushr p2 (16 : Int32)) &&& (255 : Int32))))])) _
    refine XS.dcmpS X233.here hx rfl (hb hby at_240) rfl ht4.2.2.2 ?_
    show Steps p.tables e below (T233.setTop (mkF m 241 #[.val (.int p0), .val (.int p1), .val (.int p2), .val (.long p3), .second, .val (.int p4), .val (.int mc), .val (.int ec), .val (.int (p2 &&& (255 : Int32))), .val (.int ((XT.ushr p2 (8 : Int32)) &&& (255 : Int32))), .val (.int ((XT.ushr p2 (16 : Int32)) &&& (255 : Int32))), .val (.int ((XT.ushr p2 (24 : Int32)) &&& (255 : Int32))), .val (.int b1), .val (.int b2), .val (.ref c209), .val (.ref c212), .val (.int (1 : Int32)), .val (.int (1 : Int32)), .val (.int (1 : Int32)), .unset] [(.int (0 : Int32))])) _
    refine XS.ifNo X233.here hx rfl (hb hby at_241) rfl (by decide) ?_
    show Steps p.tables e below (T233.setTop (mkF m 244 #[.val (.int p0), .val (.int p1), .val (.int p2), .val (.long p3), .second, .val (.int p4), .val (.int mc), .val (.int ec), .val (.int (p2 &&& (255 : Int32))), .val (.int ((XT.ushr p2 (8 : Int32)) &&& (255 : Int32))), .val (.int ((XT.ushr p2 (16 : Int32)) &&& (255 : Int32))), .val (.int ((XT.ushr p2 (24 : Int32)) &&& (255 : Int32))), .val (.int b1), .val (.int b2), .val (.ref c209), .val (.ref c212), .val (.int (1 : Int32)), .val (.int (1 : Int32)), .val (.int (1 : Int32)), .unset] [])) _
    refine XS.aload X233.here hx rfl (hb hby at_244) rfl rfl ?_
    exact kk_)
  obtain ⟨_, T236, h236, L236, X236, e236, hQ236, st236⟩ := own_callV X233 hx hZ203 (y := (⟨"com/example/locks_over_messages/locksovermessages/Simulation$Settings", "getJitter", "()D"⟩ : MethodName)) hown203 (hw _ (List.mem_of_getElem? (i := 116) rfl)) (hw _ (List.mem_of_getElem? (i := 117) rfl)) (hw _ (List.mem_of_getElem? (i := 119) rfl)) (hw _ (List.mem_of_getElem? (i := 118) rfl)) (hw _ (List.mem_of_getElem? (i := 7) rfl)) (hw _ (List.mem_of_getElem? (i := 120) rfl)) (by decide) 0 (g := (mkF m 246 #[.val (.int p0), .val (.int p1), .val (.int p2), .val (.long p3), .second, .val (.int p4), .val (.int mc), .val (.int ec), .val (.int (p2 &&& (255 : Int32))), .val (.int ((XT.ushr p2 (8 : Int32)) &&& (255 : Int32))), .val (.int ((XT.ushr p2 (16 : Int32)) &&& (255 : Int32))), .val (.int ((XT.ushr p2 (24 : Int32)) &&& (255 : Int32))), .val (.int b1), .val (.int b2), .val (.ref c209), .val (.ref c212), .val (.int (1 : Int32)), .val (.int (1 : Int32)), .val (.int (1 : Int32)), .unset] [(.ref c212)])) rfl (by rw [hml]; rfl) c212 S212x.1 [] [] (rm20 l Z a0 hw [] c212 (FP.i2d ((XT.ushr p2 (24 : Int32)) &&& (255 : Int32))) h212 n0 Zx212 S212x.2.2.2.2.2.2.1) (lenOf pd14 rfl) rfl (by show 2 * 0 + _ ≤ _; exact Nat.le_of_eq rfl) (hb hby at_246) (by decide) (by decide) e233 (by decide) (by decide)
  obtain ⟨rfl, N236, rfl⟩ := hQ236
  have S237 : own_Go p e below s₁ G T236 (mkF m 249 #[.val (.int p0), .val (.int p1), .val (.int p2), .val (.long p3), .second, .val (.int p4), .val (.int mc), .val (.int ec), .val (.int (p2 &&& (255 : Int32))), .val (.int ((XT.ushr p2 (8 : Int32)) &&& (255 : Int32))), .val (.int ((XT.ushr p2 (16 : Int32)) &&& (255 : Int32))), .val (.int ((XT.ushr p2 (24 : Int32)) &&& (255 : Int32))), .val (.int b1), .val (.int b2), .val (.ref c209), .val (.ref c212), .val (.int (1 : Int32)), .val (.int (1 : Int32)), .val (.int (1 : Int32)), .unset] [(.double (FP.i2d ((XT.ushr p2 (24 : Int32)) &&& (255 : Int32))))]) := fun tg_ kk_ => S235 tg_ (st236 tg_ kk_)
  have NN236 := Fr.app NN233 N236
  have S238 : own_Go p e below s₁ G T236 (mkF m 258 #[.val (.int p0), .val (.int p1), .val (.int p2), .val (.long p3), .second, .val (.int p4), .val (.int mc), .val (.int ec), .val (.int (p2 &&& (255 : Int32))), .val (.int ((XT.ushr p2 (8 : Int32)) &&& (255 : Int32))), .val (.int ((XT.ushr p2 (16 : Int32)) &&& (255 : Int32))), .val (.int ((XT.ushr p2 (24 : Int32)) &&& (255 : Int32))), .val (.int b1), .val (.int b2), .val (.ref c209), .val (.ref c212), .val (.int (1 : Int32)), .val (.int (1 : Int32)), .val (.int (1 : Int32)), .unset] [(.ref c212)]) := fun tg_ kk_ => S237 tg_ (by
    refine XS.iload X236.here hx rfl (hb hby at_249) rfl ?_
    show Steps p.tables e below (T236.setTop (mkF m 251 #[.val (.int p0), .val (.int p1), .val (.int p2), .val (.long p3), .second, .val (.int p4), .val (.int mc), .val (.int ec), .val (.int (p2 &&& (255 : Int32))), .val (.int ((XT.ushr p2 (8 : Int32)) &&& (255 : Int32))), .val (.int ((XT.ushr p2 (16 : Int32)) &&& (255 : Int32))), .val (.int ((XT.ushr p2 (24 : Int32)) &&& (255 : Int32))), .val (.int b1), .val (.int b2), .val (.ref c209), .val (.ref c212), .val (.int (1 : Int32)), .val (.int (1 : Int32)), .val (.int (1 : Int32)), .unset] [(.int ((XT.ushr p2 (24 : Int32)) &&& (255 : Int32))), (.double (FP.i2d ((XT.ushr p2 (24 : Int32)) &&& (255 : Int32))))])) _
    refine XS.i2dS X236.here hx rfl (hb hby at_251) rfl rfl ?_
    show Steps p.tables e below (T236.setTop (mkF m 252 #[.val (.int p0), .val (.int p1), .val (.int p2), .val (.long p3), .second, .val (.int p4), .val (.int mc), .val (.int ec), .val (.int (p2 &&& (255 : Int32))), .val (.int ((XT.ushr p2 (8 : Int32)) &&& (255 : Int32))), .val (.int ((XT.ushr p2 (16 : Int32)) &&& (255 : Int32))), .val (.int ((XT.ushr p2 (24 : Int32)) &&& (255 : Int32))), .val (.int b1), .val (.int b2), .val (.ref c209), .val (.ref c212), .val (.int (1 : Int32)), .val (.int (1 : Int32)), .val (.int (1 : Int32)), .unset] [(.double (FP.i2d ((XT.ushr p2 (24 : Int32)) &&& (255 : Int32)))), (.double (FP.i2d ((XT.ushr p2 (24 : Int32)) &&& (255 : Int32))))])) _
    refine XS.dcmpS X236.here hx rfl (hb hby at_252) rfl ht5.2.2.2 ?_
    show Steps p.tables e below (T236.setTop (mkF m 253 #[.val (.int p0), .val (.int p1), .val (.int p2), .val (.long p3), .second, .val (.int p4), .val (.int mc), .val (.int ec), .val (.int (p2 &&& (255 : Int32))), .val (.int ((XT.ushr p2 (8 : Int32)) &&& (255 : Int32))), .val (.int ((XT.ushr p2 (16 : Int32)) &&& (255 : Int32))), .val (.int ((XT.ushr p2 (24 : Int32)) &&& (255 : Int32))), .val (.int b1), .val (.int b2), .val (.ref c209), .val (.ref c212), .val (.int (1 : Int32)), .val (.int (1 : Int32)), .val (.int (1 : Int32)), .unset] [(.int (0 : Int32))])) _
    refine XS.ifNo X236.here hx rfl (hb hby at_253) rfl (by decide) ?_
    show Steps p.tables e below (T236.setTop (mkF m 256 #[.val (.int p0), .val (.int p1), .val (.int p2), .val (.long p3), .second, .val (.int p4), .val (.int mc), .val (.int ec), .val (.int (p2 &&& (255 : Int32))), .val (.int ((XT.ushr p2 (8 : Int32)) &&& (255 : Int32))), .val (.int ((XT.ushr p2 (16 : Int32)) &&& (255 : Int32))), .val (.int ((XT.ushr p2 (24 : Int32)) &&& (255 : Int32))), .val (.int b1), .val (.int b2), .val (.ref c209), .val (.ref c212), .val (.int (1 : Int32)), .val (.int (1 : Int32)), .val (.int (1 : Int32)), .unset] [])) _
    refine XS.aload X236.here hx rfl (hb hby at_256) rfl rfl ?_
    exact kk_)
  obtain ⟨_, T239, h239, L239, X239, e239, hQ239, st239⟩ := own_callV X236 hx hZ203 (y := (⟨"com/example/locks_over_messages/locksovermessages/Simulation$Settings", "getSeed", "()J"⟩ : MethodName)) hown203 (hw _ (List.mem_of_getElem? (i := 121) rfl)) (hw _ (List.mem_of_getElem? (i := 122) rfl)) (hw _ (List.mem_of_getElem? (i := 124) rfl)) (hw _ (List.mem_of_getElem? (i := 123) rfl)) (hw _ (List.mem_of_getElem? (i := 7) rfl)) (hw _ (List.mem_of_getElem? (i := 125) rfl)) (by decide) 0 (g := (mkF m 258 #[.val (.int p0), .val (.int p1), .val (.int p2), .val (.long p3), .second, .val (.int p4), .val (.int mc), .val (.int ec), .val (.int (p2 &&& (255 : Int32))), .val (.int ((XT.ushr p2 (8 : Int32)) &&& (255 : Int32))), .val (.int ((XT.ushr p2 (16 : Int32)) &&& (255 : Int32))), .val (.int ((XT.ushr p2 (24 : Int32)) &&& (255 : Int32))), .val (.int b1), .val (.int b2), .val (.ref c209), .val (.ref c212), .val (.int (1 : Int32)), .val (.int (1 : Int32)), .val (.int (1 : Int32)), .unset] [(.ref c212)])) rfl (by rw [hml]; rfl) c212 S212x.1 [] [] (rm21 l Z a0 hw [] c212 p3 h212 n0 Zx212 S212x.2.2.2.2.2.2.2.1) (lenOf pd15 rfl) rfl (by show 2 * 0 + _ ≤ _; exact Nat.le_of_eq rfl) (hb hby at_258) (by decide) (by decide) e236 (by decide) (by decide)
  obtain ⟨rfl, N239, rfl⟩ := hQ239
  have S240 : own_Go p e below s₁ G T239 (mkF m 261 #[.val (.int p0), .val (.int p1), .val (.int p2), .val (.long p3), .second, .val (.int p4), .val (.int mc), .val (.int ec), .val (.int (p2 &&& (255 : Int32))), .val (.int ((XT.ushr p2 (8 : Int32)) &&& (255 : Int32))), .val (.int ((XT.ushr p2 (16 : Int32)) &&& (255 : Int32))), .val (.int ((XT.ushr p2 (24 : Int32)) &&& (255 : Int32))), .val (.int b1), .val (.int b2), .val (.ref c209), .val (.ref c212), .val (.int (1 : Int32)), .val (.int (1 : Int32)), .val (.int (1 : Int32)), .unset] [(.long p3)]) := fun tg_ kk_ => S238 tg_ (st239 tg_ kk_)
  have NN239 := Fr.app NN236 N239
  have S241 : own_Go p e below s₁ G T239 (mkF m 298 #[.val (.int p0), .val (.int p1), .val (.int p2), .val (.long p3), .second, .val (.int p4), .val (.int mc), .val (.int ec), .val (.int (p2 &&& (255 : Int32))), .val (.int ((XT.ushr p2 (8 : Int32)) &&& (255 : Int32))), .val (.int ((XT.ushr p2 (16 : Int32)) &&& (255 : Int32))), .val (.int ((XT.ushr p2 (24 : Int32)) &&& (255 : Int32))), .val (.int b1), .val (.int b2), .val (.ref c209), .val (.ref c212), .val (.int (1 : Int32)), .val (.int (1 : Int32)), .val (.int (1 : Int32)), .val (.int (1 : Int32))] [(.int (1 : Int32))]) := fun tg_ kk_ => S240 tg_ (by
    refine XT.lloadN X239.here hx rfl (hb hby at_261) rfl ?_
    show Steps p.tables e below (T239.setTop (mkF m 262 #[.val (.int p0), .val (.int p1), .val (.int p2), .val (.long p3), .second, .val (.int p4), .val (.int mc), .val (.int ec), .val (.int (p2 &&& (255 : Int32))), .val (.int ((XT.ushr p2 (8 : Int32)) &&& (255 : Int32))), .val (.int ((XT.ushr p2 (16 : Int32)) &&& (255 : Int32))), .val (.int ((XT.ushr p2 (24 : Int32)) &&& (255 : Int32))), .val (.int b1), .val (.int b2), .val (.ref c209), .val (.ref c212), .val (.int (1 : Int32)), .val (.int (1 : Int32)), .val (.int (1 : Int32)), .unset] [(.long p3), (.long p3)])) _
    refine XT.lcmp X239.here hx rfl (hb hby at_262) rfl ?_
    show Steps p.tables e below (T239.setTop (mkF m 263 #[.val (.int p0), .val (.int p1), .val (.int p2), .val (.long p3), .second, .val (.int p4), .val (.int mc), .val (.int ec), .val (.int (p2 &&& (255 : Int32))), .val (.int ((XT.ushr p2 (8 : Int32)) &&& (255 : Int32))), .val (.int ((XT.ushr p2 (16 : Int32)) &&& (255 : Int32))), .val (.int ((XT.ushr p2 (24 : Int32)) &&& (255 : Int32))), .val (.int b1), .val (.int b2), .val (.ref c209), .val (.ref c212), .val (.int (1 : Int32)), .val (.int (1 : Int32)), .val (.int (1 : Int32)), .unset] [(.int (XT.cmpL p3 p3))])) _
    refine XS.ifNo X239.here hx rfl (hb hby at_263) rfl (XT.ll_ne_f rfl) ?_
    show Steps p.tables e below (T239.setTop (mkF m 266 #[.val (.int p0), .val (.int p1), .val (.int p2), .val (.long p3), .second, .val (.int p4), .val (.int mc), .val (.int ec), .val (.int (p2 &&& (255 : Int32))), .val (.int ((XT.ushr p2 (8 : Int32)) &&& (255 : Int32))), .val (.int ((XT.ushr p2 (16 : Int32)) &&& (255 : Int32))), .val (.int ((XT.ushr p2 (24 : Int32)) &&& (255 : Int32))), .val (.int b1), .val (.int b2), .val (.ref c209), .val (.ref c212), .val (.int (1 : Int32)), .val (.int (1 : Int32)), .val (.int (1 : Int32)), .unset] [])) _
    refine XS.iconst X239.here hx rfl (hb hby at_266) ?_
    show Steps p.tables e below (T239.setTop (mkF m 267 #[.val (.int p0), .val (.int p1), .val (.int p2), .val (.long p3), .second, .val (.int p4), .val (.int mc), .val (.int ec), .val (.int (p2 &&& (255 : Int32))), .val (.int ((XT.ushr p2 (8 : Int32)) &&& (255 : Int32))), .val (.int ((XT.ushr p2 (16 : Int32)) &&& (255 : Int32))), .val (.int ((XT.ushr p2 (24 : Int32)) &&& (255 : Int32))), .val (.int b1), .val (.int b2), .val (.ref c209), .val (.ref c212), .val (.int (1 : Int32)), .val (.int (1 : Int32)), .val (.int (1 : Int32)), .unset] [(.int (1 : Int32))])) _
    refine XS.goto X239.here hx rfl (pc0 := 267) (pc' := 271) rfl (hb hby at_267) (by decide) (by decide) ?_
    show Steps p.tables e below (T239.setTop (mkF m 271 #[.val (.int p0), .val (.int p1), .val (.int p2), .val (.long p3), .second, .val (.int p4), .val (.int mc), .val (.int ec), .val (.int (p2 &&& (255 : Int32))), .val (.int ((XT.ushr p2 (8 : Int32)) &&& (255 : Int32))), .val (.int ((XT.ushr p2 (16 : Int32)) &&& (255 : Int32))), .val (.int ((XT.ushr p2 (24 : Int32)) &&& (255 : Int32))), .val (.int b1), .val (.int b2), .val (.ref c209), .val (.ref c212), .val (.int (1 : Int32)), .val (.int (1 : Int32)), .val (.int (1 : Int32)), .unset] [(.int (1 : Int32))])) _
    refine XS.istore X239.here hx rfl (hb hby at_271) rfl (l' := #[.val (.int p0), .val (.int p1), .val (.int p2), .val (.long p3), .second, .val (.int p4), .val (.int mc), .val (.int ec), .val (.int (p2 &&& (255 : Int32))), .val (.int ((XT.ushr p2 (8 : Int32)) &&& (255 : Int32))), .val (.int ((XT.ushr p2 (16 : Int32)) &&& (255 : Int32))), .val (.int ((XT.ushr p2 (24 : Int32)) &&& (255 : Int32))), .val (.int b1), .val (.int b2), .val (.ref c209), .val (.ref c212), .val (.int (1 : Int32)), .val (.int (1 : Int32)), .val (.int (1 : Int32)), .val (.int (1 : Int32))]) rfl ?_
    show Steps p.tables e below (T239.setTop (mkF m 273 #[.val (.int p0), .val (.int p1), .val (.int p2), .val (.long p3), .second, .val (.int p4), .val (.int mc), .val (.int ec), .val (.int (p2 &&& (255 : Int32))), .val (.int ((XT.ushr p2 (8 : Int32)) &&& (255 : Int32))), .val (.int ((XT.ushr p2 (16 : Int32)) &&& (255 : Int32))), .val (.int ((XT.ushr p2 (24 : Int32)) &&& (255 : Int32))), .val (.int b1), .val (.int b2), .val (.ref c209), .val (.ref c212), .val (.int (1 : Int32)), .val (.int (1 : Int32)), .val (.int (1 : Int32)), .val (.int (1 : Int32))] [])) _
    refine XS.iload X239.here hx rfl (hb hby at_273) rfl ?_
    show Steps p.tables e below (T239.setTop (mkF m 275 #[.val (.int p0), .val (.int p1), .val (.int p2), .val (.long p3), .second, .val (.int p4), .val (.int mc), .val (.int ec), .val (.int (p2 &&& (255 : Int32))), .val (.int ((XT.ushr p2 (8 : Int32)) &&& (255 : Int32))), .val (.int ((XT.ushr p2 (16 : Int32)) &&& (255 : Int32))), .val (.int ((XT.ushr p2 (24 : Int32)) &&& (255 : Int32))), .val (.int b1), .val (.int b2), .val (.ref c209), .val (.ref c212), .val (.int (1 : Int32)), .val (.int (1 : Int32)), .val (.int (1 : Int32)), .val (.int (1 : Int32))] [(.int (1 : Int32))])) _
    refine XS.ifNo X239.here hx rfl (hb hby at_275) rfl (by decide) ?_
    show Steps p.tables e below (T239.setTop (mkF m 278 #[.val (.int p0), .val (.int p1), .val (.int p2), .val (.long p3), .second, .val (.int p4), .val (.int mc), .val (.int ec), .val (.int (p2 &&& (255 : Int32))), .val (.int ((XT.ushr p2 (8 : Int32)) &&& (255 : Int32))), .val (.int ((XT.ushr p2 (16 : Int32)) &&& (255 : Int32))), .val (.int ((XT.ushr p2 (24 : Int32)) &&& (255 : Int32))), .val (.int b1), .val (.int b2), .val (.ref c209), .val (.ref c212), .val (.int (1 : Int32)), .val (.int (1 : Int32)), .val (.int (1 : Int32)), .val (.int (1 : Int32))] [])) _
    refine XS.iload X239.here hx rfl (hb hby at_278) rfl ?_
    show Steps p.tables e below (T239.setTop (mkF m 280 #[.val (.int p0), .val (.int p1), .val (.int p2), .val (.long p3), .second, .val (.int p4), .val (.int mc), .val (.int ec), .val (.int (p2 &&& (255 : Int32))), .val (.int ((XT.ushr p2 (8 : Int32)) &&& (255 : Int32))), .val (.int ((XT.ushr p2 (16 : Int32)) &&& (255 : Int32))), .val (.int ((XT.ushr p2 (24 : Int32)) &&& (255 : Int32))), .val (.int b1), .val (.int b2), .val (.ref c209), .val (.ref c212), .val (.int (1 : Int32)), .val (.int (1 : Int32)), .val (.int (1 : Int32)), .val (.int (1 : Int32))] [(.int (1 : Int32))])) _
    refine XS.ifNo X239.here hx rfl (hb hby at_280) rfl (by decide) ?_
    show Steps p.tables e below (T239.setTop (mkF m 283 #[.val (.int p0), .val (.int p1), .val (.int p2), .val (.long p3), .second, .val (.int p4), .val (.int mc), .val (.int ec), .val (.int (p2 &&& (255 : Int32))), .val (.int ((XT.ushr p2 (8 : Int32)) &&& (255 : Int32))), .val (.int ((XT.ushr p2 (16 : Int32)) &&& (255 : Int32))), .val (.int ((XT.ushr p2 (24 : Int32)) &&& (255 : Int32))), .val (.int b1), .val (.int b2), .val (.ref c209), .val (.ref c212), .val (.int (1 : Int32)), .val (.int (1 : Int32)), .val (.int (1 : Int32)), .val (.int (1 : Int32))] [])) _
    refine XS.iload X239.here hx rfl (hb hby at_283) rfl ?_
    show Steps p.tables e below (T239.setTop (mkF m 285 #[.val (.int p0), .val (.int p1), .val (.int p2), .val (.long p3), .second, .val (.int p4), .val (.int mc), .val (.int ec), .val (.int (p2 &&& (255 : Int32))), .val (.int ((XT.ushr p2 (8 : Int32)) &&& (255 : Int32))), .val (.int ((XT.ushr p2 (16 : Int32)) &&& (255 : Int32))), .val (.int ((XT.ushr p2 (24 : Int32)) &&& (255 : Int32))), .val (.int b1), .val (.int b2), .val (.ref c209), .val (.ref c212), .val (.int (1 : Int32)), .val (.int (1 : Int32)), .val (.int (1 : Int32)), .val (.int (1 : Int32))] [(.int (1 : Int32))])) _
    refine XS.ifNo X239.here hx rfl (hb hby at_285) rfl (by decide) ?_
    show Steps p.tables e below (T239.setTop (mkF m 288 #[.val (.int p0), .val (.int p1), .val (.int p2), .val (.long p3), .second, .val (.int p4), .val (.int mc), .val (.int ec), .val (.int (p2 &&& (255 : Int32))), .val (.int ((XT.ushr p2 (8 : Int32)) &&& (255 : Int32))), .val (.int ((XT.ushr p2 (16 : Int32)) &&& (255 : Int32))), .val (.int ((XT.ushr p2 (24 : Int32)) &&& (255 : Int32))), .val (.int b1), .val (.int b2), .val (.ref c209), .val (.ref c212), .val (.int (1 : Int32)), .val (.int (1 : Int32)), .val (.int (1 : Int32)), .val (.int (1 : Int32))] [])) _
    refine XS.iload X239.here hx rfl (hb hby at_288) rfl ?_
    show Steps p.tables e below (T239.setTop (mkF m 290 #[.val (.int p0), .val (.int p1), .val (.int p2), .val (.long p3), .second, .val (.int p4), .val (.int mc), .val (.int ec), .val (.int (p2 &&& (255 : Int32))), .val (.int ((XT.ushr p2 (8 : Int32)) &&& (255 : Int32))), .val (.int ((XT.ushr p2 (16 : Int32)) &&& (255 : Int32))), .val (.int ((XT.ushr p2 (24 : Int32)) &&& (255 : Int32))), .val (.int b1), .val (.int b2), .val (.ref c209), .val (.ref c212), .val (.int (1 : Int32)), .val (.int (1 : Int32)), .val (.int (1 : Int32)), .val (.int (1 : Int32))] [(.int (1 : Int32))])) _
    refine XS.ifNo X239.here hx rfl (hb hby at_290) rfl (by decide) ?_
    show Steps p.tables e below (T239.setTop (mkF m 293 #[.val (.int p0), .val (.int p1), .val (.int p2), .val (.long p3), .second, .val (.int p4), .val (.int mc), .val (.int ec), .val (.int (p2 &&& (255 : Int32))), .val (.int ((XT.ushr p2 (8 : Int32)) &&& (255 : Int32))), .val (.int ((XT.ushr p2 (16 : Int32)) &&& (255 : Int32))), .val (.int ((XT.ushr p2 (24 : Int32)) &&& (255 : Int32))), .val (.int b1), .val (.int b2), .val (.ref c209), .val (.ref c212), .val (.int (1 : Int32)), .val (.int (1 : Int32)), .val (.int (1 : Int32)), .val (.int (1 : Int32))] [])) _
    refine XS.iconst X239.here hx rfl (hb hby at_293) ?_
    show Steps p.tables e below (T239.setTop (mkF m 294 #[.val (.int p0), .val (.int p1), .val (.int p2), .val (.long p3), .second, .val (.int p4), .val (.int mc), .val (.int ec), .val (.int (p2 &&& (255 : Int32))), .val (.int ((XT.ushr p2 (8 : Int32)) &&& (255 : Int32))), .val (.int ((XT.ushr p2 (16 : Int32)) &&& (255 : Int32))), .val (.int ((XT.ushr p2 (24 : Int32)) &&& (255 : Int32))), .val (.int b1), .val (.int b2), .val (.ref c209), .val (.ref c212), .val (.int (1 : Int32)), .val (.int (1 : Int32)), .val (.int (1 : Int32)), .val (.int (1 : Int32))] [(.int (1 : Int32))])) _
    refine XS.goto X239.here hx rfl (pc0 := 294) (pc' := 298) rfl (hb hby at_294) (by decide) (by decide) ?_
    exact kk_)
  obtain ⟨fs, hr, hrun, hended, hend⟩ := X239.leaveW hS203 (by rw [e239]; exact hk212) (v := some (.int (1 : Int32))) (fun h => by rw [Bd.returns] at h; cases h)
  refine ⟨_, _, ?_, hrun, hended, _, _, rfl, ?_, hend.1, hend.2.1, hend.2.2.1, hend.2.2.2.mono (by decide) (by decide)⟩
  · rw [← hG]; exact S241 _ (retN X239 hx (t := .boolean) Bd.returns (by simp) (hb hby at_298) hr)
  · show Q0 Z p0 p1 p2 p3 p4 h0 n0 _ T239.heap _
    rw [e239]
    exact ⟨rfl, NN239⟩
set_option maxRecDepth 65536 in
set_option maxHeartbeats 40000000 in
theorem comes_1 {Post : Tables → Env → Array Value → State → Outcome → State → Prop} (hpost : ∀ tb e args s v u, (limb_1_1.after args s (.returned v) u = true ∧ limb_1_2.after args s (.returned v) u = true ∧ True) → ReturnedEndW s (.returned v) u (Jvm.fieldLocs frame_1_writes args s ++ Jvm.arrayLocs frame_1_arrays args s ++ Jvm.staticLocs frame_1_statics s) 32 4352 → Post tb e args s (.returned v) u) :
    ArmFor flags0 classFile x code maxLocals ret World_1 tables_1 room_1 Calls_1 rest_1 Pre_1 Post := by
  intro l hfl _ _ p e ha hc hk s m args below hf hA hF happ hP
  obtain ⟨hcalls, hrest, hpre⟩ := hP
  obtain ⟨-, -, -, hnamed, -, -, -, hat⟩ := (Spec.applies_iff hf).mp happ
  obtain ⟨hg, hn⟩ := and_e (Cond.before_iff.mp (show (Jvm.Cond.and given_1 narrow_1).before args s = true from hpre))
  obtain ⟨gc, gg0⟩ := and_e hg
  obtain ⟨ga0, gg1⟩ := and_e gg0
  obtain ⟨ga1, gg2⟩ := and_e gg1
  obtain ⟨ga2, gg3⟩ := and_e gg2
  obtain ⟨ga3, gg4⟩ := and_e gg3
  have ga4 := gg4
  obtain ⟨w0, w1, w2, w3, w4, rfl⟩ : ∃ w0 w1 w2 w3 w4 : Value, args = #[w0, w1, w2, w3, w4] := by
    have hs : args.size = 5 := by simpa [Cond.value, given_1] using gc
    obtain ⟨L⟩ := args
    match L, hs with
    | [w0, w1, w2, w3, w4], _ => exact ⟨w0, w1, w2, w3, w4, rfl⟩
  have hw := fun d (hd : d ∈ tables_1) => atoms_spec (ws := Jvm.Cond.code x code maxLocals ret :: tables_1) hat d (List.mem_cons_of_mem _ hd)
  have hfit : Fit s := fun {y c} hc i hi => by
    obtain ⟨ha, rfl⟩ := Array.getElem?_eq_some_iff.mp hc
    have q := List.all_eq_true.mp ((Array.all_eq_true_iff_forall_mem.mp hF) _ (Array.getElem_mem ha)) i (List.mem_range.mpr hi)
    simpa [Array.getElem?_eq_getElem hi] using q
  obtain ⟨i0, ei0⟩ := is_v ga0
  obtain rfl : w0 = (.int i0) := Option.some.inj ei0
  obtain ⟨i1, ei1⟩ := is_v ga1
  obtain rfl : w1 = (.int i1) := Option.some.inj ei1
  obtain ⟨i2, ei2⟩ := is_v ga2
  obtain rfl : w2 = (.int i2) := Option.some.inj ei2
  obtain ⟨i3, ei3⟩ := isL_v ga3
  obtain rfl : w3 = (.long i3) := Option.some.inj ei3
  obtain ⟨i4, ei4⟩ := is_v ga4
  obtain rfl : w4 = (.int i4) := Option.some.inj ei4
  obtain ⟨n, o, h1, h2, h3, _, L, rfl, ⟨rfl, N⟩, hq⟩ := rm0 l s _ hw tables_1 i0 i1 i2 i3 i4 s.heap s.heap.size (Nat.le_refl _)  p e ha hc hk s m _ below hf ((Spec.applies_iff_loose hf).mp happ).1 ⟨rfl, State.Warmed39.refl s, rfl⟩ trivial
  refine ⟨n, _, h1, h2, h3, hpost _ _ _ _ _ _ ⟨Cond.after_iff.mpr rfl, Cond.after_iff.mpr (eq_i res_at (Term.int_eval (1)) rfl), trivial⟩ ⟨hq.1, hq.2.1, hq.2.2.1, (hq.2.2.2.sift fun y hy => Or.inr (N y hy)).mono (by decide) (by decide)⟩⟩
theorem main_1_1 : Claimed_1_1 := comes_1 fun _ _ _ _ _ _ h hF => ⟨h.1, hF⟩
theorem main_1_2 : Claimed_1_2 := comes_1 fun _ _ _ _ _ _ h hF => ⟨h.2.1, hF⟩
end Jvm.Pilot.@@N@@
namespace Jvm.Pilot.@@N@@
open Jvm Jvm.ClassFile Sem Op Lib Jvm.Free Jvm.Stand Jvm.Pilot.@@N@@.Jvm.D
/-! MADE BY PROGRAM (witnessworld.py) out of the Statement's table words and the real class files: 17 classes; the members and pool entries that the words name. The judged class is class 1, her method 1. -/
namespace start1
open Jvm.ClassFile
def u (s : String) : CpInfo := .utf8 (stringToUtf16 s)
/-- a pool by its gaps: so many unusable entries, then the entry; so many at the end -/
def gap : Nat → List CpInfo → List CpInfo
  | 0, r => r
  | n + 1, r => .unusable :: gap n r
def poolList (es : List (Nat × CpInfo)) (last : Nat) : List CpInfo := es.foldr (fun e r => gap e.1 (e.2 :: r)) (gap last [])
def pool (es : List (Nat × CpInfo)) (last : Nat) : Array CpInfo := ⟨poolList es last⟩
def fileOf (pool : Array CpInfo) (this : Nat) (attrs : Array Attribute := #[]) (ms : Array MethodInfo := #[]) (fl : Nat := 33) (sup : Nat := 0) (ifs : Array Nat := #[]) (fds : Array FieldInfo := #[]) : ClassFile where
  minorVersion := 0
  majorVersion := 65
  constantPool := pool
  accessFlags := fl
  thisClass := this
  superClass := sup
  interfaces := ifs
  fields := fds
  methods := ms
  attributes := attrs
def plain (name : String) (sup : Option ClassId) : Class where
  name := name
  kind := .ordinary
  loader := none
  accessFlags := 33
  super := sup
  interfaces := #[]
  cf := none
  fields := #[]
  methods := #[]
  instanceTypes := #[]
  staticTypes := #[]
  resolved := #[]
  callSites := []
  init := .initialized
  statics := none
  mirror := none

def pool0 : Array CpInfo := pool [(5, u "<init>"), (0, u "()V"), (1, .class_ 10), (1, u "java/lang/Object")] 113

def k0c0 : Code := { maxStack := 0, maxLocals := 1, code := object_method_1_code, exceptionTable := #[], attributes := #[] }
def k0m0 : Method := { name := "<init>", desc := "()V", sig := { parameters := [], returnType := none }, accessFlags := 1, code := some k0c0 }
/-- java/lang/Object -/
def k0 : Class := { plain "java/lang/Object" none with
  accessFlags := 33
  interfaces := #[]
  cf := some (fileOf pool0 8 #[] #[{ accessFlags := 1, nameIndex := 5, descriptorIndex := 6, attributes := #[] }] 33 0 #[] #[])
  fields := #[]
  methods := #[k0m0]
  instanceTypes := #[]
  staticTypes := #[]
  resolved := Array.replicate 124 none
  statics := none }

def pool1 : Array CpInfo := pool [(2, .class_ 4), (1, u "java/lang/Object"), (0, u "<init>"), (0, u "()V"), (0, .integer 2147483647), (0, .methodref 9 10), (0, .class_ 11), (0, .nameAndType 12 13), (0, u "java/lang/Math"), (0, u "max"), (0, u "(II)I"), (0, .class_ 15), (0, u "com/example/locks_over_messages/locksovermessages/Simulation$Settings"), (0, .methodref 14 17), (0, .nameAndType 5 18), (0, u "(II)V"), (0, .methodref 14 20), (0, .nameAndType 21 22), (0, u "withHold"), (0, u "(D)Lcom/example/locks_over_messages/locksovermessages/Simulation$Settings;"), (0, .methodref 14 24), (0, .nameAndType 25 22), (0, u "withThink"), (0, .methodref 14 27), (0, .nameAndType 28 22), (0, u "withStagger"), (0, .methodref 14 30), (0, .nameAndType 31 22), (0, u "withJitter"), (0, .methodref 14 33), (0, .nameAndType 34 35), (0, u "withSeed"), (0, u "(J)Lcom/example/locks_over_messages/locksovermessages/Simulation$Settings;"), (0, .methodref 14 37), (0, .nameAndType 38 39), (0, u "withEntriesRecorded"), (0, u "(Z)Lcom/example/locks_over_messages/locksovermessages/Simulation$Settings;"), (0, .methodref 14 41), (0, .nameAndType 42 43), (0, u "areEntriesRecorded"), (0, u "()Z"), (0, .methodref 14 45), (0, .nameAndType 46 47), (0, u "getMemberCount"), (0, u "()I"), (0, .methodref 14 49), (0, .nameAndType 50 47), (0, u "getEntriesEach"), (0, .methodref 14 52), (0, .nameAndType 53 54), (0, u "getHold"), (0, u "()D"), (0, .methodref 14 56), (0, .nameAndType 57 54), (0, u "getThink"), (0, .methodref 14 59), (0, .nameAndType 60 54), (0, u "getStagger"), (0, .methodref 14 62), (0, .nameAndType 63 54), (0, u "getJitter"), (0, .methodref 14 65), (0, .nameAndType 66 67), (0, u "getSeed"), (0, u "()J"), (0, .class_ 69), (0, u "com/example/locks_over_messages/locksovermessages/SettingsWithEntriesRecordedPinLaw"), (2, u "law"), (0, u "(IIIJI)Z")] 7

def k1m0 : Method := { name := "<init>", desc := "()V", sig := { parameters := [], returnType := none }, accessFlags := 2, code := none }
def k1c1 : Code := { maxStack := 4, maxLocals := 20, code := code, exceptionTable := #[], attributes := #[] }
def k1m1 : Method := { name := "law", desc := "(IIIJI)Z", sig := { parameters := [.int, .int, .int, .long, .int], returnType := some .boolean }, accessFlags := 9, code := some k1c1 }
/-- com/example/locks_over_messages/locksovermessages/SettingsWithEntriesRecordedPinLaw -/
def k1 : Class := { plain "com/example/locks_over_messages/locksovermessages/SettingsWithEntriesRecordedPinLaw" (some 0) with
  accessFlags := 49
  interfaces := #[]
  cf := some (fileOf pool1 68 #[] #[{ accessFlags := 2, nameIndex := 5, descriptorIndex := 6, attributes := #[] }, { accessFlags := 9, nameIndex := 72, descriptorIndex := 73, attributes := #[] }] 49 2 #[] #[])
  fields := #[]
  methods := #[k1m0, k1m1]
  instanceTypes := #[]
  staticTypes := #[]
  resolved := Array.replicate 81 none
  statics := none }

def pool2 : Array CpInfo := pool [(1, .class_ 2), (0, u "java/lang/Math"), (1, .class_ 6), (1, u "java/lang/Object"), (0, u "<init>"), (0, u "()V"), (5, u "(D)D"), (83, .class_ 100), (1, u "java/lang/Math$RandomNumberGeneratorHolder"), (23, u "abs"), (47, u "negativeZeroFloatBits"), (0, u "J"), (2, u "negativeZeroDoubleBits"), (21, u "max"), (46, u "$assertionsDisabled"), (0, u "Z"), (88, u "(II)I"), (2, u "twoToTheDoubleScaleDown"), (0, u "D"), (4, u "twoToTheDoubleScaleUp"), (9, u "E"), (3, u "PI"), (2, u "TAU"), (2, u "DEGREES_TO_RADIANS"), (0, u "RADIANS_TO_DEGREES")] 94

def k2m0 : Method := { name := "<init>", desc := "()V", sig := { parameters := [], returnType := none }, accessFlags := 2, code := none }
def k2c1 : Code := { maxStack := 4, maxLocals := 2, code := jdk_29_method_64_code, exceptionTable := #[], attributes := #[] }
def k2m1 : Method := { name := "abs", desc := "(D)D", sig := { parameters := [.double], returnType := some .double }, accessFlags := 9, code := some k2c1 }
def k2c2 : Code := { maxStack := 2, maxLocals := 2, code := jdk_29_method_65_code, exceptionTable := #[], attributes := #[] }
def k2m2 : Method := { name := "max", desc := "(II)I", sig := { parameters := [.int, .int], returnType := some .int }, accessFlags := 9, code := some k2c2 }
/-- java/lang/Math -/
def k2 : Class := { plain "java/lang/Math" (some 0) with
  accessFlags := 49
  interfaces := #[]
  cf := some (fileOf pool2 1 #[.nestMembers #[98]] #[{ accessFlags := 2, nameIndex := 7, descriptorIndex := 8, attributes := #[] }, { accessFlags := 9, nameIndex := 124, descriptorIndex := 14, attributes := #[] }, { accessFlags := 9, nameIndex := 198, descriptorIndex := 335, attributes := #[] }] 49 4 #[] #[{ accessFlags := 25, nameIndex := 354, descriptorIndex := 339, attributes := #[] }, { accessFlags := 25, nameIndex := 358, descriptorIndex := 339, attributes := #[] }, { accessFlags := 25, nameIndex := 361, descriptorIndex := 339, attributes := #[] }, { accessFlags := 26, nameIndex := 364, descriptorIndex := 339, attributes := #[] }, { accessFlags := 26, nameIndex := 365, descriptorIndex := 339, attributes := #[] }, { accessFlags := 26, nameIndex := 172, descriptorIndex := 173, attributes := #[] }, { accessFlags := 26, nameIndex := 176, descriptorIndex := 173, attributes := #[] }, { accessFlags := 8, nameIndex := 344, descriptorIndex := 339, attributes := #[] }, { accessFlags := 8, nameIndex := 338, descriptorIndex := 339, attributes := #[] }, { accessFlags := 4120, nameIndex := 245, descriptorIndex := 246, attributes := #[] }])
  fields := #[{ name := "E", type := .double, accessFlags := 25, slot := 0, constantValue := 0 }, { name := "PI", type := .double, accessFlags := 25, slot := 1, constantValue := 0 }, { name := "TAU", type := .double, accessFlags := 25, slot := 2, constantValue := 0 }, { name := "DEGREES_TO_RADIANS", type := .double, accessFlags := 26, slot := 3, constantValue := 0 }, { name := "RADIANS_TO_DEGREES", type := .double, accessFlags := 26, slot := 4, constantValue := 0 }, { name := "negativeZeroFloatBits", type := .long, accessFlags := 26, slot := 5, constantValue := 0 }, { name := "negativeZeroDoubleBits", type := .long, accessFlags := 26, slot := 6, constantValue := 0 }, { name := "twoToTheDoubleScaleUp", type := .double, accessFlags := 8, slot := 7, constantValue := 0 }, { name := "twoToTheDoubleScaleDown", type := .double, accessFlags := 8, slot := 8, constantValue := 0 }, { name := "$assertionsDisabled", type := .boolean, accessFlags := 4120, slot := 9, constantValue := 0 }]
  methods := #[k2m0, k2m1, k2m2]
  instanceTypes := #[]
  staticTypes := #[.double, .double, .double, .double, .double, .long, .long, .double, .double, .boolean]
  resolved := Array.replicate 460 none
  statics := none }

def pool3 : Array CpInfo := pool [(1, .methodref 2 3), (0, .class_ 4), (0, .nameAndType 5 6), (0, u "java/lang/Object"), (0, u "<init>"), (0, u "()V"), (0, .fieldref 8 9), (0, .class_ 10), (0, .nameAndType 11 12), (0, u "com/example/locks_over_messages/locksovermessages/Simulation$Settings"), (0, u "hold"), (0, u "D"), (0, .fieldref 8 14), (0, .nameAndType 15 16), (0, u "seed"), (0, u "J"), (10, .fieldref 8 28), (0, .nameAndType 29 30), (0, u "memberCount"), (0, u "I"), (0, .fieldref 8 32), (0, .nameAndType 33 30), (0, u "entriesEach"), (0, .fieldref 8 35), (0, .nameAndType 36 12), (0, u "think"), (0, .fieldref 8 38), (0, .nameAndType 39 12), (0, u "stagger"), (0, .fieldref 8 41), (0, .nameAndType 42 12), (0, u "jitter"), (0, .fieldref 8 44), (0, .nameAndType 45 46), (0, u "entriesRecorded"), (0, u "Z"), (0, .methodref 8 48), (0, .nameAndType 5 49), (0, u "(Lcom/example/locks_over_messages/locksovermessages/Simulation$Settings;)V"), (0, .string 11), (0, .methodref 8 52), (0, .nameAndType 53 54), (0, u "requireTime"), (0, u "(Ljava/lang/String;D)D"), (0, .string 36), (0, .string 39), (0, .string 42), (0, .methodref 59 60), (0, .class_ 61), (0, .nameAndType 62 63), (0, u "java/lang/Double"), (0, u "isFinite"), (0, u "(D)Z"), (3, u "(II)V"), (3, u "getMemberCount"), (0, u "()I"), (0, u "getEntriesEach"), (0, u "getHold"), (0, u "()D"), (0, u "getThink"), (0, u "getStagger"), (0, u "getJitter"), (0, u "getSeed"), (0, u "()J"), (0, u "areEntriesRecorded"), (0, u "()Z"), (0, u "withHold"), (0, u "(D)Lcom/example/locks_over_messages/locksovermessages/Simulation$Settings;"), (0, u "withThink"), (0, u "withStagger"), (0, u "withJitter"), (0, u "withSeed"), (0, u "(J)Lcom/example/locks_over_messages/locksovermessages/Simulation$Settings;"), (0, u "withEntriesRecorded"), (0, u "(Z)Lcom/example/locks_over_messages/locksovermessages/Simulation$Settings;"), (3, .class_ 96), (0, u "com/example/locks_over_messages/locksovermessages/Simulation")] 20

def k3c0 : Code := { maxStack := 3, maxLocals := 3, code := prog_49_method_1_code, exceptionTable := #[], attributes := #[] }
def k3m0 : Method := { name := "<init>", desc := "(II)V", sig := { parameters := [.int, .int], returnType := none }, accessFlags := 0, code := some k3c0 }
def k3c1 : Code := { maxStack := 3, maxLocals := 2, code := prog_49_method_2_code, exceptionTable := #[], attributes := #[] }
def k3m1 : Method := { name := "<init>", desc := "(Lcom/example/locks_over_messages/locksovermessages/Simulation$Settings;)V", sig := { parameters := [(.object "com/example/locks_over_messages/locksovermessages/Simulation$Settings")], returnType := none }, accessFlags := 2, code := some k3c1 }
def k3c2 : Code := { maxStack := 1, maxLocals := 1, code := prog_49_method_3_code, exceptionTable := #[], attributes := #[] }
def k3m2 : Method := { name := "getMemberCount", desc := "()I", sig := { parameters := [], returnType := some .int }, accessFlags := 0, code := some k3c2 }
def k3c3 : Code := { maxStack := 1, maxLocals := 1, code := prog_49_method_4_code, exceptionTable := #[], attributes := #[] }
def k3m3 : Method := { name := "getEntriesEach", desc := "()I", sig := { parameters := [], returnType := some .int }, accessFlags := 0, code := some k3c3 }
def k3c4 : Code := { maxStack := 2, maxLocals := 1, code := prog_49_method_5_code, exceptionTable := #[], attributes := #[] }
def k3m4 : Method := { name := "getHold", desc := "()D", sig := { parameters := [], returnType := some .double }, accessFlags := 0, code := some k3c4 }
def k3c5 : Code := { maxStack := 2, maxLocals := 1, code := prog_49_method_6_code, exceptionTable := #[], attributes := #[] }
def k3m5 : Method := { name := "getThink", desc := "()D", sig := { parameters := [], returnType := some .double }, accessFlags := 0, code := some k3c5 }
def k3c6 : Code := { maxStack := 2, maxLocals := 1, code := prog_49_method_7_code, exceptionTable := #[], attributes := #[] }
def k3m6 : Method := { name := "getStagger", desc := "()D", sig := { parameters := [], returnType := some .double }, accessFlags := 0, code := some k3c6 }
def k3c7 : Code := { maxStack := 2, maxLocals := 1, code := prog_49_method_8_code, exceptionTable := #[], attributes := #[] }
def k3m7 : Method := { name := "getJitter", desc := "()D", sig := { parameters := [], returnType := some .double }, accessFlags := 0, code := some k3c7 }
def k3c8 : Code := { maxStack := 2, maxLocals := 1, code := prog_49_method_9_code, exceptionTable := #[], attributes := #[] }
def k3m8 : Method := { name := "getSeed", desc := "()J", sig := { parameters := [], returnType := some .long }, accessFlags := 0, code := some k3c8 }
def k3c9 : Code := { maxStack := 1, maxLocals := 1, code := prog_49_method_10_code, exceptionTable := #[], attributes := #[] }
def k3m9 : Method := { name := "areEntriesRecorded", desc := "()Z", sig := { parameters := [], returnType := some .boolean }, accessFlags := 0, code := some k3c9 }
def k3c10 : Code := { maxStack := 4, maxLocals := 4, code := prog_49_method_11_code, exceptionTable := #[], attributes := #[] }
def k3m10 : Method := { name := "withHold", desc := "(D)Lcom/example/locks_over_messages/locksovermessages/Simulation$Settings;", sig := { parameters := [.double], returnType := some (.object "com/example/locks_over_messages/locksovermessages/Simulation$Settings") }, accessFlags := 0, code := some k3c10 }
def k3c11 : Code := { maxStack := 4, maxLocals := 4, code := prog_49_method_12_code, exceptionTable := #[], attributes := #[] }
def k3m11 : Method := { name := "withThink", desc := "(D)Lcom/example/locks_over_messages/locksovermessages/Simulation$Settings;", sig := { parameters := [.double], returnType := some (.object "com/example/locks_over_messages/locksovermessages/Simulation$Settings") }, accessFlags := 0, code := some k3c11 }
def k3c12 : Code := { maxStack := 4, maxLocals := 4, code := prog_49_method_13_code, exceptionTable := #[], attributes := #[] }
def k3m12 : Method := { name := "withStagger", desc := "(D)Lcom/example/locks_over_messages/locksovermessages/Simulation$Settings;", sig := { parameters := [.double], returnType := some (.object "com/example/locks_over_messages/locksovermessages/Simulation$Settings") }, accessFlags := 0, code := some k3c12 }
def k3c13 : Code := { maxStack := 4, maxLocals := 4, code := prog_49_method_14_code, exceptionTable := #[], attributes := #[] }
def k3m13 : Method := { name := "withJitter", desc := "(D)Lcom/example/locks_over_messages/locksovermessages/Simulation$Settings;", sig := { parameters := [.double], returnType := some (.object "com/example/locks_over_messages/locksovermessages/Simulation$Settings") }, accessFlags := 0, code := some k3c13 }
def k3c14 : Code := { maxStack := 3, maxLocals := 4, code := prog_49_method_15_code, exceptionTable := #[], attributes := #[] }
def k3m14 : Method := { name := "withSeed", desc := "(J)Lcom/example/locks_over_messages/locksovermessages/Simulation$Settings;", sig := { parameters := [.long], returnType := some (.object "com/example/locks_over_messages/locksovermessages/Simulation$Settings") }, accessFlags := 0, code := some k3c14 }
def k3c15 : Code := { maxStack := 3, maxLocals := 3, code := prog_49_method_16_code, exceptionTable := #[], attributes := #[] }
def k3m15 : Method := { name := "withEntriesRecorded", desc := "(Z)Lcom/example/locks_over_messages/locksovermessages/Simulation$Settings;", sig := { parameters := [.boolean], returnType := some (.object "com/example/locks_over_messages/locksovermessages/Simulation$Settings") }, accessFlags := 0, code := some k3c15 }
def k3c16 : Code := { maxStack := 5, maxLocals := 3, code := prog_49_method_17_code, exceptionTable := #[], attributes := #[] }
def k3m16 : Method := { name := "requireTime", desc := "(Ljava/lang/String;D)D", sig := { parameters := [(.object "java/lang/String"), .double], returnType := some .double }, accessFlags := 10, code := some k3c16 }
/-- com/example/locks_over_messages/locksovermessages/Simulation$Settings -/
def k3 : Class := { plain "com/example/locks_over_messages/locksovermessages/Simulation$Settings" (some 0) with
  accessFlags := 48
  interfaces := #[]
  cf := some (fileOf pool3 8 #[.nestHost 95] #[{ accessFlags := 0, nameIndex := 5, descriptorIndex := 67, attributes := #[] }, { accessFlags := 2, nameIndex := 5, descriptorIndex := 49, attributes := #[] }, { accessFlags := 0, nameIndex := 71, descriptorIndex := 72, attributes := #[] }, { accessFlags := 0, nameIndex := 73, descriptorIndex := 72, attributes := #[] }, { accessFlags := 0, nameIndex := 74, descriptorIndex := 75, attributes := #[] }, { accessFlags := 0, nameIndex := 76, descriptorIndex := 75, attributes := #[] }, { accessFlags := 0, nameIndex := 77, descriptorIndex := 75, attributes := #[] }, { accessFlags := 0, nameIndex := 78, descriptorIndex := 75, attributes := #[] }, { accessFlags := 0, nameIndex := 79, descriptorIndex := 80, attributes := #[] }, { accessFlags := 0, nameIndex := 81, descriptorIndex := 82, attributes := #[] }, { accessFlags := 0, nameIndex := 83, descriptorIndex := 84, attributes := #[] }, { accessFlags := 0, nameIndex := 85, descriptorIndex := 84, attributes := #[] }, { accessFlags := 0, nameIndex := 86, descriptorIndex := 84, attributes := #[] }, { accessFlags := 0, nameIndex := 87, descriptorIndex := 84, attributes := #[] }, { accessFlags := 0, nameIndex := 88, descriptorIndex := 89, attributes := #[] }, { accessFlags := 0, nameIndex := 90, descriptorIndex := 91, attributes := #[] }, { accessFlags := 10, nameIndex := 53, descriptorIndex := 54, attributes := #[] }] 48 2 #[] #[{ accessFlags := 18, nameIndex := 29, descriptorIndex := 30, attributes := #[] }, { accessFlags := 18, nameIndex := 33, descriptorIndex := 30, attributes := #[] }, { accessFlags := 2, nameIndex := 11, descriptorIndex := 12, attributes := #[] }, { accessFlags := 2, nameIndex := 36, descriptorIndex := 12, attributes := #[] }, { accessFlags := 2, nameIndex := 39, descriptorIndex := 12, attributes := #[] }, { accessFlags := 2, nameIndex := 42, descriptorIndex := 12, attributes := #[] }, { accessFlags := 2, nameIndex := 15, descriptorIndex := 16, attributes := #[] }, { accessFlags := 2, nameIndex := 45, descriptorIndex := 46, attributes := #[] }])
  fields := #[{ name := "memberCount", type := .int, accessFlags := 18, slot := 0, constantValue := 0 }, { name := "entriesEach", type := .int, accessFlags := 18, slot := 1, constantValue := 0 }, { name := "hold", type := .double, accessFlags := 2, slot := 2, constantValue := 0 }, { name := "think", type := .double, accessFlags := 2, slot := 3, constantValue := 0 }, { name := "stagger", type := .double, accessFlags := 2, slot := 4, constantValue := 0 }, { name := "jitter", type := .double, accessFlags := 2, slot := 5, constantValue := 0 }, { name := "seed", type := .long, accessFlags := 2, slot := 6, constantValue := 0 }, { name := "entriesRecorded", type := .boolean, accessFlags := 2, slot := 7, constantValue := 0 }]
  methods := #[k3m0, k3m1, k3m2, k3m3, k3m4, k3m5, k3m6, k3m7, k3m8, k3m9, k3m10, k3m11, k3m12, k3m13, k3m14, k3m15, k3m16]
  instanceTypes := #[.int, .int, .double, .double, .double, .double, .long, .boolean]
  staticTypes := #[]
  resolved := Array.replicate 117 none
  statics := none }

def pool4 : Array CpInfo := pool [(1, .class_ 2), (0, u "java/io/Serializable"), (0, .class_ 4), (0, u "java/lang/Object")] 2

/-- java/io/Serializable -/
def k4 : Class := { plain "java/io/Serializable" (some 0) with
  accessFlags := 1537
  interfaces := #[]
  cf := some (fileOf pool4 1 #[] #[] 1537 3 #[] #[])
  fields := #[]
  methods := #[]
  instanceTypes := #[]
  staticTypes := #[]
  resolved := Array.replicate 7 none
  statics := none }

def pool5 : Array CpInfo := pool [(1, .class_ 2), (0, u "java/lang/Comparable"), (0, .class_ 4), (0, u "java/lang/Object")] 7

/-- java/lang/Comparable -/
def k5 : Class := { plain "java/lang/Comparable" (some 0) with
  accessFlags := 1537
  interfaces := #[]
  cf := some (fileOf pool5 1 #[] #[] 1537 3 #[] #[])
  fields := #[]
  methods := #[]
  instanceTypes := #[]
  staticTypes := #[]
  resolved := Array.replicate 12 none
  statics := none }

def pool6 : Array CpInfo := pool [(2, .class_ 4), (1, u "java/lang/CharSequence"), (42, .class_ 48), (0, u "java/lang/CharSequence$1CodePointIterator"), (10, .class_ 60), (0, u "java/lang/CharSequence$1CharIterator"), (5, .class_ 67), (0, u "java/lang/Object")] 63

/-- java/lang/CharSequence -/
def k6 : Class := { plain "java/lang/CharSequence" (some 0) with
  accessFlags := 1537
  interfaces := #[]
  cf := some (fileOf pool6 2 #[.nestMembers #[47, 59]] #[] 1537 66 #[] #[])
  fields := #[]
  methods := #[]
  instanceTypes := #[]
  staticTypes := #[]
  resolved := Array.replicate 131 none
  statics := none }

def pool7 : Array CpInfo := pool [(1, .class_ 2), (0, u "java/lang/constant/Constable"), (0, .class_ 4), (0, u "java/lang/Object")] 6

/-- java/lang/constant/Constable -/
def k7 : Class := { plain "java/lang/constant/Constable" (some 0) with
  accessFlags := 1537
  interfaces := #[]
  cf := some (fileOf pool7 1 #[] #[] 1537 3 #[] #[])
  fields := #[]
  methods := #[]
  instanceTypes := #[]
  staticTypes := #[]
  resolved := Array.replicate 11 none
  statics := none }

def pool8 : Array CpInfo := pool [(1, .class_ 2), (0, u "java/lang/constant/ConstantDesc"), (0, .class_ 4), (0, u "java/lang/Object")] 32

/-- java/lang/constant/ConstantDesc -/
def k8 : Class := { plain "java/lang/constant/ConstantDesc" (some 0) with
  accessFlags := 1537
  interfaces := #[]
  cf := some (fileOf pool8 1 #[] #[] 1537 3 #[] #[])
  fields := #[]
  methods := #[]
  instanceTypes := #[]
  staticTypes := #[]
  resolved := Array.replicate 37 none
  statics := none }

def pool9 : Array CpInfo := pool [(2, .class_ 4), (1, u "java/lang/Object"), (0, u "<init>"), (0, u "()V"), (3, .class_ 12), (1, u "java/lang/String"), (0, u "value"), (0, u "[B"), (2, u "coder"), (0, u "B"), (2, u "hash"), (0, u "I"), (2, u "hashIsZero"), (0, u "Z"), (13, u "COMPACT_STRINGS"), (534, .class_ 576), (0, u "java/lang/CharSequence"), (22, u "CASE_INSENSITIVE_ORDER"), (0, u "Ljava/util/Comparator;"), (500, u "serialPersistentFields"), (0, u "[Ljava/io/ObjectStreamField;"), (0, .class_ 1104), (0, u "java/lang/String$CaseInsensitiveComparator"), (1, .class_ 1107), (0, u "java/io/Serializable"), (0, .class_ 1109), (0, u "java/lang/Comparable"), (0, .class_ 1111), (0, u "java/lang/constant/Constable"), (0, .class_ 1113), (0, u "java/lang/constant/ConstantDesc"), (2, u "serialVersionUID"), (0, u "J"), (3, u "REPL"), (0, u "C"), (2, u "LATIN1"), (1, u "UTF16")] 323

def k9m0 : Method := { name := "<init>", desc := "()V", sig := { parameters := [], returnType := none }, accessFlags := 1, code := none }
/-- java/lang/String -/
def k9 : Class := { plain "java/lang/String" (some 0) with
  accessFlags := 49
  interfaces := #[4, 5, 6, 7, 8]
  cf := some (fileOf pool9 10 #[.nestMembers #[1103]] #[{ accessFlags := 1, nameIndex := 5, descriptorIndex := 6, attributes := #[] }] 49 2 #[1106, 1108, 575, 1110, 1112] #[{ accessFlags := 18, nameIndex := 13, descriptorIndex := 14, attributes := #[] }, { accessFlags := 18, nameIndex := 17, descriptorIndex := 18, attributes := #[] }, { accessFlags := 2, nameIndex := 21, descriptorIndex := 22, attributes := #[] }, { accessFlags := 2, nameIndex := 25, descriptorIndex := 26, attributes := #[] }, { accessFlags := 26, nameIndex := 1116, descriptorIndex := 1117, attributes := #[] }, { accessFlags := 24, nameIndex := 40, descriptorIndex := 26, attributes := #[] }, { accessFlags := 26, nameIndex := 1101, descriptorIndex := 1102, attributes := #[] }, { accessFlags := 26, nameIndex := 1121, descriptorIndex := 1122, attributes := #[] }, { accessFlags := 25, nameIndex := 599, descriptorIndex := 600, attributes := #[] }, { accessFlags := 24, nameIndex := 1125, descriptorIndex := 18, attributes := #[] }, { accessFlags := 24, nameIndex := 1127, descriptorIndex := 18, attributes := #[] }])
  fields := #[{ name := "value", type := (.array .byte), accessFlags := 18, slot := 0, constantValue := 0 }, { name := "coder", type := .byte, accessFlags := 18, slot := 1, constantValue := 0 }, { name := "hash", type := .int, accessFlags := 2, slot := 2, constantValue := 0 }, { name := "hashIsZero", type := .boolean, accessFlags := 2, slot := 3, constantValue := 0 }, { name := "serialVersionUID", type := .long, accessFlags := 26, slot := 0, constantValue := 0 }, { name := "COMPACT_STRINGS", type := .boolean, accessFlags := 24, slot := 1, constantValue := 0 }, { name := "serialPersistentFields", type := (.array (.object "java/io/ObjectStreamField")), accessFlags := 26, slot := 2, constantValue := 0 }, { name := "REPL", type := .char, accessFlags := 26, slot := 3, constantValue := 0 }, { name := "CASE_INSENSITIVE_ORDER", type := (.object "java/util/Comparator"), accessFlags := 25, slot := 4, constantValue := 0 }, { name := "LATIN1", type := .byte, accessFlags := 24, slot := 5, constantValue := 0 }, { name := "UTF16", type := .byte, accessFlags := 24, slot := 6, constantValue := 0 }]
  methods := #[k9m0]
  instanceTypes := #[(.array .byte), .byte, .int, .boolean]
  staticTypes := #[.long, .boolean, (.array (.object "java/io/ObjectStreamField")), .char, (.object "java/util/Comparator"), .byte, .byte]
  resolved := Array.replicate 1451 none
  statics := none }

def pool10 : Array CpInfo := pool [(2, .class_ 4), (1, u "java/lang/Object"), (0, u "<init>"), (0, u "()V"), (1, .class_ 10), (1, u "java/lang/Number"), (2, .class_ 14), (0, u "java/io/Serializable"), (0, u "serialVersionUID"), (0, u "J")] 20

def k10m0 : Method := { name := "<init>", desc := "()V", sig := { parameters := [], returnType := none }, accessFlags := 1, code := none }
/-- java/lang/Number -/
def k10 : Class := { plain "java/lang/Number" (some 0) with
  accessFlags := 1057
  interfaces := #[4]
  cf := some (fileOf pool10 8 #[] #[{ accessFlags := 1, nameIndex := 5, descriptorIndex := 6, attributes := #[] }] 1057 2 #[13] #[{ accessFlags := 26, nameIndex := 15, descriptorIndex := 16, attributes := #[] }])
  fields := #[{ name := "serialVersionUID", type := .long, accessFlags := 26, slot := 0, constantValue := 0 }]
  methods := #[k10m0]
  instanceTypes := #[]
  staticTypes := #[.long]
  resolved := Array.replicate 37 none
  statics := none }

def pool11 : Array CpInfo := pool [(1, .class_ 2), (0, u "java/lang/Double"), (10, u "isFinite"), (0, u "(D)Z"), (8, .class_ 25), (1, u "java/lang/Math"), (12, .methodref 23 39), (0, .nameAndType 40 41), (0, u "abs"), (0, u "(D)D"), (69, .double 9218868437227405311), (2, .class_ 116), (1, u "java/lang/Number"), (3, u "value"), (0, u "D"), (51, u "TYPE"), (0, u "Ljava/lang/Class;"), (0, .class_ 176), (0, u "java/lang/Comparable"), (0, .class_ 178), (0, u "java/lang/constant/Constable"), (0, .class_ 180), (0, u "java/lang/constant/ConstantDesc"), (0, u "POSITIVE_INFINITY"), (3, u "NEGATIVE_INFINITY"), (2, u "NaN"), (2, u "MAX_VALUE"), (0, u "MIN_NORMAL"), (0, u "MIN_VALUE"), (2, u "SIZE"), (0, u "I"), (1, u "PRECISION"), (1, u "MAX_EXPONENT"), (1, u "MIN_EXPONENT"), (1, u "BYTES"), (3, u "serialVersionUID"), (0, u "J")] 79

def k11c0 : Code := { maxStack := 4, maxLocals := 2, code := jdk_117_method_8_code, exceptionTable := #[], attributes := #[] }
def k11m0 : Method := { name := "isFinite", desc := "(D)Z", sig := { parameters := [.double], returnType := some .boolean }, accessFlags := 9, code := some k11c0 }
/-- java/lang/Double -/
def k11 : Class := { plain "java/lang/Double" (some 10) with
  accessFlags := 49
  interfaces := #[5, 7, 8]
  cf := some (fileOf pool11 1 #[] #[{ accessFlags := 9, nameIndex := 13, descriptorIndex := 14, attributes := #[] }] 49 114 #[175, 177, 179] #[{ accessFlags := 25, nameIndex := 181, descriptorIndex := 121, attributes := #[] }, { accessFlags := 25, nameIndex := 185, descriptorIndex := 121, attributes := #[] }, { accessFlags := 25, nameIndex := 188, descriptorIndex := 121, attributes := #[] }, { accessFlags := 25, nameIndex := 191, descriptorIndex := 121, attributes := #[] }, { accessFlags := 25, nameIndex := 192, descriptorIndex := 121, attributes := #[] }, { accessFlags := 25, nameIndex := 193, descriptorIndex := 121, attributes := #[] }, { accessFlags := 25, nameIndex := 196, descriptorIndex := 197, attributes := #[] }, { accessFlags := 25, nameIndex := 199, descriptorIndex := 197, attributes := #[] }, { accessFlags := 25, nameIndex := 201, descriptorIndex := 197, attributes := #[] }, { accessFlags := 25, nameIndex := 203, descriptorIndex := 197, attributes := #[] }, { accessFlags := 25, nameIndex := 205, descriptorIndex := 197, attributes := #[] }, { accessFlags := 25, nameIndex := 173, descriptorIndex := 174, attributes := #[] }, { accessFlags := 18, nameIndex := 120, descriptorIndex := 121, attributes := #[] }, { accessFlags := 26, nameIndex := 209, descriptorIndex := 210, attributes := #[] }])
  fields := #[{ name := "POSITIVE_INFINITY", type := .double, accessFlags := 25, slot := 0, constantValue := 0 }, { name := "NEGATIVE_INFINITY", type := .double, accessFlags := 25, slot := 1, constantValue := 0 }, { name := "NaN", type := .double, accessFlags := 25, slot := 2, constantValue := 0 }, { name := "MAX_VALUE", type := .double, accessFlags := 25, slot := 3, constantValue := 0 }, { name := "MIN_NORMAL", type := .double, accessFlags := 25, slot := 4, constantValue := 0 }, { name := "MIN_VALUE", type := .double, accessFlags := 25, slot := 5, constantValue := 0 }, { name := "SIZE", type := .int, accessFlags := 25, slot := 6, constantValue := 0 }, { name := "PRECISION", type := .int, accessFlags := 25, slot := 7, constantValue := 0 }, { name := "MAX_EXPONENT", type := .int, accessFlags := 25, slot := 8, constantValue := 0 }, { name := "MIN_EXPONENT", type := .int, accessFlags := 25, slot := 9, constantValue := 0 }, { name := "BYTES", type := .int, accessFlags := 25, slot := 10, constantValue := 0 }, { name := "TYPE", type := (.object "java/lang/Class"), accessFlags := 25, slot := 11, constantValue := 0 }, { name := "value", type := .double, accessFlags := 18, slot := 0, constantValue := 0 }, { name := "serialVersionUID", type := .long, accessFlags := 26, slot := 12, constantValue := 0 }]
  methods := #[k11m0]
  instanceTypes := #[.double]
  staticTypes := #[.double, .double, .double, .double, .double, .double, .int, .int, .int, .int, .int, (.object "java/lang/Class"), .long]
  resolved := Array.replicate 290 none
  statics := none }

def pool12 : Array CpInfo := pool [(1, u "java/lang/Cloneable"), (0, .class_ 1), (0, u "java/lang/Object"), (0, .class_ 3)] 3

/-- java/lang/Cloneable -/
def k12 : Class := { plain "java/lang/Cloneable" (some 0) with
  accessFlags := 1537
  interfaces := #[]
  cf := some (fileOf pool12 2 #[] #[] 1537 4 #[] #[])
  fields := #[]
  methods := #[]
  instanceTypes := #[]
  staticTypes := #[]
  resolved := Array.replicate 8 none
  statics := none }

/-- the primitive byte -/
def k13 : Class := { plain "byte" none with kind := .primitive 'B', accessFlags := 0x411 }
/-- [B -/
def k14 : Class := { plain "[B" (some 0) with kind := .array 13 .byte, interfaces := #[12, 4], accessFlags := 1041 }

/-- the primitive int -/
def k15 : Class := { plain "int" none with kind := .primitive 'I', accessFlags := 0x411 }
/-- [I -/
def k16 : Class := { plain "[I" (some 0) with kind := .array 15 .int, interfaces := #[12, 4], accessFlags := 1041 }

def heap : Heap := #[]
def classes : Array Class := #[k0, k1, k2, k3, k4, k5, k6, k7, k8, k9, k10, k11, k12, k13, k14, k15, k16]
def interned : List (Array UInt16 × Addr) := []
def slotsUsed : Nat := 0
def theMethod : MethodId := ⟨1, 1⟩
def args0 : Array Value := #[.int 5, .int 6, .int 7, .long 8, .int 9]
def aboutOver (below : List Frame) : State where
  vm := { classes := classes, interned := interned.toArray }
  heap := heap
  slotsUsed := slotsUsed
  threads := #[{ frames := .invoking theMethod args0 :: below }]
def below0 : List Frame := [.native { method := ⟨0, 0⟩, args := #[] }]
def about1 : State := aboutOver below0
def p0 : Program := .bare "" "" ""
def e0 : Env := launch0.env 0 0 0
theorem w_frames : about1.frames = Frame.invoking theMethod args0 :: below0 := rfl
set_option maxRecDepth 65536 in
theorem w_args : argsFit about1.vm theMethod args0 = true := by decide +kernel
set_option maxRecDepth 65536 in
theorem w_heap : heapFits about1 = true := by decide +kernel
set_option maxRecDepth 65536 in
theorem w_runnable : about1.curStatus? = some .runnable := by decide +kernel
set_option maxRecDepth 65536 in
theorem w_alone : about1.alone = true := by decide +kernel
set_option maxRecDepth 65536 in
theorem w_named : about1.methodNamed? x = some theMethod := by decide +kernel
set_option maxRecDepth 65536 in
theorem w_hears : about1.hears theMethod below0 = true := by decide +kernel
set_option maxRecDepth 65536 in
theorem w_ripe : about1.ripe theMethod args0 below0 = true := by decide +kernel
theorem w_running : about1.status = .running := rfl
set_option maxRecDepth 65536 in
theorem w_room : about1.hasRoom e0.platform room_1 = true :=
  launch0.hasRoom_least _ room_1 (by decide +kernel) (by decide +kernel) (by decide +kernel) (by decide +kernel) (by decide +kernel) (by decide +kernel)
theorem allAtoms_all (ts : List Jvm.Cond) (a : Array Jvm.Value) (st : Jvm.State) : (allAtoms ts).before a st = ts.all (fun c => c.before a st) := by
  induction ts with
  | nil => rfl
  | cons c t ih =>
    show (Jvm.Cond.and c (allAtoms t)).before a st = _
    rw [Jvm.Cond.before_and, ih, List.all_cons]
def words1 : List Jvm.Cond := Jvm.Cond.code x code maxLocals ret :: tables_1
/-- a 'code' word, met by the world's own term for the bytes: nothing is compared byte by byte -/
theorem code_word {y : MethodName} {bytes : ByteArray} {mx : Nat} {rt : Option FieldType} {a : Array Value} {s : State} {m : MethodId} {meth : Method} {c : Code} (h1 : s.methodNamed? y = some m) (h2 : s.vm.method? m = some meth) (h3 : meth.code = some c) (h4 : c.code = bytes)
    (h5 : (c.maxLocals == mx && c.exceptionTable.isEmpty && decide (c.maxStack ≤ mostOperands) && decide (meth.sig.returnType = rt) && !meth.locks && decide (parseMethodDescriptor y.desc = some meth.sig)) = true) : (Jvm.Cond.code y bytes mx rt).before a s = true := by
  simp only [Bool.and_eq_true, beq_iff_eq, Bool.not_eq_true', decide_eq_true_eq] at h5
  obtain ⟨⟨⟨⟨⟨g1, g2⟩, g3⟩, g4⟩, g5⟩, g6⟩ := h5
  simp [Cond.before, Cond.holds, Cond.value, h1, h2, h3, h4, g1, g2, g3, g4, g5, g6]
def isCode : Jvm.Cond → Bool
  | .code _ _ _ _ => true
  | _ => false
theorem all_split {L : List Jvm.Cond} {P : Jvm.Cond → Bool} (h1 : L.all (fun c => isCode c || P c) = true) (h2 : ∀ c ∈ L.filter isCode, P c = true) : L.all P = true := by
  refine List.all_eq_true.mpr fun c hc => ?_
  have h := List.all_eq_true.mp h1 c hc
  rcases Bool.eq_false_or_eq_true (isCode c) with hi | hi
  · exact h2 c (List.mem_filter.mpr ⟨hc, hi⟩)
  · simpa [hi] using h
set_option maxRecDepth 65536 in
theorem w_c0 : (Jvm.Cond.code x code maxLocals ret).before args0 about1 = true := code_word (m := ⟨1, 1⟩) (meth := k1m1) (c := k1c1) (by decide +kernel) rfl rfl rfl (by decide +kernel)
set_option maxRecDepth 65536 in
theorem w_c1 : (Jvm.Cond.code ({ cls := "java/lang/Math", name := "max", desc := "(II)I" } : Jvm.MethodName) jdk_29_method_65_code (2 : Nat) (Option.some Jvm.ClassFile.FieldType.int)).before args0 about1 = true := code_word (m := ⟨2, 2⟩) (meth := k2m2) (c := k2c2) (by decide +kernel) rfl rfl rfl (by decide +kernel)
set_option maxRecDepth 65536 in
theorem w_c2 : (Jvm.Cond.code ({ cls := "com/example/locks_over_messages/locksovermessages/Simulation$Settings", name := "<init>", desc := "(II)V" } : Jvm.MethodName) prog_49_method_1_code (3 : Nat) (Option.none : Option Jvm.ClassFile.FieldType)).before args0 about1 = true := code_word (m := ⟨3, 0⟩) (meth := k3m0) (c := k3c0) (by decide +kernel) rfl rfl rfl (by decide +kernel)
set_option maxRecDepth 65536 in
theorem w_c3 : (Jvm.Cond.code ({ cls := "java/lang/Object", name := "<init>", desc := "()V" } : Jvm.MethodName) object_method_1_code (1 : Nat) (Option.none : Option Jvm.ClassFile.FieldType)).before args0 about1 = true := code_word (m := ⟨0, 0⟩) (meth := k0m0) (c := k0c0) (by decide +kernel) rfl rfl rfl (by decide +kernel)
set_option maxRecDepth 65536 in
theorem w_c4 : (Jvm.Cond.code ({ cls := "com/example/locks_over_messages/locksovermessages/Simulation$Settings", name := "withHold", desc := "(D)Lcom/example/locks_over_messages/locksovermessages/Simulation$Settings;" } : Jvm.MethodName) prog_49_method_11_code (4 : Nat) (Option.some (Jvm.ClassFile.FieldType.object "com/example/locks_over_messages/locksovermessages/Simulation$Settings"))).before args0 about1 = true := code_word (m := ⟨3, 10⟩) (meth := k3m10) (c := k3c10) (by decide +kernel) rfl rfl rfl (by decide +kernel)
set_option maxRecDepth 65536 in
theorem w_c5 : (Jvm.Cond.code ({ cls := "com/example/locks_over_messages/locksovermessages/Simulation$Settings", name := "<init>", desc := "(Lcom/example/locks_over_messages/locksovermessages/Simulation$Settings;)V" } : Jvm.MethodName) prog_49_method_2_code (2 : Nat) (Option.none : Option Jvm.ClassFile.FieldType)).before args0 about1 = true := code_word (m := ⟨3, 1⟩) (meth := k3m1) (c := k3c1) (by decide +kernel) rfl rfl rfl (by decide +kernel)
set_option maxRecDepth 65536 in
theorem w_c6 : (Jvm.Cond.code ({ cls := "com/example/locks_over_messages/locksovermessages/Simulation$Settings", name := "requireTime", desc := "(Ljava/lang/String;D)D" } : Jvm.MethodName) prog_49_method_17_code (3 : Nat) (Option.some Jvm.ClassFile.FieldType.double)).before args0 about1 = true := code_word (m := ⟨3, 16⟩) (meth := k3m16) (c := k3c16) (by decide +kernel) rfl rfl rfl (by decide +kernel)
set_option maxRecDepth 65536 in
theorem w_c7 : (Jvm.Cond.code ({ cls := "java/lang/Double", name := "isFinite", desc := "(D)Z" } : Jvm.MethodName) jdk_117_method_8_code (2 : Nat) (Option.some Jvm.ClassFile.FieldType.boolean)).before args0 about1 = true := code_word (m := ⟨11, 0⟩) (meth := k11m0) (c := k11c0) (by decide +kernel) rfl rfl rfl (by decide +kernel)
set_option maxRecDepth 65536 in
theorem w_c8 : (Jvm.Cond.code ({ cls := "java/lang/Math", name := "abs", desc := "(D)D" } : Jvm.MethodName) jdk_29_method_64_code (2 : Nat) (Option.some Jvm.ClassFile.FieldType.double)).before args0 about1 = true := code_word (m := ⟨2, 1⟩) (meth := k2m1) (c := k2c1) (by decide +kernel) rfl rfl rfl (by decide +kernel)
set_option maxRecDepth 65536 in
theorem w_c9 : (Jvm.Cond.code ({ cls := "com/example/locks_over_messages/locksovermessages/Simulation$Settings", name := "withThink", desc := "(D)Lcom/example/locks_over_messages/locksovermessages/Simulation$Settings;" } : Jvm.MethodName) prog_49_method_12_code (4 : Nat) (Option.some (Jvm.ClassFile.FieldType.object "com/example/locks_over_messages/locksovermessages/Simulation$Settings"))).before args0 about1 = true := code_word (m := ⟨3, 11⟩) (meth := k3m11) (c := k3c11) (by decide +kernel) rfl rfl rfl (by decide +kernel)
set_option maxRecDepth 65536 in
theorem w_c10 : (Jvm.Cond.code ({ cls := "com/example/locks_over_messages/locksovermessages/Simulation$Settings", name := "withStagger", desc := "(D)Lcom/example/locks_over_messages/locksovermessages/Simulation$Settings;" } : Jvm.MethodName) prog_49_method_13_code (4 : Nat) (Option.some (Jvm.ClassFile.FieldType.object "com/example/locks_over_messages/locksovermessages/Simulation$Settings"))).before args0 about1 = true := code_word (m := ⟨3, 12⟩) (meth := k3m12) (c := k3c12) (by decide +kernel) rfl rfl rfl (by decide +kernel)
set_option maxRecDepth 65536 in
theorem w_c11 : (Jvm.Cond.code ({ cls := "com/example/locks_over_messages/locksovermessages/Simulation$Settings", name := "withJitter", desc := "(D)Lcom/example/locks_over_messages/locksovermessages/Simulation$Settings;" } : Jvm.MethodName) prog_49_method_14_code (4 : Nat) (Option.some (Jvm.ClassFile.FieldType.object "com/example/locks_over_messages/locksovermessages/Simulation$Settings"))).before args0 about1 = true := code_word (m := ⟨3, 13⟩) (meth := k3m13) (c := k3c13) (by decide +kernel) rfl rfl rfl (by decide +kernel)
set_option maxRecDepth 65536 in
theorem w_c12 : (Jvm.Cond.code ({ cls := "com/example/locks_over_messages/locksovermessages/Simulation$Settings", name := "withSeed", desc := "(J)Lcom/example/locks_over_messages/locksovermessages/Simulation$Settings;" } : Jvm.MethodName) prog_49_method_15_code (4 : Nat) (Option.some (Jvm.ClassFile.FieldType.object "com/example/locks_over_messages/locksovermessages/Simulation$Settings"))).before args0 about1 = true := code_word (m := ⟨3, 14⟩) (meth := k3m14) (c := k3c14) (by decide +kernel) rfl rfl rfl (by decide +kernel)
set_option maxRecDepth 65536 in
theorem w_c13 : (Jvm.Cond.code ({ cls := "com/example/locks_over_messages/locksovermessages/Simulation$Settings", name := "withEntriesRecorded", desc := "(Z)Lcom/example/locks_over_messages/locksovermessages/Simulation$Settings;" } : Jvm.MethodName) prog_49_method_16_code (3 : Nat) (Option.some (Jvm.ClassFile.FieldType.object "com/example/locks_over_messages/locksovermessages/Simulation$Settings"))).before args0 about1 = true := code_word (m := ⟨3, 15⟩) (meth := k3m15) (c := k3c15) (by decide +kernel) rfl rfl rfl (by decide +kernel)
set_option maxRecDepth 65536 in
theorem w_c14 : (Jvm.Cond.code ({ cls := "com/example/locks_over_messages/locksovermessages/Simulation$Settings", name := "areEntriesRecorded", desc := "()Z" } : Jvm.MethodName) prog_49_method_10_code (1 : Nat) (Option.some Jvm.ClassFile.FieldType.boolean)).before args0 about1 = true := code_word (m := ⟨3, 9⟩) (meth := k3m9) (c := k3c9) (by decide +kernel) rfl rfl rfl (by decide +kernel)
set_option maxRecDepth 65536 in
theorem w_c15 : (Jvm.Cond.code ({ cls := "com/example/locks_over_messages/locksovermessages/Simulation$Settings", name := "getMemberCount", desc := "()I" } : Jvm.MethodName) prog_49_method_3_code (1 : Nat) (Option.some Jvm.ClassFile.FieldType.int)).before args0 about1 = true := code_word (m := ⟨3, 2⟩) (meth := k3m2) (c := k3c2) (by decide +kernel) rfl rfl rfl (by decide +kernel)
set_option maxRecDepth 65536 in
theorem w_c16 : (Jvm.Cond.code ({ cls := "com/example/locks_over_messages/locksovermessages/Simulation$Settings", name := "getEntriesEach", desc := "()I" } : Jvm.MethodName) prog_49_method_4_code (1 : Nat) (Option.some Jvm.ClassFile.FieldType.int)).before args0 about1 = true := code_word (m := ⟨3, 3⟩) (meth := k3m3) (c := k3c3) (by decide +kernel) rfl rfl rfl (by decide +kernel)
set_option maxRecDepth 65536 in
theorem w_c17 : (Jvm.Cond.code ({ cls := "com/example/locks_over_messages/locksovermessages/Simulation$Settings", name := "getHold", desc := "()D" } : Jvm.MethodName) prog_49_method_5_code (1 : Nat) (Option.some Jvm.ClassFile.FieldType.double)).before args0 about1 = true := code_word (m := ⟨3, 4⟩) (meth := k3m4) (c := k3c4) (by decide +kernel) rfl rfl rfl (by decide +kernel)
set_option maxRecDepth 65536 in
theorem w_c18 : (Jvm.Cond.code ({ cls := "com/example/locks_over_messages/locksovermessages/Simulation$Settings", name := "getThink", desc := "()D" } : Jvm.MethodName) prog_49_method_6_code (1 : Nat) (Option.some Jvm.ClassFile.FieldType.double)).before args0 about1 = true := code_word (m := ⟨3, 5⟩) (meth := k3m5) (c := k3c5) (by decide +kernel) rfl rfl rfl (by decide +kernel)
set_option maxRecDepth 65536 in
theorem w_c19 : (Jvm.Cond.code ({ cls := "com/example/locks_over_messages/locksovermessages/Simulation$Settings", name := "getStagger", desc := "()D" } : Jvm.MethodName) prog_49_method_7_code (1 : Nat) (Option.some Jvm.ClassFile.FieldType.double)).before args0 about1 = true := code_word (m := ⟨3, 6⟩) (meth := k3m6) (c := k3c6) (by decide +kernel) rfl rfl rfl (by decide +kernel)
set_option maxRecDepth 65536 in
theorem w_c20 : (Jvm.Cond.code ({ cls := "com/example/locks_over_messages/locksovermessages/Simulation$Settings", name := "getJitter", desc := "()D" } : Jvm.MethodName) prog_49_method_8_code (1 : Nat) (Option.some Jvm.ClassFile.FieldType.double)).before args0 about1 = true := code_word (m := ⟨3, 7⟩) (meth := k3m7) (c := k3c7) (by decide +kernel) rfl rfl rfl (by decide +kernel)
set_option maxRecDepth 65536 in
theorem w_c21 : (Jvm.Cond.code ({ cls := "com/example/locks_over_messages/locksovermessages/Simulation$Settings", name := "getSeed", desc := "()J" } : Jvm.MethodName) prog_49_method_9_code (1 : Nat) (Option.some Jvm.ClassFile.FieldType.long)).before args0 about1 = true := code_word (m := ⟨3, 8⟩) (meth := k3m8) (c := k3c8) (by decide +kernel) rfl rfl rfl (by decide +kernel)
def codes1 : List Jvm.Cond := [Jvm.Cond.code x code maxLocals ret, Jvm.Cond.code ({ cls := "java/lang/Math", name := "max", desc := "(II)I" } : Jvm.MethodName) jdk_29_method_65_code (2 : Nat) (Option.some Jvm.ClassFile.FieldType.int), Jvm.Cond.code ({ cls := "com/example/locks_over_messages/locksovermessages/Simulation$Settings", name := "<init>", desc := "(II)V" } : Jvm.MethodName) prog_49_method_1_code (3 : Nat) (Option.none : Option Jvm.ClassFile.FieldType), Jvm.Cond.code ({ cls := "java/lang/Object", name := "<init>", desc := "()V" } : Jvm.MethodName) object_method_1_code (1 : Nat) (Option.none : Option Jvm.ClassFile.FieldType), Jvm.Cond.code ({ cls := "com/example/locks_over_messages/locksovermessages/Simulation$Settings", name := "withHold", desc := "(D)Lcom/example/locks_over_messages/locksovermessages/Simulation$Settings;" } : Jvm.MethodName) prog_49_method_11_code (4 : Nat) (Option.some (Jvm.ClassFile.FieldType.object "com/example/locks_over_messages/locksovermessages/Simulation$Settings")), Jvm.Cond.code ({ cls := "com/example/locks_over_messages/locksovermessages/Simulation$Settings", name := "<init>", desc := "(Lcom/example/locks_over_messages/locksovermessages/Simulation$Settings;)V" } : Jvm.MethodName) prog_49_method_2_code (2 : Nat) (Option.none : Option Jvm.ClassFile.FieldType), Jvm.Cond.code ({ cls := "com/example/locks_over_messages/locksovermessages/Simulation$Settings", name := "requireTime", desc := "(Ljava/lang/String;D)D" } : Jvm.MethodName) prog_49_method_17_code (3 : Nat) (Option.some Jvm.ClassFile.FieldType.double), Jvm.Cond.code ({ cls := "java/lang/Double", name := "isFinite", desc := "(D)Z" } : Jvm.MethodName) jdk_117_method_8_code (2 : Nat) (Option.some Jvm.ClassFile.FieldType.boolean), Jvm.Cond.code ({ cls := "java/lang/Math", name := "abs", desc := "(D)D" } : Jvm.MethodName) jdk_29_method_64_code (2 : Nat) (Option.some Jvm.ClassFile.FieldType.double), Jvm.Cond.code ({ cls := "com/example/locks_over_messages/locksovermessages/Simulation$Settings", name := "withThink", desc := "(D)Lcom/example/locks_over_messages/locksovermessages/Simulation$Settings;" } : Jvm.MethodName) prog_49_method_12_code (4 : Nat) (Option.some (Jvm.ClassFile.FieldType.object "com/example/locks_over_messages/locksovermessages/Simulation$Settings")), Jvm.Cond.code ({ cls := "com/example/locks_over_messages/locksovermessages/Simulation$Settings", name := "withStagger", desc := "(D)Lcom/example/locks_over_messages/locksovermessages/Simulation$Settings;" } : Jvm.MethodName) prog_49_method_13_code (4 : Nat) (Option.some (Jvm.ClassFile.FieldType.object "com/example/locks_over_messages/locksovermessages/Simulation$Settings")), Jvm.Cond.code ({ cls := "com/example/locks_over_messages/locksovermessages/Simulation$Settings", name := "withJitter", desc := "(D)Lcom/example/locks_over_messages/locksovermessages/Simulation$Settings;" } : Jvm.MethodName) prog_49_method_14_code (4 : Nat) (Option.some (Jvm.ClassFile.FieldType.object "com/example/locks_over_messages/locksovermessages/Simulation$Settings")), Jvm.Cond.code ({ cls := "com/example/locks_over_messages/locksovermessages/Simulation$Settings", name := "withSeed", desc := "(J)Lcom/example/locks_over_messages/locksovermessages/Simulation$Settings;" } : Jvm.MethodName) prog_49_method_15_code (4 : Nat) (Option.some (Jvm.ClassFile.FieldType.object "com/example/locks_over_messages/locksovermessages/Simulation$Settings")), Jvm.Cond.code ({ cls := "com/example/locks_over_messages/locksovermessages/Simulation$Settings", name := "withEntriesRecorded", desc := "(Z)Lcom/example/locks_over_messages/locksovermessages/Simulation$Settings;" } : Jvm.MethodName) prog_49_method_16_code (3 : Nat) (Option.some (Jvm.ClassFile.FieldType.object "com/example/locks_over_messages/locksovermessages/Simulation$Settings")), Jvm.Cond.code ({ cls := "com/example/locks_over_messages/locksovermessages/Simulation$Settings", name := "areEntriesRecorded", desc := "()Z" } : Jvm.MethodName) prog_49_method_10_code (1 : Nat) (Option.some Jvm.ClassFile.FieldType.boolean), Jvm.Cond.code ({ cls := "com/example/locks_over_messages/locksovermessages/Simulation$Settings", name := "getMemberCount", desc := "()I" } : Jvm.MethodName) prog_49_method_3_code (1 : Nat) (Option.some Jvm.ClassFile.FieldType.int), Jvm.Cond.code ({ cls := "com/example/locks_over_messages/locksovermessages/Simulation$Settings", name := "getEntriesEach", desc := "()I" } : Jvm.MethodName) prog_49_method_4_code (1 : Nat) (Option.some Jvm.ClassFile.FieldType.int), Jvm.Cond.code ({ cls := "com/example/locks_over_messages/locksovermessages/Simulation$Settings", name := "getHold", desc := "()D" } : Jvm.MethodName) prog_49_method_5_code (1 : Nat) (Option.some Jvm.ClassFile.FieldType.double), Jvm.Cond.code ({ cls := "com/example/locks_over_messages/locksovermessages/Simulation$Settings", name := "getThink", desc := "()D" } : Jvm.MethodName) prog_49_method_6_code (1 : Nat) (Option.some Jvm.ClassFile.FieldType.double), Jvm.Cond.code ({ cls := "com/example/locks_over_messages/locksovermessages/Simulation$Settings", name := "getStagger", desc := "()D" } : Jvm.MethodName) prog_49_method_7_code (1 : Nat) (Option.some Jvm.ClassFile.FieldType.double), Jvm.Cond.code ({ cls := "com/example/locks_over_messages/locksovermessages/Simulation$Settings", name := "getJitter", desc := "()D" } : Jvm.MethodName) prog_49_method_8_code (1 : Nat) (Option.some Jvm.ClassFile.FieldType.double), Jvm.Cond.code ({ cls := "com/example/locks_over_messages/locksovermessages/Simulation$Settings", name := "getSeed", desc := "()J" } : Jvm.MethodName) prog_49_method_9_code (1 : Nat) (Option.some Jvm.ClassFile.FieldType.long)]
set_option maxRecDepth 65536 in
theorem codes_eq : words1.filter isCode = codes1 := rfl
theorem w_codes : ∀ c ∈ words1.filter isCode, c.before args0 about1 = true := by
  rw [codes_eq]
  intro c hc
  simp only [codes1, List.mem_cons, List.not_mem_nil, or_false] at hc
  rcases hc with rfl | rfl | rfl | rfl | rfl | rfl | rfl | rfl | rfl | rfl | rfl | rfl | rfl | rfl | rfl | rfl | rfl | rfl | rfl | rfl | rfl | rfl
  · exact w_c0
  · exact w_c1
  · exact w_c2
  · exact w_c3
  · exact w_c4
  · exact w_c5
  · exact w_c6
  · exact w_c7
  · exact w_c8
  · exact w_c9
  · exact w_c10
  · exact w_c11
  · exact w_c12
  · exact w_c13
  · exact w_c14
  · exact w_c15
  · exact w_c16
  · exact w_c17
  · exact w_c18
  · exact w_c19
  · exact w_c20
  · exact w_c21
set_option maxRecDepth 65536 in
theorem w_t1 : (words1.take 24).all (fun c => isCode c || c.before args0 about1) = true := by decide +kernel
set_option maxRecDepth 65536 in
theorem w_t2 : ((words1.drop 24).take 24).all (fun c => isCode c || c.before args0 about1) = true := by decide +kernel
set_option maxRecDepth 65536 in
theorem w_t3 : (((words1.drop 24).drop 24).take 24).all (fun c => isCode c || c.before args0 about1) = true := by decide +kernel
set_option maxRecDepth 65536 in
theorem w_t4 : ((((words1.drop 24).drop 24).drop 24).take 24).all (fun c => isCode c || c.before args0 about1) = true := by decide +kernel
set_option maxRecDepth 65536 in
theorem w_t5 : (((((words1.drop 24).drop 24).drop 24).drop 24).take 24).all (fun c => isCode c || c.before args0 about1) = true := by decide +kernel
set_option maxRecDepth 65536 in
theorem w_t6 : (((((words1.drop 24).drop 24).drop 24).drop 24).drop 24).all (fun c => isCode c || c.before args0 about1) = true := by decide +kernel
theorem w_tables : (allAtoms (Jvm.Cond.code x code maxLocals ret :: tables_1)).before args0 about1 = true := by
  rw [allAtoms_all]
  show words1.all (fun c => c.before args0 about1) = true
  refine all_split ?_ w_codes
  rw [← List.take_append_drop 24 words1, List.all_append, w_t1, ← List.take_append_drop 24 (words1.drop 24), List.all_append, w_t2, ← List.take_append_drop 24 ((words1.drop 24).drop 24), List.all_append, w_t3, ← List.take_append_drop 24 (((words1.drop 24).drop 24).drop 24), List.all_append, w_t4, ← List.take_append_drop 24 ((((words1.drop 24).drop 24).drop 24).drop 24), List.all_append, w_t5, w_t6]
  rfl
set_option maxRecDepth 65536 in
theorem w_case : (Jvm.Cond.and given_1 narrow_1).before args0 about1 = true := by decide +kernel
theorem w_applies : (headSpec (Jvm.Cond.code x code maxLocals ret :: tables_1) room_1).applies x e0.platform about1 = true :=
  (Spec.applies_iff w_frames).mpr ⟨w_running, w_runnable, w_alone, w_named, w_hears, w_ripe, w_room, w_tables⟩
theorem atStart : AtStart classFile x code maxLocals ret World_1 tables_1 room_1 Calls_1 rest_1 Pre_1 launch0 p0 e0 about1 theMethod args0 below0 :=
  ⟨lists_1, trivial, launch0.admits_env _ _ _, launch0.least_env, fairChoices_fair.cas, fairChoices_fair.clock, w_frames, w_args, w_heap, w_applies, trivial, trivial, w_case⟩
end start1
theorem witness_1 : WitnessClaimed_1 := ⟨start1.p0, start1.e0, start1.about1, start1.theMethod, start1.args0, start1.below0, start1.atStart⟩
end Jvm.Pilot.@@N@@
