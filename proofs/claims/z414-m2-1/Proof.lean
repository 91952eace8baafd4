import JvmDerived
import JvmDerived.Pilot.@@N@@Statement
import JvmDerived.Pilot.@@N@@Code
set_option linter.unusedVariables false
set_option linter.unusedSimpArgs false
namespace Jvm.RoadKit
open Sem ClassFile Op Lib Jvm.Stand Jvm.Free Jvm.LawKit
section New
variable {p : Program} {l : Launch} {e : Env} {R : Room} {s : State} {m : MethodId} {args : Array Value} {below : List Frame} {meth : Method} {c : Code} {T : State} {locs : List Loc} {cells slots : Nat}
theorem retI (X : Stand p l e R s m args below meth c T locs cells slots) (hx : p.tables.exec = Jvm.exec) {pc : Nat} {Ls : Array Slot} {z : Int32} {rest : List Value} (hret : meth.sig.returnType = some .int) (hd : decode c.code pc = .ok (.ireturn, 1)) {fs : List Frame}
    (hl : ∀ (f : JFrame) (acts : List Action), f.method = m → f.locked = none → f.entered = [] → (doReturn e (T.setTop f) acts (some (.int z))).1 = T.setFrames fs) : Steps p.tables e below (T.setTop (mkF m pc Ls (.int z :: rest))) (T.setFrames fs) := by
  have hm' : T.vm.method? m = some meth := X.method'
  have hn : narrow .int (.int z) = .int z := rfl
  show Steps p.tables e below (T.setTop { method := m, pc := pc, locals := Ls, stack := _ :: rest, locked := none }) _
  jvm_step X.here [X.here.top, hx, hd, hm', hret, hn]
  first | (intro acts; rw [hl _ acts rfl rfl rfl]) | rw [hl _ _ rfl rfl rfl]
  exact Steps.refl _
end New
end Jvm.RoadKit
namespace Jvm.Pilot.@@N@@
open Jvm Jvm.ClassFile Sem Op Lib Jvm.Free Jvm.Stand Jvm.LawKit Jvm.RoadKit Bundle Jvm.Pilot.@@N@@.Jvm.D
/-- whatever the machine reaches from (T', g') it reaches from (T, g) -/
def own_Go (p : Program) (e : Env) (below : List Frame) (T : State) (g : JFrame) (T' : State) (g' : JFrame) : Prop := ∀ t, Steps p.tables e below (T'.setTop g') t → Steps p.tables e below (T.setTop g) t
theorem own_Go.refl {p : Program} {e : Env} {below : List Frame} (T : State) (g : JFrame) : own_Go p e below T g T g := fun _ k => k
theorem own_Go.trans {p : Program} {e : Env} {below : List Frame} {T T' T'' : State} {g g' g'' : JFrame} (h : own_Go p e below T g T' g') (h' : own_Go p e below T' g' T'' g'') : own_Go p e below T g T'' g'' := fun tg_ kk_ => h tg_ (h' tg_ kk_)
/-! ## calls by their contracts, in one row each -/
section OwnCalls
variable {p : Program} {l : Launch} {e : Env} {R : Room} {s : State} {m : MethodId} {args : Array Value} {below : List Frame} {meth : Method} {c : Code} {T : State} {locs : List Loc} {cells slots : Nat} {Z : State} {a0 : Array Value} {h : Heap}
theorem own_callS (X : Stand p l e R s m args below meth c T locs cells slots) (hx : p.tables.exec = Jvm.exec) (hZ : Z.Warmed39 s.vm) {own : String} {index : Nat} {y : MethodName} {bytes : ByteArray} {maxL : Nat} {ret : Option FieldType} {rm : Room} {Q : Option Value → Heap → List Loc → Prop}
    (hown : s.vm.findClass own = some m.cls) (w1 : (Cond.methodLink own index y).before a0 Z = true) (w2 : (Cond.static y).before a0 Z = true) (w3 : (Cond.initialized y.cls).before a0 Z = true) (w4 : (Cond.code y bytes maxL ret).before a0 Z = true)
    (hy : y.cls ≠ "java/lang/invoke/MethodHandle" ∧ y.cls ≠ "java/lang/invoke/VarHandle") (W : Nat) {g : JFrame} (hg : g.method = m) (hsize : g.locals.size = c.maxLocals) (argsL rest : List Value)
    (hM : MetFree l y (head1 [Cond.code y bytes maxL ret] rm) (fun a U => a = argsL.toArray ∧ Z.Warmed39 U.vm ∧ U.heap = h) (fun _ _ _ _ _ => True) (fun _ U o U' => ∃ v L, o = .returned v ∧ Q v U'.heap L ∧ FrameEnd U o U' L rm.cells rm.slots))
    (hlen : ∀ sig, parseMethodDescriptor y.desc = some sig → argsL.length = sig.parameters.length) (hstack : g.stack = argsL.reverse ++ rest) (hW : 2 * g.monitorRoom + (rest.map fun v => v.category).sum ≤ W) (hd : decode c.code g.pc = .ok (.invokestatic index, 3))
    (hf : rm.frames + 1 ≤ R.frames) (hl : W + (maxL + 11) + rm.locals ≤ R.locals) (eT : T.heap = h) (hc : cells + rm.cells ≤ R.cells) (hs : slots + rm.slots ≤ R.slots) :
    ∃ (v : Option Value) (T' : State) (h' : Heap) (L : List Loc), Stand p l e R s m args below meth c T' (locs ++ L) (cells + rm.cells) (slots + rm.slots) ∧ T'.heap = h' ∧ Q v h' L ∧
      ∀ t, Steps p.tables e below (T'.setTop { g with pc := g.pc + 3, stack := v.toList ++ rest }) t → Steps p.tables e below (T.setTop g) t := by
  obtain ⟨v, _, ⟨T4, L4, k4, n4⟩, -, X4, ⟨Lc, hQ, l4, y4, z4⟩, st⟩ := Jvm.LawKit.callS X hx (y := y) hown (mvT hZ w1) (mvT hZ w2) (mvT hZ w3) (mvT hZ w4) hy (backOf (W := W) hM hZ w4 w3 hf hl) (g := g) hg hsize (argsL := argsL) (rest := rest) hlen hstack hW hd (fun _ _ => ⟨rfl, eT, hc, hs⟩)
  dsimp only [Pt.U, Pt.locs, Pt.cells, Pt.slots] at X4 l4 y4 z4 st hQ
  subst l4 y4 z4
  exact ⟨v, T4, _, Lc, X4, rfl, hQ, st⟩
theorem own_callI (X : Stand p l e R s m args below meth c T locs cells slots) (hx : p.tables.exec = Jvm.exec) (hZ : Z.Warmed39 s.vm) {own : String} {index : Nat} {y : MethodName} {bytes : ByteArray} {maxL : Nat} {rm : Room} {Q : Option Value → Heap → List Loc → Prop}
    (hy1 : y.name = "<init>") (hown : s.vm.findClass own = some m.cls) (w1 : (Cond.methodLink own index y).before a0 Z = true) (w2 : (Cond.instanceMethod y).before a0 Z = true) (w3 : (Cond.initialized y.cls).before a0 Z = true) (w4 : (Cond.code y bytes maxL none).before a0 Z = true)
    (hy : y.cls ≠ "java/lang/invoke/MethodHandle" ∧ y.cls ≠ "java/lang/invoke/VarHandle") (W : Nat) {g : JFrame} (hg : g.method = m) (hsize : g.locals.size = c.maxLocals) (a : Addr) (argsL rest : List Value)
    (hM : MetFree l y (head1 [Cond.code y bytes maxL none] rm) (fun a' U => a' = (.ref a :: argsL).toArray ∧ Z.Warmed39 U.vm ∧ U.heap = h) (fun _ _ _ _ _ => True) (fun _ U o U' => ∃ v L, o = .returned v ∧ Q v U'.heap L ∧ FrameEnd U o U' L rm.cells rm.slots))
    (hlen : ∀ sig, parseMethodDescriptor y.desc = some sig → argsL.length = sig.parameters.length) (hstack : g.stack = argsL.reverse ++ .ref a :: rest) (hW : 2 * g.monitorRoom + (rest.map fun v => v.category).sum ≤ W) (hd : decode c.code g.pc = .ok (.invokespecial index, 3))
    (hf : rm.frames + 1 ≤ R.frames) (hl : W + (maxL + 11) + rm.locals ≤ R.locals) (eT : T.heap = h) (hc : cells + rm.cells ≤ R.cells) (hs : slots + rm.slots ≤ R.slots) :
    ∃ (v : Option Value) (T' : State) (h' : Heap) (L : List Loc), Stand p l e R s m args below meth c T' (locs ++ L) (cells + rm.cells) (slots + rm.slots) ∧ T'.heap = h' ∧ Q v h' L ∧
      ∀ t, Steps p.tables e below (T'.setTop { g with pc := g.pc + 3, stack := v.toList ++ rest }) t → Steps p.tables e below (T.setTop g) t := by
  obtain ⟨v, _, ⟨T4, L4, k4, n4⟩, -, X4, ⟨Lc, hQ, l4, y4, z4⟩, st⟩ := X.specialBack hx (y := y) hy1 hown (mvT hZ w1) (mvT hZ w2) (mvT hZ w4) hy (backOf (W := W) hM hZ w4 w3 hf hl) (g := g) hg hsize (Steps.refl _) (a := a) (argsL := argsL) (rest := rest) hlen hstack hW hd (fun _ _ => ⟨rfl, eT, hc, hs⟩)
  dsimp only [Pt.U, Pt.locs, Pt.cells, Pt.slots] at X4 l4 y4 z4 st hQ
  subst l4 y4 z4
  exact ⟨v, T4, _, Lc, X4, rfl, hQ, fun t k => st.trans k⟩
theorem own_callV (X : Stand p l e R s m args below meth c T locs cells slots) (hx : p.tables.exec = Jvm.exec) (hZ : Z.Warmed39 s.vm) {own C : String} {index : Nat} {y : MethodName} {bytes : ByteArray} {maxL : Nat} {ret : Option FieldType} {rm : Room} {Q : Option Value → Heap → List Loc → Prop}
    (hown : s.vm.findClass own = some m.cls) (w1 : (Cond.methodLink own index y).before a0 Z = true) (w2 : (Cond.declares y).before a0 Z = true) (w5 : (Cond.selects C y y).before a0 Z = true) (w6 : (Cond.instanceMethod y).before a0 Z = true) (w3 : (Cond.initialized y.cls).before a0 Z = true) (w4 : (Cond.code y bytes maxL ret).before a0 Z = true)
    (hy : y.cls ≠ "java/lang/invoke/MethodHandle" ∧ y.cls ≠ "java/lang/invoke/VarHandle") (W : Nat) {g : JFrame} (hg : g.method = m) (hsize : g.locals.size = c.maxLocals) (a : Addr) (E : Exa Z h a C) (argsL rest : List Value)
    (hM : MetFree l y (head1 [Cond.code y bytes maxL ret] rm) (fun a' U => a' = (.ref a :: argsL).toArray ∧ Z.Warmed39 U.vm ∧ U.heap = h) (fun _ _ _ _ _ => True) (fun _ U o U' => ∃ v L, o = .returned v ∧ Q v U'.heap L ∧ FrameEnd U o U' L rm.cells rm.slots))
    (hlen : ∀ sig, parseMethodDescriptor y.desc = some sig → argsL.length = sig.parameters.length) (hstack : g.stack = argsL.reverse ++ .ref a :: rest) (hW : 2 * g.monitorRoom + (rest.map fun v => v.category).sum ≤ W) (hd : decode c.code g.pc = .ok (.invokevirtual index, 3))
    (hf : rm.frames + 1 ≤ R.frames) (hl : W + (maxL + 11) + rm.locals ≤ R.locals) (eT : T.heap = h) (hc : cells + rm.cells ≤ R.cells) (hs : slots + rm.slots ≤ R.slots) :
    ∃ (v : Option Value) (T' : State) (h' : Heap) (L : List Loc), Stand p l e R s m args below meth c T' (locs ++ L) (cells + rm.cells) (slots + rm.slots) ∧ T'.heap = h' ∧ Q v h' L ∧
      ∀ t, Steps p.tables e below (T'.setTop { g with pc := g.pc + 3, stack := v.toList ++ rest }) t → Steps p.tables e below (T.setTop g) t := by
  obtain ⟨cB, kB, qa, qb, qc⟩ := isOf (T := T) hZ eT E
  obtain ⟨v, _, ⟨T4, L4, k4, n4⟩, -, X4, ⟨Lc, hQ, l4, y4, z4⟩, st⟩ := X.virtualBack hx (y := y) (z := y) hown (mvT hZ w1) (mvT hZ w2) (notFace_of_selects (args := #[]) (mvT hZ w5)) (mvT hZ w5) (mvT hZ w6) hy (backOf (W := W) hM hZ w4 w3 hf hl) qa qc (g := g) hg hsize (Steps.refl _) (argsL := argsL) (rest := rest) hlen hstack hW hd (fun _ _ => ⟨rfl, eT, hc, hs⟩)
  dsimp only [Pt.U, Pt.locs, Pt.cells, Pt.slots] at X4 l4 y4 z4 st hQ
  subst l4 y4 z4
  exact ⟨v, T4, _, Lc, X4, rfl, hQ, fun t k => st.trans k⟩
end OwnCalls
/-! ## calls of what may intern a String, in one row each -/
section OwnCallsW
variable {p : Program} {l : Launch} {e : Env} {R : Room} {s : State} {vm0 : Vm} {m : MethodId} {args : Array Value} {below : List Frame} {meth : Method} {c : Code} {T : State} {locs : List Loc} {cells slots : Nat} {Z : State} {a0 : Array Value} {h : Heap}
theorem own_callSS (X : Stand p l e R (s.setVm vm0) m args below meth c T locs cells slots) (hx : p.tables.exec = Jvm.exec) (hZ : Z.Warmed39 vm0) {own : String} {index : Nat} {y : MethodName} {bytes : ByteArray} {maxL : Nat} {ret : Option FieldType} {rm : Room} {Q : Option Value → Heap → List Loc → Prop}
    (hown : vm0.findClass own = some m.cls) (w1 : (Cond.methodLink own index y).before a0 Z = true) (w2 : (Cond.static y).before a0 Z = true) (w3 : (Cond.initialized y.cls).before a0 Z = true) (w4 : (Cond.code y bytes maxL ret).before a0 Z = true)
    (hy : y.cls ≠ "java/lang/invoke/MethodHandle" ∧ y.cls ≠ "java/lang/invoke/VarHandle") (W : Nat) {g : JFrame} (hg : g.method = m) (hsize : g.locals.size = c.maxLocals) (argsL rest : List Value)
    (hM : MetFree l y (head1 [Cond.code y bytes maxL ret] rm) (fun a' U => a' = argsL.toArray ∧ Z.Warmed39 U.vm ∧ U.heap = h) (fun _ _ _ _ _ => True) (fun _ U o U' => ∃ v L, o = .returned v ∧ Q v U'.heap L ∧ ReturnedEndW U o U' L rm.cells rm.slots))
    (hlen : ∀ sig, parseMethodDescriptor y.desc = some sig → argsL.length = sig.parameters.length) (hstack : g.stack = argsL.reverse ++ rest) (hW : 2 * g.monitorRoom + (rest.map fun v => v.category).sum ≤ W) (hd : decode c.code g.pc = .ok (.invokestatic index, 3))
    (hf : rm.frames + 1 ≤ R.frames) (hl : W + (maxL + 11) + rm.locals ≤ R.locals) (eT : T.heap = h) (hc : cells + rm.cells ≤ R.cells) (hs : slots + rm.slots ≤ R.slots) {k0 : Nat} (hS : s.Since vm0 k0) (hk : k0 ≤ h.size) :
    ∃ (v : Option Value) (T' : State) (h' : Heap) (L : List Loc), Stand p l e R (s.setVm T'.vm) m args below meth c T' (locs ++ L) (cells + rm.cells) (slots + rm.slots) ∧ T'.heap = h' ∧ s.Since T'.vm h'.size ∧ Z.Warmed39 T'.vm ∧ T'.vm.findClass own = some m.cls ∧ Q v h' L ∧
      ∀ t, Steps p.tables e below (T'.setTop { g with pc := g.pc + 3, stack := v.toList ++ rest }) t → Steps p.tables e below (T.setTop g) t := by
  have hZ' : Z.Warmed39 (s.setVm vm0).vm := hZ
  obtain ⟨v, _, ⟨T4, L4, k4, n4⟩, -, X4, hS4, hgr, ⟨Lc, hQ, l4, y4, z4⟩, st⟩ := Jvm.RoadKit.callSS X hx (y := y) hown (mvT hZ' w1) (mvT hZ' w2) (mvT hZ' w3) (mvT hZ' w4) hy (backOfS (W := W) hM hZ' w4 w3 hf hl) (g := g) hg hsize (argsL := argsL) (rest := rest) hlen hstack hW hd (fun _ _ => ⟨rfl, eT, hc, hs⟩)
  dsimp only [Pt.U, Pt.locs, Pt.cells, Pt.slots] at X4 l4 y4 z4 st hQ hS4 hgr
  subst l4 y4 z4
  subst eT
  exact ⟨v, T4, _, Lc, X4, rfl, foldS hS hk hS4 hgr, State.Warmed39.trans (t := s.setVm vm0) hZ hS4.1, by rw [hS4.1.alike.findClass]; exact hown, hQ, fun t k => st.trans k⟩
theorem own_callVS (X : Stand p l e R (s.setVm vm0) m args below meth c T locs cells slots) (hx : p.tables.exec = Jvm.exec) (hZ : Z.Warmed39 vm0) {own C : String} {index : Nat} {y : MethodName} {bytes : ByteArray} {maxL : Nat} {ret : Option FieldType} {rm : Room} {Q : Option Value → Heap → List Loc → Prop}
    (hown : vm0.findClass own = some m.cls) (w1 : (Cond.methodLink own index y).before a0 Z = true) (w2 : (Cond.declares y).before a0 Z = true) (w5 : (Cond.selects C y y).before a0 Z = true) (w6 : (Cond.instanceMethod y).before a0 Z = true) (w3 : (Cond.initialized y.cls).before a0 Z = true) (w4 : (Cond.code y bytes maxL ret).before a0 Z = true)
    (hy : y.cls ≠ "java/lang/invoke/MethodHandle" ∧ y.cls ≠ "java/lang/invoke/VarHandle") (W : Nat) {g : JFrame} (hg : g.method = m) (hsize : g.locals.size = c.maxLocals) (a : Addr) (E : Exa Z h a C) (argsL rest : List Value)
    (hM : MetFree l y (head1 [Cond.code y bytes maxL ret] rm) (fun a' U => a' = (.ref a :: argsL).toArray ∧ Z.Warmed39 U.vm ∧ U.heap = h) (fun _ _ _ _ _ => True) (fun _ U o U' => ∃ v L, o = .returned v ∧ Q v U'.heap L ∧ ReturnedEndW U o U' L rm.cells rm.slots))
    (hlen : ∀ sig, parseMethodDescriptor y.desc = some sig → argsL.length = sig.parameters.length) (hstack : g.stack = argsL.reverse ++ .ref a :: rest) (hW : 2 * g.monitorRoom + (rest.map fun v => v.category).sum ≤ W) (hd : decode c.code g.pc = .ok (.invokevirtual index, 3))
    (hf : rm.frames + 1 ≤ R.frames) (hl : W + (maxL + 11) + rm.locals ≤ R.locals) (eT : T.heap = h) (hc : cells + rm.cells ≤ R.cells) (hs : slots + rm.slots ≤ R.slots) {k0 : Nat} (hS : s.Since vm0 k0) (hk : k0 ≤ h.size) :
    ∃ (v : Option Value) (T' : State) (h' : Heap) (L : List Loc), Stand p l e R (s.setVm T'.vm) m args below meth c T' (locs ++ L) (cells + rm.cells) (slots + rm.slots) ∧ T'.heap = h' ∧ s.Since T'.vm h'.size ∧ Z.Warmed39 T'.vm ∧ T'.vm.findClass own = some m.cls ∧ Q v h' L ∧
      ∀ t, Steps p.tables e below (T'.setTop { g with pc := g.pc + 3, stack := v.toList ++ rest }) t → Steps p.tables e below (T.setTop g) t := by
  have hZ' : Z.Warmed39 (s.setVm vm0).vm := hZ
  obtain ⟨cB, kB, qa, qb, qc⟩ := isOf (s := s.setVm vm0) (T := T) hZ' eT E
  obtain ⟨v, _, ⟨T4, L4, k4, n4⟩, -, X4, hS4, hgr, ⟨Lc, hQ, l4, y4, z4⟩, st⟩ := X.virtualBackS hx (y := y) (z := y) hown (mvT hZ' w1) (mvT hZ' w2) (notFace_of_selects (args := #[]) (mvT hZ' w5)) (mvT hZ' w5) (mvT hZ' w6) hy (backOfS (W := W) hM hZ' w4 w3 hf hl) qa qc (g := g) hg hsize (Steps.refl _) (argsL := argsL) (rest := rest) hlen hstack hW hd (fun _ _ => ⟨rfl, eT, hc, hs⟩)
  dsimp only [Pt.U, Pt.locs, Pt.cells, Pt.slots] at X4 l4 y4 z4 st hQ hS4 hgr
  subst l4 y4 z4
  subst eT
  exact ⟨v, T4, _, Lc, X4, rfl, foldS hS hk hS4 hgr, State.Warmed39.trans (t := s.setVm vm0) hZ hS4.1, by rw [hS4.1.alike.findClass]; exact hown, hQ, fun t k => st.trans k⟩
theorem own_callIS (X : Stand p l e R (s.setVm vm0) m args below meth c T locs cells slots) (hx : p.tables.exec = Jvm.exec) (hZ : Z.Warmed39 vm0) {own : String} {index : Nat} {y : MethodName} {bytes : ByteArray} {maxL : Nat} {rm : Room} {Q : Option Value → Heap → List Loc → Prop}
    (hy1 : y.name = "<init>") (hown : vm0.findClass own = some m.cls) (w1 : (Cond.methodLink own index y).before a0 Z = true) (w2 : (Cond.instanceMethod y).before a0 Z = true) (w3 : (Cond.initialized y.cls).before a0 Z = true) (w4 : (Cond.code y bytes maxL none).before a0 Z = true)
    (hy : y.cls ≠ "java/lang/invoke/MethodHandle" ∧ y.cls ≠ "java/lang/invoke/VarHandle") (W : Nat) {g : JFrame} (hg : g.method = m) (hsize : g.locals.size = c.maxLocals) (a : Addr) (argsL rest : List Value)
    (hM : MetFree l y (head1 [Cond.code y bytes maxL none] rm) (fun a' U => a' = (.ref a :: argsL).toArray ∧ Z.Warmed39 U.vm ∧ U.heap = h) (fun _ _ _ _ _ => True) (fun _ U o U' => ∃ v L, o = .returned v ∧ Q v U'.heap L ∧ ReturnedEndW U o U' L rm.cells rm.slots))
    (hlen : ∀ sig, parseMethodDescriptor y.desc = some sig → argsL.length = sig.parameters.length) (hstack : g.stack = argsL.reverse ++ .ref a :: rest) (hW : 2 * g.monitorRoom + (rest.map fun v => v.category).sum ≤ W) (hd : decode c.code g.pc = .ok (.invokespecial index, 3))
    (hf : rm.frames + 1 ≤ R.frames) (hl : W + (maxL + 11) + rm.locals ≤ R.locals) (eT : T.heap = h) (hc : cells + rm.cells ≤ R.cells) (hs : slots + rm.slots ≤ R.slots) {k0 : Nat} (hS : s.Since vm0 k0) (hk : k0 ≤ h.size) :
    ∃ (v : Option Value) (T' : State) (h' : Heap) (L : List Loc), Stand p l e R (s.setVm T'.vm) m args below meth c T' (locs ++ L) (cells + rm.cells) (slots + rm.slots) ∧ T'.heap = h' ∧ s.Since T'.vm h'.size ∧ Z.Warmed39 T'.vm ∧ T'.vm.findClass own = some m.cls ∧ Q v h' L ∧
      ∀ t, Steps p.tables e below (T'.setTop { g with pc := g.pc + 3, stack := v.toList ++ rest }) t → Steps p.tables e below (T.setTop g) t := by
  have hZ' : Z.Warmed39 (s.setVm vm0).vm := hZ
  obtain ⟨v, _, ⟨T4, L4, k4, n4⟩, -, X4, hS4, hgr, ⟨Lc, hQ, l4, y4, z4⟩, st⟩ := X.specialBackS hx (y := y) hy1 hown (mvT hZ' w1) (mvT hZ' w2) (mvT hZ' w4) hy (backOfS (W := W) hM hZ' w4 w3 hf hl) (g := g) hg hsize (Steps.refl _) (a := a) (argsL := argsL) (rest := rest) hlen hstack hW hd (fun _ _ => ⟨rfl, eT, hc, hs⟩)
  dsimp only [Pt.U, Pt.locs, Pt.cells, Pt.slots] at X4 l4 y4 z4 st hQ hS4 hgr
  subst l4 y4 z4
  subst eT
  exact ⟨v, T4, _, Lc, X4, rfl, foldS hS hk hS4 hgr, State.Warmed39.trans (t := s.setVm vm0) hZ hS4.1, by rw [hS4.1.alike.findClass]; exact hown, hQ, fun t k => st.trans k⟩
end OwnCallsW
/-! ## the same, where the callee reads a String constant of the list EL -/
section OwnCallsH
variable {p : Program} {l : Launch} {e : Env} {R : Room} {s : State} {vm0 : Vm} {m : MethodId} {args : Array Value} {below : List Frame} {meth : Method} {c : Code} {T : State} {locs : List Loc} {cells slots : Nat} {Z : State} {a0 : Array Value} {h : Heap} {EL : List (String × Nat)}
theorem own_backH {y : MethodName} {bytes : ByteArray} {maxL : Nat} {ret : Option FieldType} {rm : Room} {len W : Nat} {as' : Array Value} {Q : Option Value → Heap → List Loc → Prop}
    (hM : MetFree l y (head1 [Cond.code y bytes maxL ret] rm) (fun a U => a = as' ∧ Z.Warmed39 U.vm ∧ U.heap = h ∧ CHv Z EL U.vm h) (fun _ _ _ _ _ => True) (fun _ U o U' => ∃ v L, o = .returned v ∧ Q v U'.heap L ∧ ReturnedEndW U o U' L rm.cells rm.slots))
    (hZ : Z.Warmed39 vm0) (wc : (Cond.code y bytes maxL ret).before a0 Z = true) (wz : (Cond.initialized y.cls).before a0 Z = true) (hf : rm.frames + 1 ≤ R.frames) (hl : W + (maxL + 11) + rm.locals ≤ R.locals) (hEL : EW Z a0 EL) (H : CHv Z EL vm0 h) :
    BackS l R p e below (s.setVm vm0) args y len W (fun A a => a = as' ∧ A.U.heap = h ∧ A.cells + rm.cells ≤ R.cells ∧ A.slots + rm.slots ≤ R.slots)
      (fun A _ v B => ∃ L, Q v B.U.heap L ∧ B.locs = A.locs ++ L ∧ B.cells = A.cells + rm.cells ∧ B.slots = A.slots + rm.slots) :=
  BackS.of_freeW (bytes := bytes) (maxL := maxL) (ret := ret) (E := fun _ _ o t L k n => k = rm.cells ∧ n = rm.slots ∧ ∃ v, o = .returned v ∧ Q v t.heap L) hM hf hl
    (fun m meth c A a Y hp => have hU : Z.Warmed39 A.U.vm := wtrans (s := s.setVm vm0) hZ Y.warmed
      ⟨by show (Cond.and _ .tt).before a A.U = true; rw [Cond.before_and, mv hU wc]; rfl, mv hU wc, mv hU wz, hp.2.2.1, hp.2.2.2⟩)
    (fun m meth c A a g mk Y hp => ⟨hp.1, wtrans (s := s.setVm vm0) hZ Y.warmed, hp.2.1, (CHv.at Y hZ hEL H).1⟩) (fun _ _ _ _ _ _ _ _ _ => trivial)
    (fun _ _ _ _ ⟨v, L, h1, h2, h3⟩ => ⟨L, _, _, h3, rfl, rfl, v, h1, h2⟩)
    (fun m meth c A a g mk v t L k n Y hp _ _ ⟨e1, e2, v', e3, e4⟩ => by cases e3; subst e1 e2; exact ⟨L, e4, rfl, rfl, rfl⟩)
theorem own_callSSH (X : Stand p l e R (s.setVm vm0) m args below meth c T locs cells slots) (hx : p.tables.exec = Jvm.exec) (hZ : Z.Warmed39 vm0) {own : String} {index : Nat} {y : MethodName} {bytes : ByteArray} {maxL : Nat} {ret : Option FieldType} {rm : Room} {Q : Option Value → Heap → List Loc → Prop}
    (hown : vm0.findClass own = some m.cls) (w1 : (Cond.methodLink own index y).before a0 Z = true) (w2 : (Cond.static y).before a0 Z = true) (w3 : (Cond.initialized y.cls).before a0 Z = true) (w4 : (Cond.code y bytes maxL ret).before a0 Z = true)
    (hy : y.cls ≠ "java/lang/invoke/MethodHandle" ∧ y.cls ≠ "java/lang/invoke/VarHandle") (W : Nat) {g : JFrame} (hg : g.method = m) (hsize : g.locals.size = c.maxLocals) (argsL rest : List Value)
    (hM : MetFree l y (head1 [Cond.code y bytes maxL ret] rm) (fun a' U => a' = argsL.toArray ∧ Z.Warmed39 U.vm ∧ U.heap = h ∧ CHv Z EL U.vm h) (fun _ _ _ _ _ => True) (fun _ U o U' => ∃ v L, o = .returned v ∧ Q v U'.heap L ∧ ReturnedEndW U o U' L rm.cells rm.slots))
    (hlen : ∀ sig, parseMethodDescriptor y.desc = some sig → argsL.length = sig.parameters.length) (hstack : g.stack = argsL.reverse ++ rest) (hW : 2 * g.monitorRoom + (rest.map fun v => v.category).sum ≤ W) (hd : decode c.code g.pc = .ok (.invokestatic index, 3))
    (hf : rm.frames + 1 ≤ R.frames) (hl : W + (maxL + 11) + rm.locals ≤ R.locals) (eT : T.heap = h) (hc : cells + rm.cells ≤ R.cells) (hs : slots + rm.slots ≤ R.slots) {k0 : Nat} (hS : s.Since vm0 k0) (hk : k0 ≤ h.size) (hEL : EW Z a0 EL) (H : CHv Z EL vm0 h) :
    ∃ (v : Option Value) (T' : State) (h' : Heap) (L : List Loc), Stand p l e R (s.setVm T'.vm) m args below meth c T' (locs ++ L) (cells + rm.cells) (slots + rm.slots) ∧ T'.heap = h' ∧ s.Since T'.vm h'.size ∧ Z.Warmed39 T'.vm ∧ T'.vm.findClass own = some m.cls ∧ Q v h' L ∧
      ∀ t, Steps p.tables e below (T'.setTop { g with pc := g.pc + 3, stack := v.toList ++ rest }) t → Steps p.tables e below (T.setTop g) t := by
  have hZ' : Z.Warmed39 (s.setVm vm0).vm := hZ
  obtain ⟨v, _, ⟨T4, L4, k4, n4⟩, -, X4, hS4, hgr, ⟨Lc, hQ, l4, y4, z4⟩, st⟩ := Jvm.RoadKit.callSS X hx (y := y) hown (mvT hZ' w1) (mvT hZ' w2) (mvT hZ' w3) (mvT hZ' w4) hy (own_backH (W := W) hM hZ w4 w3 hf hl hEL H) (g := g) hg hsize (argsL := argsL) (rest := rest) hlen hstack hW hd (fun _ _ => ⟨rfl, eT, hc, hs⟩)
  dsimp only [Pt.U, Pt.locs, Pt.cells, Pt.slots] at X4 l4 y4 z4 st hQ hS4 hgr
  subst l4 y4 z4
  subst eT
  exact ⟨v, T4, _, Lc, X4, rfl, foldS hS hk hS4 hgr, State.Warmed39.trans (t := s.setVm vm0) hZ hS4.1, by rw [hS4.1.alike.findClass]; exact hown, hQ, fun t k => st.trans k⟩
theorem own_callISH (X : Stand p l e R (s.setVm vm0) m args below meth c T locs cells slots) (hx : p.tables.exec = Jvm.exec) (hZ : Z.Warmed39 vm0) {own : String} {index : Nat} {y : MethodName} {bytes : ByteArray} {maxL : Nat} {rm : Room} {Q : Option Value → Heap → List Loc → Prop}
    (hy1 : y.name = "<init>") (hown : vm0.findClass own = some m.cls) (w1 : (Cond.methodLink own index y).before a0 Z = true) (w2 : (Cond.instanceMethod y).before a0 Z = true) (w3 : (Cond.initialized y.cls).before a0 Z = true) (w4 : (Cond.code y bytes maxL none).before a0 Z = true)
    (hy : y.cls ≠ "java/lang/invoke/MethodHandle" ∧ y.cls ≠ "java/lang/invoke/VarHandle") (W : Nat) {g : JFrame} (hg : g.method = m) (hsize : g.locals.size = c.maxLocals) (a : Addr) (argsL rest : List Value)
    (hM : MetFree l y (head1 [Cond.code y bytes maxL none] rm) (fun a' U => a' = (.ref a :: argsL).toArray ∧ Z.Warmed39 U.vm ∧ U.heap = h ∧ CHv Z EL U.vm h) (fun _ _ _ _ _ => True) (fun _ U o U' => ∃ v L, o = .returned v ∧ Q v U'.heap L ∧ ReturnedEndW U o U' L rm.cells rm.slots))
    (hlen : ∀ sig, parseMethodDescriptor y.desc = some sig → argsL.length = sig.parameters.length) (hstack : g.stack = argsL.reverse ++ .ref a :: rest) (hW : 2 * g.monitorRoom + (rest.map fun v => v.category).sum ≤ W) (hd : decode c.code g.pc = .ok (.invokespecial index, 3))
    (hf : rm.frames + 1 ≤ R.frames) (hl : W + (maxL + 11) + rm.locals ≤ R.locals) (eT : T.heap = h) (hc : cells + rm.cells ≤ R.cells) (hs : slots + rm.slots ≤ R.slots) {k0 : Nat} (hS : s.Since vm0 k0) (hk : k0 ≤ h.size) (hEL : EW Z a0 EL) (H : CHv Z EL vm0 h) :
    ∃ (v : Option Value) (T' : State) (h' : Heap) (L : List Loc), Stand p l e R (s.setVm T'.vm) m args below meth c T' (locs ++ L) (cells + rm.cells) (slots + rm.slots) ∧ T'.heap = h' ∧ s.Since T'.vm h'.size ∧ Z.Warmed39 T'.vm ∧ T'.vm.findClass own = some m.cls ∧ Q v h' L ∧
      ∀ t, Steps p.tables e below (T'.setTop { g with pc := g.pc + 3, stack := v.toList ++ rest }) t → Steps p.tables e below (T.setTop g) t := by
  have hZ' : Z.Warmed39 (s.setVm vm0).vm := hZ
  obtain ⟨v, _, ⟨T4, L4, k4, n4⟩, -, X4, hS4, hgr, ⟨Lc, hQ, l4, y4, z4⟩, st⟩ := X.specialBackS hx (y := y) hy1 hown (mvT hZ' w1) (mvT hZ' w2) (mvT hZ' w4) hy (own_backH (W := W) hM hZ w4 w3 hf hl hEL H) (g := g) hg hsize (Steps.refl _) (a := a) (argsL := argsL) (rest := rest) hlen hstack hW hd (fun _ _ => ⟨rfl, eT, hc, hs⟩)
  dsimp only [Pt.U, Pt.locs, Pt.cells, Pt.slots] at X4 l4 y4 z4 st hQ hS4 hgr
  subst l4 y4 z4
  subst eT
  exact ⟨v, T4, _, Lc, X4, rfl, foldS hS hk hS4 hgr, State.Warmed39.trans (t := s.setVm vm0) hZ hS4.1, by rw [hS4.1.alike.findClass]; exact hown, hQ, fun t k => st.trans k⟩
end OwnCallsH
/-! ## chars, bytes, arrays -/
def own_Ch (c : Int32) : Prop := ¬ c < 0 ∧ ¬ (65535 : Int32) < c
def own_lo (c : Int32) : Int32 := c.toInt8.toInt32
def own_hi (c : Int32) : Int32 := (c >>> ((8 : Int32) &&& 31)).toInt8.toInt32
def own_vb (c : Int32) : Value := .int (own_lo c)
theorem own_ch_int {c : Int32} (h : own_Ch c) : 0 ≤ c.toInt ∧ c.toInt ≤ 65535 := by
  have h1 := h.1; have h2 := h.2
  rw [Int32.lt_iff_toInt_lt] at h1 h2
  have e1 : (0 : Int32).toInt = 0 := rfl
  have e2 : (65535 : Int32).toInt = 65535 := rfl
  omega
theorem own_nar_char {c : Int32} (h : own_Ch c) : nar .char c = c := by
  have h1 := own_ch_int h
  have h2 := c_i2c c
  refine Int32.toInt_inj.mp ?_
  show (c.toUInt32.toUInt16.toUInt32.toInt32).toInt = c.toInt
  omega
theorem own_nar_lo (c : Int32) : nar .byte (own_lo c) = own_lo c := by
  have h1 := c_i2b c
  have h2 := c_i2b (own_lo c)
  refine Int32.toInt_inj.mp ?_
  show ((own_lo c).toInt8.toInt32).toInt = (own_lo c).toInt
  have e : (own_lo c).toInt = (c.toInt8.toInt32).toInt := rfl
  omega
theorem own_nar_hi (c : Int32) : nar .byte (own_hi c) = own_hi c := own_nar_lo (c >>> ((8 : Int32) &&& 31))
theorem own_fit_lo (c : Int32) : fits .byte (.int (own_lo c)) = true := fits_nar_byte c
theorem own_fit_hi (c : Int32) : fits .byte (.int (own_hi c)) = true := fits_nar_byte _
theorem own_shr0 (c : Int32) : c >>> ((0 : Int32) &&& 31) = c := by
  have h := c_ishr c 0 0 (by decide)
  refine Int32.toInt_inj.mp ?_
  rw [h]; simp
theorem own_lo_mask {c : Int32} (h0 : ¬ c < 0) (h1 : ¬ (255 : Int32) < c) : own_lo c &&& 255 = c := by
  rw [Int32.lt_iff_toInt_lt] at h0 h1
  have e1 : (0 : Int32).toInt = 0 := rfl
  have e2 : (255 : Int32).toInt = 255 := rfl
  have h2 := c_i2b c
  have h3 := c_mask (own_lo c) 255 8 (by decide) (by decide)
  have e : (own_lo c).toInt = (c.toInt8.toInt32).toInt := rfl
  refine Int32.toInt_inj.mp ?_
  omega
theorem own_pair {c : Int32} (h : own_Ch c) : (((own_lo c &&& 255) <<< ((0 : Int32) &&& 31)) ||| ((own_hi c &&& 255) <<< ((8 : Int32) &&& 31))).toUInt32.toUInt16.toUInt32.toInt32 = c := by
  have h1 := own_ch_int h
  have a1 := c_i2b c
  have a2 := c_ishr c 8 8 (by decide)
  have a3 := c_i2b (c >>> ((8 : Int32) &&& 31))
  have b1 := c_mask (own_lo c) 255 8 (by decide) (by decide)
  have b2 := c_mask (own_hi c) 255 8 (by decide) (by decide)
  have c1 := c_ishl (own_lo c &&& 255) 0 0 (by decide)
  have c2 := c_ishl (own_hi c &&& 255) 8 8 (by decide)
  have r1 := rng32 ((own_lo c &&& 255) <<< ((0 : Int32) &&& 31))
  have r2 := rng32 ((own_hi c &&& 255) <<< ((8 : Int32) &&& 31))
  have e1 : (own_lo c).toInt = (c.toInt8.toInt32).toInt := rfl
  have e2 : (own_hi c).toInt = ((c >>> ((8 : Int32) &&& 31)).toInt8.toInt32).toInt := rfl
  generalize hx : (own_lo c &&& 255) <<< ((0 : Int32) &&& 31) = x at *
  generalize hy : (own_hi c &&& 255) <<< ((8 : Int32) &&& 31) = y at *
  have o := c_or' x y 8 (by decide) 256 (by decide) (by omega) (by omega) (by omega)
  have d := c_i2c (x ||| y)
  have r3 := rng32 (x ||| y)
  refine Int32.toInt_inj.mp ?_
  omega
/-- an array's store behind the values that are said so far -/
theorem own_push {Z : State} {h h' : Heap} {a : Addr} {k : ClassId} {ty : FieldType} {z j : Int32} {vs : List Value} {v dv : Value} (F : Arv Z h a k ty z vs dv) (hv : fits ty v = true) (W : Wr h h' a j.toNatClampNeg v) (hj : j.toNatClampNeg = vs.length) : Arv Z h' a k ty z (vs ++ [v]) dv := by
  obtain ⟨c, A, q1, S, q3, H, G⟩ := F.pad (pad_rep vs dv 1)
  have q := Arv.set A q1 S q3 H G hv W vs.length hj (by simp)
  have e : (vs ++ List.replicate 1 dv).set vs.length v = vs ++ [v] := by simp
  rw [e] at q
  exact q
theorem own_n32 {n : Nat} (h : n < 2 ^ 31) : (Int32.ofNat n).toNatClampNeg = n := by
  rw [Int32.toNatClampNeg, Int32.toInt_ofNat_of_lt h]; rfl
theorem own_lt32 {i n : Nat} (h : i < n) (hn : n < 2 ^ 31) : Int32.ofNat i < Int32.ofNat n := by
  rw [Int32.lt_iff_toInt_lt, Int32.toInt_ofNat_of_lt (by omega), Int32.toInt_ofNat_of_lt hn]; omega
theorem own_nn32 {n : Nat} (h : n < 2 ^ 31) : ¬ Int32.ofNat n < 0 := by
  rw [Int32.lt_iff_toInt_lt, Int32.toInt_ofNat_of_lt h]; show ¬ ((n : Int) < 0); omega
theorem own_suc (i : Nat) : Int32.ofNat i + 1 = Int32.ofNat (i + 1) := by rw [Int32.ofNat_add]; rfl
theorem own_in32 {i n : Nat} {c : Cell} (S : c.slots.size = (Int32.ofNat n).toNatClampNeg) (h : i < n) (hn : n < 2 ^ 31) : ¬ (Int32.ofNat i < 0 ∨ c.slots.size ≤ (Int32.ofNat i).toNatClampNeg) := by
  rw [S, own_n32 hn, own_n32 (by omega)]
  exact fun q => q.elim (own_nn32 (by omega)) (fun q => by omega)
theorem own_getI (cs : List Int32) (j : Nat) (h : j < cs.length) (d : Value) : (cs.map Value.int).getD j d = .int (cs.getD j 0) := by simp [List.getD, h]
theorem own_getB (cs : List Int32) (j : Nat) (h : j < cs.length) (d : Value) : (cs.map own_vb).getD j d = .int (own_lo (cs.getD j 0)) := by simp [List.getD, h, own_vb]
theorem own_take1 (cs : List Int32) (i : Nat) (h : i < cs.length) : cs.take (i + 1) = cs.take i ++ [cs.getD i 0] := by rw [List.take_add_one]; simp [List.getD, h]
theorem own_takeB (cs : List Int32) (i : Nat) (h : i < cs.length) : (cs.take i).map own_vb ++ [.int (own_lo (cs.getD i 0))] = (cs.take (i + 1)).map own_vb := by
  rw [own_take1 cs i h, List.map_append]; rfl
/-- the two bytes of each char, the low one first -/
def own_wide : List Int32 → List Value
  | [] => []
  | c :: cs => .int (own_lo c) :: .int (own_hi c) :: own_wide cs
theorem own_wide_len : ∀ cs : List Int32, (own_wide cs).length = 2 * cs.length
  | [] => rfl
  | c :: cs => by show (own_wide cs).length + 1 + 1 = 2 * (cs.length + 1); rw [own_wide_len cs]; omega
theorem own_wide_app : ∀ (cs ds : List Int32), own_wide (cs ++ ds) = own_wide cs ++ own_wide ds
  | [], _ => rfl
  | c :: cs, ds => by show _ :: _ :: own_wide (cs ++ ds) = _; rw [own_wide_app cs ds]; rfl
theorem own_wide_lo (d : Value) : ∀ (cs : List Int32) (j : Nat), j < cs.length → (own_wide cs).getD (2 * j) d = .int (own_lo (cs.getD j 0))
  | [], _, h => absurd h (Nat.not_lt_zero _)
  | c :: cs, 0, _ => rfl
  | c :: cs, j + 1, h => by
    have q := own_wide_lo d cs j (by simpa using h)
    have e : 2 * (j + 1) = 2 * j + 1 + 1 := by omega
    rw [e]; exact q
theorem own_wide_hi (d : Value) : ∀ (cs : List Int32) (j : Nat), j < cs.length → (own_wide cs).getD (2 * j + 1) d = .int (own_hi (cs.getD j 0))
  | [], _, h => absurd h (Nat.not_lt_zero _)
  | c :: cs, 0, _ => rfl
  | c :: cs, j + 1, h => by
    have q := own_wide_hi d cs j (by simpa using h)
    have e : 2 * (j + 1) + 1 = 2 * j + 1 + 1 + 1 := by omega
    rw [e]; exact q
theorem own_takeW (cs : List Int32) (i : Nat) (h : i < cs.length) : own_wide (cs.take i) ++ [.int (own_lo (cs.getD i 0)), .int (own_hi (cs.getD i 0))] = own_wide (cs.take (i + 1)) := by
  rw [own_take1 cs i h, own_wide_app]; rfl
theorem own_shl1 {n : Nat} (h : n < 2 ^ 30) : Int32.ofNat n <<< ((1 : Int32) &&& 31) = Int32.ofNat (2 * n) := by
  have q := c_ishl (Int32.ofNat n) 1 1 (by decide)
  have r := rng32 (Int32.ofNat n <<< ((1 : Int32) &&& 31))
  refine Int32.toInt_inj.mp ?_
  rw [Int32.toInt_ofNat_of_lt (by omega)] at *
  omega
theorem own_shr1 {n : Nat} (h : n < 2 ^ 30) : Int32.ofNat (2 * n) >>> ((1 : Int32) &&& 31) = Int32.ofNat n := by
  have q := c_ishr (Int32.ofNat (2 * n)) 1 1 (by decide)
  refine Int32.toInt_inj.mp ?_
  rw [q, Int32.toInt_ofNat_of_lt (by omega), Int32.toInt_ofNat_of_lt (by omega)]
  omega
/-- what a String holds: its chars, Latin-1 or UTF-16 -/
def own_Str (Z : State) (h : Heap) (x t : Addr) (cs : List Int32) : Prop := Exa Z h x "java/lang/String" ∧ Fld Z h x "java/lang/String" "value" "[B" (.ref t) ∧
  ((Fld Z h x "java/lang/String" "coder" "B" (.int 0) ∧ (∃ kt, Arv Z h t kt .byte (Int32.ofNat cs.length) (cs.map own_vb) (.int 0)) ∧ ∀ j, j < cs.length → ¬ (255 : Int32) < cs.getD j 0) ∨
   (Fld Z h x "java/lang/String" "coder" "B" (.int 1) ∧ (∃ kt, Arv Z h t kt .byte (Int32.ofNat (2 * cs.length)) (own_wide cs) (.int 0)) ∧ ∃ j, j < cs.length ∧ (255 : Int32) < cs.getD j 0))
theorem own_Str.ext {Z : State} {h h' : Heap} {x t : Addr} {cs : List Int32} (S : own_Str Z h x t cs) (E : Ext h h') : own_Str Z h' x t cs :=
  ⟨S.1.ext E, S.2.1.ext E, S.2.2.imp (fun q => ⟨q.1.ext E, q.2.1.imp fun _ z => z.ext E, q.2.2⟩) (fun q => ⟨q.1.ext E, q.2.1.imp fun _ z => z.ext E, q.2.2⟩)⟩
theorem own_Str.keep {Z : State} {h h' : Heap} {ws : List Addr} {x t : Addr} {cs : List Int32} (S : own_Str Z h x t cs) (K : Keep h h' ws) (q1 : x ∉ ws) (q2 : t ∉ ws) : own_Str Z h' x t cs :=
  ⟨S.1.keep K, S.2.1.keep K q1, S.2.2.imp (fun q => ⟨q.1.keep K q1, q.2.1.imp fun _ z => z.keep K q2, q.2.2⟩) (fun q => ⟨q.1.keep K q1, q.2.1.imp fun _ z => z.keep K q2, q.2.2⟩)⟩
theorem own_Str.tlt {Z : State} {h : Heap} {x t : Addr} {cs : List Int32} (S : own_Str Z h x t cs) : t < h.size := by
  rcases S.2.2 with ⟨-, ⟨_, A⟩, -⟩ | ⟨-, ⟨_, A⟩, -⟩ <;> exact A.lt
theorem own_sub {h h' : Heap} {n0 : Nat} (q : n0 ≤ h.size) (E : Ext h h') : n0 ≤ h'.size := Nat.le_trans q E.1

theorem d1_0 : decode method_3_code 0 = .ok (.iload_n 2, 1) := by decide +kernel
theorem d1_1 : decode method_3_code 1 = .ok (.iload_n 3, 1) := by decide +kernel
theorem d1_2 : decode method_3_code 2 = .ok (.iushr, 1) := by decide +kernel
theorem d1_3 : decode method_3_code 3 = .ok (.iconst 1, 1) := by decide +kernel
theorem d1_4 : decode method_3_code 4 = .ok (.iand, 1) := by decide +kernel
theorem d1_5 : decode method_3_code 5 = .ok (.ifCond .eq 6, 3) := by decide +kernel
theorem d1_8 : decode method_3_code 8 = .ok (.bipush 46, 2) := by decide +kernel
theorem d1_10 : decode method_3_code 10 = .ok (.ireturn, 1) := by decide +kernel
theorem d1_11 : decode method_3_code 11 = .ok (.lload_n 0, 1) := by decide +kernel
theorem d1_12 : decode method_3_code 12 = .ok (.bipush 8, 2) := by decide +kernel
theorem d1_14 : decode method_3_code 14 = .ok (.iload_n 3, 1) := by decide +kernel
theorem d1_15 : decode method_3_code 15 = .ok (.imul, 1) := by decide +kernel
theorem d1_16 : decode method_3_code 16 = .ok (.lushr, 1) := by decide +kernel
theorem d1_17 : decode method_3_code 17 = .ok (.ldc2_w 28, 3) := by decide +kernel
theorem d1_20 : decode method_3_code 20 = .ok (.land, 1) := by decide +kernel
theorem d1_21 : decode method_3_code 21 = .ok (.l2i, 1) := by decide +kernel
theorem d1_22 : decode method_3_code 22 = .ok (.i2c, 1) := by decide +kernel
theorem d1_23 : decode method_3_code 23 = .ok (.ireturn, 1) := by decide +kernel
theorem d2_0 : decode method_4_code 0 = .ok (.iload_n 0, 1) := by decide +kernel
theorem d2_1 : decode method_4_code 1 = .ok (.ifCond .ne 14, 3) := by decide +kernel
theorem d2_4 : decode method_4_code 4 = .ok (.new 30, 3) := by decide +kernel
theorem d2_7 : decode method_4_code 7 = .ok (.dup, 1) := by decide +kernel
theorem d2_8 : decode method_4_code 8 = .ok (.iconst 0, 1) := by decide +kernel
theorem d2_9 : decode method_4_code 9 = .ok (.newarray .char, 2) := by decide +kernel
theorem d2_11 : decode method_4_code 11 = .ok (.invokespecial 32, 3) := by decide +kernel
theorem d2_14 : decode method_4_code 14 = .ok (.areturn, 1) := by decide +kernel
theorem d2_15 : decode method_4_code 15 = .ok (.iload_n 0, 1) := by decide +kernel
theorem d2_16 : decode method_4_code 16 = .ok (.iconst 1, 1) := by decide +kernel
theorem d2_17 : decode method_4_code 17 = .ok (.if_icmp .ne 18, 3) := by decide +kernel
theorem d2_20 : decode method_4_code 20 = .ok (.new 30, 3) := by decide +kernel
theorem d2_23 : decode method_4_code 23 = .ok (.dup, 1) := by decide +kernel
theorem d2_24 : decode method_4_code 24 = .ok (.iconst 1, 1) := by decide +kernel
theorem d2_25 : decode method_4_code 25 = .ok (.newarray .char, 2) := by decide +kernel
theorem d2_27 : decode method_4_code 27 = .ok (.dup, 1) := by decide +kernel
theorem d2_28 : decode method_4_code 28 = .ok (.iconst 0, 1) := by decide +kernel
theorem d2_29 : decode method_4_code 29 = .ok (.iload_n 1, 1) := by decide +kernel
theorem d2_30 : decode method_4_code 30 = .ok (.castore, 1) := by decide +kernel
theorem d2_31 : decode method_4_code 31 = .ok (.invokespecial 32, 3) := by decide +kernel
theorem d2_34 : decode method_4_code 34 = .ok (.areturn, 1) := by decide +kernel
theorem d2_35 : decode method_4_code 35 = .ok (.iload_n 0, 1) := by decide +kernel
theorem d2_36 : decode method_4_code 36 = .ok (.iconst 2, 1) := by decide +kernel
theorem d2_37 : decode method_4_code 37 = .ok (.if_icmp .ne 22, 3) := by decide +kernel
theorem d2_40 : decode method_4_code 40 = .ok (.new 30, 3) := by decide +kernel
theorem d2_43 : decode method_4_code 43 = .ok (.dup, 1) := by decide +kernel
theorem d2_44 : decode method_4_code 44 = .ok (.iconst 2, 1) := by decide +kernel
theorem d2_45 : decode method_4_code 45 = .ok (.newarray .char, 2) := by decide +kernel
theorem d2_47 : decode method_4_code 47 = .ok (.dup, 1) := by decide +kernel
theorem d2_48 : decode method_4_code 48 = .ok (.iconst 0, 1) := by decide +kernel
theorem d2_49 : decode method_4_code 49 = .ok (.iload_n 1, 1) := by decide +kernel
theorem d2_50 : decode method_4_code 50 = .ok (.castore, 1) := by decide +kernel
theorem d2_51 : decode method_4_code 51 = .ok (.dup, 1) := by decide +kernel
theorem d2_52 : decode method_4_code 52 = .ok (.iconst 1, 1) := by decide +kernel
theorem d2_53 : decode method_4_code 53 = .ok (.iload_n 2, 1) := by decide +kernel
theorem d2_54 : decode method_4_code 54 = .ok (.castore, 1) := by decide +kernel
theorem d2_55 : decode method_4_code 55 = .ok (.invokespecial 32, 3) := by decide +kernel
theorem d2_58 : decode method_4_code 58 = .ok (.areturn, 1) := by decide +kernel
theorem d2_59 : decode method_4_code 59 = .ok (.iload_n 0, 1) := by decide +kernel
theorem d2_60 : decode method_4_code 60 = .ok (.iconst 3, 1) := by decide +kernel
theorem d2_61 : decode method_4_code 61 = .ok (.if_icmp .ne 26, 3) := by decide +kernel
theorem d2_64 : decode method_4_code 64 = .ok (.new 30, 3) := by decide +kernel
theorem d2_67 : decode method_4_code 67 = .ok (.dup, 1) := by decide +kernel
theorem d2_68 : decode method_4_code 68 = .ok (.iconst 3, 1) := by decide +kernel
theorem d2_69 : decode method_4_code 69 = .ok (.newarray .char, 2) := by decide +kernel
theorem d2_71 : decode method_4_code 71 = .ok (.dup, 1) := by decide +kernel
theorem d2_72 : decode method_4_code 72 = .ok (.iconst 0, 1) := by decide +kernel
theorem d2_73 : decode method_4_code 73 = .ok (.iload_n 1, 1) := by decide +kernel
theorem d2_74 : decode method_4_code 74 = .ok (.castore, 1) := by decide +kernel
theorem d2_75 : decode method_4_code 75 = .ok (.dup, 1) := by decide +kernel
theorem d2_76 : decode method_4_code 76 = .ok (.iconst 1, 1) := by decide +kernel
theorem d2_77 : decode method_4_code 77 = .ok (.iload_n 2, 1) := by decide +kernel
theorem d2_78 : decode method_4_code 78 = .ok (.castore, 1) := by decide +kernel
theorem d2_79 : decode method_4_code 79 = .ok (.dup, 1) := by decide +kernel
theorem d2_80 : decode method_4_code 80 = .ok (.iconst 2, 1) := by decide +kernel
theorem d2_81 : decode method_4_code 81 = .ok (.iload_n 3, 1) := by decide +kernel
theorem d2_82 : decode method_4_code 82 = .ok (.castore, 1) := by decide +kernel
theorem d2_83 : decode method_4_code 83 = .ok (.invokespecial 32, 3) := by decide +kernel
theorem d2_86 : decode method_4_code 86 = .ok (.areturn, 1) := by decide +kernel
theorem d2_87 : decode method_4_code 87 = .ok (.iload_n 0, 1) := by decide +kernel
theorem d2_88 : decode method_4_code 88 = .ok (.iconst 4, 1) := by decide +kernel
theorem d2_89 : decode method_4_code 89 = .ok (.if_icmp .ne 31, 3) := by decide +kernel
theorem d2_92 : decode method_4_code 92 = .ok (.new 30, 3) := by decide +kernel
theorem d2_95 : decode method_4_code 95 = .ok (.dup, 1) := by decide +kernel
theorem d2_96 : decode method_4_code 96 = .ok (.iconst 4, 1) := by decide +kernel
theorem d2_97 : decode method_4_code 97 = .ok (.newarray .char, 2) := by decide +kernel
theorem d2_99 : decode method_4_code 99 = .ok (.dup, 1) := by decide +kernel
theorem d2_100 : decode method_4_code 100 = .ok (.iconst 0, 1) := by decide +kernel
theorem d2_101 : decode method_4_code 101 = .ok (.iload_n 1, 1) := by decide +kernel
theorem d2_102 : decode method_4_code 102 = .ok (.castore, 1) := by decide +kernel
theorem d2_103 : decode method_4_code 103 = .ok (.dup, 1) := by decide +kernel
theorem d2_104 : decode method_4_code 104 = .ok (.iconst 1, 1) := by decide +kernel
theorem d2_105 : decode method_4_code 105 = .ok (.iload_n 2, 1) := by decide +kernel
theorem d2_106 : decode method_4_code 106 = .ok (.castore, 1) := by decide +kernel
theorem d2_107 : decode method_4_code 107 = .ok (.dup, 1) := by decide +kernel
theorem d2_108 : decode method_4_code 108 = .ok (.iconst 2, 1) := by decide +kernel
theorem d2_109 : decode method_4_code 109 = .ok (.iload_n 3, 1) := by decide +kernel
theorem d2_110 : decode method_4_code 110 = .ok (.castore, 1) := by decide +kernel
theorem d2_111 : decode method_4_code 111 = .ok (.dup, 1) := by decide +kernel
theorem d2_112 : decode method_4_code 112 = .ok (.iconst 3, 1) := by decide +kernel
theorem d2_113 : decode method_4_code 113 = .ok (.iload 4, 2) := by decide +kernel
theorem d2_115 : decode method_4_code 115 = .ok (.castore, 1) := by decide +kernel
theorem d2_116 : decode method_4_code 116 = .ok (.invokespecial 32, 3) := by decide +kernel
theorem d2_119 : decode method_4_code 119 = .ok (.areturn, 1) := by decide +kernel
theorem d2_120 : decode method_4_code 120 = .ok (.iload_n 0, 1) := by decide +kernel
theorem d2_121 : decode method_4_code 121 = .ok (.iconst 5, 1) := by decide +kernel
theorem d2_122 : decode method_4_code 122 = .ok (.if_icmp .ne 36, 3) := by decide +kernel
theorem d2_125 : decode method_4_code 125 = .ok (.new 30, 3) := by decide +kernel
theorem d2_128 : decode method_4_code 128 = .ok (.dup, 1) := by decide +kernel
theorem d2_129 : decode method_4_code 129 = .ok (.iconst 5, 1) := by decide +kernel
theorem d2_130 : decode method_4_code 130 = .ok (.newarray .char, 2) := by decide +kernel
theorem d2_132 : decode method_4_code 132 = .ok (.dup, 1) := by decide +kernel
theorem d2_133 : decode method_4_code 133 = .ok (.iconst 0, 1) := by decide +kernel
theorem d2_134 : decode method_4_code 134 = .ok (.iload_n 1, 1) := by decide +kernel
theorem d2_135 : decode method_4_code 135 = .ok (.castore, 1) := by decide +kernel
theorem d2_136 : decode method_4_code 136 = .ok (.dup, 1) := by decide +kernel
theorem d2_137 : decode method_4_code 137 = .ok (.iconst 1, 1) := by decide +kernel
theorem d2_138 : decode method_4_code 138 = .ok (.iload_n 2, 1) := by decide +kernel
theorem d2_139 : decode method_4_code 139 = .ok (.castore, 1) := by decide +kernel
theorem d2_140 : decode method_4_code 140 = .ok (.dup, 1) := by decide +kernel
theorem d2_141 : decode method_4_code 141 = .ok (.iconst 2, 1) := by decide +kernel
theorem d2_142 : decode method_4_code 142 = .ok (.iload_n 3, 1) := by decide +kernel
theorem d2_143 : decode method_4_code 143 = .ok (.castore, 1) := by decide +kernel
theorem d2_144 : decode method_4_code 144 = .ok (.dup, 1) := by decide +kernel
theorem d2_145 : decode method_4_code 145 = .ok (.iconst 3, 1) := by decide +kernel
theorem d2_146 : decode method_4_code 146 = .ok (.iload 4, 2) := by decide +kernel
theorem d2_148 : decode method_4_code 148 = .ok (.castore, 1) := by decide +kernel
theorem d2_149 : decode method_4_code 149 = .ok (.dup, 1) := by decide +kernel
theorem d2_150 : decode method_4_code 150 = .ok (.iconst 4, 1) := by decide +kernel
theorem d2_151 : decode method_4_code 151 = .ok (.iload 5, 2) := by decide +kernel
theorem d2_153 : decode method_4_code 153 = .ok (.castore, 1) := by decide +kernel
theorem d2_154 : decode method_4_code 154 = .ok (.invokespecial 32, 3) := by decide +kernel
theorem d2_157 : decode method_4_code 157 = .ok (.areturn, 1) := by decide +kernel
theorem d2_158 : decode method_4_code 158 = .ok (.iload_n 0, 1) := by decide +kernel
theorem d2_159 : decode method_4_code 159 = .ok (.bipush 6, 2) := by decide +kernel
theorem d2_161 : decode method_4_code 161 = .ok (.if_icmp .ne 42, 3) := by decide +kernel
theorem d2_164 : decode method_4_code 164 = .ok (.new 30, 3) := by decide +kernel
theorem d2_167 : decode method_4_code 167 = .ok (.dup, 1) := by decide +kernel
theorem d2_168 : decode method_4_code 168 = .ok (.bipush 6, 2) := by decide +kernel
theorem d2_170 : decode method_4_code 170 = .ok (.newarray .char, 2) := by decide +kernel
theorem d2_172 : decode method_4_code 172 = .ok (.dup, 1) := by decide +kernel
theorem d2_173 : decode method_4_code 173 = .ok (.iconst 0, 1) := by decide +kernel
theorem d2_174 : decode method_4_code 174 = .ok (.iload_n 1, 1) := by decide +kernel
theorem d2_175 : decode method_4_code 175 = .ok (.castore, 1) := by decide +kernel
theorem d2_176 : decode method_4_code 176 = .ok (.dup, 1) := by decide +kernel
theorem d2_177 : decode method_4_code 177 = .ok (.iconst 1, 1) := by decide +kernel
theorem d2_178 : decode method_4_code 178 = .ok (.iload_n 2, 1) := by decide +kernel
theorem d2_179 : decode method_4_code 179 = .ok (.castore, 1) := by decide +kernel
theorem d2_180 : decode method_4_code 180 = .ok (.dup, 1) := by decide +kernel
theorem d2_181 : decode method_4_code 181 = .ok (.iconst 2, 1) := by decide +kernel
theorem d2_182 : decode method_4_code 182 = .ok (.iload_n 3, 1) := by decide +kernel
theorem d2_183 : decode method_4_code 183 = .ok (.castore, 1) := by decide +kernel
theorem d2_184 : decode method_4_code 184 = .ok (.dup, 1) := by decide +kernel
theorem d2_185 : decode method_4_code 185 = .ok (.iconst 3, 1) := by decide +kernel
theorem d2_186 : decode method_4_code 186 = .ok (.iload 4, 2) := by decide +kernel
theorem d2_188 : decode method_4_code 188 = .ok (.castore, 1) := by decide +kernel
theorem d2_189 : decode method_4_code 189 = .ok (.dup, 1) := by decide +kernel
theorem d2_190 : decode method_4_code 190 = .ok (.iconst 4, 1) := by decide +kernel
theorem d2_191 : decode method_4_code 191 = .ok (.iload 5, 2) := by decide +kernel
theorem d2_193 : decode method_4_code 193 = .ok (.castore, 1) := by decide +kernel
theorem d2_194 : decode method_4_code 194 = .ok (.dup, 1) := by decide +kernel
theorem d2_195 : decode method_4_code 195 = .ok (.iconst 5, 1) := by decide +kernel
theorem d2_196 : decode method_4_code 196 = .ok (.iload 6, 2) := by decide +kernel
theorem d2_198 : decode method_4_code 198 = .ok (.castore, 1) := by decide +kernel
theorem d2_199 : decode method_4_code 199 = .ok (.invokespecial 32, 3) := by decide +kernel
theorem d2_202 : decode method_4_code 202 = .ok (.areturn, 1) := by decide +kernel
theorem d2_203 : decode method_4_code 203 = .ok (.iload_n 0, 1) := by decide +kernel
theorem d2_204 : decode method_4_code 204 = .ok (.bipush 7, 2) := by decide +kernel
theorem d2_206 : decode method_4_code 206 = .ok (.if_icmp .ne 48, 3) := by decide +kernel
theorem d2_209 : decode method_4_code 209 = .ok (.new 30, 3) := by decide +kernel
theorem d2_212 : decode method_4_code 212 = .ok (.dup, 1) := by decide +kernel
theorem d2_213 : decode method_4_code 213 = .ok (.bipush 7, 2) := by decide +kernel
theorem d2_215 : decode method_4_code 215 = .ok (.newarray .char, 2) := by decide +kernel
theorem d2_217 : decode method_4_code 217 = .ok (.dup, 1) := by decide +kernel
theorem d2_218 : decode method_4_code 218 = .ok (.iconst 0, 1) := by decide +kernel
theorem d2_219 : decode method_4_code 219 = .ok (.iload_n 1, 1) := by decide +kernel
theorem d2_220 : decode method_4_code 220 = .ok (.castore, 1) := by decide +kernel
theorem d2_221 : decode method_4_code 221 = .ok (.dup, 1) := by decide +kernel
theorem d2_222 : decode method_4_code 222 = .ok (.iconst 1, 1) := by decide +kernel
theorem d2_223 : decode method_4_code 223 = .ok (.iload_n 2, 1) := by decide +kernel
theorem d2_224 : decode method_4_code 224 = .ok (.castore, 1) := by decide +kernel
theorem d2_225 : decode method_4_code 225 = .ok (.dup, 1) := by decide +kernel
theorem d2_226 : decode method_4_code 226 = .ok (.iconst 2, 1) := by decide +kernel
theorem d2_227 : decode method_4_code 227 = .ok (.iload_n 3, 1) := by decide +kernel
theorem d2_228 : decode method_4_code 228 = .ok (.castore, 1) := by decide +kernel
theorem d2_229 : decode method_4_code 229 = .ok (.dup, 1) := by decide +kernel
theorem d2_230 : decode method_4_code 230 = .ok (.iconst 3, 1) := by decide +kernel
theorem d2_231 : decode method_4_code 231 = .ok (.iload 4, 2) := by decide +kernel
theorem d2_233 : decode method_4_code 233 = .ok (.castore, 1) := by decide +kernel
theorem d2_234 : decode method_4_code 234 = .ok (.dup, 1) := by decide +kernel
theorem d2_235 : decode method_4_code 235 = .ok (.iconst 4, 1) := by decide +kernel
theorem d2_236 : decode method_4_code 236 = .ok (.iload 5, 2) := by decide +kernel
theorem d2_238 : decode method_4_code 238 = .ok (.castore, 1) := by decide +kernel
theorem d2_239 : decode method_4_code 239 = .ok (.dup, 1) := by decide +kernel
theorem d2_240 : decode method_4_code 240 = .ok (.iconst 5, 1) := by decide +kernel
theorem d2_241 : decode method_4_code 241 = .ok (.iload 6, 2) := by decide +kernel
theorem d2_243 : decode method_4_code 243 = .ok (.castore, 1) := by decide +kernel
theorem d2_244 : decode method_4_code 244 = .ok (.dup, 1) := by decide +kernel
theorem d2_245 : decode method_4_code 245 = .ok (.bipush 6, 2) := by decide +kernel
theorem d2_247 : decode method_4_code 247 = .ok (.iload 7, 2) := by decide +kernel
theorem d2_249 : decode method_4_code 249 = .ok (.castore, 1) := by decide +kernel
theorem d2_250 : decode method_4_code 250 = .ok (.invokespecial 32, 3) := by decide +kernel
theorem d2_253 : decode method_4_code 253 = .ok (.areturn, 1) := by decide +kernel
theorem d2_254 : decode method_4_code 254 = .ok (.new 30, 3) := by decide +kernel
theorem d2_257 : decode method_4_code 257 = .ok (.dup, 1) := by decide +kernel
theorem d2_258 : decode method_4_code 258 = .ok (.bipush 8, 2) := by decide +kernel
theorem d2_260 : decode method_4_code 260 = .ok (.newarray .char, 2) := by decide +kernel
theorem d2_262 : decode method_4_code 262 = .ok (.dup, 1) := by decide +kernel
theorem d2_263 : decode method_4_code 263 = .ok (.iconst 0, 1) := by decide +kernel
theorem d2_264 : decode method_4_code 264 = .ok (.iload_n 1, 1) := by decide +kernel
theorem d2_265 : decode method_4_code 265 = .ok (.castore, 1) := by decide +kernel
theorem d2_266 : decode method_4_code 266 = .ok (.dup, 1) := by decide +kernel
theorem d2_267 : decode method_4_code 267 = .ok (.iconst 1, 1) := by decide +kernel
theorem d2_268 : decode method_4_code 268 = .ok (.iload_n 2, 1) := by decide +kernel
theorem d2_269 : decode method_4_code 269 = .ok (.castore, 1) := by decide +kernel
theorem d2_270 : decode method_4_code 270 = .ok (.dup, 1) := by decide +kernel
theorem d2_271 : decode method_4_code 271 = .ok (.iconst 2, 1) := by decide +kernel
theorem d2_272 : decode method_4_code 272 = .ok (.iload_n 3, 1) := by decide +kernel
theorem d2_273 : decode method_4_code 273 = .ok (.castore, 1) := by decide +kernel
theorem d2_274 : decode method_4_code 274 = .ok (.dup, 1) := by decide +kernel
theorem d2_275 : decode method_4_code 275 = .ok (.iconst 3, 1) := by decide +kernel
theorem d2_276 : decode method_4_code 276 = .ok (.iload 4, 2) := by decide +kernel
theorem d2_278 : decode method_4_code 278 = .ok (.castore, 1) := by decide +kernel
theorem d2_279 : decode method_4_code 279 = .ok (.dup, 1) := by decide +kernel
theorem d2_280 : decode method_4_code 280 = .ok (.iconst 4, 1) := by decide +kernel
theorem d2_281 : decode method_4_code 281 = .ok (.iload 5, 2) := by decide +kernel
theorem d2_283 : decode method_4_code 283 = .ok (.castore, 1) := by decide +kernel
theorem d2_284 : decode method_4_code 284 = .ok (.dup, 1) := by decide +kernel
theorem d2_285 : decode method_4_code 285 = .ok (.iconst 5, 1) := by decide +kernel
theorem d2_286 : decode method_4_code 286 = .ok (.iload 6, 2) := by decide +kernel
theorem d2_288 : decode method_4_code 288 = .ok (.castore, 1) := by decide +kernel
theorem d2_289 : decode method_4_code 289 = .ok (.dup, 1) := by decide +kernel
theorem d2_290 : decode method_4_code 290 = .ok (.bipush 6, 2) := by decide +kernel
theorem d2_292 : decode method_4_code 292 = .ok (.iload 7, 2) := by decide +kernel
theorem d2_294 : decode method_4_code 294 = .ok (.castore, 1) := by decide +kernel
theorem d2_295 : decode method_4_code 295 = .ok (.dup, 1) := by decide +kernel
theorem d2_296 : decode method_4_code 296 = .ok (.bipush 7, 2) := by decide +kernel
theorem d2_298 : decode method_4_code 298 = .ok (.iload 8, 2) := by decide +kernel
theorem d2_300 : decode method_4_code 300 = .ok (.castore, 1) := by decide +kernel
theorem d2_301 : decode method_4_code 301 = .ok (.invokespecial 32, 3) := by decide +kernel
theorem d2_304 : decode method_4_code 304 = .ok (.areturn, 1) := by decide +kernel
theorem d3_0 : decode jdk_42_method_3_code 0 = .ok (.aload_n 0, 1) := by decide +kernel
theorem d3_1 : decode jdk_42_method_3_code 1 = .ok (.aload_n 1, 1) := by decide +kernel
theorem d3_2 : decode jdk_42_method_3_code 2 = .ok (.iconst 0, 1) := by decide +kernel
theorem d3_3 : decode jdk_42_method_3_code 3 = .ok (.aload_n 1, 1) := by decide +kernel
theorem d3_4 : decode jdk_42_method_3_code 4 = .ok (.arraylength, 1) := by decide +kernel
theorem d3_5 : decode jdk_42_method_3_code 5 = .ok (.aconst_null, 1) := by decide +kernel
theorem d3_6 : decode jdk_42_method_3_code 6 = .ok (.invokespecial 27, 3) := by decide +kernel
theorem d3_9 : decode jdk_42_method_3_code 9 = .ok (.return_, 1) := by decide +kernel
theorem d4_0 : decode jdk_42_method_149_code 0 = .ok (.aload_n 0, 1) := by decide +kernel
theorem d4_1 : decode jdk_42_method_149_code 1 = .ok (.invokespecial 1, 3) := by decide +kernel
theorem d4_4 : decode jdk_42_method_149_code 4 = .ok (.iload_n 3, 1) := by decide +kernel
theorem d4_5 : decode jdk_42_method_149_code 5 = .ok (.ifCond .ne 22, 3) := by decide +kernel
theorem d4_8 : decode jdk_42_method_149_code 8 = .ok (.aload_n 0, 1) := by decide +kernel
theorem d4_9 : decode jdk_42_method_149_code 9 = .ok (.ldc 7, 2) := by decide +kernel
theorem d4_11 : decode jdk_42_method_149_code 11 = .ok (.getfield 9, 3) := by decide +kernel
theorem d4_14 : decode jdk_42_method_149_code 14 = .ok (.putfield 9, 3) := by decide +kernel
theorem d4_17 : decode jdk_42_method_149_code 17 = .ok (.aload_n 0, 1) := by decide +kernel
theorem d4_18 : decode jdk_42_method_149_code 18 = .ok (.ldc 7, 2) := by decide +kernel
theorem d4_20 : decode jdk_42_method_149_code 20 = .ok (.getfield 15, 3) := by decide +kernel
theorem d4_23 : decode jdk_42_method_149_code 23 = .ok (.putfield 15, 3) := by decide +kernel
theorem d4_26 : decode jdk_42_method_149_code 26 = .ok (.return_, 1) := by decide +kernel
theorem d4_27 : decode jdk_42_method_149_code 27 = .ok (.getstatic 38, 3) := by decide +kernel
theorem d4_30 : decode jdk_42_method_149_code 30 = .ok (.ifCond .eq 28, 3) := by decide +kernel
theorem d4_33 : decode jdk_42_method_149_code 33 = .ok (.aload_n 1, 1) := by decide +kernel
theorem d4_34 : decode jdk_42_method_149_code 34 = .ok (.iload_n 2, 1) := by decide +kernel
theorem d4_35 : decode jdk_42_method_149_code 35 = .ok (.iload_n 3, 1) := by decide +kernel
theorem d4_36 : decode jdk_42_method_149_code 36 = .ok (.invokestatic 177, 3) := by decide +kernel
theorem d4_39 : decode jdk_42_method_149_code 39 = .ok (.astore 5, 2) := by decide +kernel
theorem d4_41 : decode jdk_42_method_149_code 41 = .ok (.aload_n 0, 1) := by decide +kernel
theorem d4_42 : decode jdk_42_method_149_code 42 = .ok (.aload 5, 2) := by decide +kernel
theorem d4_44 : decode jdk_42_method_149_code 44 = .ok (.iload_n 3, 1) := by decide +kernel
theorem d4_45 : decode jdk_42_method_149_code 45 = .ok (.invokestatic 47, 3) := by decide +kernel
theorem d4_48 : decode jdk_42_method_149_code 48 = .ok (.putfield 15, 3) := by decide +kernel
theorem d4_51 : decode jdk_42_method_149_code 51 = .ok (.aload_n 0, 1) := by decide +kernel
theorem d4_52 : decode jdk_42_method_149_code 52 = .ok (.aload 5, 2) := by decide +kernel
theorem d4_54 : decode jdk_42_method_149_code 54 = .ok (.putfield 9, 3) := by decide +kernel
theorem d4_57 : decode jdk_42_method_149_code 57 = .ok (.return_, 1) := by decide +kernel
theorem d4_58 : decode jdk_42_method_149_code 58 = .ok (.aload_n 0, 1) := by decide +kernel
theorem d4_59 : decode jdk_42_method_149_code 59 = .ok (.iconst 1, 1) := by decide +kernel
theorem d4_60 : decode jdk_42_method_149_code 60 = .ok (.putfield 15, 3) := by decide +kernel
theorem d4_63 : decode jdk_42_method_149_code 63 = .ok (.aload_n 0, 1) := by decide +kernel
theorem d4_64 : decode jdk_42_method_149_code 64 = .ok (.aload_n 1, 1) := by decide +kernel
theorem d4_65 : decode jdk_42_method_149_code 65 = .ok (.iload_n 2, 1) := by decide +kernel
theorem d4_66 : decode jdk_42_method_149_code 66 = .ok (.iload_n 3, 1) := by decide +kernel
theorem d4_67 : decode jdk_42_method_149_code 67 = .ok (.invokestatic 180, 3) := by decide +kernel
theorem d4_70 : decode jdk_42_method_149_code 70 = .ok (.putfield 9, 3) := by decide +kernel
theorem d4_73 : decode jdk_42_method_149_code 73 = .ok (.return_, 1) := by decide +kernel
theorem d6_0 : decode jdk_52_method_16_code 0 = .ok (.iload_n 2, 1) := by decide +kernel
theorem d6_1 : decode jdk_52_method_16_code 1 = .ok (.newarray .byte, 2) := by decide +kernel
theorem d6_3 : decode jdk_52_method_16_code 3 = .ok (.astore_n 3, 1) := by decide +kernel
theorem d6_4 : decode jdk_52_method_16_code 4 = .ok (.aload_n 0, 1) := by decide +kernel
theorem d6_5 : decode jdk_52_method_16_code 5 = .ok (.iload_n 1, 1) := by decide +kernel
theorem d6_6 : decode jdk_52_method_16_code 6 = .ok (.aload_n 3, 1) := by decide +kernel
theorem d6_7 : decode jdk_52_method_16_code 7 = .ok (.iconst 0, 1) := by decide +kernel
theorem d6_8 : decode jdk_52_method_16_code 8 = .ok (.iload_n 2, 1) := by decide +kernel
theorem d6_9 : decode jdk_52_method_16_code 9 = .ok (.invokestatic 115, 3) := by decide +kernel
theorem d6_12 : decode jdk_52_method_16_code 12 = .ok (.istore 4, 2) := by decide +kernel
theorem d6_14 : decode jdk_52_method_16_code 14 = .ok (.iload 4, 2) := by decide +kernel
theorem d6_16 : decode jdk_52_method_16_code 16 = .ok (.iload_n 2, 1) := by decide +kernel
theorem d6_17 : decode jdk_52_method_16_code 17 = .ok (.if_icmp .eq 40, 3) := by decide +kernel
theorem d6_20 : decode jdk_52_method_16_code 20 = .ok (.aload_n 0, 1) := by decide +kernel
theorem d6_21 : decode jdk_52_method_16_code 21 = .ok (.iload_n 1, 1) := by decide +kernel
theorem d6_22 : decode jdk_52_method_16_code 22 = .ok (.iload_n 2, 1) := by decide +kernel
theorem d6_23 : decode jdk_52_method_16_code 23 = .ok (.invokestatic 119, 3) := by decide +kernel
theorem d6_26 : decode jdk_52_method_16_code 26 = .ok (.astore 5, 2) := by decide +kernel
theorem d6_28 : decode jdk_52_method_16_code 28 = .ok (.aload 5, 2) := by decide +kernel
theorem d6_30 : decode jdk_52_method_16_code 30 = .ok (.iload 4, 2) := by decide +kernel
theorem d6_32 : decode jdk_52_method_16_code 32 = .ok (.invokestatic 71, 3) := by decide +kernel
theorem d6_35 : decode jdk_52_method_16_code 35 = .ok (.sipush 255, 3) := by decide +kernel
theorem d6_38 : decode jdk_52_method_16_code 38 = .ok (.if_icmp .gt 16, 3) := by decide +kernel
theorem d6_41 : decode jdk_52_method_16_code 41 = .ok (.aload 5, 2) := by decide +kernel
theorem d6_43 : decode jdk_52_method_16_code 43 = .ok (.iconst 0, 1) := by decide +kernel
theorem d6_44 : decode jdk_52_method_16_code 44 = .ok (.aload_n 3, 1) := by decide +kernel
theorem d6_45 : decode jdk_52_method_16_code 45 = .ok (.iconst 0, 1) := by decide +kernel
theorem d6_46 : decode jdk_52_method_16_code 46 = .ok (.iload_n 2, 1) := by decide +kernel
theorem d6_47 : decode jdk_52_method_16_code 47 = .ok (.invokestatic 123, 3) := by decide +kernel
theorem d6_50 : decode jdk_52_method_16_code 50 = .ok (.iload_n 2, 1) := by decide +kernel
theorem d6_51 : decode jdk_52_method_16_code 51 = .ok (.if_icmp .eq 6, 3) := by decide +kernel
theorem d6_54 : decode jdk_52_method_16_code 54 = .ok (.aload 5, 2) := by decide +kernel
theorem d6_56 : decode jdk_52_method_16_code 56 = .ok (.areturn, 1) := by decide +kernel
theorem d6_57 : decode jdk_52_method_16_code 57 = .ok (.aload_n 3, 1) := by decide +kernel
theorem d6_58 : decode jdk_52_method_16_code 58 = .ok (.areturn, 1) := by decide +kernel
theorem d7_0 : decode jdk_52_method_21_code 0 = .ok (.iconst 0, 1) := by decide +kernel
theorem d7_1 : decode jdk_52_method_21_code 1 = .ok (.istore 5, 2) := by decide +kernel
theorem d7_3 : decode jdk_52_method_21_code 3 = .ok (.iload 5, 2) := by decide +kernel
theorem d7_5 : decode jdk_52_method_21_code 5 = .ok (.iload 4, 2) := by decide +kernel
theorem d7_7 : decode jdk_52_method_21_code 7 = .ok (.if_icmp .ge 37, 3) := by decide +kernel
theorem d7_10 : decode jdk_52_method_21_code 10 = .ok (.aload_n 0, 1) := by decide +kernel
theorem d7_11 : decode jdk_52_method_21_code 11 = .ok (.iload_n 1, 1) := by decide +kernel
theorem d7_12 : decode jdk_52_method_21_code 12 = .ok (.caload, 1) := by decide +kernel
theorem d7_13 : decode jdk_52_method_21_code 13 = .ok (.istore 6, 2) := by decide +kernel
theorem d7_15 : decode jdk_52_method_21_code 15 = .ok (.iload 6, 2) := by decide +kernel
theorem d7_17 : decode jdk_52_method_21_code 17 = .ok (.sipush 255, 3) := by decide +kernel
theorem d7_20 : decode jdk_52_method_21_code 20 = .ok (.if_icmp .le 6, 3) := by decide +kernel
theorem d7_23 : decode jdk_52_method_21_code 23 = .ok (.iload 5, 2) := by decide +kernel
theorem d7_25 : decode jdk_52_method_21_code 25 = .ok (.ireturn, 1) := by decide +kernel
theorem d7_26 : decode jdk_52_method_21_code 26 = .ok (.aload_n 2, 1) := by decide +kernel
theorem d7_27 : decode jdk_52_method_21_code 27 = .ok (.iload_n 3, 1) := by decide +kernel
theorem d7_28 : decode jdk_52_method_21_code 28 = .ok (.iload 6, 2) := by decide +kernel
theorem d7_30 : decode jdk_52_method_21_code 30 = .ok (.i2b, 1) := by decide +kernel
theorem d7_31 : decode jdk_52_method_21_code 31 = .ok (.bastore, 1) := by decide +kernel
theorem d7_32 : decode jdk_52_method_21_code 32 = .ok (.iinc 1 1, 3) := by decide +kernel
theorem d7_35 : decode jdk_52_method_21_code 35 = .ok (.iinc 3 1, 3) := by decide +kernel
theorem d7_38 : decode jdk_52_method_21_code 38 = .ok (.iinc 5 1, 3) := by decide +kernel
theorem d7_41 : decode jdk_52_method_21_code 41 = .ok (.goto (-38), 3) := by decide +kernel
theorem d7_44 : decode jdk_52_method_21_code 44 = .ok (.iload 4, 2) := by decide +kernel
theorem d7_46 : decode jdk_52_method_21_code 46 = .ok (.ireturn, 1) := by decide +kernel
theorem d8_0 : decode jdk_52_method_15_code 0 = .ok (.iload_n 1, 1) := by decide +kernel
theorem d8_1 : decode jdk_52_method_15_code 1 = .ok (.aload_n 0, 1) := by decide +kernel
theorem d8_2 : decode jdk_52_method_15_code 2 = .ok (.arraylength, 1) := by decide +kernel
theorem d8_3 : decode jdk_52_method_15_code 3 = .ok (.isub, 1) := by decide +kernel
theorem d8_4 : decode jdk_52_method_15_code 4 = .ok (.bipush 31, 2) := by decide +kernel
theorem d8_6 : decode jdk_52_method_15_code 6 = .ok (.iushr, 1) := by decide +kernel
theorem d8_7 : decode jdk_52_method_15_code 7 = .ok (.i2b, 1) := by decide +kernel
theorem d8_8 : decode jdk_52_method_15_code 8 = .ok (.ireturn, 1) := by decide +kernel
theorem d9_0 : decode prog_8_method_3_code 0 = .ok (.iconst 1, 1) := by decide +kernel
theorem d9_1 : decode prog_8_method_3_code 1 = .ok (.istore_n 3, 1) := by decide +kernel
theorem d9_2 : decode prog_8_method_3_code 2 = .ok (.iconst 0, 1) := by decide +kernel
theorem d9_3 : decode prog_8_method_3_code 3 = .ok (.istore 4, 2) := by decide +kernel
theorem d9_5 : decode prog_8_method_3_code 5 = .ok (.iconst 1, 1) := by decide +kernel
theorem d9_6 : decode prog_8_method_3_code 6 = .ok (.istore 5, 2) := by decide +kernel
theorem d9_8 : decode prog_8_method_3_code 8 = .ok (.iconst 0, 1) := by decide +kernel
theorem d9_9 : decode prog_8_method_3_code 9 = .ok (.istore 6, 2) := by decide +kernel
theorem d9_11 : decode prog_8_method_3_code 11 = .ok (.iload 6, 2) := by decide +kernel
theorem d9_13 : decode prog_8_method_3_code 13 = .ok (.aload_n 0, 1) := by decide +kernel
theorem d9_14 : decode prog_8_method_3_code 14 = .ok (.invokevirtual 9, 3) := by decide +kernel
theorem d9_17 : decode prog_8_method_3_code 17 = .ok (.if_icmp .ge 109, 3) := by decide +kernel
theorem d9_20 : decode prog_8_method_3_code 20 = .ok (.iload 5, 2) := by decide +kernel
theorem d9_22 : decode prog_8_method_3_code 22 = .ok (.ifCond .eq 104, 3) := by decide +kernel
theorem d9_25 : decode prog_8_method_3_code 25 = .ok (.aload_n 0, 1) := by decide +kernel
theorem d9_26 : decode prog_8_method_3_code 26 = .ok (.iload 6, 2) := by decide +kernel
theorem d9_28 : decode prog_8_method_3_code 28 = .ok (.invokevirtual 19, 3) := by decide +kernel
theorem d9_31 : decode prog_8_method_3_code 31 = .ok (.istore 7, 2) := by decide +kernel
theorem d9_33 : decode prog_8_method_3_code 33 = .ok (.iload 7, 2) := by decide +kernel
theorem d9_35 : decode prog_8_method_3_code 35 = .ok (.bipush 46, 2) := by decide +kernel
theorem d9_37 : decode prog_8_method_3_code 37 = .ok (.if_icmp .ne 24, 3) := by decide +kernel
theorem d9_40 : decode prog_8_method_3_code 40 = .ok (.iload 4, 2) := by decide +kernel
theorem d9_42 : decode prog_8_method_3_code 42 = .ok (.ifCond .le 7, 3) := by decide +kernel
theorem d9_45 : decode prog_8_method_3_code 45 = .ok (.iconst 1, 1) := by decide +kernel
theorem d9_46 : decode prog_8_method_3_code 46 = .ok (.goto 4, 3) := by decide +kernel
theorem d9_49 : decode prog_8_method_3_code 49 = .ok (.iconst 0, 1) := by decide +kernel
theorem d9_50 : decode prog_8_method_3_code 50 = .ok (.istore 5, 2) := by decide +kernel
theorem d9_52 : decode prog_8_method_3_code 52 = .ok (.iinc 3 1, 3) := by decide +kernel
theorem d9_55 : decode prog_8_method_3_code 55 = .ok (.iconst 0, 1) := by decide +kernel
theorem d9_56 : decode prog_8_method_3_code 56 = .ok (.istore 4, 2) := by decide +kernel
theorem d9_58 : decode prog_8_method_3_code 58 = .ok (.goto 62, 3) := by decide +kernel
theorem d9_61 : decode prog_8_method_3_code 61 = .ok (.iload 7, 2) := by decide +kernel
theorem d9_63 : decode prog_8_method_3_code 63 = .ok (.bipush 97, 2) := by decide +kernel
theorem d9_65 : decode prog_8_method_3_code 65 = .ok (.if_icmp .lt 10, 3) := by decide +kernel
theorem d9_68 : decode prog_8_method_3_code 68 = .ok (.iload 7, 2) := by decide +kernel
theorem d9_70 : decode prog_8_method_3_code 70 = .ok (.bipush 122, 2) := by decide +kernel
theorem d9_72 : decode prog_8_method_3_code 72 = .ok (.if_icmp .le 38, 3) := by decide +kernel
theorem d9_75 : decode prog_8_method_3_code 75 = .ok (.iload 7, 2) := by decide +kernel
theorem d9_77 : decode prog_8_method_3_code 77 = .ok (.bipush 65, 2) := by decide +kernel
theorem d9_79 : decode prog_8_method_3_code 79 = .ok (.if_icmp .lt 10, 3) := by decide +kernel
theorem d9_82 : decode prog_8_method_3_code 82 = .ok (.iload 7, 2) := by decide +kernel
theorem d9_84 : decode prog_8_method_3_code 84 = .ok (.bipush 90, 2) := by decide +kernel
theorem d9_86 : decode prog_8_method_3_code 86 = .ok (.if_icmp .le 24, 3) := by decide +kernel
theorem d9_89 : decode prog_8_method_3_code 89 = .ok (.iload 7, 2) := by decide +kernel
theorem d9_91 : decode prog_8_method_3_code 91 = .ok (.bipush 48, 2) := by decide +kernel
theorem d9_93 : decode prog_8_method_3_code 93 = .ok (.if_icmp .lt 10, 3) := by decide +kernel
theorem d9_96 : decode prog_8_method_3_code 96 = .ok (.iload 7, 2) := by decide +kernel
theorem d9_98 : decode prog_8_method_3_code 98 = .ok (.bipush 57, 2) := by decide +kernel
theorem d9_100 : decode prog_8_method_3_code 100 = .ok (.if_icmp .le 10, 3) := by decide +kernel
theorem d9_103 : decode prog_8_method_3_code 103 = .ok (.iload 7, 2) := by decide +kernel
theorem d9_105 : decode prog_8_method_3_code 105 = .ok (.bipush 95, 2) := by decide +kernel
theorem d9_107 : decode prog_8_method_3_code 107 = .ok (.if_icmp .ne 7, 3) := by decide +kernel
theorem d9_110 : decode prog_8_method_3_code 110 = .ok (.iconst 1, 1) := by decide +kernel
theorem d9_111 : decode prog_8_method_3_code 111 = .ok (.goto 4, 3) := by decide +kernel
theorem d9_114 : decode prog_8_method_3_code 114 = .ok (.iconst 0, 1) := by decide +kernel
theorem d9_115 : decode prog_8_method_3_code 115 = .ok (.istore 5, 2) := by decide +kernel
theorem d9_117 : decode prog_8_method_3_code 117 = .ok (.iinc 4 1, 3) := by decide +kernel
theorem d9_120 : decode prog_8_method_3_code 120 = .ok (.iinc 6 1, 3) := by decide +kernel
theorem d9_123 : decode prog_8_method_3_code 123 = .ok (.goto (-112), 3) := by decide +kernel
theorem d9_126 : decode prog_8_method_3_code 126 = .ok (.iload 5, 2) := by decide +kernel
theorem d9_128 : decode prog_8_method_3_code 128 = .ok (.ifCond .eq 22, 3) := by decide +kernel
theorem d9_131 : decode prog_8_method_3_code 131 = .ok (.iload 4, 2) := by decide +kernel
theorem d9_133 : decode prog_8_method_3_code 133 = .ok (.ifCond .le 17, 3) := by decide +kernel
theorem d9_136 : decode prog_8_method_3_code 136 = .ok (.iload_n 3, 1) := by decide +kernel
theorem d9_137 : decode prog_8_method_3_code 137 = .ok (.iload_n 1, 1) := by decide +kernel
theorem d9_138 : decode prog_8_method_3_code 138 = .ok (.if_icmp .lt 12, 3) := by decide +kernel
theorem d9_141 : decode prog_8_method_3_code 141 = .ok (.iload_n 3, 1) := by decide +kernel
theorem d9_142 : decode prog_8_method_3_code 142 = .ok (.iload_n 2, 1) := by decide +kernel
theorem d9_143 : decode prog_8_method_3_code 143 = .ok (.if_icmp .gt 7, 3) := by decide +kernel
theorem d9_146 : decode prog_8_method_3_code 146 = .ok (.iconst 1, 1) := by decide +kernel
theorem d9_147 : decode prog_8_method_3_code 147 = .ok (.goto 4, 3) := by decide +kernel
theorem d9_150 : decode prog_8_method_3_code 150 = .ok (.iconst 0, 1) := by decide +kernel
theorem d9_151 : decode prog_8_method_3_code 151 = .ok (.ireturn, 1) := by decide +kernel
theorem d10_0 : decode jdk_42_method_54_code 0 = .ok (.aload_n 0, 1) := by decide +kernel
theorem d10_1 : decode jdk_42_method_54_code 1 = .ok (.getfield 9, 3) := by decide +kernel
theorem d10_4 : decode jdk_42_method_54_code 4 = .ok (.arraylength, 1) := by decide +kernel
theorem d10_5 : decode jdk_42_method_54_code 5 = .ok (.aload_n 0, 1) := by decide +kernel
theorem d10_6 : decode jdk_42_method_54_code 6 = .ok (.invokevirtual 335, 3) := by decide +kernel
theorem d10_9 : decode jdk_42_method_54_code 9 = .ok (.ishr, 1) := by decide +kernel
theorem d10_10 : decode jdk_42_method_54_code 10 = .ok (.ireturn, 1) := by decide +kernel
theorem d11_0 : decode jdk_42_method_152_code 0 = .ok (.getstatic 38, 3) := by decide +kernel
theorem d11_3 : decode jdk_42_method_152_code 3 = .ok (.ifCond .eq 10, 3) := by decide +kernel
theorem d11_6 : decode jdk_42_method_152_code 6 = .ok (.aload_n 0, 1) := by decide +kernel
theorem d11_7 : decode jdk_42_method_152_code 7 = .ok (.getfield 15, 3) := by decide +kernel
theorem d11_10 : decode jdk_42_method_152_code 10 = .ok (.goto 4, 3) := by decide +kernel
theorem d11_13 : decode jdk_42_method_152_code 13 = .ok (.iconst 1, 1) := by decide +kernel
theorem d11_14 : decode jdk_42_method_152_code 14 = .ok (.ireturn, 1) := by decide +kernel
theorem d12_0 : decode jdk_42_method_56_code 0 = .ok (.aload_n 0, 1) := by decide +kernel
theorem d12_1 : decode jdk_42_method_56_code 1 = .ok (.invokevirtual 492, 3) := by decide +kernel
theorem d12_4 : decode jdk_42_method_56_code 4 = .ok (.ifCond .eq 12, 3) := by decide +kernel
theorem d12_7 : decode jdk_42_method_56_code 7 = .ok (.aload_n 0, 1) := by decide +kernel
theorem d12_8 : decode jdk_42_method_56_code 8 = .ok (.getfield 9, 3) := by decide +kernel
theorem d12_11 : decode jdk_42_method_56_code 11 = .ok (.iload_n 1, 1) := by decide +kernel
theorem d12_12 : decode jdk_42_method_56_code 12 = .ok (.invokestatic 495, 3) := by decide +kernel
theorem d12_15 : decode jdk_42_method_56_code 15 = .ok (.ireturn, 1) := by decide +kernel
theorem d12_16 : decode jdk_42_method_56_code 16 = .ok (.aload_n 0, 1) := by decide +kernel
theorem d12_17 : decode jdk_42_method_56_code 17 = .ok (.getfield 9, 3) := by decide +kernel
theorem d12_20 : decode jdk_42_method_56_code 20 = .ok (.iload_n 1, 1) := by decide +kernel
theorem d12_21 : decode jdk_42_method_56_code 21 = .ok (.invokestatic 498, 3) := by decide +kernel
theorem d12_24 : decode jdk_42_method_56_code 24 = .ok (.ireturn, 1) := by decide +kernel
theorem d13_0 : decode jdk_42_method_154_code 0 = .ok (.getstatic 38, 3) := by decide +kernel
theorem d13_3 : decode jdk_42_method_154_code 3 = .ok (.ifCond .eq 14, 3) := by decide +kernel
theorem d13_6 : decode jdk_42_method_154_code 6 = .ok (.aload_n 0, 1) := by decide +kernel
theorem d13_7 : decode jdk_42_method_154_code 7 = .ok (.getfield 15, 3) := by decide +kernel
theorem d13_10 : decode jdk_42_method_154_code 10 = .ok (.ifCond .ne 7, 3) := by decide +kernel
theorem d13_13 : decode jdk_42_method_154_code 13 = .ok (.iconst 1, 1) := by decide +kernel
theorem d13_14 : decode jdk_42_method_154_code 14 = .ok (.goto 4, 3) := by decide +kernel
theorem d13_17 : decode jdk_42_method_154_code 17 = .ok (.iconst 0, 1) := by decide +kernel
theorem d13_18 : decode jdk_42_method_154_code 18 = .ok (.ireturn, 1) := by decide +kernel
theorem d14_0 : decode jdk_43_method_2_code 0 = .ok (.iload_n 1, 1) := by decide +kernel
theorem d14_1 : decode jdk_43_method_2_code 1 = .ok (.aload_n 0, 1) := by decide +kernel
theorem d14_2 : decode jdk_43_method_2_code 2 = .ok (.arraylength, 1) := by decide +kernel
theorem d14_3 : decode jdk_43_method_2_code 3 = .ok (.invokestatic 9, 3) := by decide +kernel
theorem d14_6 : decode jdk_43_method_2_code 6 = .ok (.aload_n 0, 1) := by decide +kernel
theorem d14_7 : decode jdk_43_method_2_code 7 = .ok (.iload_n 1, 1) := by decide +kernel
theorem d14_8 : decode jdk_43_method_2_code 8 = .ok (.baload, 1) := by decide +kernel
theorem d14_9 : decode jdk_43_method_2_code 9 = .ok (.sipush 255, 3) := by decide +kernel
theorem d14_12 : decode jdk_43_method_2_code 12 = .ok (.iand, 1) := by decide +kernel
theorem d14_13 : decode jdk_43_method_2_code 13 = .ok (.i2c, 1) := by decide +kernel
theorem d14_14 : decode jdk_43_method_2_code 14 = .ok (.ireturn, 1) := by decide +kernel
theorem d15_0 : decode jdk_42_method_155_code 0 = .ok (.iload_n 0, 1) := by decide +kernel
theorem d15_1 : decode jdk_42_method_155_code 1 = .ok (.iload_n 1, 1) := by decide +kernel
theorem d15_2 : decode jdk_42_method_155_code 2 = .ok (.getstatic 1053, 3) := by decide +kernel
theorem d15_5 : decode jdk_42_method_155_code 5 = .ok (.invokestatic 1059, 3) := by decide +kernel
theorem d15_8 : decode jdk_42_method_155_code 8 = .ok (.pop, 1) := by decide +kernel
theorem d15_9 : decode jdk_42_method_155_code 9 = .ok (.return_, 1) := by decide +kernel
theorem d16_0 : decode jdk_41_method_11_code 0 = .ok (.iload_n 0, 1) := by decide +kernel
theorem d16_1 : decode jdk_41_method_11_code 1 = .ok (.ifCond .lt 8, 3) := by decide +kernel
theorem d16_4 : decode jdk_41_method_11_code 4 = .ok (.iload_n 0, 1) := by decide +kernel
theorem d16_5 : decode jdk_41_method_11_code 5 = .ok (.iload_n 1, 1) := by decide +kernel
theorem d16_6 : decode jdk_41_method_11_code 6 = .ok (.if_icmp .lt 10, 3) := by decide +kernel
theorem d16_9 : decode jdk_41_method_11_code 9 = .ok (.aload_n 2, 1) := by decide +kernel
theorem d16_10 : decode jdk_41_method_11_code 10 = .ok (.iload_n 0, 1) := by decide +kernel
theorem d16_11 : decode jdk_41_method_11_code 11 = .ok (.iload_n 1, 1) := by decide +kernel
theorem d16_12 : decode jdk_41_method_11_code 12 = .ok (.invokestatic 95, 3) := by decide +kernel
theorem d16_15 : decode jdk_41_method_11_code 15 = .ok (.athrow, 1) := by decide +kernel
theorem d16_16 : decode jdk_41_method_11_code 16 = .ok (.iload_n 0, 1) := by decide +kernel
theorem d16_17 : decode jdk_41_method_11_code 17 = .ok (.ireturn, 1) := by decide +kernel
theorem d17_0 : decode method_11_code 0 = .ok (.iload_n 0, 1) := by decide +kernel
theorem d17_1 : decode method_11_code 1 = .ok (.ifCond .ne 5, 3) := by decide +kernel
theorem d17_4 : decode method_11_code 4 = .ok (.iconst 0, 1) := by decide +kernel
theorem d17_5 : decode method_11_code 5 = .ok (.ireturn, 1) := by decide +kernel
theorem d17_6 : decode method_11_code 6 = .ok (.iload_n 1, 1) := by decide +kernel
theorem d17_7 : decode method_11_code 7 = .ok (.iconst 0, 1) := by decide +kernel
theorem d17_8 : decode method_11_code 8 = .ok (.iload_n 0, 1) := by decide +kernel
theorem d17_9 : decode method_11_code 9 = .ok (.invokestatic 42, 3) := by decide +kernel
theorem d17_12 : decode method_11_code 12 = .ok (.ifCond .eq 77, 3) := by decide +kernel
theorem d17_15 : decode method_11_code 15 = .ok (.iload_n 2, 1) := by decide +kernel
theorem d17_16 : decode method_11_code 16 = .ok (.iconst 1, 1) := by decide +kernel
theorem d17_17 : decode method_11_code 17 = .ok (.iload_n 0, 1) := by decide +kernel
theorem d17_18 : decode method_11_code 18 = .ok (.invokestatic 42, 3) := by decide +kernel
theorem d17_21 : decode method_11_code 21 = .ok (.ifCond .eq 68, 3) := by decide +kernel
theorem d17_24 : decode method_11_code 24 = .ok (.iload_n 3, 1) := by decide +kernel
theorem d17_25 : decode method_11_code 25 = .ok (.iconst 2, 1) := by decide +kernel
theorem d17_26 : decode method_11_code 26 = .ok (.iload_n 0, 1) := by decide +kernel
theorem d17_27 : decode method_11_code 27 = .ok (.invokestatic 42, 3) := by decide +kernel
theorem d17_30 : decode method_11_code 30 = .ok (.ifCond .eq 59, 3) := by decide +kernel
theorem d17_33 : decode method_11_code 33 = .ok (.iload 4, 2) := by decide +kernel
theorem d17_35 : decode method_11_code 35 = .ok (.iconst 3, 1) := by decide +kernel
theorem d17_36 : decode method_11_code 36 = .ok (.iload_n 0, 1) := by decide +kernel
theorem d17_37 : decode method_11_code 37 = .ok (.invokestatic 42, 3) := by decide +kernel
theorem d17_40 : decode method_11_code 40 = .ok (.ifCond .eq 49, 3) := by decide +kernel
theorem d17_43 : decode method_11_code 43 = .ok (.iload 5, 2) := by decide +kernel
theorem d17_45 : decode method_11_code 45 = .ok (.iconst 4, 1) := by decide +kernel
theorem d17_46 : decode method_11_code 46 = .ok (.iload_n 0, 1) := by decide +kernel
theorem d17_47 : decode method_11_code 47 = .ok (.invokestatic 42, 3) := by decide +kernel
theorem d17_50 : decode method_11_code 50 = .ok (.ifCond .eq 39, 3) := by decide +kernel
theorem d17_53 : decode method_11_code 53 = .ok (.iload 6, 2) := by decide +kernel
theorem d17_55 : decode method_11_code 55 = .ok (.iconst 5, 1) := by decide +kernel
theorem d17_56 : decode method_11_code 56 = .ok (.iload_n 0, 1) := by decide +kernel
theorem d17_57 : decode method_11_code 57 = .ok (.invokestatic 42, 3) := by decide +kernel
theorem d17_60 : decode method_11_code 60 = .ok (.ifCond .eq 29, 3) := by decide +kernel
theorem d17_63 : decode method_11_code 63 = .ok (.iload 7, 2) := by decide +kernel
theorem d17_65 : decode method_11_code 65 = .ok (.bipush 6, 2) := by decide +kernel
theorem d17_67 : decode method_11_code 67 = .ok (.iload_n 0, 1) := by decide +kernel
theorem d17_68 : decode method_11_code 68 = .ok (.invokestatic 42, 3) := by decide +kernel
theorem d17_71 : decode method_11_code 71 = .ok (.ifCond .eq 18, 3) := by decide +kernel
theorem d17_74 : decode method_11_code 74 = .ok (.iload 8, 2) := by decide +kernel
theorem d17_76 : decode method_11_code 76 = .ok (.bipush 7, 2) := by decide +kernel
theorem d17_78 : decode method_11_code 78 = .ok (.iload_n 0, 1) := by decide +kernel
theorem d17_79 : decode method_11_code 79 = .ok (.invokestatic 42, 3) := by decide +kernel
theorem d17_82 : decode method_11_code 82 = .ok (.ifCond .eq 7, 3) := by decide +kernel
theorem d17_85 : decode method_11_code 85 = .ok (.iconst 1, 1) := by decide +kernel
theorem d17_86 : decode method_11_code 86 = .ok (.goto 4, 3) := by decide +kernel
theorem d17_89 : decode method_11_code 89 = .ok (.iconst 0, 1) := by decide +kernel
theorem d17_90 : decode method_11_code 90 = .ok (.istore 11, 2) := by decide +kernel
theorem d17_92 : decode method_11_code 92 = .ok (.iload_n 1, 1) := by decide +kernel
theorem d17_93 : decode method_11_code 93 = .ok (.iload_n 2, 1) := by decide +kernel
theorem d17_94 : decode method_11_code 94 = .ok (.iconst 0, 1) := by decide +kernel
theorem d17_95 : decode method_11_code 95 = .ok (.iload_n 0, 1) := by decide +kernel
theorem d17_96 : decode method_11_code 96 = .ok (.invokestatic 46, 3) := by decide +kernel
theorem d17_99 : decode method_11_code 99 = .ok (.ifCond .ne 73, 3) := by decide +kernel
theorem d17_102 : decode method_11_code 102 = .ok (.iload_n 2, 1) := by decide +kernel
theorem d17_103 : decode method_11_code 103 = .ok (.iload_n 3, 1) := by decide +kernel
theorem d17_104 : decode method_11_code 104 = .ok (.iconst 1, 1) := by decide +kernel
theorem d17_105 : decode method_11_code 105 = .ok (.iload_n 0, 1) := by decide +kernel
theorem d17_106 : decode method_11_code 106 = .ok (.invokestatic 46, 3) := by decide +kernel
theorem d17_109 : decode method_11_code 109 = .ok (.ifCond .ne 63, 3) := by decide +kernel
theorem d17_112 : decode method_11_code 112 = .ok (.iload_n 3, 1) := by decide +kernel
theorem d17_113 : decode method_11_code 113 = .ok (.iload 4, 2) := by decide +kernel
theorem d17_115 : decode method_11_code 115 = .ok (.iconst 2, 1) := by decide +kernel
theorem d17_116 : decode method_11_code 116 = .ok (.iload_n 0, 1) := by decide +kernel
theorem d17_117 : decode method_11_code 117 = .ok (.invokestatic 46, 3) := by decide +kernel
theorem d17_120 : decode method_11_code 120 = .ok (.ifCond .ne 52, 3) := by decide +kernel
theorem d17_123 : decode method_11_code 123 = .ok (.iload 4, 2) := by decide +kernel
theorem d17_125 : decode method_11_code 125 = .ok (.iload 5, 2) := by decide +kernel
theorem d17_127 : decode method_11_code 127 = .ok (.iconst 3, 1) := by decide +kernel
theorem d17_128 : decode method_11_code 128 = .ok (.iload_n 0, 1) := by decide +kernel
theorem d17_129 : decode method_11_code 129 = .ok (.invokestatic 46, 3) := by decide +kernel
theorem d17_132 : decode method_11_code 132 = .ok (.ifCond .ne 40, 3) := by decide +kernel
theorem d17_135 : decode method_11_code 135 = .ok (.iload 5, 2) := by decide +kernel
theorem d17_137 : decode method_11_code 137 = .ok (.iload 6, 2) := by decide +kernel
theorem d17_139 : decode method_11_code 139 = .ok (.iconst 4, 1) := by decide +kernel
theorem d17_140 : decode method_11_code 140 = .ok (.iload_n 0, 1) := by decide +kernel
theorem d17_141 : decode method_11_code 141 = .ok (.invokestatic 46, 3) := by decide +kernel
theorem d17_144 : decode method_11_code 144 = .ok (.ifCond .ne 28, 3) := by decide +kernel
theorem d17_147 : decode method_11_code 147 = .ok (.iload 6, 2) := by decide +kernel
theorem d17_149 : decode method_11_code 149 = .ok (.iload 7, 2) := by decide +kernel
theorem d17_151 : decode method_11_code 151 = .ok (.iconst 5, 1) := by decide +kernel
theorem d17_152 : decode method_11_code 152 = .ok (.iload_n 0, 1) := by decide +kernel
theorem d17_153 : decode method_11_code 153 = .ok (.invokestatic 46, 3) := by decide +kernel
theorem d17_156 : decode method_11_code 156 = .ok (.ifCond .ne 16, 3) := by decide +kernel
theorem d17_159 : decode method_11_code 159 = .ok (.iload 7, 2) := by decide +kernel
theorem d17_161 : decode method_11_code 161 = .ok (.iload 8, 2) := by decide +kernel
theorem d17_163 : decode method_11_code 163 = .ok (.bipush 6, 2) := by decide +kernel
theorem d17_165 : decode method_11_code 165 = .ok (.iload_n 0, 1) := by decide +kernel
theorem d17_166 : decode method_11_code 166 = .ok (.invokestatic 46, 3) := by decide +kernel
theorem d17_169 : decode method_11_code 169 = .ok (.ifCond .eq 7, 3) := by decide +kernel
theorem d17_172 : decode method_11_code 172 = .ok (.iconst 1, 1) := by decide +kernel
theorem d17_173 : decode method_11_code 173 = .ok (.goto 4, 3) := by decide +kernel
theorem d17_176 : decode method_11_code 176 = .ok (.iconst 0, 1) := by decide +kernel
theorem d17_177 : decode method_11_code 177 = .ok (.istore 12, 2) := by decide +kernel
theorem d17_179 : decode method_11_code 179 = .ok (.iload_n 0, 1) := by decide +kernel
theorem d17_180 : decode method_11_code 180 = .ok (.iconst 1, 1) := by decide +kernel
theorem d17_181 : decode method_11_code 181 = .ok (.isub, 1) := by decide +kernel
theorem d17_182 : decode method_11_code 182 = .ok (.iload_n 1, 1) := by decide +kernel
theorem d17_183 : decode method_11_code 183 = .ok (.iload_n 2, 1) := by decide +kernel
theorem d17_184 : decode method_11_code 184 = .ok (.iload_n 3, 1) := by decide +kernel
theorem d17_185 : decode method_11_code 185 = .ok (.iload 4, 2) := by decide +kernel
theorem d17_187 : decode method_11_code 187 = .ok (.iload 5, 2) := by decide +kernel
theorem d17_189 : decode method_11_code 189 = .ok (.iload 6, 2) := by decide +kernel
theorem d17_191 : decode method_11_code 191 = .ok (.iload 7, 2) := by decide +kernel
theorem d17_193 : decode method_11_code 193 = .ok (.iload 8, 2) := by decide +kernel
theorem d17_195 : decode method_11_code 195 = .ok (.invokestatic 50, 3) := by decide +kernel
theorem d17_198 : decode method_11_code 198 = .ok (.istore 13, 2) := by decide +kernel
theorem d17_200 : decode method_11_code 200 = .ok (.iload_n 1, 1) := by decide +kernel
theorem d17_201 : decode method_11_code 201 = .ok (.invokestatic 39, 3) := by decide +kernel
theorem d17_204 : decode method_11_code 204 = .ok (.ifCond .ne 11, 3) := by decide +kernel
theorem d17_207 : decode method_11_code 207 = .ok (.iload 13, 2) := by decide +kernel
theorem d17_209 : decode method_11_code 209 = .ok (.invokestatic 39, 3) := by decide +kernel
theorem d17_212 : decode method_11_code 212 = .ok (.ifCond .eq 7, 3) := by decide +kernel
theorem d17_215 : decode method_11_code 215 = .ok (.iconst 1, 1) := by decide +kernel
theorem d17_216 : decode method_11_code 216 = .ok (.goto 4, 3) := by decide +kernel
theorem d17_219 : decode method_11_code 219 = .ok (.iconst 0, 1) := by decide +kernel
theorem d17_220 : decode method_11_code 220 = .ok (.istore 14, 2) := by decide +kernel
theorem d17_222 : decode method_11_code 222 = .ok (.iconst 1, 1) := by decide +kernel
theorem d17_223 : decode method_11_code 223 = .ok (.iload_n 1, 1) := by decide +kernel
theorem d17_224 : decode method_11_code 224 = .ok (.iconst 0, 1) := by decide +kernel
theorem d17_225 : decode method_11_code 225 = .ok (.iload_n 0, 1) := by decide +kernel
theorem d17_226 : decode method_11_code 226 = .ok (.invokestatic 54, 3) := by decide +kernel
theorem d17_229 : decode method_11_code 229 = .ok (.iadd, 1) := by decide +kernel
theorem d17_230 : decode method_11_code 230 = .ok (.iload_n 2, 1) := by decide +kernel
theorem d17_231 : decode method_11_code 231 = .ok (.iconst 1, 1) := by decide +kernel
theorem d17_232 : decode method_11_code 232 = .ok (.iload_n 0, 1) := by decide +kernel
theorem d17_233 : decode method_11_code 233 = .ok (.invokestatic 54, 3) := by decide +kernel
theorem d17_236 : decode method_11_code 236 = .ok (.iadd, 1) := by decide +kernel
theorem d17_237 : decode method_11_code 237 = .ok (.iload_n 3, 1) := by decide +kernel
theorem d17_238 : decode method_11_code 238 = .ok (.iconst 2, 1) := by decide +kernel
theorem d17_239 : decode method_11_code 239 = .ok (.iload_n 0, 1) := by decide +kernel
theorem d17_240 : decode method_11_code 240 = .ok (.invokestatic 54, 3) := by decide +kernel
theorem d17_243 : decode method_11_code 243 = .ok (.iadd, 1) := by decide +kernel
theorem d17_244 : decode method_11_code 244 = .ok (.iload 4, 2) := by decide +kernel
theorem d17_246 : decode method_11_code 246 = .ok (.iconst 3, 1) := by decide +kernel
theorem d17_247 : decode method_11_code 247 = .ok (.iload_n 0, 1) := by decide +kernel
theorem d17_248 : decode method_11_code 248 = .ok (.invokestatic 54, 3) := by decide +kernel
theorem d17_251 : decode method_11_code 251 = .ok (.iadd, 1) := by decide +kernel
theorem d17_252 : decode method_11_code 252 = .ok (.iload 5, 2) := by decide +kernel
theorem d17_254 : decode method_11_code 254 = .ok (.iconst 4, 1) := by decide +kernel
theorem d17_255 : decode method_11_code 255 = .ok (.iload_n 0, 1) := by decide +kernel
theorem d17_256 : decode method_11_code 256 = .ok (.invokestatic 54, 3) := by decide +kernel
theorem d17_259 : decode method_11_code 259 = .ok (.iadd, 1) := by decide +kernel
theorem d17_260 : decode method_11_code 260 = .ok (.iload 6, 2) := by decide +kernel
theorem d17_262 : decode method_11_code 262 = .ok (.iconst 5, 1) := by decide +kernel
theorem d17_263 : decode method_11_code 263 = .ok (.iload_n 0, 1) := by decide +kernel
theorem d17_264 : decode method_11_code 264 = .ok (.invokestatic 54, 3) := by decide +kernel
theorem d17_267 : decode method_11_code 267 = .ok (.iadd, 1) := by decide +kernel
theorem d17_268 : decode method_11_code 268 = .ok (.iload 7, 2) := by decide +kernel
theorem d17_270 : decode method_11_code 270 = .ok (.bipush 6, 2) := by decide +kernel
theorem d17_272 : decode method_11_code 272 = .ok (.iload_n 0, 1) := by decide +kernel
theorem d17_273 : decode method_11_code 273 = .ok (.invokestatic 54, 3) := by decide +kernel
theorem d17_276 : decode method_11_code 276 = .ok (.iadd, 1) := by decide +kernel
theorem d17_277 : decode method_11_code 277 = .ok (.iload 8, 2) := by decide +kernel
theorem d17_279 : decode method_11_code 279 = .ok (.bipush 7, 2) := by decide +kernel
theorem d17_281 : decode method_11_code 281 = .ok (.iload_n 0, 1) := by decide +kernel
theorem d17_282 : decode method_11_code 282 = .ok (.invokestatic 54, 3) := by decide +kernel
theorem d17_285 : decode method_11_code 285 = .ok (.iadd, 1) := by decide +kernel
theorem d17_286 : decode method_11_code 286 = .ok (.istore 15, 2) := by decide +kernel
theorem d17_288 : decode method_11_code 288 = .ok (.iload 11, 2) := by decide +kernel
theorem d17_290 : decode method_11_code 290 = .ok (.ifCond .eq 31, 3) := by decide +kernel
theorem d17_293 : decode method_11_code 293 = .ok (.iload 12, 2) := by decide +kernel
theorem d17_295 : decode method_11_code 295 = .ok (.ifCond .ne 26, 3) := by decide +kernel
theorem d17_298 : decode method_11_code 298 = .ok (.iload 14, 2) := by decide +kernel
theorem d17_300 : decode method_11_code 300 = .ok (.ifCond .ne 21, 3) := by decide +kernel
theorem d17_303 : decode method_11_code 303 = .ok (.iload 15, 2) := by decide +kernel
theorem d17_305 : decode method_11_code 305 = .ok (.iload 9, 2) := by decide +kernel
theorem d17_307 : decode method_11_code 307 = .ok (.if_icmp .lt 14, 3) := by decide +kernel
theorem d17_310 : decode method_11_code 310 = .ok (.iload 15, 2) := by decide +kernel
theorem d17_312 : decode method_11_code 312 = .ok (.iload 10, 2) := by decide +kernel
theorem d17_314 : decode method_11_code 314 = .ok (.if_icmp .gt 7, 3) := by decide +kernel
theorem d17_317 : decode method_11_code 317 = .ok (.iconst 1, 1) := by decide +kernel
theorem d17_318 : decode method_11_code 318 = .ok (.goto 4, 3) := by decide +kernel
theorem d17_321 : decode method_11_code 321 = .ok (.iconst 0, 1) := by decide +kernel
theorem d17_322 : decode method_11_code 322 = .ok (.ireturn, 1) := by decide +kernel
theorem d18_0 : decode method_8_code 0 = .ok (.iload_n 1, 1) := by decide +kernel
theorem d18_1 : decode method_8_code 1 = .ok (.iload_n 2, 1) := by decide +kernel
theorem d18_2 : decode method_8_code 2 = .ok (.if_icmp .ge 17, 3) := by decide +kernel
theorem d18_5 : decode method_8_code 5 = .ok (.iload_n 0, 1) := by decide +kernel
theorem d18_6 : decode method_8_code 6 = .ok (.invokestatic 35, 3) := by decide +kernel
theorem d18_9 : decode method_8_code 9 = .ok (.ifCond .ne 10, 3) := by decide +kernel
theorem d18_12 : decode method_8_code 12 = .ok (.iload_n 0, 1) := by decide +kernel
theorem d18_13 : decode method_8_code 13 = .ok (.invokestatic 39, 3) := by decide +kernel
theorem d18_16 : decode method_8_code 16 = .ok (.ifCond .eq 7, 3) := by decide +kernel
theorem d18_19 : decode method_8_code 19 = .ok (.iconst 1, 1) := by decide +kernel
theorem d18_20 : decode method_8_code 20 = .ok (.goto 4, 3) := by decide +kernel
theorem d18_23 : decode method_8_code 23 = .ok (.iconst 0, 1) := by decide +kernel
theorem d18_24 : decode method_8_code 24 = .ok (.ireturn, 1) := by decide +kernel
theorem d19_0 : decode method_7_code 0 = .ok (.iload_n 0, 1) := by decide +kernel
theorem d19_1 : decode method_7_code 1 = .ok (.bipush 97, 2) := by decide +kernel
theorem d19_3 : decode method_7_code 3 = .ok (.if_icmp .lt 9, 3) := by decide +kernel
theorem d19_6 : decode method_7_code 6 = .ok (.iload_n 0, 1) := by decide +kernel
theorem d19_7 : decode method_7_code 7 = .ok (.bipush 122, 2) := by decide +kernel
theorem d19_9 : decode method_7_code 9 = .ok (.if_icmp .le 33, 3) := by decide +kernel
theorem d19_12 : decode method_7_code 12 = .ok (.iload_n 0, 1) := by decide +kernel
theorem d19_13 : decode method_7_code 13 = .ok (.bipush 65, 2) := by decide +kernel
theorem d19_15 : decode method_7_code 15 = .ok (.if_icmp .lt 9, 3) := by decide +kernel
theorem d19_18 : decode method_7_code 18 = .ok (.iload_n 0, 1) := by decide +kernel
theorem d19_19 : decode method_7_code 19 = .ok (.bipush 90, 2) := by decide +kernel
theorem d19_21 : decode method_7_code 21 = .ok (.if_icmp .le 21, 3) := by decide +kernel
theorem d19_24 : decode method_7_code 24 = .ok (.iload_n 0, 1) := by decide +kernel
theorem d19_25 : decode method_7_code 25 = .ok (.bipush 48, 2) := by decide +kernel
theorem d19_27 : decode method_7_code 27 = .ok (.if_icmp .lt 9, 3) := by decide +kernel
theorem d19_30 : decode method_7_code 30 = .ok (.iload_n 0, 1) := by decide +kernel
theorem d19_31 : decode method_7_code 31 = .ok (.bipush 57, 2) := by decide +kernel
theorem d19_33 : decode method_7_code 33 = .ok (.if_icmp .le 9, 3) := by decide +kernel
theorem d19_36 : decode method_7_code 36 = .ok (.iload_n 0, 1) := by decide +kernel
theorem d19_37 : decode method_7_code 37 = .ok (.bipush 95, 2) := by decide +kernel
theorem d19_39 : decode method_7_code 39 = .ok (.if_icmp .ne 7, 3) := by decide +kernel
theorem d19_42 : decode method_7_code 42 = .ok (.iconst 1, 1) := by decide +kernel
theorem d19_43 : decode method_7_code 43 = .ok (.goto 4, 3) := by decide +kernel
theorem d19_46 : decode method_7_code 46 = .ok (.iconst 0, 1) := by decide +kernel
theorem d19_47 : decode method_7_code 47 = .ok (.ireturn, 1) := by decide +kernel
theorem d20_0 : decode method_6_code 0 = .ok (.iload_n 0, 1) := by decide +kernel
theorem d20_1 : decode method_6_code 1 = .ok (.bipush 46, 2) := by decide +kernel
theorem d20_3 : decode method_6_code 3 = .ok (.if_icmp .ne 7, 3) := by decide +kernel
theorem d20_6 : decode method_6_code 6 = .ok (.iconst 1, 1) := by decide +kernel
theorem d20_7 : decode method_6_code 7 = .ok (.goto 4, 3) := by decide +kernel
theorem d20_10 : decode method_6_code 10 = .ok (.iconst 0, 1) := by decide +kernel
theorem d20_11 : decode method_6_code 11 = .ok (.ireturn, 1) := by decide +kernel
theorem d21_0 : decode method_10_code 0 = .ok (.iload_n 2, 1) := by decide +kernel
theorem d21_1 : decode method_10_code 1 = .ok (.iconst 1, 1) := by decide +kernel
theorem d21_2 : decode method_10_code 2 = .ok (.iadd, 1) := by decide +kernel
theorem d21_3 : decode method_10_code 3 = .ok (.iload_n 3, 1) := by decide +kernel
theorem d21_4 : decode method_10_code 4 = .ok (.if_icmp .ge 21, 3) := by decide +kernel
theorem d21_7 : decode method_10_code 7 = .ok (.iload_n 0, 1) := by decide +kernel
theorem d21_8 : decode method_10_code 8 = .ok (.invokestatic 39, 3) := by decide +kernel
theorem d21_11 : decode method_10_code 11 = .ok (.ifCond .eq 14, 3) := by decide +kernel
theorem d21_14 : decode method_10_code 14 = .ok (.iload_n 1, 1) := by decide +kernel
theorem d21_15 : decode method_10_code 15 = .ok (.invokestatic 39, 3) := by decide +kernel
theorem d21_18 : decode method_10_code 18 = .ok (.ifCond .eq 7, 3) := by decide +kernel
theorem d21_21 : decode method_10_code 21 = .ok (.iconst 1, 1) := by decide +kernel
theorem d21_22 : decode method_10_code 22 = .ok (.goto 4, 3) := by decide +kernel
theorem d21_25 : decode method_10_code 25 = .ok (.iconst 0, 1) := by decide +kernel
theorem d21_26 : decode method_10_code 26 = .ok (.ireturn, 1) := by decide +kernel
theorem d22_0 : decode method_5_code 0 = .ok (.iload_n 0, 1) := by decide +kernel
theorem d22_1 : decode method_5_code 1 = .ok (.ifCond .ne 5, 3) := by decide +kernel
theorem d22_4 : decode method_5_code 4 = .ok (.iload_n 1, 1) := by decide +kernel
theorem d22_5 : decode method_5_code 5 = .ok (.ireturn, 1) := by decide +kernel
theorem d22_6 : decode method_5_code 6 = .ok (.iload_n 0, 1) := by decide +kernel
theorem d22_7 : decode method_5_code 7 = .ok (.iconst 1, 1) := by decide +kernel
theorem d22_8 : decode method_5_code 8 = .ok (.if_icmp .ne 5, 3) := by decide +kernel
theorem d22_11 : decode method_5_code 11 = .ok (.iload_n 2, 1) := by decide +kernel
theorem d22_12 : decode method_5_code 12 = .ok (.ireturn, 1) := by decide +kernel
theorem d22_13 : decode method_5_code 13 = .ok (.iload_n 0, 1) := by decide +kernel
theorem d22_14 : decode method_5_code 14 = .ok (.iconst 2, 1) := by decide +kernel
theorem d22_15 : decode method_5_code 15 = .ok (.if_icmp .ne 5, 3) := by decide +kernel
theorem d22_18 : decode method_5_code 18 = .ok (.iload_n 3, 1) := by decide +kernel
theorem d22_19 : decode method_5_code 19 = .ok (.ireturn, 1) := by decide +kernel
theorem d22_20 : decode method_5_code 20 = .ok (.iload_n 0, 1) := by decide +kernel
theorem d22_21 : decode method_5_code 21 = .ok (.iconst 3, 1) := by decide +kernel
theorem d22_22 : decode method_5_code 22 = .ok (.if_icmp .ne 6, 3) := by decide +kernel
theorem d22_25 : decode method_5_code 25 = .ok (.iload 4, 2) := by decide +kernel
theorem d22_27 : decode method_5_code 27 = .ok (.ireturn, 1) := by decide +kernel
theorem d22_28 : decode method_5_code 28 = .ok (.iload_n 0, 1) := by decide +kernel
theorem d22_29 : decode method_5_code 29 = .ok (.iconst 4, 1) := by decide +kernel
theorem d22_30 : decode method_5_code 30 = .ok (.if_icmp .ne 6, 3) := by decide +kernel
theorem d22_33 : decode method_5_code 33 = .ok (.iload 5, 2) := by decide +kernel
theorem d22_35 : decode method_5_code 35 = .ok (.ireturn, 1) := by decide +kernel
theorem d22_36 : decode method_5_code 36 = .ok (.iload_n 0, 1) := by decide +kernel
theorem d22_37 : decode method_5_code 37 = .ok (.iconst 5, 1) := by decide +kernel
theorem d22_38 : decode method_5_code 38 = .ok (.if_icmp .ne 6, 3) := by decide +kernel
theorem d22_41 : decode method_5_code 41 = .ok (.iload 6, 2) := by decide +kernel
theorem d22_43 : decode method_5_code 43 = .ok (.ireturn, 1) := by decide +kernel
theorem d22_44 : decode method_5_code 44 = .ok (.iload_n 0, 1) := by decide +kernel
theorem d22_45 : decode method_5_code 45 = .ok (.bipush 6, 2) := by decide +kernel
theorem d22_47 : decode method_5_code 47 = .ok (.if_icmp .ne 6, 3) := by decide +kernel
theorem d22_50 : decode method_5_code 50 = .ok (.iload 7, 2) := by decide +kernel
theorem d22_52 : decode method_5_code 52 = .ok (.ireturn, 1) := by decide +kernel
theorem d22_53 : decode method_5_code 53 = .ok (.iload 8, 2) := by decide +kernel
theorem d22_55 : decode method_5_code 55 = .ok (.ireturn, 1) := by decide +kernel
theorem d23_0 : decode method_9_code 0 = .ok (.iload_n 1, 1) := by decide +kernel
theorem d23_1 : decode method_9_code 1 = .ok (.iload_n 2, 1) := by decide +kernel
theorem d23_2 : decode method_9_code 2 = .ok (.if_icmp .ge 14, 3) := by decide +kernel
theorem d23_5 : decode method_9_code 5 = .ok (.iload_n 0, 1) := by decide +kernel
theorem d23_6 : decode method_9_code 6 = .ok (.invokestatic 39, 3) := by decide +kernel
theorem d23_9 : decode method_9_code 9 = .ok (.ifCond .eq 7, 3) := by decide +kernel
theorem d23_12 : decode method_9_code 12 = .ok (.iconst 1, 1) := by decide +kernel
theorem d23_13 : decode method_9_code 13 = .ok (.goto 4, 3) := by decide +kernel
theorem d23_16 : decode method_9_code 16 = .ok (.iconst 0, 1) := by decide +kernel
theorem d23_17 : decode method_9_code 17 = .ok (.ireturn, 1) := by decide +kernel
theorem pd1 : parseMethodDescriptor "(JIIII)Z" = some ⟨[.long, .int, .int, .int, .int], some .boolean⟩ := by decide +kernel
theorem pd2 : parseMethodDescriptor "(JII)C" = some ⟨[.long, .int, .int], some .char⟩ := by decide +kernel
theorem pd3 : parseMethodDescriptor "(ICCCCCCCC)Ljava/lang/String;" = some ⟨[.int, .char, .char, .char, .char, .char, .char, .char, .char], (some (.object "java/lang/String"))⟩ := by decide +kernel
theorem pd4 : parseMethodDescriptor "([C)V" = some ⟨[(.array .char)], none⟩ := by decide +kernel
theorem pd5 : parseMethodDescriptor "([CIILjava/lang/Void;)V" = some ⟨[(.array .char), .int, .int, (.object "java/lang/Void")], none⟩ := by decide +kernel
theorem pd6 : parseMethodDescriptor "()V" = some ⟨[], none⟩ := by decide +kernel
theorem pd7 : parseMethodDescriptor "([CII)[B" = some ⟨[(.array .char), .int, .int], (some (.array .byte))⟩ := by decide +kernel
theorem pd8 : parseMethodDescriptor "([CI[BII)I" = some ⟨[(.array .char), .int, (.array .byte), .int, .int], some .int⟩ := by decide +kernel
theorem pd9 : parseMethodDescriptor "([BI)B" = some ⟨[(.array .byte), .int], some .byte⟩ := by decide +kernel
theorem pd10 : parseMethodDescriptor "(Ljava/lang/String;II)Z" = some ⟨[(.object "java/lang/String"), .int, .int], some .boolean⟩ := by decide +kernel
theorem pd11 : parseMethodDescriptor "()I" = some ⟨[], some .int⟩ := by decide +kernel
theorem pd12 : parseMethodDescriptor "()B" = some ⟨[], some .byte⟩ := by decide +kernel
theorem pd13 : parseMethodDescriptor "(I)C" = some ⟨[.int], some .char⟩ := by decide +kernel
theorem pd14 : parseMethodDescriptor "()Z" = some ⟨[], some .boolean⟩ := by decide +kernel
theorem pd15 : parseMethodDescriptor "([BI)C" = some ⟨[(.array .byte), .int], some .char⟩ := by decide +kernel
theorem pd16 : parseMethodDescriptor "(II)V" = some ⟨[.int, .int], none⟩ := by decide +kernel
theorem pd17 : parseMethodDescriptor "(IILjava/util/function/BiFunction;)I" = some ⟨[.int, .int, (.object "java/util/function/BiFunction")], some .int⟩ := by decide +kernel
theorem pd18 : parseMethodDescriptor "(ICCCCCCCCII)Z" = some ⟨[.int, .char, .char, .char, .char, .char, .char, .char, .char, .int, .int], some .boolean⟩ := by decide +kernel
theorem pd19 : parseMethodDescriptor "(CII)Z" = some ⟨[.char, .int, .int], some .boolean⟩ := by decide +kernel
theorem pd20 : parseMethodDescriptor "(C)Z" = some ⟨[.char], some .boolean⟩ := by decide +kernel
theorem pd21 : parseMethodDescriptor "(CCII)Z" = some ⟨[.char, .char, .int, .int], some .boolean⟩ := by decide +kernel
theorem pd22 : parseMethodDescriptor "(ICCCCCCCC)C" = some ⟨[.int, .char, .char, .char, .char, .char, .char, .char, .char], some .char⟩ := by decide +kernel
theorem pd23 : parseMethodDescriptor "(CII)I" = some ⟨[.char, .int, .int], some .int⟩ := by decide +kernel
/-- the statics of StringUTF16 that its bodies read -/
def own_A16 (Z : State) : Prop := Sta Z Z.heap "java/lang/StringUTF16" "$assertionsDisabled" "Z" (.int 1) ∧ Sta Z Z.heap "java/lang/StringUTF16" "HI_BYTE_SHIFT" "I" (.int 0) ∧ Sta Z Z.heap "java/lang/StringUTF16" "LO_BYTE_SHIFT" "I" (.int 8)
theorem own_inj32 {i n : Nat} (hi : i < 2 ^ 31) (hn : n < 2 ^ 31) (h : Int32.ofNat i = Int32.ofNat n) : i = n := by
  have q := congrArg Int32.toInt h
  rw [Int32.toInt_ofNat_of_lt hi, Int32.toInt_ofNat_of_lt hn] at q
  exact Int.ofNat.inj q
set_option maxRecDepth 65536 in
set_option maxHeartbeats 40000000 in
theorem own_c5turn {p : Program} {l : Launch} {e : Env} {R : Room} {s : State} {m : MethodId} {args : Array Value} {below : List Frame} {meth : Method} {c : Code} {locs : List Loc} {cells slots : Nat} {Z : State} {T0 : State} {h : Heap} (b d : Addr) (i N c0 : Int32) (s6 : Slot) (hs : One s6) (clb cld : Cell) (X0 : Stand p l e R s m args below meth c T0 locs cells slots) (hx : p.tables.exec = Jvm.exec) (hZ : Z.Warmed39 s.vm) (hby : c.code = jdk_52_method_21_code) (e0 : T0.heap = h) (Ab : Arr Z h b clb .char) (Ad : Arr Z h d cld .byte) (hc : i < N) (hinb : ¬ (i < 0 ∨ clb.slots.size ≤ i.toNatClampNeg)) (hatb : clb.slots[i.toNatClampNeg]? = some (.int c0)) (h255 : ¬ (255 : Int32) < c0) (hind : ¬ (i < 0 ∨ cld.slots.size ≤ i.toNatClampNeg)) :
    ∃ T' h', Stand p l e R s m args below meth c T' (locs ++ [⟨d, i.toNatClampNeg⟩]) cells slots ∧ T'.heap = h' ∧ Wr h h' d i.toNatClampNeg (.int (nar .byte (c0).toInt8.toInt32)) ∧ own_Go p e below T0 (mkF m 3 #[.val (.ref b), .val (.int i), .val (.ref d), .val (.int i), .val (.int N), .val (.int i), s6] []) T' (mkF m 3 #[.val (.ref b), .val (.int (i + (1 : Int32))), .val (.ref d), .val (.int (i + (1 : Int32))), .val (.int N), .val (.int (i + (1 : Int32))), .val (.int c0)] []) := by
  have S1 : own_Go p e below T0 (mkF m 3 #[.val (.ref b), .val (.int i), .val (.ref d), .val (.int i), .val (.int N), .val (.int i), s6] []) T0 (mkF m 31 #[.val (.ref b), .val (.int i), .val (.ref d), .val (.int i), .val (.int N), .val (.int i), .val (.int c0)] [(.int ((c0).toInt8.toInt32)), (.int i), (.ref d)]) := fun tg_ kk_ => (own_Go.refl T0 _) tg_ (by
    refine XS.iload X0.here hx rfl (hb hby d7_3) rfl ?_
    show Steps p.tables e below (T0.setTop (mkF m 5 #[.val (.ref b), .val (.int i), .val (.ref d), .val (.int i), .val (.int N), .val (.int i), s6] [(.int i)])) _
    refine XS.iload X0.here hx rfl (hb hby d7_5) rfl ?_
    show Steps p.tables e below (T0.setTop (mkF m 7 #[.val (.ref b), .val (.int i), .val (.ref d), .val (.int i), .val (.int N), .val (.int i), s6] [(.int N), (.int i)])) _
    refine XS.icmpNo X0.here hx rfl (hb hby d7_7) rfl (tlt hc).2.1 ?_
    show Steps p.tables e below (T0.setTop (mkF m 10 #[.val (.ref b), .val (.int i), .val (.ref d), .val (.int i), .val (.int N), .val (.int i), s6] [])) _
    refine XS.aloadN X0.here hx rfl (hb hby d7_10) rfl rfl ?_
    show Steps p.tables e below (T0.setTop (mkF m 11 #[.val (.ref b), .val (.int i), .val (.ref d), .val (.int i), .val (.int N), .val (.int i), s6] [(.ref b)])) _
    refine XS.iloadN X0.here hx rfl (hb hby d7_11) rfl ?_
    show Steps p.tables e below (T0.setTop (mkF m 12 #[.val (.ref b), .val (.int i), .val (.ref d), .val (.int i), .val (.int N), .val (.int i), s6] [(.int i), (.ref b)])) _
    refine X0.caload hx (j := i) (v := (.int c0)) (cell := clb) (by rw [e0]; exact Ab.1) (State.isArrayOf_alike hZ.alike Ab.2.1) Ab.2.2 hinb hatb (g := (mkF m 12 #[.val (.ref b), .val (.int i), .val (.ref d), .val (.int i), .val (.int N), .val (.int i), s6] [(.int i), (.ref b)])) rfl rfl (hb hby d7_12) _ ?_
    show Steps p.tables e below (T0.setTop (mkF m 13 #[.val (.ref b), .val (.int i), .val (.ref d), .val (.int i), .val (.int N), .val (.int i), s6] [(.int c0)])) _
    refine XS.istore X0.here hx rfl (hb hby d7_13) rfl (l' := #[.val (.ref b), .val (.int i), .val (.ref d), .val (.int i), .val (.int N), .val (.int i), .val (.int c0)]) (XS.store1 rfl hs rfl) ?_
    show Steps p.tables e below (T0.setTop (mkF m 15 #[.val (.ref b), .val (.int i), .val (.ref d), .val (.int i), .val (.int N), .val (.int i), .val (.int c0)] [])) _
    refine XS.iload X0.here hx rfl (hb hby d7_15) rfl ?_
    show Steps p.tables e below (T0.setTop (mkF m 17 #[.val (.ref b), .val (.int i), .val (.ref d), .val (.int i), .val (.int N), .val (.int i), .val (.int c0)] [(.int c0)])) _
    refine XS.sipush X0.here hx rfl (hb hby d7_17) ?_
    show Steps p.tables e below (T0.setTop (mkF m 20 #[.val (.ref b), .val (.int i), .val (.ref d), .val (.int i), .val (.int N), .val (.int i), .val (.int c0)] [(.int (255 : Int32)), (.int c0)])) _
    refine XS.icmpYes X0.here hx rfl (pc0 := 20) (pc' := 26) rfl (hb hby d7_20) rfl (flt h255).2.2.2 (by decide) (by decide) ?_
    show Steps p.tables e below (T0.setTop (mkF m 26 #[.val (.ref b), .val (.int i), .val (.ref d), .val (.int i), .val (.int N), .val (.int i), .val (.int c0)] [])) _
    refine XS.aloadN X0.here hx rfl (hb hby d7_26) rfl rfl ?_
    show Steps p.tables e below (T0.setTop (mkF m 27 #[.val (.ref b), .val (.int i), .val (.ref d), .val (.int i), .val (.int N), .val (.int i), .val (.int c0)] [(.ref d)])) _
    refine XS.iloadN X0.here hx rfl (hb hby d7_27) rfl ?_
    show Steps p.tables e below (T0.setTop (mkF m 28 #[.val (.ref b), .val (.int i), .val (.ref d), .val (.int i), .val (.int N), .val (.int i), .val (.int c0)] [(.int i), (.ref d)])) _
    refine XS.iload X0.here hx rfl (hb hby d7_28) rfl ?_
    show Steps p.tables e below (T0.setTop (mkF m 30 #[.val (.ref b), .val (.int i), .val (.ref d), .val (.int i), .val (.int N), .val (.int i), .val (.int c0)] [(.int c0), (.int i), (.ref d)])) _
    refine XT.i2b X0.here hx rfl (hb hby d7_30) rfl ?_
    exact kk_)
  obtain ⟨T1, h1, X1, e1, W1, st1⟩ := stB X0 hx hZ e0 Ad (j := i) hind (g := (mkF m 31 #[.val (.ref b), .val (.int i), .val (.ref d), .val (.int i), .val (.int N), .val (.int i), .val (.int c0)] [(.int ((c0).toInt8.toInt32)), (.int i), (.ref d)])) rfl rfl (hb hby d7_31)
  have S2 : own_Go p e below T0 (mkF m 3 #[.val (.ref b), .val (.int i), .val (.ref d), .val (.int i), .val (.int N), .val (.int i), s6] []) T1 (mkF m 32 #[.val (.ref b), .val (.int i), .val (.ref d), .val (.int i), .val (.int N), .val (.int i), .val (.int c0)] []) := fun tg_ kk_ => S1 tg_ (st1 tg_ kk_)
  have S3 : own_Go p e below T0 (mkF m 3 #[.val (.ref b), .val (.int i), .val (.ref d), .val (.int i), .val (.int N), .val (.int i), s6] []) T1 (mkF m 3 #[.val (.ref b), .val (.int (i + (1 : Int32))), .val (.ref d), .val (.int (i + (1 : Int32))), .val (.int N), .val (.int (i + (1 : Int32))), .val (.int c0)] []) := fun tg_ kk_ => S2 tg_ (by
    refine XS.iinc X1.here hx rfl (hb hby d7_32) rfl (l' := #[.val (.ref b), .val (.int (i + (1 : Int32))), .val (.ref d), .val (.int i), .val (.int N), .val (.int i), .val (.int c0)]) rfl ?_
    show Steps p.tables e below (T1.setTop (mkF m 35 #[.val (.ref b), .val (.int (i + (1 : Int32))), .val (.ref d), .val (.int i), .val (.int N), .val (.int i), .val (.int c0)] [])) _
    refine XS.iinc X1.here hx rfl (hb hby d7_35) rfl (l' := #[.val (.ref b), .val (.int (i + (1 : Int32))), .val (.ref d), .val (.int (i + (1 : Int32))), .val (.int N), .val (.int i), .val (.int c0)]) rfl ?_
    show Steps p.tables e below (T1.setTop (mkF m 38 #[.val (.ref b), .val (.int (i + (1 : Int32))), .val (.ref d), .val (.int (i + (1 : Int32))), .val (.int N), .val (.int i), .val (.int c0)] [])) _
    refine XS.iinc X1.here hx rfl (hb hby d7_38) rfl (l' := #[.val (.ref b), .val (.int (i + (1 : Int32))), .val (.ref d), .val (.int (i + (1 : Int32))), .val (.int N), .val (.int (i + (1 : Int32))), .val (.int c0)]) rfl ?_
    show Steps p.tables e below (T1.setTop (mkF m 41 #[.val (.ref b), .val (.int (i + (1 : Int32))), .val (.ref d), .val (.int (i + (1 : Int32))), .val (.int N), .val (.int (i + (1 : Int32))), .val (.int c0)] [])) _
    refine XS.goto X1.here hx rfl (pc0 := 41) (pc' := 3) rfl (hb hby d7_41) (by decide) (by decide) ?_
    exact kk_)
  exact ⟨T1, h1, X1, e1, W1, S3⟩
set_option maxRecDepth 65536 in
set_option maxHeartbeats 40000000 in
theorem own_c5mid {p : Program} {l : Launch} {e : Env} {R : Room} {s : State} {m : MethodId} {args : Array Value} {below : List Frame} {meth : Method} {c : Code} {locs : List Loc} {cells slots : Nat} {Z : State} {T0 : State} {h : Heap} (b d : Addr) (i N c0 : Int32) (s6 : Slot) (hs : One s6) (clb cld : Cell) (X0 : Stand p l e R s m args below meth c T0 locs cells slots) (hx : p.tables.exec = Jvm.exec) (hZ : Z.Warmed39 s.vm) (hby : c.code = jdk_52_method_21_code) (e0 : T0.heap = h) (Ab : Arr Z h b clb .char) (hc : i < N) (hinb : ¬ (i < 0 ∨ clb.slots.size ≤ i.toNatClampNeg)) (hatb : clb.slots[i.toNatClampNeg]? = some (.int c0)) (h255 : (255 : Int32) < c0) :
    own_Go p e below T0 (mkF m 3 #[.val (.ref b), .val (.int i), .val (.ref d), .val (.int i), .val (.int N), .val (.int i), s6] []) T0 (mkF m 25 #[.val (.ref b), .val (.int i), .val (.ref d), .val (.int i), .val (.int N), .val (.int i), .val (.int c0)] [(.int i)]) := by
  have S4 : own_Go p e below T0 (mkF m 3 #[.val (.ref b), .val (.int i), .val (.ref d), .val (.int i), .val (.int N), .val (.int i), s6] []) T0 (mkF m 25 #[.val (.ref b), .val (.int i), .val (.ref d), .val (.int i), .val (.int N), .val (.int i), .val (.int c0)] [(.int i)]) := fun tg_ kk_ => (own_Go.refl T0 _) tg_ (by
    refine XS.iload X0.here hx rfl (hb hby d7_3) rfl ?_
    show Steps p.tables e below (T0.setTop (mkF m 5 #[.val (.ref b), .val (.int i), .val (.ref d), .val (.int i), .val (.int N), .val (.int i), s6] [(.int i)])) _
    refine XS.iload X0.here hx rfl (hb hby d7_5) rfl ?_
    show Steps p.tables e below (T0.setTop (mkF m 7 #[.val (.ref b), .val (.int i), .val (.ref d), .val (.int i), .val (.int N), .val (.int i), s6] [(.int N), (.int i)])) _
    refine XS.icmpNo X0.here hx rfl (hb hby d7_7) rfl (tlt hc).2.1 ?_
    show Steps p.tables e below (T0.setTop (mkF m 10 #[.val (.ref b), .val (.int i), .val (.ref d), .val (.int i), .val (.int N), .val (.int i), s6] [])) _
    refine XS.aloadN X0.here hx rfl (hb hby d7_10) rfl rfl ?_
    show Steps p.tables e below (T0.setTop (mkF m 11 #[.val (.ref b), .val (.int i), .val (.ref d), .val (.int i), .val (.int N), .val (.int i), s6] [(.ref b)])) _
    refine XS.iloadN X0.here hx rfl (hb hby d7_11) rfl ?_
    show Steps p.tables e below (T0.setTop (mkF m 12 #[.val (.ref b), .val (.int i), .val (.ref d), .val (.int i), .val (.int N), .val (.int i), s6] [(.int i), (.ref b)])) _
    refine X0.caload hx (j := i) (v := (.int c0)) (cell := clb) (by rw [e0]; exact Ab.1) (State.isArrayOf_alike hZ.alike Ab.2.1) Ab.2.2 hinb hatb (g := (mkF m 12 #[.val (.ref b), .val (.int i), .val (.ref d), .val (.int i), .val (.int N), .val (.int i), s6] [(.int i), (.ref b)])) rfl rfl (hb hby d7_12) _ ?_
    show Steps p.tables e below (T0.setTop (mkF m 13 #[.val (.ref b), .val (.int i), .val (.ref d), .val (.int i), .val (.int N), .val (.int i), s6] [(.int c0)])) _
    refine XS.istore X0.here hx rfl (hb hby d7_13) rfl (l' := #[.val (.ref b), .val (.int i), .val (.ref d), .val (.int i), .val (.int N), .val (.int i), .val (.int c0)]) (XS.store1 rfl hs rfl) ?_
    show Steps p.tables e below (T0.setTop (mkF m 15 #[.val (.ref b), .val (.int i), .val (.ref d), .val (.int i), .val (.int N), .val (.int i), .val (.int c0)] [])) _
    refine XS.iload X0.here hx rfl (hb hby d7_15) rfl ?_
    show Steps p.tables e below (T0.setTop (mkF m 17 #[.val (.ref b), .val (.int i), .val (.ref d), .val (.int i), .val (.int N), .val (.int i), .val (.int c0)] [(.int c0)])) _
    refine XS.sipush X0.here hx rfl (hb hby d7_17) ?_
    show Steps p.tables e below (T0.setTop (mkF m 20 #[.val (.ref b), .val (.int i), .val (.ref d), .val (.int i), .val (.int N), .val (.int i), .val (.int c0)] [(.int (255 : Int32)), (.int c0)])) _
    refine XS.icmpNo X0.here hx rfl (hb hby d7_20) rfl (tlt h255).2.2.2 ?_
    show Steps p.tables e below (T0.setTop (mkF m 23 #[.val (.ref b), .val (.int i), .val (.ref d), .val (.int i), .val (.int N), .val (.int i), .val (.int c0)] [])) _
    refine XS.iload X0.here hx rfl (hb hby d7_23) rfl ?_
    exact kk_)
  exact S4
set_option maxRecDepth 65536 in
set_option maxHeartbeats 40000000 in
theorem own_c5end {p : Program} {l : Launch} {e : Env} {R : Room} {s : State} {m : MethodId} {args : Array Value} {below : List Frame} {meth : Method} {c : Code} {locs : List Loc} {cells slots : Nat} {T0 : State} (b d : Addr) (i N : Int32) (s6 : Slot) (X0 : Stand p l e R s m args below meth c T0 locs cells slots) (hx : p.tables.exec = Jvm.exec) (hby : c.code = jdk_52_method_21_code) (hc : ¬ i < N) :
    own_Go p e below T0 (mkF m 3 #[.val (.ref b), .val (.int i), .val (.ref d), .val (.int i), .val (.int N), .val (.int i), s6] []) T0 (mkF m 46 #[.val (.ref b), .val (.int i), .val (.ref d), .val (.int i), .val (.int N), .val (.int i), s6] [(.int N)]) := by
  have S5 : own_Go p e below T0 (mkF m 3 #[.val (.ref b), .val (.int i), .val (.ref d), .val (.int i), .val (.int N), .val (.int i), s6] []) T0 (mkF m 46 #[.val (.ref b), .val (.int i), .val (.ref d), .val (.int i), .val (.int N), .val (.int i), s6] [(.int N)]) := fun tg_ kk_ => (own_Go.refl T0 _) tg_ (by
    refine XS.iload X0.here hx rfl (hb hby d7_3) rfl ?_
    show Steps p.tables e below (T0.setTop (mkF m 5 #[.val (.ref b), .val (.int i), .val (.ref d), .val (.int i), .val (.int N), .val (.int i), s6] [(.int i)])) _
    refine XS.iload X0.here hx rfl (hb hby d7_5) rfl ?_
    show Steps p.tables e below (T0.setTop (mkF m 7 #[.val (.ref b), .val (.int i), .val (.ref d), .val (.int i), .val (.int N), .val (.int i), s6] [(.int N), (.int i)])) _
    refine XS.icmpYes X0.here hx rfl (pc0 := 7) (pc' := 44) rfl (hb hby d7_7) rfl (flt hc).2.1 (by decide) (by decide) ?_
    show Steps p.tables e below (T0.setTop (mkF m 44 #[.val (.ref b), .val (.int i), .val (.ref d), .val (.int i), .val (.int N), .val (.int i), s6] [])) _
    refine XS.iload X0.here hx rfl (hb hby d7_44) rfl ?_
    exact kk_)
  exact S5
/-- **compress's loop, whole**: it stops at the first char above 255, or behind the last -/
theorem own_c5 {p : Program} {l : Launch} {e : Env} {R : Room} {s : State} {m : MethodId} {args : Array Value} {below : List Frame} {meth : Method} {c : Code} {cells slots : Nat} {Z : State} {h0 : Heap} {n0 : Nat} (b d : Addr) (kb kd : ClassId) (cs : List Int32) (hn : cs.length ≤ 1000) (hbd : b ≠ d) (hd0 : n0 ≤ d) (hx : p.tables.exec = Jvm.exec) (hZ : Z.Warmed39 s.vm) (hby : c.code = jdk_52_method_21_code) :
    ∀ (k i : Nat) (T0 : State) (h : Heap) (locs : List Loc) (s6 : Slot), i + k = cs.length → One s6 → Stand p l e R s m args below meth c T0 locs cells slots → T0.heap = h → Fr n0 locs → Keep h0 h [d] →
      Arv Z h b kb .char (Int32.ofNat cs.length) (cs.map Value.int) (.int 0) → Arv Z h d kd .byte (Int32.ofNat cs.length) ((cs.take i).map own_vb) (.int 0) → (∀ j, j < i → ¬ (255 : Int32) < cs.getD j 0) →
      ∃ (j : Nat) (T' : State) (h' : Heap) (locs' : List Loc) (s6' : Slot) (pc : Nat), j ≤ cs.length ∧ (∀ q, q < j → ¬ (255 : Int32) < cs.getD q 0) ∧ (j < cs.length → (255 : Int32) < cs.getD j 0) ∧ (pc = 25 ∨ pc = 46) ∧
        Stand p l e R s m args below meth c T' locs' cells slots ∧ T'.heap = h' ∧ Fr n0 locs' ∧ Keep h0 h' [d] ∧ Arv Z h' d kd .byte (Int32.ofNat cs.length) ((cs.take j).map own_vb) (.int 0) ∧
        own_Go p e below T0 (mkF m 3 #[.val (.ref b), .val (.int (Int32.ofNat i)), .val (.ref d), .val (.int (Int32.ofNat i)), .val (.int (Int32.ofNat cs.length)), .val (.int (Int32.ofNat i)), s6] []) T' (mkF m pc #[.val (.ref b), .val (.int (Int32.ofNat j)), .val (.ref d), .val (.int (Int32.ofNat j)), .val (.int (Int32.ofNat cs.length)), .val (.int (Int32.ofNat j)), s6'] [(.int (Int32.ofNat j))]) := by
  intro k
  induction k with
  | zero =>
    intro i T0 h locs s6 hi hs X0 e0 N K Vb Vd hp
    have hi' : i = cs.length := by omega
    subst hi'
    exact ⟨cs.length, T0, h, locs, s6, 46, Nat.le_refl _, hp, fun q => absurd q (Nat.lt_irrefl _), Or.inr rfl, X0, e0, N, K, Vd, own_c5end b d _ _ s6 X0 hx hby Int32.lt_irrefl⟩
  | succ k ih =>
    intro i T0 h locs s6 hi hs X0 e0 N K Vb Vd hp
    have hil : i < cs.length := by omega
    obtain ⟨clb, Ab, -, Sb, -, Hb, -⟩ := id Vb
    obtain ⟨cld, Ad, -, Sd, -, -, -⟩ := id Vd
    have hat : clb.slots[(Int32.ofNat i).toNatClampNeg]? = some (.int (cs.getD i 0)) := Hb.at (own_in32 Sb hil (by omega)) (by rw [own_n32 (by omega)]; exact own_getI cs i hil _)
    by_cases h255 : (255 : Int32) < cs.getD i 0
    · exact ⟨i, T0, h, locs, _, 25, by omega, hp, fun _ => h255, Or.inl rfl, X0, e0, N, K, Vd, own_c5mid b d (Int32.ofNat i) (Int32.ofNat cs.length) (cs.getD i 0) s6 hs clb cld X0 hx hZ hby e0 Ab (own_lt32 hil (by omega)) (own_in32 Sb hil (by omega)) hat h255⟩
    · obtain ⟨T1, h1, X1, e1, W1, g1⟩ := own_c5turn b d (Int32.ofNat i) (Int32.ofNat cs.length) (cs.getD i 0) s6 hs clb cld X0 hx hZ hby e0 Ab Ad (own_lt32 hil (by omega)) (own_in32 Sb hil (by omega)) hat h255 (own_in32 Sd hil (by omega))
      have W2 : Wr h h1 d (Int32.ofNat i).toNatClampNeg (.int (own_lo (cs.getD i 0))) := by rw [← own_nar_lo]; exact W1
      have Vd1 := own_push Vd (own_fit_lo _) W2 (by rw [own_n32 (by omega)]; simp; omega)
      rw [own_takeB cs i hil] at Vd1
      rw [own_suc] at g1
      obtain ⟨j, T', h', locs', s6', pc, r1, r2, r3, r4, r5, r6, r7, r8, r9, g2⟩ := ih (i + 1) T1 h1 _ (.val (.int (cs.getD i 0))) (by omega) (One.val rfl) X1 e1 (Fr.snoc X1 N hd0) (K.wr W2 (Or.inl (List.mem_of_getElem? (i := 0) rfl))) (Vb.other W2 hbd) Vd1 (fun j hj => by
        by_cases q : j < i
        · exact hp j q
        · have : j = i := by omega
          subst this; exact h255)
      exact ⟨j, T', h', locs', s6', pc, r1, r2, r3, r4, r5, r6, r7, r8, r9, g1.trans g2⟩
theorem pn1 : plainName "java/lang/StringUTF16" = true := by first | (simp [plainName, overriddenIn]; done) | decide +kernel
def Q7 (Z : State) (b : Addr) (d : Addr) (kd : ClassId) (cs : List Int32) (h0 : Heap) (n0 : Nat) (v : Option Value) (h : Heap) (L : List Loc) : Prop := ∃ j, v = some (.int (Int32.ofNat j)) ∧ j ≤ cs.length ∧ (∀ q, q < j → ¬ (255 : Int32) < cs.getD q 0) ∧ (j < cs.length → (255 : Int32) < cs.getD j 0) ∧ Fr n0 L ∧ Keep h0 h [d] ∧ Arv Z h d kd .byte (Int32.ofNat cs.length) ((cs.take j).map own_vb) (.int 0)
set_option maxRecDepth 65536 in
set_option maxHeartbeats 40000000 in
theorem rm7 (l : Launch) (Z : State) (a0 : Array Value) (hw : ∀ d ∈ tables_1, d.before a0 Z = true) (ws : List Jvm.Cond) (b : Addr) (d : Addr) (kd : ClassId) (cs : List Int32) (h0 : Heap) (n0 : Nat) (Z0 : n0 ≤ h0.size) (kb : ClassId) (hn : cs.length ≤ 1000) (hbd : b ≠ d) (hd0 : n0 ≤ d) (Vb : Arv Z h0 b kb .char (Int32.ofNat cs.length) (cs.map Value.int) (.int 0)) (Vd : Arv Z h0 d kd .byte (Int32.ofNat cs.length) [] (.int 0)) :
    MetFree l (⟨"java/lang/StringUTF16", "compress", "([CI[BII)I"⟩ : MethodName) (head1 (Jvm.Cond.code (⟨"java/lang/StringUTF16", "compress", "([CI[BII)I"⟩ : MethodName) jdk_52_method_21_code 7 (some .int) :: ws) ({ frames := 0, cells := 0, slots := 0, locals := 0 } : Room)) (fun aa_ U => aa_ = #[(.ref b), (.int (0 : Int32)), (.ref d), (.int (0 : Int32)), (.int (Int32.ofNat cs.length))] ∧ Z.Warmed39 U.vm ∧ U.heap = h0) (fun _ _ _ _ _ => True) (fun _ U o U' => ∃ v L, o = .returned v ∧ Q7 Z b d kd cs h0 n0 v U'.heap L ∧ FrameEnd U o U' L ({ frames := 0, cells := 0, slots := 0, locals := 0 } : Room).cells ({ frames := 0, cells := 0, slots := 0, locals := 0 } : Room).slots) := by
  refine MetFree.of_bodySF (plainFor_of_name pn1) hisR ?_
  intro p e s m args below meth c s₁ Bd hml0 hP hK
  obtain ⟨rfl, hZ, hh⟩ := hP
  have hx := Bd.exec
  have hby := Bd.bytes
  have hml : c.maxLocals = 7 := hml0
  have hown : s.vm.findClass "java/lang/StringUTF16" = some m.cls := findClass_of_methodNamed Bd.named
  have hnm := (name_of_methodNamed Bd.named Bd.method).1
  have X0 : Stand p l e ({ frames := 0, cells := 0, slots := 0, locals := 0 } : Room) s m #[(.ref b), (.int (0 : Int32)), (.ref d), (.int (0 : Int32)), (.int (Int32.ofNat cs.length))] below meth c s₁ [] 0 0 := Stand.of_body Bd
  have e0 : s₁.heap = h0 := by rw [← hh, Bd.state]; rfl
  have N0 := Fr.nil n0
  obtain ⟨G, hG⟩ : ∃ G, G = entryFrame m #[(.ref b), (.int (0 : Int32)), (.ref d), (.int (0 : Int32)), (.int (Int32.ofNat cs.length))] 7 := ⟨_, rfl⟩
  have S0 : own_Go p e below s₁ G s₁ (mkF m 0 #[.val (.ref b), .val (.int (0 : Int32)), .val (.ref d), .val (.int (0 : Int32)), .val (.int (Int32.ofNat cs.length)), .unset, .unset] []) := fun tg_ kk_ => castTop (by rw [hG]; first | (simp [entryFrame, mkF, argsToLocals, Value.category, maxLocals]; done) | rfl) kk_
  have S6 : own_Go p e below s₁ G s₁ (mkF m 3 #[.val (.ref b), .val (.int (0 : Int32)), .val (.ref d), .val (.int (0 : Int32)), .val (.int (Int32.ofNat cs.length)), .val (.int (0 : Int32)), .unset] []) := fun tg_ kk_ => S0 tg_ (by
    refine XS.iconst X0.here hx rfl (hb hby d7_0) ?_
    show Steps p.tables e below (s₁.setTop (mkF m 1 #[.val (.ref b), .val (.int (0 : Int32)), .val (.ref d), .val (.int (0 : Int32)), .val (.int (Int32.ofNat cs.length)), .unset, .unset] [(.int (0 : Int32))])) _
    refine XS.istore X0.here hx rfl (hb hby d7_1) rfl (l' := #[.val (.ref b), .val (.int (0 : Int32)), .val (.ref d), .val (.int (0 : Int32)), .val (.int (Int32.ofNat cs.length)), .val (.int (0 : Int32)), .unset]) rfl ?_
    exact kk_)
  obtain ⟨j, T', h', locs', s6', pc, r1, r2, r3, r4, X1, e1, r7, r8, r9, g2⟩ := own_c5 (h0 := h0) b d kb kd cs hn hbd hd0 hx hZ hby cs.length 0 s₁ h0 [] .unset (by omega) One.u X0 e0 N0 (Keep.refl _ _) Vb Vd (fun j hj => absurd hj (Nat.not_lt_zero j))
  have SL := own_Go.trans S6 g2
  rcases r4 with rfl | rfl
  · have _ := r1
    obtain ⟨fs, hr, hrun, hended, hW, hsame⟩ := X1.leave (v := some (.int (Int32.ofNat j))) (fun h => by rw [Bd.returns] at h; cases h)
    refine ⟨_, _, ?_, hrun, hended, _, _, rfl, ?_, ⟨_, rfl⟩, hW, hsame.mono (by decide) (by decide)⟩
    · rw [← hG]; exact SL _ (retI X1 hx Bd.returns (hb hby d7_25) hr)
    · show Q7 Z b d kd cs h0 n0 _ T'.heap _
      rw [e1]
      exact ⟨j, rfl, r1, r2, r3, r7, r8, r9⟩
  · have _ := r1
    obtain ⟨fs, hr, hrun, hended, hW, hsame⟩ := X1.leave (v := some (.int (Int32.ofNat j))) (fun h => by rw [Bd.returns] at h; cases h)
    refine ⟨_, _, ?_, hrun, hended, _, _, rfl, ?_, ⟨_, rfl⟩, hW, hsame.mono (by decide) (by decide)⟩
    · rw [← hG]; exact SL _ (retI X1 hx Bd.returns (hb hby d7_46) hr)
    · show Q7 Z b d kd cs h0 n0 _ T'.heap _
      rw [e1]
      exact ⟨j, rfl, r1, r2, r3, r7, r8, r9⟩
theorem own_coder {n M : Nat} {cd : Int32} (hn : 1 ≤ n ∧ n ≤ 1000) (hcd : (cd = 0 ∧ M = n) ∨ (cd = 1 ∧ M = 2 * n)) : ((XT.ushr ((Int32.ofNat n) - (Int32.ofNat M)) (31 : Int32)).toInt8.toInt32) = cd := by
  rcases hcd with ⟨rfl, rfl⟩ | ⟨rfl, rfl⟩
  · rw [Int32.sub_self]; decide
  · have h1 := c_isub (Int32.ofNat n) (Int32.ofNat (2 * n))
    have r1 := rng32 (Int32.ofNat n - Int32.ofNat (2 * n))
    rw [Int32.toInt_ofNat_of_lt (by omega), Int32.toInt_ofNat_of_lt (by omega)] at h1
    have h2 := c_iushr (Int32.ofNat n - Int32.ofNat (2 * n)) 31 31 (by decide) (by decide)
    have h3 := c_i2b (XT.ushr (Int32.ofNat n - Int32.ofNat (2 * n)) 31)
    have e : (XT.ushr (Int32.ofNat n - Int32.ofNat (2 * n)) 31).toInt = ((Int32.ofNat n - Int32.ofNat (2 * n)).toUInt32 >>> ((31 : Int32) &&& 31).toUInt32).toInt32.toInt := rfl
    refine Int32.toInt_inj.mp ?_
    have e1 : (1 : Int32).toInt = 1 := rfl
    omega
def Q8 (Z : State) (t : Addr) (n : Nat) (cd : Int32) (h0 : Heap) (n0 : Nat) (v : Option Value) (h : Heap) (L : List Loc) : Prop := v = some (.int cd) ∧ Fr n0 L ∧ h0 = h
set_option maxRecDepth 65536 in
set_option maxHeartbeats 40000000 in
theorem rm8 (l : Launch) (Z : State) (a0 : Array Value) (hw : ∀ d ∈ tables_1, d.before a0 Z = true) (ws : List Jvm.Cond) (t : Addr) (n : Nat) (cd : Int32) (h0 : Heap) (n0 : Nat) (Z0 : n0 ≤ h0.size) (kt : ClassId) (M : Nat) (vs : List Value) (V : Arv Z h0 t kt .byte (Int32.ofNat M) vs (.int 0)) (hM : M ≤ 2000) (hn : 1 ≤ n ∧ n ≤ 1000) (hcd : (cd = 0 ∧ M = n) ∨ (cd = 1 ∧ M = 2 * n)) :
    MetFree l (⟨"java/lang/StringUTF16", "coderFromArrayLen", "([BI)B"⟩ : MethodName) (head1 (Jvm.Cond.code (⟨"java/lang/StringUTF16", "coderFromArrayLen", "([BI)B"⟩ : MethodName) jdk_52_method_15_code 2 (some .byte) :: ws) ({ frames := 0, cells := 0, slots := 0, locals := 0 } : Room)) (fun aa_ U => aa_ = #[(.ref t), (.int (Int32.ofNat n))] ∧ Z.Warmed39 U.vm ∧ U.heap = h0) (fun _ _ _ _ _ => True) (fun _ U o U' => ∃ v L, o = .returned v ∧ Q8 Z t n cd h0 n0 v U'.heap L ∧ FrameEnd U o U' L ({ frames := 0, cells := 0, slots := 0, locals := 0 } : Room).cells ({ frames := 0, cells := 0, slots := 0, locals := 0 } : Room).slots) := by
  refine MetFree.of_bodySF (plainFor_of_name pn1) hisR ?_
  intro p e s m args below meth c s₁ Bd hml0 hP hK
  obtain ⟨rfl, hZ, hh⟩ := hP
  have hx := Bd.exec
  have hby := Bd.bytes
  have hml : c.maxLocals = 2 := hml0
  have hown : s.vm.findClass "java/lang/StringUTF16" = some m.cls := findClass_of_methodNamed Bd.named
  have hnm := (name_of_methodNamed Bd.named Bd.method).1
  have X0 : Stand p l e ({ frames := 0, cells := 0, slots := 0, locals := 0 } : Room) s m #[(.ref t), (.int (Int32.ofNat n))] below meth c s₁ [] 0 0 := Stand.of_body Bd
  have e0 : s₁.heap = h0 := by rw [← hh, Bd.state]; rfl
  have N0 := Fr.nil n0
  obtain ⟨G, hG⟩ : ∃ G, G = entryFrame m #[(.ref t), (.int (Int32.ofNat n))] 2 := ⟨_, rfl⟩
  have S0 : own_Go p e below s₁ G s₁ (mkF m 0 #[.val (.ref t), .val (.int (Int32.ofNat n))] []) := fun tg_ kk_ => castTop (by rw [hG]; first | rfl | simp [entryFrame, mkF, argsToLocals, Value.category, maxLocals]) kk_
  obtain ⟨cl, Ar, -, Sz, Mn, H, -⟩ := V
  have S7 : own_Go p e below s₁ G s₁ (mkF m 8 #[.val (.ref t), .val (.int (Int32.ofNat n))] [(.int ((XT.ushr ((Int32.ofNat n) - (Int32.ofNat M)) (31 : Int32)).toInt8.toInt32))]) := fun tg_ kk_ => S0 tg_ (by
    refine XS.iloadN X0.here hx rfl (hb hby d8_0) rfl ?_
    show Steps p.tables e below (s₁.setTop (mkF m 1 #[.val (.ref t), .val (.int (Int32.ofNat n))] [(.int (Int32.ofNat n))])) _
    refine XS.aloadN X0.here hx rfl (hb hby d8_1) rfl rfl ?_
    show Steps p.tables e below (s₁.setTop (mkF m 2 #[.val (.ref t), .val (.int (Int32.ofNat n))] [(.ref t), (.int (Int32.ofNat n))])) _
    refine X0.arraylength hx (cell := cl) (by rw [e0]; exact Ar.1) (State.isArrayOf_alike hZ.alike Ar.2.1) (g := (mkF m 2 #[.val (.ref t), .val (.int (Int32.ofNat n))] [(.ref t), (.int (Int32.ofNat n))])) rfl (rest := [(.int (Int32.ofNat n))]) rfl (hb hby d8_2) _ ?_
    rw [len_of Sz Mn]
    show Steps p.tables e below (s₁.setTop (mkF m 3 #[.val (.ref t), .val (.int (Int32.ofNat n))] [(.int (Int32.ofNat M)), (.int (Int32.ofNat n))])) _
    refine XS.isub X0.here hx rfl (hb hby d8_3) rfl ?_
    show Steps p.tables e below (s₁.setTop (mkF m 4 #[.val (.ref t), .val (.int (Int32.ofNat n))] [(.int ((Int32.ofNat n) - (Int32.ofNat M)))])) _
    refine XS.bipush X0.here hx rfl (hb hby d8_4) ?_
    show Steps p.tables e below (s₁.setTop (mkF m 6 #[.val (.ref t), .val (.int (Int32.ofNat n))] [(.int (31 : Int32)), (.int ((Int32.ofNat n) - (Int32.ofNat M)))])) _
    refine XT.iushr X0.here hx rfl (hb hby d8_6) rfl ?_
    show Steps p.tables e below (s₁.setTop (mkF m 7 #[.val (.ref t), .val (.int (Int32.ofNat n))] [(.int (XT.ushr ((Int32.ofNat n) - (Int32.ofNat M)) (31 : Int32)))])) _
    refine XT.i2b X0.here hx rfl (hb hby d8_7) rfl ?_
    exact kk_)
  have hq : ((XT.ushr ((Int32.ofNat n) - (Int32.ofNat M)) (31 : Int32)).toInt8.toInt32) = cd := own_coder hn hcd
  rw [hq] at S7
  rcases hcd with ⟨rfl, -⟩ | ⟨rfl, -⟩
  · have _ := N0
    obtain ⟨fs, hr, hrun, hended, hW, hsame⟩ := X0.leave (v := some (.int (0 : Int32))) (fun h => by rw [Bd.returns] at h; cases h)
    refine ⟨_, _, ?_, hrun, hended, _, _, rfl, ?_, ⟨_, rfl⟩, hW, hsame.mono (by decide) (by decide)⟩
    · rw [← hG]; exact S7 _ (retN X0 hx (t := .byte) Bd.returns (by simp) (hb hby d8_8) hr)
    · show Q8 Z t n (0 : Int32) h0 n0 _ s₁.heap _
      rw [e0]
      exact ⟨rfl, N0, rfl⟩
  · have _ := N0
    obtain ⟨fs, hr, hrun, hended, hW, hsame⟩ := X0.leave (v := some (.int (1 : Int32))) (fun h => by rw [Bd.returns] at h; cases h)
    refine ⟨_, _, ?_, hrun, hended, _, _, rfl, ?_, ⟨_, rfl⟩, hW, hsame.mono (by decide) (by decide)⟩
    · rw [← hG]; exact S7 _ (retN X0 hx (t := .byte) Bd.returns (by simp) (hb hby d8_8) hr)
    · show Q8 Z t n (1 : Int32) h0 n0 _ s₁.heap _
      rw [e0]
      exact ⟨rfl, N0, rfl⟩
def Q6 (Z : State) (b : Addr) (cs : List Int32) (h0 : Heap) (n0 : Nat) (v : Option Value) (h : Heap) (L : List Loc) : Prop := ∃ t, v = some (.ref t) ∧ h0.size ≤ t ∧ Fr n0 L ∧ Ext h0 h ∧ ((∃ k, Arv Z h t k .byte (Int32.ofNat cs.length) (cs.map own_vb) (.int 0)) ∧ (∀ j, j < cs.length → ¬ (255 : Int32) < cs.getD j 0) ∨ (∃ k, Arv Z h t k .byte (Int32.ofNat (2 * cs.length)) (own_wide cs) (.int 0)) ∧ ∃ j, j < cs.length ∧ (255 : Int32) < cs.getD j 0)
set_option maxRecDepth 65536 in
set_option maxHeartbeats 40000000 in
theorem rm6 (l : Launch) (Z : State) (a0 : Array Value) (hw : ∀ d ∈ tables_1, d.before a0 Z = true) (ws : List Jvm.Cond) (b : Addr) (cs : List Int32) (h0 : Heap) (n0 : Nat) (Z0 : n0 ≤ h0.size) (kb : ClassId) (hn : cs.length ≤ 8) (Vb : Arv Z h0 b kb .char (Int32.ofNat cs.length) (cs.map Value.int) (.int 0)) (hlat : ∀ j, j < cs.length → ¬ (255 : Int32) < cs.getD j 0) :
    MetFree l (⟨"java/lang/StringUTF16", "compress", "([CII)[B"⟩ : MethodName) (head1 (Jvm.Cond.code (⟨"java/lang/StringUTF16", "compress", "([CII)[B"⟩ : MethodName) jdk_52_method_16_code 6 (some (.array .byte)) :: ws) ({ frames := 1, cells := 1, slots := 8, locals := 18 } : Room)) (fun aa_ U => aa_ = #[(.ref b), (.int (0 : Int32)), (.int (Int32.ofNat cs.length))] ∧ Z.Warmed39 U.vm ∧ U.heap = h0) (fun _ _ _ _ _ => True) (fun _ U o U' => ∃ v L, o = .returned v ∧ Q6 Z b cs h0 n0 v U'.heap L ∧ FrameEnd U o U' L ({ frames := 1, cells := 1, slots := 8, locals := 18 } : Room).cells ({ frames := 1, cells := 1, slots := 8, locals := 18 } : Room).slots) := by
  refine MetFree.of_bodySF (plainFor_of_name pn1) hisR ?_
  intro p e s m args below meth c s₁ Bd hml0 hP hK
  obtain ⟨rfl, hZ, hh⟩ := hP
  have hx := Bd.exec
  have hby := Bd.bytes
  have hml : c.maxLocals = 6 := hml0
  have hown : s.vm.findClass "java/lang/StringUTF16" = some m.cls := findClass_of_methodNamed Bd.named
  have hnm := (name_of_methodNamed Bd.named Bd.method).1
  have X0 : Stand p l e ({ frames := 1, cells := 1, slots := 8, locals := 18 } : Room) s m #[(.ref b), (.int (0 : Int32)), (.int (Int32.ofNat cs.length))] below meth c s₁ [] 0 0 := Stand.of_body Bd
  have e0 : s₁.heap = h0 := by rw [← hh, Bd.state]; rfl
  have N0 := Fr.nil n0
  obtain ⟨G, hG⟩ : ∃ G, G = entryFrame m #[(.ref b), (.int (0 : Int32)), (.int (Int32.ofNat cs.length))] 6 := ⟨_, rfl⟩
  have S0 : own_Go p e below s₁ G s₁ (mkF m 0 #[.val (.ref b), .val (.int (0 : Int32)), .val (.int (Int32.ofNat cs.length)), .unset, .unset, .unset] []) := fun tg_ kk_ => castTop (by rw [hG]; first | rfl | simp [entryFrame, mkF, argsToLocals, Value.category, maxLocals]) kk_
  have S8 : own_Go p e below s₁ G s₁ (mkF m 1 #[.val (.ref b), .val (.int (0 : Int32)), .val (.int (Int32.ofNat cs.length)), .unset, .unset, .unset] [(.int (Int32.ofNat cs.length))]) := fun tg_ kk_ => S0 tg_ (by
    refine XS.iloadN X0.here hx rfl (hb hby d6_0) rfl ?_
    exact kk_)
  obtain ⟨Tp1, hp1, kp1, Xp1, ep1, Ep1, Ap1, stp1⟩ := newP X0 hx hZ (hw _ (List.mem_of_getElem? (i := 28) rfl)) e0 (g := (mkF m 1 #[.val (.ref b), .val (.int (0 : Int32)), .val (.int (Int32.ofNat cs.length)), .unset, .unset, .unset] [(.int (Int32.ofNat cs.length))])) rfl (hb hby d6_1) rfl (own_nn32 (by omega)) (cap := 8) (by rw [own_n32 (by omega)]; omega) (by decide) (by decide) (by decide)
  have S9 : own_Go p e below s₁ G Tp1 (mkF m 3 #[.val (.ref b), .val (.int (0 : Int32)), .val (.int (Int32.ofNat cs.length)), .unset, .unset, .unset] [(.ref h0.size)]) := fun tg_ kk_ => S8 tg_ (stp1 tg_ kk_)
  obtain ⟨d, gd⟩ : ∃ z, z = h0.size := ⟨_, rfl⟩
  rw [← gd] at S9
  rw [← gd] at Ap1
  have hbd : b ≠ d := Nat.ne_of_lt (Nat.lt_of_lt_of_le Vb.lt (Nat.le_of_eq gd.symm))
  have hd0 : n0 ≤ d := Nat.le_trans Z0 (Nat.le_of_eq gd.symm)
  have Vd0 : Arv Z hp1 d kp1 .byte (Int32.ofNat cs.length) [] (.int 0) := Arv.new Ap1 (own_nn32 (by omega))
  have S10 : own_Go p e below s₁ G Tp1 (mkF m 9 #[.val (.ref b), .val (.int (0 : Int32)), .val (.int (Int32.ofNat cs.length)), .val (.ref d), .unset, .unset] [(.int (Int32.ofNat cs.length)), (.int (0 : Int32)), (.ref d), (.int (0 : Int32)), (.ref b)]) := fun tg_ kk_ => S9 tg_ (by
    refine XS.astoreN Xp1.here hx rfl (hb hby d6_3) rfl rfl (l' := #[.val (.ref b), .val (.int (0 : Int32)), .val (.int (Int32.ofNat cs.length)), .val (.ref d), .unset, .unset]) rfl ?_
    show Steps p.tables e below (Tp1.setTop (mkF m 4 #[.val (.ref b), .val (.int (0 : Int32)), .val (.int (Int32.ofNat cs.length)), .val (.ref d), .unset, .unset] [])) _
    refine XS.aloadN Xp1.here hx rfl (hb hby d6_4) rfl rfl ?_
    show Steps p.tables e below (Tp1.setTop (mkF m 5 #[.val (.ref b), .val (.int (0 : Int32)), .val (.int (Int32.ofNat cs.length)), .val (.ref d), .unset, .unset] [(.ref b)])) _
    refine XS.iloadN Xp1.here hx rfl (hb hby d6_5) rfl ?_
    show Steps p.tables e below (Tp1.setTop (mkF m 6 #[.val (.ref b), .val (.int (0 : Int32)), .val (.int (Int32.ofNat cs.length)), .val (.ref d), .unset, .unset] [(.int (0 : Int32)), (.ref b)])) _
    refine XS.aloadN Xp1.here hx rfl (hb hby d6_6) rfl rfl ?_
    show Steps p.tables e below (Tp1.setTop (mkF m 7 #[.val (.ref b), .val (.int (0 : Int32)), .val (.int (Int32.ofNat cs.length)), .val (.ref d), .unset, .unset] [(.ref d), (.int (0 : Int32)), (.ref b)])) _
    refine XS.iconst Xp1.here hx rfl (hb hby d6_7) ?_
    show Steps p.tables e below (Tp1.setTop (mkF m 8 #[.val (.ref b), .val (.int (0 : Int32)), .val (.int (Int32.ofNat cs.length)), .val (.ref d), .unset, .unset] [(.int (0 : Int32)), (.ref d), (.int (0 : Int32)), (.ref b)])) _
    refine XS.iloadN Xp1.here hx rfl (hb hby d6_8) rfl ?_
    exact kk_)
  obtain ⟨_, T11, h11, L11, X11, e11, hQ11, st11⟩ := own_callS Xp1 hx hZ (y := (⟨"java/lang/StringUTF16", "compress", "([CI[BII)I"⟩ : MethodName)) hown (hw _ (List.mem_of_getElem? (i := 29) rfl)) (hw _ (List.mem_of_getElem? (i := 30) rfl)) (hw _ (List.mem_of_getElem? (i := 26) rfl)) (hw _ (List.mem_of_getElem? (i := 31) rfl)) (by decide) 0 (g := (mkF m 9 #[.val (.ref b), .val (.int (0 : Int32)), .val (.int (Int32.ofNat cs.length)), .val (.ref d), .unset, .unset] [(.int (Int32.ofNat cs.length)), (.int (0 : Int32)), (.ref d), (.int (0 : Int32)), (.ref b)])) rfl (by rw [hml]; rfl) [(.ref b), (.int (0 : Int32)), (.ref d), (.int (0 : Int32)), (.int (Int32.ofNat cs.length))] [] (rm7 l Z a0 hw [] b d kp1 cs hp1 n0 (own_sub Z0 Ep1) kb (by omega) hbd hd0 (Vb.ext Ep1) Vd0) (lenOf pd8 rfl) rfl (by show 2 * 0 + _ ≤ _; exact Nat.le_of_eq rfl) (hb hby d6_9) (by decide) (by decide) ep1 (by decide) (by decide)
  obtain ⟨j, rfl, j1, j2, j3, N11, K11, V11⟩ := hQ11
  have S12 : own_Go p e below s₁ G T11 (mkF m 12 #[.val (.ref b), .val (.int (0 : Int32)), .val (.int (Int32.ofNat cs.length)), .val (.ref d), .unset, .unset] [(.int (Int32.ofNat j))]) := fun tg_ kk_ => S10 tg_ (st11 tg_ kk_)
  have M1 := Fr.app N0 N11
  have E2 : Ext h0 h11 := ⟨Nat.le_trans Ep1.1 K11.1, fun a c q => K11.2.1 a c (Ep1.2 a c q) (ninS (Nat.ne_of_lt (Nat.lt_of_lt_of_le (Array.getElem?_eq_some_iff.mp q).1 (Nat.le_of_eq gd.symm))) nin0)⟩
  have S13 : own_Go p e below s₁ G T11 (mkF m 17 #[.val (.ref b), .val (.int (0 : Int32)), .val (.int (Int32.ofNat cs.length)), .val (.ref d), .val (.int (Int32.ofNat j)), .unset] [(.int (Int32.ofNat cs.length)), (.int (Int32.ofNat j))]) := fun tg_ kk_ => S12 tg_ (by
    refine XS.istore X11.here hx rfl (hb hby d6_12) rfl (l' := #[.val (.ref b), .val (.int (0 : Int32)), .val (.int (Int32.ofNat cs.length)), .val (.ref d), .val (.int (Int32.ofNat j)), .unset]) rfl ?_
    show Steps p.tables e below (T11.setTop (mkF m 14 #[.val (.ref b), .val (.int (0 : Int32)), .val (.int (Int32.ofNat cs.length)), .val (.ref d), .val (.int (Int32.ofNat j)), .unset] [])) _
    refine XS.iload X11.here hx rfl (hb hby d6_14) rfl ?_
    show Steps p.tables e below (T11.setTop (mkF m 16 #[.val (.ref b), .val (.int (0 : Int32)), .val (.int (Int32.ofNat cs.length)), .val (.ref d), .val (.int (Int32.ofNat j)), .unset] [(.int (Int32.ofNat j))])) _
    refine XS.iloadN X11.here hx rfl (hb hby d6_16) rfl ?_
    exact kk_)
  by_cases hj : j = cs.length
  · subst hj
    rw [List.take_length] at V11
    have S14 : own_Go p e below s₁ G T11 (mkF m 58 #[.val (.ref b), .val (.int (0 : Int32)), .val (.int (Int32.ofNat cs.length)), .val (.ref d), .val (.int (Int32.ofNat cs.length)), .unset] [(.ref d)]) := fun tg_ kk_ => S13 tg_ (by
      refine XS.icmpYes X11.here hx rfl (pc0 := 17) (pc' := 57) rfl (hb hby d6_17) rfl (teq rfl).1 (by decide) (by decide) ?_
      show Steps p.tables e below (T11.setTop (mkF m 57 #[.val (.ref b), .val (.int (0 : Int32)), .val (.int (Int32.ofNat cs.length)), .val (.ref d), .val (.int (Int32.ofNat cs.length)), .unset] [])) _
      refine XS.aloadN X11.here hx rfl (hb hby d6_57) rfl rfl ?_
      exact kk_)
    obtain ⟨fs, hr, hrun, hended, hW, hsame⟩ := X11.leave (v := some (.ref d)) (fun h => by rw [Bd.returns] at h; cases h)
    refine ⟨_, _, ?_, hrun, hended, _, _, rfl, ?_, ⟨_, rfl⟩, hW, hsame.mono (by decide) (by decide)⟩
    · rw [← hG]; exact S14 _ (retOut X11 hx Bd.returns (by first | rfl | cases (.ref d) <;> rfl) (Or.inr (Or.inr (Or.inr (Or.inr ⟨rfl, rfl, rfl⟩)))) (hb hby d6_58) hr)
    · show Q6 Z b cs h0 n0 _ T11.heap _
      rw [e11]
      exact ⟨d, rfl, Nat.le_of_eq gd.symm, M1, E2, Or.inl ⟨⟨_, V11⟩, j2⟩⟩
  · have hjl : j < cs.length := by omega
    exact absurd (j3 hjl) (hlat j hjl)
theorem pn2 : plainName "java/lang/String" = true := by first | (simp [plainName, overriddenIn]; done) | decide +kernel
def Q4 (Z : State) (x : Addr) (b : Addr) (cs : List Int32) (h0 : Heap) (n0 : Nat) (v : Option Value) (h : Heap) (L : List Loc) : Prop := v = none ∧ Fr n0 L ∧ Keep h0 h [x] ∧ ∃ t, h0.size ≤ t ∧ own_Str Z h x t cs
set_option maxRecDepth 65536 in
set_option maxHeartbeats 40000000 in
theorem rm4 (l : Launch) (Z : State) (a0 : Array Value) (hw : ∀ d ∈ tables_1, d.before a0 Z = true) (ws : List Jvm.Cond) (x : Addr) (b : Addr) (cs : List Int32) (h0 : Heap) (n0 : Nat) (Z0 : n0 ≤ h0.size) (z : Int32) (kb : ClassId) (hn : 1 ≤ cs.length ∧ cs.length ≤ 8) (Ex : Exa Z h0 x "java/lang/String") (Fv : Fld Z h0 x "java/lang/String" "value" "[B" .null) (Fc : Fld Z h0 x "java/lang/String" "coder" "B" (.int 0)) (hx0 : n0 ≤ x) (Vb : Arv Z h0 b kb .char (Int32.ofNat cs.length) (cs.map Value.int) (.int 0)) (O : Old Z n0 h0) (O2 : Sta Z Z.heap "java/lang/String" "COMPACT_STRINGS" "Z" (.int z)) (P5 : ¬ z = 0) (hlat : ∀ j, j < cs.length → ¬ (255 : Int32) < cs.getD j 0) :
    MetFree l (⟨"java/lang/String", "<init>", "([CIILjava/lang/Void;)V"⟩ : MethodName) (head1 (Jvm.Cond.code (⟨"java/lang/String", "<init>", "([CIILjava/lang/Void;)V"⟩ : MethodName) jdk_42_method_149_code 6 none :: ws) ({ frames := 2, cells := 1, slots := 8, locals := 36 } : Room)) (fun aa_ U => aa_ = #[(.ref x), (.ref b), (.int (0 : Int32)), (.int (Int32.ofNat cs.length)), .null] ∧ Z.Warmed39 U.vm ∧ U.heap = h0) (fun _ _ _ _ _ => True) (fun _ U o U' => ∃ v L, o = .returned v ∧ Q4 Z x b cs h0 n0 v U'.heap L ∧ FrameEnd U o U' L ({ frames := 2, cells := 1, slots := 8, locals := 36 } : Room).cells ({ frames := 2, cells := 1, slots := 8, locals := 36 } : Room).slots) := by
  refine MetFree.of_bodySF (plainFor_of_name pn2) hisR ?_
  intro p e s m args below meth c s₁ Bd hml0 hP hK
  obtain ⟨rfl, hZ, hh⟩ := hP
  have hx := Bd.exec
  have hby := Bd.bytes
  have hml : c.maxLocals = 6 := hml0
  have hown : s.vm.findClass "java/lang/String" = some m.cls := findClass_of_methodNamed Bd.named
  have hnm := (name_of_methodNamed Bd.named Bd.method).1
  have X0 : Stand p l e ({ frames := 2, cells := 1, slots := 8, locals := 36 } : Room) s m #[(.ref x), (.ref b), (.int (0 : Int32)), (.int (Int32.ofNat cs.length)), .null] below meth c s₁ [] 0 0 := Stand.of_body Bd
  have e0 : s₁.heap = h0 := by rw [← hh, Bd.state]; rfl
  have N0 := Fr.nil n0
  obtain ⟨G, hG⟩ : ∃ G, G = entryFrame m #[(.ref x), (.ref b), (.int (0 : Int32)), (.int (Int32.ofNat cs.length)), .null] 6 := ⟨_, rfl⟩
  have S0 : own_Go p e below s₁ G s₁ (mkF m 0 #[.val (.ref x), .val (.ref b), .val (.int (0 : Int32)), .val (.int (Int32.ofNat cs.length)), .val .null, .unset] []) := fun tg_ kk_ => castTop (by rw [hG]; first | (simp [entryFrame, mkF, argsToLocals, Value.category, maxLocals]; done) | rfl) kk_
  have S15 : own_Go p e below s₁ G s₁ (mkF m 1 #[.val (.ref x), .val (.ref b), .val (.int (0 : Int32)), .val (.int (Int32.ofNat cs.length)), .val .null, .unset] [(.ref x)]) := fun tg_ kk_ => S0 tg_ (by
    refine XS.aloadN X0.here hx rfl (hb hby d4_0) rfl rfl ?_
    exact kk_)
  obtain ⟨T16, X16, e16, st16⟩ := initO X0 hx hZ hown (hw _ (List.mem_of_getElem? (i := 20) rfl)) (hw _ (List.mem_of_getElem? (i := 21) rfl)) (hw _ (List.mem_of_getElem? (i := 22) rfl)) e0 (g := (mkF m 1 #[.val (.ref x), .val (.ref b), .val (.int (0 : Int32)), .val (.int (Int32.ofNat cs.length)), .val .null, .unset] [(.ref x)])) rfl (by rw [hml]; rfl) rfl (hb hby d4_1) (by decide) (W := 0) (by show 2 * 0 + _ ≤ _; exact Nat.le_of_eq rfl) (by decide)
  have S17 : own_Go p e below s₁ G T16 (mkF m 4 #[.val (.ref x), .val (.ref b), .val (.int (0 : Int32)), .val (.int (Int32.ofNat cs.length)), .val .null, .unset] []) := fun tg_ kk_ => S15 tg_ (st16 tg_ kk_)
  have S18 : own_Go p e below s₁ G T16 (mkF m 27 #[.val (.ref x), .val (.ref b), .val (.int (0 : Int32)), .val (.int (Int32.ofNat cs.length)), .val .null, .unset] []) := fun tg_ kk_ => S17 tg_ (by
    refine XS.iloadN X16.here hx rfl (hb hby d4_4) rfl ?_
    show Steps p.tables e below (T16.setTop (mkF m 5 #[.val (.ref x), .val (.ref b), .val (.int (0 : Int32)), .val (.int (Int32.ofNat cs.length)), .val .null, .unset] [(.int (Int32.ofNat cs.length))])) _
    refine XS.ifYes X16.here hx rfl (pc0 := 5) (pc' := 27) rfl (hb hby d4_5) rfl (XT.i0_ne_t (fun q => absurd (own_inj32 (n := 0) (by omega) (by omega) q) (by omega))) (by decide) (by decide) ?_
    exact kk_)
  obtain ⟨T19, X19, e19, st19⟩ := getS X16 hx hZ (host := "") hown (hw _ (List.mem_of_getElem? (i := 23) rfl)) Via.refl e16 (O2.ext O.2) (g := (mkF m 27 #[.val (.ref x), .val (.ref b), .val (.int (0 : Int32)), .val (.int (Int32.ofNat cs.length)), .val .null, .unset] [])) rfl (hb hby d4_27)
  have S20 : own_Go p e below s₁ G T19 (mkF m 30 #[.val (.ref x), .val (.ref b), .val (.int (0 : Int32)), .val (.int (Int32.ofNat cs.length)), .val .null, .unset] [(.int z)]) := fun tg_ kk_ => S18 tg_ (st19 tg_ kk_)
  have S21 : own_Go p e below s₁ G T19 (mkF m 36 #[.val (.ref x), .val (.ref b), .val (.int (0 : Int32)), .val (.int (Int32.ofNat cs.length)), .val .null, .unset] [(.int (Int32.ofNat cs.length)), (.int (0 : Int32)), (.ref b)]) := fun tg_ kk_ => S20 tg_ (by
    refine XS.ifNo X19.here hx rfl (hb hby d4_30) rfl (XT.i0_eq_f P5) ?_
    show Steps p.tables e below (T19.setTop (mkF m 33 #[.val (.ref x), .val (.ref b), .val (.int (0 : Int32)), .val (.int (Int32.ofNat cs.length)), .val .null, .unset] [])) _
    refine XS.aloadN X19.here hx rfl (hb hby d4_33) rfl rfl ?_
    show Steps p.tables e below (T19.setTop (mkF m 34 #[.val (.ref x), .val (.ref b), .val (.int (0 : Int32)), .val (.int (Int32.ofNat cs.length)), .val .null, .unset] [(.ref b)])) _
    refine XS.iloadN X19.here hx rfl (hb hby d4_34) rfl ?_
    show Steps p.tables e below (T19.setTop (mkF m 35 #[.val (.ref x), .val (.ref b), .val (.int (0 : Int32)), .val (.int (Int32.ofNat cs.length)), .val .null, .unset] [(.int (0 : Int32)), (.ref b)])) _
    refine XS.iloadN X19.here hx rfl (hb hby d4_35) rfl ?_
    exact kk_)
  obtain ⟨_, T22, h22, L22, X22, e22, hQ22, st22⟩ := own_callS X19 hx hZ (y := (⟨"java/lang/StringUTF16", "compress", "([CII)[B"⟩ : MethodName)) hown (hw _ (List.mem_of_getElem? (i := 24) rfl)) (hw _ (List.mem_of_getElem? (i := 25) rfl)) (hw _ (List.mem_of_getElem? (i := 26) rfl)) (hw _ (List.mem_of_getElem? (i := 27) rfl)) (by decide) 0 (g := (mkF m 36 #[.val (.ref x), .val (.ref b), .val (.int (0 : Int32)), .val (.int (Int32.ofNat cs.length)), .val .null, .unset] [(.int (Int32.ofNat cs.length)), (.int (0 : Int32)), (.ref b)])) rfl (by rw [hml]; rfl) [(.ref b), (.int (0 : Int32)), (.int (Int32.ofNat cs.length))] [] (rm6 l Z a0 hw [] b cs h0 n0 Z0 kb hn.2 Vb hlat) (lenOf pd7 rfl) rfl (by show 2 * 0 + _ ≤ _; exact Nat.le_of_eq rfl) (hb hby d4_36) (by decide) (by decide) e19 (by decide) (by decide)
  obtain ⟨t, rfl, ht, N22, E22, V22⟩ := hQ22
  have S23 : own_Go p e below s₁ G T22 (mkF m 39 #[.val (.ref x), .val (.ref b), .val (.int (0 : Int32)), .val (.int (Int32.ofNat cs.length)), .val .null, .unset] [(.ref t)]) := fun tg_ kk_ => S21 tg_ (st22 tg_ kk_)
  have M1 := Fr.app N0 N22
  have hcd : ∃ (cd : Int32) (M : Nat) (vs : List Value) (k : ClassId), Arv Z h22 t k .byte (Int32.ofNat M) vs (.int 0) ∧ M ≤ 2000 ∧ ((cd = 0 ∧ M = cs.length) ∨ (cd = 1 ∧ M = 2 * cs.length)) ∧ ((cd = 0 ∧ M = cs.length ∧ vs = cs.map own_vb ∧ ∀ j, j < cs.length → ¬ (255 : Int32) < cs.getD j 0) ∨ (cd = 1 ∧ M = 2 * cs.length ∧ vs = own_wide cs ∧ ∃ j, j < cs.length ∧ (255 : Int32) < cs.getD j 0)) := by
    rcases V22 with ⟨⟨k, V⟩, q⟩ | ⟨⟨k, V⟩, q⟩
    · exact ⟨0, _, _, k, V, by omega, Or.inl ⟨rfl, rfl⟩, Or.inl ⟨rfl, rfl, rfl, q⟩⟩
    · exact ⟨1, _, _, k, V, by omega, Or.inr ⟨rfl, rfl⟩, Or.inr ⟨rfl, rfl, rfl, q⟩⟩
  obtain ⟨cd, M, vs, kt, Vt, hM, hcM, hall⟩ := hcd
  have S24 : own_Go p e below s₁ G T22 (mkF m 45 #[.val (.ref x), .val (.ref b), .val (.int (0 : Int32)), .val (.int (Int32.ofNat cs.length)), .val .null, .val (.ref t)] [(.int (Int32.ofNat cs.length)), (.ref t), (.ref x)]) := fun tg_ kk_ => S23 tg_ (by
    refine XS.astore X22.here hx rfl (hb hby d4_39) rfl rfl (l' := #[.val (.ref x), .val (.ref b), .val (.int (0 : Int32)), .val (.int (Int32.ofNat cs.length)), .val .null, .val (.ref t)]) rfl ?_
    show Steps p.tables e below (T22.setTop (mkF m 41 #[.val (.ref x), .val (.ref b), .val (.int (0 : Int32)), .val (.int (Int32.ofNat cs.length)), .val .null, .val (.ref t)] [])) _
    refine XS.aloadN X22.here hx rfl (hb hby d4_41) rfl rfl ?_
    show Steps p.tables e below (T22.setTop (mkF m 42 #[.val (.ref x), .val (.ref b), .val (.int (0 : Int32)), .val (.int (Int32.ofNat cs.length)), .val .null, .val (.ref t)] [(.ref x)])) _
    refine XS.aload X22.here hx rfl (hb hby d4_42) rfl rfl ?_
    show Steps p.tables e below (T22.setTop (mkF m 44 #[.val (.ref x), .val (.ref b), .val (.int (0 : Int32)), .val (.int (Int32.ofNat cs.length)), .val .null, .val (.ref t)] [(.ref t), (.ref x)])) _
    refine XS.iloadN X22.here hx rfl (hb hby d4_44) rfl ?_
    exact kk_)
  obtain ⟨_, T25, h25, L25, X25, e25, hQ25, st25⟩ := own_callS X22 hx hZ (y := (⟨"java/lang/StringUTF16", "coderFromArrayLen", "([BI)B"⟩ : MethodName)) hown (hw _ (List.mem_of_getElem? (i := 32) rfl)) (hw _ (List.mem_of_getElem? (i := 33) rfl)) (hw _ (List.mem_of_getElem? (i := 26) rfl)) (hw _ (List.mem_of_getElem? (i := 34) rfl)) (by decide) 1 (g := (mkF m 45 #[.val (.ref x), .val (.ref b), .val (.int (0 : Int32)), .val (.int (Int32.ofNat cs.length)), .val .null, .val (.ref t)] [(.int (Int32.ofNat cs.length)), (.ref t), (.ref x)])) rfl (by rw [hml]; rfl) [(.ref t), (.int (Int32.ofNat cs.length))] [(.ref x)] (rm8 l Z a0 hw [] t cs.length cd h22 n0 (own_sub Z0 E22) kt M vs Vt hM (by omega) hcM) (lenOf pd9 rfl) rfl (by show 2 * 0 + _ ≤ _; exact Nat.le_of_eq rfl) (hb hby d4_45) (by decide) (by decide) e22 (by decide) (by decide)
  obtain ⟨rfl, N25, rfl⟩ := hQ25
  have S26 : own_Go p e below s₁ G T25 (mkF m 48 #[.val (.ref x), .val (.ref b), .val (.int (0 : Int32)), .val (.int (Int32.ofNat cs.length)), .val .null, .val (.ref t)] [(.int cd), (.ref x)]) := fun tg_ kk_ => S24 tg_ (st25 tg_ kk_)
  have M2 := Fr.app M1 N25
  have htx : t ≠ x := Nat.ne_of_gt (Nat.lt_of_lt_of_le Ex.lt ht)
  have Ex1 := Ex.ext E22
  obtain ⟨T27, h27, X27, e27, W27, st27⟩ := putF X25 hx hZ hown (host := "") (Or.inl (hw _ (List.mem_of_getElem? (i := 35) rfl))) Via.refl e25 (Fc.ext E22) Ex1 (Or.inr ⟨(hw _ (List.mem_of_getElem? (i := 36) rfl)), rfl, hnm⟩) (hw _ (List.mem_of_getElem? (i := 10) rfl)) (ty := .byte) (by decide) (by rcases hcM with ⟨rfl, -⟩ | ⟨rfl, -⟩ <;> rfl) (by rcases hcM with ⟨rfl, -⟩ | ⟨rfl, -⟩ <;> rfl) (g := (mkF m 48 #[.val (.ref x), .val (.ref b), .val (.int (0 : Int32)), .val (.int (Int32.ofNat cs.length)), .val .null, .val (.ref t)] [(.int cd), (.ref x)])) rfl rfl (hb hby d4_48)
  have S28 : own_Go p e below s₁ G T27 (mkF m 51 #[.val (.ref x), .val (.ref b), .val (.int (0 : Int32)), .val (.int (Int32.ofNat cs.length)), .val .null, .val (.ref t)] []) := fun tg_ kk_ => S26 tg_ (st27 tg_ kk_)
  have Fc1 := (Fc.ext E22).same W27
  have Fv1 := (Fv.ext E22).other W27 (Or.inr (slot_ne (C := "java/lang/String") (a0 := a0) (Or.inr (hw _ (List.mem_of_getElem? (i := 38) rfl))) (Or.inr (hw _ (List.mem_of_getElem? (i := 36) rfl))) (by decide) (t := .array .byte) (by decide) (t' := .byte) (by decide)))
  have Vt1 := Vt.other W27 htx
  have M3 := Fr.snoc X27 M2 hx0
  have K1 : Keep h0 h27 [x] := ((Keep.refl h0 [x]).ext E22).wr W27 (Or.inl (List.mem_of_getElem? (i := 0) rfl))
  have S29 : own_Go p e below s₁ G T27 (mkF m 54 #[.val (.ref x), .val (.ref b), .val (.int (0 : Int32)), .val (.int (Int32.ofNat cs.length)), .val .null, .val (.ref t)] [(.ref t), (.ref x)]) := fun tg_ kk_ => S28 tg_ (by
    refine XS.aloadN X27.here hx rfl (hb hby d4_51) rfl rfl ?_
    show Steps p.tables e below (T27.setTop (mkF m 52 #[.val (.ref x), .val (.ref b), .val (.int (0 : Int32)), .val (.int (Int32.ofNat cs.length)), .val .null, .val (.ref t)] [(.ref x)])) _
    refine XS.aload X27.here hx rfl (hb hby d4_52) rfl rfl ?_
    exact kk_)
  obtain ⟨T30, h30, X30, e30, W30, st30⟩ := putF X27 hx hZ hown (host := "") (Or.inl (hw _ (List.mem_of_getElem? (i := 37) rfl))) Via.refl e27 Fv1 (Ex1.wr W27) (Or.inr ⟨(hw _ (List.mem_of_getElem? (i := 38) rfl)), rfl, hnm⟩) (hw _ (List.mem_of_getElem? (i := 10) rfl)) (ty := (.array .byte)) (by decide) rfl rfl (g := (mkF m 54 #[.val (.ref x), .val (.ref b), .val (.int (0 : Int32)), .val (.int (Int32.ofNat cs.length)), .val .null, .val (.ref t)] [(.ref t), (.ref x)])) rfl rfl (hb hby d4_54)
  have S31 : own_Go p e below s₁ G T30 (mkF m 57 #[.val (.ref x), .val (.ref b), .val (.int (0 : Int32)), .val (.int (Int32.ofNat cs.length)), .val .null, .val (.ref t)] []) := fun tg_ kk_ => S29 tg_ (st30 tg_ kk_)
  have M4 := Fr.snoc X30 M3 hx0
  have K2 : Keep h0 h30 [x] := K1.wr W30 (Or.inl (List.mem_of_getElem? (i := 0) rfl))
  have SS : own_Str Z h30 x t cs := ⟨(Ex1.wr W27).wr W30, Fv1.same W30, by
    have Fc2 := Fc1.other W30 (Or.inr (slot_ne (C := "java/lang/String") (a0 := a0) (Or.inr (hw _ (List.mem_of_getElem? (i := 36) rfl))) (Or.inr (hw _ (List.mem_of_getElem? (i := 38) rfl))) (by decide) (t := .byte) (by decide) (t' := .array .byte) (by decide)))
    have Vt2 := Vt1.other W30 htx
    rcases hall with ⟨rfl, rfl, rfl, q⟩ | ⟨rfl, rfl, rfl, q⟩
    · exact Or.inl ⟨Fc2, ⟨_, Vt2⟩, q⟩
    · exact Or.inr ⟨Fc2, ⟨_, Vt2⟩, q⟩⟩
  obtain ⟨fs, hr, hrun, hended, hW, hsame⟩ := X30.leave (v := none) (fun _ => rfl)
  refine ⟨_, _, ?_, hrun, hended, _, _, rfl, ?_, ⟨_, rfl⟩, hW, hsame.mono (by decide) (by decide)⟩
  · rw [← hG]; exact S31 _ (X30.returnOut hx Bd.returns (hb hby d4_57) hr)
  · show Q4 Z x b cs h0 n0 _ T30.heap _
    rw [e30]
    exact ⟨rfl, M4, K2, t, ht, SS⟩
def Q3 (Z : State) (x : Addr) (b : Addr) (cs : List Int32) (h0 : Heap) (n0 : Nat) (v : Option Value) (h : Heap) (L : List Loc) : Prop := v = none ∧ Fr n0 L ∧ Keep h0 h [x] ∧ ∃ t, h0.size ≤ t ∧ own_Str Z h x t cs
set_option maxRecDepth 65536 in
set_option maxHeartbeats 40000000 in
theorem rm3 (l : Launch) (Z : State) (a0 : Array Value) (hw : ∀ d ∈ tables_1, d.before a0 Z = true) (ws : List Jvm.Cond) (x : Addr) (b : Addr) (cs : List Int32) (h0 : Heap) (n0 : Nat) (Z0 : n0 ≤ h0.size) (z : Int32) (kb : ClassId) (hn : 1 ≤ cs.length ∧ cs.length ≤ 8) (Ex : Exa Z h0 x "java/lang/String") (Fv : Fld Z h0 x "java/lang/String" "value" "[B" .null) (Fc : Fld Z h0 x "java/lang/String" "coder" "B" (.int 0)) (hx0 : n0 ≤ x) (Vb : Arv Z h0 b kb .char (Int32.ofNat cs.length) (cs.map Value.int) (.int 0)) (O : Old Z n0 h0) (O2 : Sta Z Z.heap "java/lang/String" "COMPACT_STRINGS" "Z" (.int z)) (P5 : ¬ z = 0) (hlat : ∀ j, j < cs.length → ¬ (255 : Int32) < cs.getD j 0) :
    MetFree l (⟨"java/lang/String", "<init>", "([C)V"⟩ : MethodName) (head1 (Jvm.Cond.code (⟨"java/lang/String", "<init>", "([C)V"⟩ : MethodName) jdk_42_method_3_code 2 none :: ws) ({ frames := 3, cells := 1, slots := 8, locals := 53 } : Room)) (fun aa_ U => aa_ = #[(.ref x), (.ref b)] ∧ Z.Warmed39 U.vm ∧ U.heap = h0) (fun _ _ _ _ _ => True) (fun _ U o U' => ∃ v L, o = .returned v ∧ Q3 Z x b cs h0 n0 v U'.heap L ∧ FrameEnd U o U' L ({ frames := 3, cells := 1, slots := 8, locals := 53 } : Room).cells ({ frames := 3, cells := 1, slots := 8, locals := 53 } : Room).slots) := by
  refine MetFree.of_bodySF (plainFor_of_name pn2) hisR ?_
  intro p e s m args below meth c s₁ Bd hml0 hP hK
  obtain ⟨rfl, hZ, hh⟩ := hP
  have hx := Bd.exec
  have hby := Bd.bytes
  have hml : c.maxLocals = 2 := hml0
  have hown : s.vm.findClass "java/lang/String" = some m.cls := findClass_of_methodNamed Bd.named
  have hnm := (name_of_methodNamed Bd.named Bd.method).1
  have X0 : Stand p l e ({ frames := 3, cells := 1, slots := 8, locals := 53 } : Room) s m #[(.ref x), (.ref b)] below meth c s₁ [] 0 0 := Stand.of_body Bd
  have e0 : s₁.heap = h0 := by rw [← hh, Bd.state]; rfl
  have N0 := Fr.nil n0
  obtain ⟨G, hG⟩ : ∃ G, G = entryFrame m #[(.ref x), (.ref b)] 2 := ⟨_, rfl⟩
  have S0 : own_Go p e below s₁ G s₁ (mkF m 0 #[.val (.ref x), .val (.ref b)] []) := fun tg_ kk_ => castTop (by rw [hG]; first | rfl | simp [entryFrame, mkF, argsToLocals, Value.category, maxLocals]) kk_
  obtain ⟨cl, Ar, -, Sz, Mn, H, -⟩ := id Vb
  have S32 : own_Go p e below s₁ G s₁ (mkF m 6 #[.val (.ref x), .val (.ref b)] [.null, (.int (Int32.ofNat cs.length)), (.int (0 : Int32)), (.ref b), (.ref x)]) := fun tg_ kk_ => S0 tg_ (by
    refine XS.aloadN X0.here hx rfl (hb hby d3_0) rfl rfl ?_
    show Steps p.tables e below (s₁.setTop (mkF m 1 #[.val (.ref x), .val (.ref b)] [(.ref x)])) _
    refine XS.aloadN X0.here hx rfl (hb hby d3_1) rfl rfl ?_
    show Steps p.tables e below (s₁.setTop (mkF m 2 #[.val (.ref x), .val (.ref b)] [(.ref b), (.ref x)])) _
    refine XS.iconst X0.here hx rfl (hb hby d3_2) ?_
    show Steps p.tables e below (s₁.setTop (mkF m 3 #[.val (.ref x), .val (.ref b)] [(.int (0 : Int32)), (.ref b), (.ref x)])) _
    refine XS.aloadN X0.here hx rfl (hb hby d3_3) rfl rfl ?_
    show Steps p.tables e below (s₁.setTop (mkF m 4 #[.val (.ref x), .val (.ref b)] [(.ref b), (.int (0 : Int32)), (.ref b), (.ref x)])) _
    refine X0.arraylength hx (cell := cl) (by rw [e0]; exact Ar.1) (State.isArrayOf_alike hZ.alike Ar.2.1) (g := (mkF m 4 #[.val (.ref x), .val (.ref b)] [(.ref b), (.int (0 : Int32)), (.ref b), (.ref x)])) rfl (rest := [(.int (0 : Int32)), (.ref b), (.ref x)]) rfl (hb hby d3_4) _ ?_
    rw [len_of Sz Mn]
    show Steps p.tables e below (s₁.setTop (mkF m 5 #[.val (.ref x), .val (.ref b)] [(.int (Int32.ofNat cs.length)), (.int (0 : Int32)), (.ref b), (.ref x)])) _
    refine XS.aconstNull X0.here hx rfl (hb hby d3_5) ?_
    exact kk_)
  obtain ⟨_, T33, h33, L33, X33, e33, hQ33, st33⟩ := own_callI X0 hx hZ (y := (⟨"java/lang/String", "<init>", "([CIILjava/lang/Void;)V"⟩ : MethodName)) rfl hown (hw _ (List.mem_of_getElem? (i := 16) rfl)) (hw _ (List.mem_of_getElem? (i := 17) rfl)) (hw _ (List.mem_of_getElem? (i := 11) rfl)) (hw _ (List.mem_of_getElem? (i := 19) rfl)) (by decide) 0 (g := (mkF m 6 #[.val (.ref x), .val (.ref b)] [.null, (.int (Int32.ofNat cs.length)), (.int (0 : Int32)), (.ref b), (.ref x)])) rfl (by rw [hml]; rfl) x [(.ref b), (.int (0 : Int32)), (.int (Int32.ofNat cs.length)), .null] [] (rm4 l Z a0 hw [] x b cs h0 n0 Z0 z kb hn Ex Fv Fc hx0 Vb O O2 P5 hlat) (lenOf pd5 rfl) rfl (by show 2 * 0 + _ ≤ _; exact Nat.le_of_eq rfl) (hb hby d3_6) (by decide) (by decide) e0 (by decide) (by decide)
  obtain ⟨rfl, N33, K33, t, ht, SS⟩ := hQ33
  have S34 : own_Go p e below s₁ G T33 (mkF m 9 #[.val (.ref x), .val (.ref b)] []) := fun tg_ kk_ => S32 tg_ (st33 tg_ kk_)
  have M1 := Fr.app N0 N33
  obtain ⟨fs, hr, hrun, hended, hW, hsame⟩ := X33.leave (v := none) (fun _ => rfl)
  refine ⟨_, _, ?_, hrun, hended, _, _, rfl, ?_, ⟨_, rfl⟩, hW, hsame.mono (by decide) (by decide)⟩
  · rw [← hG]; exact S34 _ (X33.returnOut hx Bd.returns (hb hby d3_9) hr)
  · show Q3 Z x b cs h0 n0 _ T33.heap _
    rw [e33]
    exact ⟨rfl, M1, K33, t, ht, SS⟩
def Q11 (Z : State) (x : Addr) (cd : Int32) (h0 : Heap) (n0 : Nat) (v : Option Value) (h : Heap) (L : List Loc) : Prop := v = some (.int cd) ∧ Fr n0 L ∧ h0 = h
set_option maxRecDepth 65536 in
set_option maxHeartbeats 40000000 in
theorem rm11 (l : Launch) (Z : State) (a0 : Array Value) (hw : ∀ d ∈ tables_1, d.before a0 Z = true) (ws : List Jvm.Cond) (x : Addr) (cd : Int32) (h0 : Heap) (n0 : Nat) (Z0 : n0 ≤ h0.size) (z : Int32) (O : Old Z n0 h0) (O2 : Sta Z Z.heap "java/lang/String" "COMPACT_STRINGS" "Z" (.int z)) (P5 : ¬ z = 0) (Fc : Fld Z h0 x "java/lang/String" "coder" "B" (.int cd)) (hcd : cd = 0 ∨ cd = 1) :
    MetFree l (⟨"java/lang/String", "coder", "()B"⟩ : MethodName) (head1 (Jvm.Cond.code (⟨"java/lang/String", "coder", "()B"⟩ : MethodName) jdk_42_method_152_code 1 (some .byte) :: ws) ({ frames := 0, cells := 0, slots := 0, locals := 0 } : Room)) (fun aa_ U => aa_ = #[(.ref x)] ∧ Z.Warmed39 U.vm ∧ U.heap = h0) (fun _ _ _ _ _ => True) (fun _ U o U' => ∃ v L, o = .returned v ∧ Q11 Z x cd h0 n0 v U'.heap L ∧ FrameEnd U o U' L ({ frames := 0, cells := 0, slots := 0, locals := 0 } : Room).cells ({ frames := 0, cells := 0, slots := 0, locals := 0 } : Room).slots) := by
  refine MetFree.of_bodySF (plainFor_of_name pn2) hisR ?_
  intro p e s m args below meth c s₁ Bd hml0 hP hK
  obtain ⟨rfl, hZ, hh⟩ := hP
  have hx := Bd.exec
  have hby := Bd.bytes
  have hml : c.maxLocals = 1 := hml0
  have hown : s.vm.findClass "java/lang/String" = some m.cls := findClass_of_methodNamed Bd.named
  have hnm := (name_of_methodNamed Bd.named Bd.method).1
  have X0 : Stand p l e ({ frames := 0, cells := 0, slots := 0, locals := 0 } : Room) s m #[(.ref x)] below meth c s₁ [] 0 0 := Stand.of_body Bd
  have e0 : s₁.heap = h0 := by rw [← hh, Bd.state]; rfl
  have N0 := Fr.nil n0
  obtain ⟨G, hG⟩ : ∃ G, G = entryFrame m #[(.ref x)] 1 := ⟨_, rfl⟩
  have S0 : own_Go p e below s₁ G s₁ (mkF m 0 #[.val (.ref x)] []) := fun tg_ kk_ => castTop (by rw [hG]; first | rfl | simp [entryFrame, mkF, argsToLocals, Value.category, maxLocals]) kk_
  obtain ⟨T35, X35, e35, st35⟩ := getS X0 hx hZ (host := "") hown (hw _ (List.mem_of_getElem? (i := 23) rfl)) Via.refl e0 (O2.ext O.2) (g := (mkF m 0 #[.val (.ref x)] [])) rfl (hb hby d11_0)
  have S36 : own_Go p e below s₁ G T35 (mkF m 3 #[.val (.ref x)] [(.int z)]) := fun tg_ kk_ => S0 tg_ (st35 tg_ kk_)
  have S37 : own_Go p e below s₁ G T35 (mkF m 7 #[.val (.ref x)] [(.ref x)]) := fun tg_ kk_ => S36 tg_ (by
    refine XS.ifNo X35.here hx rfl (hb hby d11_3) rfl (XT.i0_eq_f P5) ?_
    show Steps p.tables e below (T35.setTop (mkF m 6 #[.val (.ref x)] [])) _
    refine XS.aloadN X35.here hx rfl (hb hby d11_6) rfl rfl ?_
    exact kk_)
  obtain ⟨T38, X38, e38, st38⟩ := getF X35 hx hZ hown (host := "") (Or.inl (hw _ (List.mem_of_getElem? (i := 35) rfl))) Via.refl e35 Fc (g := (mkF m 7 #[.val (.ref x)] [(.ref x)])) rfl rfl (hb hby d11_7)
  have S39 : own_Go p e below s₁ G T38 (mkF m 10 #[.val (.ref x)] [(.int cd)]) := fun tg_ kk_ => S37 tg_ (st38 tg_ kk_)
  have S40 : own_Go p e below s₁ G T38 (mkF m 14 #[.val (.ref x)] [(.int cd)]) := fun tg_ kk_ => S39 tg_ (by
    refine XS.goto X38.here hx rfl (pc0 := 10) (pc' := 14) rfl (hb hby d11_10) (by decide) (by decide) ?_
    exact kk_)
  rcases hcd with rfl | rfl
  · have _ := N0
    obtain ⟨fs, hr, hrun, hended, hW, hsame⟩ := X38.leave (v := some (.int (0 : Int32))) (fun h => by rw [Bd.returns] at h; cases h)
    refine ⟨_, _, ?_, hrun, hended, _, _, rfl, ?_, ⟨_, rfl⟩, hW, hsame.mono (by decide) (by decide)⟩
    · rw [← hG]; exact S40 _ (retN X38 hx (t := .byte) Bd.returns (by simp) (hb hby d11_14) hr)
    · show Q11 Z x (0 : Int32) h0 n0 _ T38.heap _
      rw [e38]
      exact ⟨rfl, N0, rfl⟩
  · have _ := N0
    obtain ⟨fs, hr, hrun, hended, hW, hsame⟩ := X38.leave (v := some (.int (1 : Int32))) (fun h => by rw [Bd.returns] at h; cases h)
    refine ⟨_, _, ?_, hrun, hended, _, _, rfl, ?_, ⟨_, rfl⟩, hW, hsame.mono (by decide) (by decide)⟩
    · rw [← hG]; exact S40 _ (retN X38 hx (t := .byte) Bd.returns (by simp) (hb hby d11_14) hr)
    · show Q11 Z x (1 : Int32) h0 n0 _ T38.heap _
      rw [e38]
      exact ⟨rfl, N0, rfl⟩
def Q13 (Z : State) (x : Addr) (cd : Int32) (h0 : Heap) (n0 : Nat) (v : Option Value) (h : Heap) (L : List Loc) : Prop := v = some (.int (1 - cd)) ∧ Fr n0 L ∧ h0 = h
set_option maxRecDepth 65536 in
set_option maxHeartbeats 40000000 in
theorem rm13 (l : Launch) (Z : State) (a0 : Array Value) (hw : ∀ d ∈ tables_1, d.before a0 Z = true) (ws : List Jvm.Cond) (x : Addr) (cd : Int32) (h0 : Heap) (n0 : Nat) (Z0 : n0 ≤ h0.size) (z : Int32) (O : Old Z n0 h0) (O2 : Sta Z Z.heap "java/lang/String" "COMPACT_STRINGS" "Z" (.int z)) (P5 : ¬ z = 0) (Fc : Fld Z h0 x "java/lang/String" "coder" "B" (.int cd)) (hcd : cd = 0 ∨ cd = 1) :
    MetFree l (⟨"java/lang/String", "isLatin1", "()Z"⟩ : MethodName) (head1 (Jvm.Cond.code (⟨"java/lang/String", "isLatin1", "()Z"⟩ : MethodName) jdk_42_method_154_code 1 (some .boolean) :: ws) ({ frames := 0, cells := 0, slots := 0, locals := 0 } : Room)) (fun aa_ U => aa_ = #[(.ref x)] ∧ Z.Warmed39 U.vm ∧ U.heap = h0) (fun _ _ _ _ _ => True) (fun _ U o U' => ∃ v L, o = .returned v ∧ Q13 Z x cd h0 n0 v U'.heap L ∧ FrameEnd U o U' L ({ frames := 0, cells := 0, slots := 0, locals := 0 } : Room).cells ({ frames := 0, cells := 0, slots := 0, locals := 0 } : Room).slots) := by
  refine MetFree.of_bodySF (plainFor_of_name pn2) hisR ?_
  intro p e s m args below meth c s₁ Bd hml0 hP hK
  obtain ⟨rfl, hZ, hh⟩ := hP
  have hx := Bd.exec
  have hby := Bd.bytes
  have hml : c.maxLocals = 1 := hml0
  have hown : s.vm.findClass "java/lang/String" = some m.cls := findClass_of_methodNamed Bd.named
  have hnm := (name_of_methodNamed Bd.named Bd.method).1
  have X0 : Stand p l e ({ frames := 0, cells := 0, slots := 0, locals := 0 } : Room) s m #[(.ref x)] below meth c s₁ [] 0 0 := Stand.of_body Bd
  have e0 : s₁.heap = h0 := by rw [← hh, Bd.state]; rfl
  have N0 := Fr.nil n0
  obtain ⟨G, hG⟩ : ∃ G, G = entryFrame m #[(.ref x)] 1 := ⟨_, rfl⟩
  have S0 : own_Go p e below s₁ G s₁ (mkF m 0 #[.val (.ref x)] []) := fun tg_ kk_ => castTop (by rw [hG]; first | rfl | simp [entryFrame, mkF, argsToLocals, Value.category, maxLocals]) kk_
  obtain ⟨T41, X41, e41, st41⟩ := getS X0 hx hZ (host := "") hown (hw _ (List.mem_of_getElem? (i := 23) rfl)) Via.refl e0 (O2.ext O.2) (g := (mkF m 0 #[.val (.ref x)] [])) rfl (hb hby d13_0)
  have S42 : own_Go p e below s₁ G T41 (mkF m 3 #[.val (.ref x)] [(.int z)]) := fun tg_ kk_ => S0 tg_ (st41 tg_ kk_)
  have S43 : own_Go p e below s₁ G T41 (mkF m 7 #[.val (.ref x)] [(.ref x)]) := fun tg_ kk_ => S42 tg_ (by
    refine XS.ifNo X41.here hx rfl (hb hby d13_3) rfl (XT.i0_eq_f P5) ?_
    show Steps p.tables e below (T41.setTop (mkF m 6 #[.val (.ref x)] [])) _
    refine XS.aloadN X41.here hx rfl (hb hby d13_6) rfl rfl ?_
    exact kk_)
  obtain ⟨T44, X44, e44, st44⟩ := getF X41 hx hZ hown (host := "") (Or.inl (hw _ (List.mem_of_getElem? (i := 35) rfl))) Via.refl e41 Fc (g := (mkF m 7 #[.val (.ref x)] [(.ref x)])) rfl rfl (hb hby d13_7)
  have S45 : own_Go p e below s₁ G T44 (mkF m 10 #[.val (.ref x)] [(.int cd)]) := fun tg_ kk_ => S43 tg_ (st44 tg_ kk_)
  rcases hcd with rfl | rfl
  · have _ := N0
    have S46 : own_Go p e below s₁ G T44 (mkF m 18 #[.val (.ref x)] [(.int (1 : Int32))]) := fun tg_ kk_ => S45 tg_ (by
      refine XS.ifNo X44.here hx rfl (hb hby d13_10) rfl (XT.i0_ne_f (by decide)) ?_
      show Steps p.tables e below (T44.setTop (mkF m 13 #[.val (.ref x)] [])) _
      refine XS.iconst X44.here hx rfl (hb hby d13_13) ?_
      show Steps p.tables e below (T44.setTop (mkF m 14 #[.val (.ref x)] [(.int (1 : Int32))])) _
      refine XS.goto X44.here hx rfl (pc0 := 14) (pc' := 18) rfl (hb hby d13_14) (by decide) (by decide) ?_
      exact kk_)
    obtain ⟨fs, hr, hrun, hended, hW, hsame⟩ := X44.leave (v := some (.int (1 : Int32))) (fun h => by rw [Bd.returns] at h; cases h)
    refine ⟨_, _, ?_, hrun, hended, _, _, rfl, ?_, ⟨_, rfl⟩, hW, hsame.mono (by decide) (by decide)⟩
    · rw [← hG]; exact S46 _ (retN X44 hx (t := .boolean) Bd.returns (by simp) (hb hby d13_18) hr)
    · show Q13 Z x (0 : Int32) h0 n0 _ T44.heap _
      rw [e44]
      exact ⟨rfl, N0, rfl⟩
  · have _ := N0
    have S47 : own_Go p e below s₁ G T44 (mkF m 18 #[.val (.ref x)] [(.int (0 : Int32))]) := fun tg_ kk_ => S45 tg_ (by
      refine XS.ifYes X44.here hx rfl (pc0 := 10) (pc' := 17) rfl (hb hby d13_10) rfl (XT.i0_ne_t (by decide)) (by decide) (by decide) ?_
      show Steps p.tables e below (T44.setTop (mkF m 17 #[.val (.ref x)] [])) _
      refine XS.iconst X44.here hx rfl (hb hby d13_17) ?_
      exact kk_)
    obtain ⟨fs, hr, hrun, hended, hW, hsame⟩ := X44.leave (v := some (.int (0 : Int32))) (fun h => by rw [Bd.returns] at h; cases h)
    refine ⟨_, _, ?_, hrun, hended, _, _, rfl, ?_, ⟨_, rfl⟩, hW, hsame.mono (by decide) (by decide)⟩
    · rw [← hG]; exact S47 _ (retN X44 hx (t := .boolean) Bd.returns (by simp) (hb hby d13_18) hr)
    · show Q13 Z x (1 : Int32) h0 n0 _ T44.heap _
      rw [e44]
      exact ⟨rfl, N0, rfl⟩
def Q10 (Z : State) (x : Addr) (t : Addr) (cs : List Int32) (h0 : Heap) (n0 : Nat) (v : Option Value) (h : Heap) (L : List Loc) : Prop := v = some (.int (Int32.ofNat cs.length)) ∧ Fr n0 L ∧ h0 = h
set_option maxRecDepth 65536 in
set_option maxHeartbeats 40000000 in
theorem rm10 (l : Launch) (Z : State) (a0 : Array Value) (hw : ∀ d ∈ tables_1, d.before a0 Z = true) (ws : List Jvm.Cond) (x : Addr) (t : Addr) (cs : List Int32) (h0 : Heap) (n0 : Nat) (Z0 : n0 ≤ h0.size) (z : Int32) (O : Old Z n0 h0) (O2 : Sta Z Z.heap "java/lang/String" "COMPACT_STRINGS" "Z" (.int z)) (P5 : ¬ z = 0) (S : own_Str Z h0 x t cs) (hn : cs.length ≤ 1000) :
    MetFree l (⟨"java/lang/String", "length", "()I"⟩ : MethodName) (head1 (Jvm.Cond.code (⟨"java/lang/String", "length", "()I"⟩ : MethodName) jdk_42_method_54_code 1 (some .int) :: ws) ({ frames := 1, cells := 0, slots := 0, locals := 14 } : Room)) (fun aa_ U => aa_ = #[(.ref x)] ∧ Z.Warmed39 U.vm ∧ U.heap = h0) (fun _ _ _ _ _ => True) (fun _ U o U' => ∃ v L, o = .returned v ∧ Q10 Z x t cs h0 n0 v U'.heap L ∧ FrameEnd U o U' L ({ frames := 1, cells := 0, slots := 0, locals := 14 } : Room).cells ({ frames := 1, cells := 0, slots := 0, locals := 14 } : Room).slots) := by
  refine MetFree.of_bodySF (plainFor_of_name pn2) hisR ?_
  intro p e s m args below meth c s₁ Bd hml0 hP hK
  obtain ⟨rfl, hZ, hh⟩ := hP
  have hx := Bd.exec
  have hby := Bd.bytes
  have hml : c.maxLocals = 1 := hml0
  have hown : s.vm.findClass "java/lang/String" = some m.cls := findClass_of_methodNamed Bd.named
  have hnm := (name_of_methodNamed Bd.named Bd.method).1
  have X0 : Stand p l e ({ frames := 1, cells := 0, slots := 0, locals := 14 } : Room) s m #[(.ref x)] below meth c s₁ [] 0 0 := Stand.of_body Bd
  have e0 : s₁.heap = h0 := by rw [← hh, Bd.state]; rfl
  have N0 := Fr.nil n0
  obtain ⟨G, hG⟩ : ∃ G, G = entryFrame m #[(.ref x)] 1 := ⟨_, rfl⟩
  have S0 : own_Go p e below s₁ G s₁ (mkF m 0 #[.val (.ref x)] []) := fun tg_ kk_ => castTop (by rw [hG]; first | rfl | simp [entryFrame, mkF, argsToLocals, Value.category, maxLocals]) kk_
  rcases S.2.2 with ⟨Fc, ⟨kt, V⟩, -⟩ | ⟨Fc, ⟨kt, V⟩, -⟩
  · obtain ⟨cl, Ar, -, Sz, Mn, -, -⟩ := V
    have S48 : own_Go p e below s₁ G s₁ (mkF m 1 #[.val (.ref x)] [(.ref x)]) := fun tg_ kk_ => S0 tg_ (by
      refine XS.aloadN X0.here hx rfl (hb hby d10_0) rfl rfl ?_
      exact kk_)
    obtain ⟨T49, X49, e49, st49⟩ := getF X0 hx hZ hown (host := "") (Or.inl (hw _ (List.mem_of_getElem? (i := 37) rfl))) Via.refl e0 S.2.1 (g := (mkF m 1 #[.val (.ref x)] [(.ref x)])) rfl rfl (hb hby d10_1)
    have S50 : own_Go p e below s₁ G T49 (mkF m 4 #[.val (.ref x)] [(.ref t)]) := fun tg_ kk_ => S48 tg_ (st49 tg_ kk_)
    have S51 : own_Go p e below s₁ G T49 (mkF m 6 #[.val (.ref x)] [(.ref x), (.int (Int32.ofNat cs.length))]) := fun tg_ kk_ => S50 tg_ (by
      refine X49.arraylength hx (cell := cl) (by rw [e49]; exact Ar.1) (State.isArrayOf_alike hZ.alike Ar.2.1) (g := (mkF m 4 #[.val (.ref x)] [(.ref t)])) rfl (rest := []) rfl (hb hby d10_4) _ ?_
      rw [len_of Sz Mn]
      show Steps p.tables e below (T49.setTop (mkF m 5 #[.val (.ref x)] [(.int (Int32.ofNat cs.length))])) _
      refine XS.aloadN X49.here hx rfl (hb hby d10_5) rfl rfl ?_
      exact kk_)
    obtain ⟨_, T52, h52, L52, X52, e52, hQ52, st52⟩ := own_callV X49 hx hZ (y := (⟨"java/lang/String", "coder", "()B"⟩ : MethodName)) hown (hw _ (List.mem_of_getElem? (i := 48) rfl)) (hw _ (List.mem_of_getElem? (i := 49) rfl)) (hw _ (List.mem_of_getElem? (i := 51) rfl)) (hw _ (List.mem_of_getElem? (i := 50) rfl)) (hw _ (List.mem_of_getElem? (i := 11) rfl)) (hw _ (List.mem_of_getElem? (i := 52) rfl)) (by decide) 1 (g := (mkF m 6 #[.val (.ref x)] [(.ref x), (.int (Int32.ofNat cs.length))])) rfl (by rw [hml]; rfl) x S.1 [] [(.int (Int32.ofNat cs.length))] (rm11 l Z a0 hw [] x (0 : Int32) h0 n0 Z0 z O O2 P5 Fc (Or.inl rfl)) (lenOf pd12 rfl) rfl (by show 2 * 0 + _ ≤ _; exact Nat.le_of_eq rfl) (hb hby d10_6) (by decide) (by decide) e49 (by decide) (by decide)
    obtain ⟨rfl, N52, rfl⟩ := hQ52
    have S53 : own_Go p e below s₁ G T52 (mkF m 9 #[.val (.ref x)] [(.int (0 : Int32)), (.int (Int32.ofNat cs.length))]) := fun tg_ kk_ => S51 tg_ (st52 tg_ kk_)
    have M1 := Fr.app N0 N52
    have S54 : own_Go p e below s₁ G T52 (mkF m 10 #[.val (.ref x)] [(.int ((Int32.ofNat cs.length) >>> ((0 : Int32) &&& 31)))]) := fun tg_ kk_ => S53 tg_ (by
      refine XT.ishr X52.here hx rfl (hb hby d10_9) rfl ?_
      exact kk_)
    rw [own_shr0] at S54
    obtain ⟨fs, hr, hrun, hended, hW, hsame⟩ := X52.leave (v := some (.int (Int32.ofNat cs.length))) (fun h => by rw [Bd.returns] at h; cases h)
    refine ⟨_, _, ?_, hrun, hended, _, _, rfl, ?_, ⟨_, rfl⟩, hW, hsame.mono (by decide) (by decide)⟩
    · rw [← hG]; exact S54 _ (retI X52 hx Bd.returns (hb hby d10_10) hr)
    · show Q10 Z x t cs h0 n0 _ T52.heap _
      rw [e52]
      exact ⟨rfl, M1, rfl⟩
  · obtain ⟨cl, Ar, -, Sz, Mn, -, -⟩ := V
    have S55 : own_Go p e below s₁ G s₁ (mkF m 1 #[.val (.ref x)] [(.ref x)]) := fun tg_ kk_ => S0 tg_ (by
      refine XS.aloadN X0.here hx rfl (hb hby d10_0) rfl rfl ?_
      exact kk_)
    obtain ⟨T56, X56, e56, st56⟩ := getF X0 hx hZ hown (host := "") (Or.inl (hw _ (List.mem_of_getElem? (i := 37) rfl))) Via.refl e0 S.2.1 (g := (mkF m 1 #[.val (.ref x)] [(.ref x)])) rfl rfl (hb hby d10_1)
    have S57 : own_Go p e below s₁ G T56 (mkF m 4 #[.val (.ref x)] [(.ref t)]) := fun tg_ kk_ => S55 tg_ (st56 tg_ kk_)
    have S58 : own_Go p e below s₁ G T56 (mkF m 6 #[.val (.ref x)] [(.ref x), (.int (Int32.ofNat (2 * cs.length)))]) := fun tg_ kk_ => S57 tg_ (by
      refine X56.arraylength hx (cell := cl) (by rw [e56]; exact Ar.1) (State.isArrayOf_alike hZ.alike Ar.2.1) (g := (mkF m 4 #[.val (.ref x)] [(.ref t)])) rfl (rest := []) rfl (hb hby d10_4) _ ?_
      rw [len_of Sz Mn]
      show Steps p.tables e below (T56.setTop (mkF m 5 #[.val (.ref x)] [(.int (Int32.ofNat (2 * cs.length)))])) _
      refine XS.aloadN X56.here hx rfl (hb hby d10_5) rfl rfl ?_
      exact kk_)
    obtain ⟨_, T59, h59, L59, X59, e59, hQ59, st59⟩ := own_callV X56 hx hZ (y := (⟨"java/lang/String", "coder", "()B"⟩ : MethodName)) hown (hw _ (List.mem_of_getElem? (i := 48) rfl)) (hw _ (List.mem_of_getElem? (i := 49) rfl)) (hw _ (List.mem_of_getElem? (i := 51) rfl)) (hw _ (List.mem_of_getElem? (i := 50) rfl)) (hw _ (List.mem_of_getElem? (i := 11) rfl)) (hw _ (List.mem_of_getElem? (i := 52) rfl)) (by decide) 1 (g := (mkF m 6 #[.val (.ref x)] [(.ref x), (.int (Int32.ofNat (2 * cs.length)))])) rfl (by rw [hml]; rfl) x S.1 [] [(.int (Int32.ofNat (2 * cs.length)))] (rm11 l Z a0 hw [] x (1 : Int32) h0 n0 Z0 z O O2 P5 Fc (Or.inr rfl)) (lenOf pd12 rfl) rfl (by show 2 * 0 + _ ≤ _; exact Nat.le_of_eq rfl) (hb hby d10_6) (by decide) (by decide) e56 (by decide) (by decide)
    obtain ⟨rfl, N59, rfl⟩ := hQ59
    have S60 : own_Go p e below s₁ G T59 (mkF m 9 #[.val (.ref x)] [(.int (1 : Int32)), (.int (Int32.ofNat (2 * cs.length)))]) := fun tg_ kk_ => S58 tg_ (st59 tg_ kk_)
    have M1 := Fr.app N0 N59
    have S61 : own_Go p e below s₁ G T59 (mkF m 10 #[.val (.ref x)] [(.int ((Int32.ofNat (2 * cs.length)) >>> ((1 : Int32) &&& 31)))]) := fun tg_ kk_ => S60 tg_ (by
      refine XT.ishr X59.here hx rfl (hb hby d10_9) rfl ?_
      exact kk_)
    rw [own_shr1 (by omega)] at S61
    obtain ⟨fs, hr, hrun, hended, hW, hsame⟩ := X59.leave (v := some (.int (Int32.ofNat cs.length))) (fun h => by rw [Bd.returns] at h; cases h)
    refine ⟨_, _, ?_, hrun, hended, _, _, rfl, ?_, ⟨_, rfl⟩, hW, hsame.mono (by decide) (by decide)⟩
    · rw [← hG]; exact S61 _ (retI X59 hx Bd.returns (hb hby d10_10) hr)
    · show Q10 Z x t cs h0 n0 _ T59.heap _
      rw [e59]
      exact ⟨rfl, M1, rfl⟩
/-- the constants whose text is held -/
def own_EL : List (String × Nat) := [("java/lang/String", 7)]
theorem own_wS0 {Z : State} {a0 : Array Value} (hw : ∀ d ∈ tables_1, d.before a0 Z = true) : ∀ a ∈ Bundle.stringAtoms, a.before a0 Z = true := by
  intro a ha
  have h : ∀ a ∈ Bundle.stringAtoms, a ∈ tables_1 := by decide +kernel
  exact hw a (h a ha)
theorem own_EW {Z : State} {a0 : Array Value} (hw : ∀ d ∈ tables_1, d.before a0 Z = true) : EW Z a0 own_EL := EW.cons (hw _ (List.mem_of_getElem? (i := 96) rfl)) (by decide) EW.nil
def Q4e (Z : State) (x : Addr) (b : Addr) (h0 : Heap) (n0 : Nat) (v : Option Value) (h : Heap) (L : List Loc) : Prop := v = none ∧ Fr n0 L ∧ Keep h0 h [x] ∧ ∃ t, own_Str Z h x t []
set_option maxRecDepth 65536 in
set_option maxHeartbeats 40000000 in
theorem rm4e (l : Launch) (Z : State) (a0 : Array Value) (hw : ∀ d ∈ tables_1, d.before a0 Z = true) (ws : List Jvm.Cond) (x : Addr) (b : Addr) (h0 : Heap) (n0 : Nat) (Z0 : n0 ≤ h0.size) (Ex : Exa Z h0 x "java/lang/String") (Fv : Fld Z h0 x "java/lang/String" "value" "[B" .null) (Fc : Fld Z h0 x "java/lang/String" "coder" "B" (.int 0)) (hx0 : n0 ≤ x) :
    MetFree l (⟨"java/lang/String", "<init>", "([CIILjava/lang/Void;)V"⟩ : MethodName) (head1 (Jvm.Cond.code (⟨"java/lang/String", "<init>", "([CIILjava/lang/Void;)V"⟩ : MethodName) jdk_42_method_149_code 6 none :: ws) ({ frames := 1, cells := 2, slots := 4, locals := 18 } : Room)) (fun aa_ U => aa_ = #[(.ref x), (.ref b), (.int (0 : Int32)), (.int (0 : Int32)), .null] ∧ Z.Warmed39 U.vm ∧ U.heap = h0 ∧ CHv Z own_EL U.vm h0) (fun _ _ _ _ _ => True) (fun _ U o U' => ∃ v L, o = .returned v ∧ Q4e Z x b h0 n0 v U'.heap L ∧ ReturnedEndW U o U' L ({ frames := 1, cells := 2, slots := 4, locals := 18 } : Room).cells ({ frames := 1, cells := 2, slots := 4, locals := 18 } : Room).slots) := by
  refine MetFree.of_bodySF (plainFor_of_name pn2) hisR ?_
  intro p e s m args below meth c s₁ Bd hml0 hP hK
  obtain ⟨rfl, hZ, hh, hCH⟩ := hP
  have hx := Bd.exec
  have hby := Bd.bytes
  have hml : c.maxLocals = 6 := hml0
  have hown : s.vm.findClass "java/lang/String" = some m.cls := findClass_of_methodNamed Bd.named
  have hnm := (name_of_methodNamed Bd.named Bd.method).1
  have X0 : Stand p l e ({ frames := 1, cells := 2, slots := 4, locals := 18 } : Room) s m #[(.ref x), (.ref b), (.int (0 : Int32)), (.int (0 : Int32)), .null] below meth c s₁ [] 0 0 := Stand.of_body Bd
  have e0 : s₁.heap = h0 := by rw [← hh, Bd.state]; rfl
  have N0 := Fr.nil n0
  obtain ⟨G, hG⟩ : ∃ G, G = entryFrame m #[(.ref x), (.ref b), (.int (0 : Int32)), (.int (0 : Int32)), .null] 6 := ⟨_, rfl⟩
  have S0 : own_Go p e below s₁ G s₁ (mkF m 0 #[.val (.ref x), .val (.ref b), .val (.int (0 : Int32)), .val (.int (0 : Int32)), .val .null, .unset] []) := fun tg_ kk_ => castTop (by rw [hG]; first | (simp [entryFrame, mkF, argsToLocals, Value.category, maxLocals]; done) | rfl) kk_
  have S62 : own_Go p e below s₁ G s₁ (mkF m 1 #[.val (.ref x), .val (.ref b), .val (.int (0 : Int32)), .val (.int (0 : Int32)), .val .null, .unset] [(.ref x)]) := fun tg_ kk_ => S0 tg_ (by
    refine XS.aloadN X0.here hx rfl (hb hby d4_0) rfl rfl ?_
    exact kk_)
  obtain ⟨T63, X63, e63, st63⟩ := initO X0 hx hZ hown (hw _ (List.mem_of_getElem? (i := 20) rfl)) (hw _ (List.mem_of_getElem? (i := 21) rfl)) (hw _ (List.mem_of_getElem? (i := 22) rfl)) e0 (g := (mkF m 1 #[.val (.ref x), .val (.ref b), .val (.int (0 : Int32)), .val (.int (0 : Int32)), .val .null, .unset] [(.ref x)])) rfl (by rw [hml]; rfl) rfl (hb hby d4_1) (by decide) (W := 0) (by show 2 * 0 + _ ≤ _; exact Nat.le_of_eq rfl) (by decide)
  have S64 : own_Go p e below s₁ G T63 (mkF m 4 #[.val (.ref x), .val (.ref b), .val (.int (0 : Int32)), .val (.int (0 : Int32)), .val .null, .unset] []) := fun tg_ kk_ => S62 tg_ (st63 tg_ kk_)
  have S65 : own_Go p e below s₁ G T63 (mkF m 9 #[.val (.ref x), .val (.ref b), .val (.int (0 : Int32)), .val (.int (0 : Int32)), .val .null, .unset] [(.ref x)]) := fun tg_ kk_ => S64 tg_ (by
    refine XS.iloadN X63.here hx rfl (hb hby d4_4) rfl ?_
    show Steps p.tables e below (T63.setTop (mkF m 5 #[.val (.ref x), .val (.ref b), .val (.int (0 : Int32)), .val (.int (0 : Int32)), .val .null, .unset] [(.int (0 : Int32))])) _
    refine XS.ifNo X63.here hx rfl (hb hby d4_5) rfl (XT.i0_ne_f (by decide)) ?_
    show Steps p.tables e below (T63.setTop (mkF m 8 #[.val (.ref x), .val (.ref b), .val (.int (0 : Int32)), .val (.int (0 : Int32)), .val .null, .unset] [])) _
    refine XS.aloadN X63.here hx rfl (hb hby d4_8) rfl rfl ?_
    exact kk_)
  have XW : Stand p l e ({ frames := 1, cells := 2, slots := 4, locals := 18 } : Room) (s.setVm s.vm) m #[(.ref x), (.ref b), (.int (0 : Int32)), (.int (0 : Int32)), .null] below meth c T63 _ _ _ := X63
  obtain ⟨q, TL, hL, kL, t, kt, XL, eL, EL, hSL, hkL, hZL, hownL, Eq, Fqc, Fqv, Vq, hq1, hq2, -, LT, -, stL⟩ := ldcCH (vs := []) (z := (0 : Int32)) XW hx hZ hown (hw _ (List.mem_of_getElem? (i := 96) rfl)) (own_wS0 hw) e63 ((State.WarmedH.refl s).since 0) (Nat.zero_le _) (own_EW hw) (List.mem_of_getElem? (i := 0) rfl) hCH ⟨by decide, rfl⟩ (by decide) rfl (g := (mkF m 9 #[.val (.ref x), .val (.ref b), .val (.int (0 : Int32)), .val (.int (0 : Int32)), .val .null, .unset] [(.ref x)])) rfl (hb hby d4_9) (n := 0) (by decide) (by decide) (by decide) (by decide)
  have S66 : own_Go p e below s₁ G TL (mkF m 11 #[.val (.ref x), .val (.ref b), .val (.int (0 : Int32)), .val (.int (0 : Int32)), .val .null, .unset] [(.ref q), (.ref x)]) := fun tg_ kk_ => S65 tg_ (stL tg_ kk_)
  obtain ⟨T67, X67, e67, st67⟩ := getF XL hx hZL hownL (host := "") (Or.inl (hw _ (List.mem_of_getElem? (i := 37) rfl))) Via.refl eL Fqv (g := (mkF m 11 #[.val (.ref x), .val (.ref b), .val (.int (0 : Int32)), .val (.int (0 : Int32)), .val .null, .unset] [(.ref q), (.ref x)])) rfl rfl (hb hby d4_11)
  have S68 : own_Go p e below s₁ G T67 (mkF m 14 #[.val (.ref x), .val (.ref b), .val (.int (0 : Int32)), .val (.int (0 : Int32)), .val .null, .unset] [(.ref t), (.ref x)]) := fun tg_ kk_ => S66 tg_ (st67 tg_ kk_)
  have Fv1 := Fv.ext EL
  have hxq : x ≠ q := Fld.ne Fv1 Fqv (by simp)
  have Ex1 := Ex.ext EL
  obtain ⟨T69, h69, X69, e69, W69, st69⟩ := putF X67 hx hZL hownL (host := "") (Or.inl (hw _ (List.mem_of_getElem? (i := 37) rfl))) Via.refl e67 Fv1 Ex1 (Or.inr ⟨(hw _ (List.mem_of_getElem? (i := 38) rfl)), rfl, hnm⟩) (hw _ (List.mem_of_getElem? (i := 10) rfl)) (ty := (.array .byte)) (by decide) rfl rfl (g := (mkF m 14 #[.val (.ref x), .val (.ref b), .val (.int (0 : Int32)), .val (.int (0 : Int32)), .val .null, .unset] [(.ref t), (.ref x)])) rfl rfl (hb hby d4_14)
  have S70 : own_Go p e below s₁ G T69 (mkF m 17 #[.val (.ref x), .val (.ref b), .val (.int (0 : Int32)), .val (.int (0 : Int32)), .val .null, .unset] []) := fun tg_ kk_ => S68 tg_ (st69 tg_ kk_)
  have Fv2 := Fv1.same W69
  have Fc2 := (Fc.ext EL).other W69 (Or.inr (slot_ne (C := "java/lang/String") (a0 := a0) (Or.inr (hw _ (List.mem_of_getElem? (i := 36) rfl))) (Or.inr (hw _ (List.mem_of_getElem? (i := 38) rfl))) (by decide) (t := .byte) (by decide) (t' := .array .byte) (by decide)))
  have Fq2 := Fqc.other W69 (Or.inl hxq.symm)
  have htx : t ≠ x := (Exa.neArv Ex1 Vq (hw _ (List.mem_of_getElem? (i := 10) rfl))).symm
  have Vt2 := Vq.other W69 htx
  have M1 := Fr.snoc X69 N0 hx0
  have K1 : Keep h0 h69 [x] := ((Keep.refl h0 [x]).ext EL).wr W69 (Or.inl (List.mem_of_getElem? (i := 0) rfl))
  have hk1 : kL ≤ h69.size := by rw [W69.size]; exact hkL
  have S71 : own_Go p e below s₁ G T69 (mkF m 18 #[.val (.ref x), .val (.ref b), .val (.int (0 : Int32)), .val (.int (0 : Int32)), .val .null, .unset] [(.ref x)]) := fun tg_ kk_ => S70 tg_ (by
    refine XS.aloadN X69.here hx rfl (hb hby d4_17) rfl rfl ?_
    exact kk_)
  have st72 := ldcAgain X69 hx hZL hownL (hw _ (List.mem_of_getElem? (i := 96) rfl)) LT (g := (mkF m 18 #[.val (.ref x), .val (.ref b), .val (.int (0 : Int32)), .val (.int (0 : Int32)), .val .null, .unset] [(.ref x)])) rfl (hb hby d4_18)
  have S73 : own_Go p e below s₁ G T69 (mkF m 20 #[.val (.ref x), .val (.ref b), .val (.int (0 : Int32)), .val (.int (0 : Int32)), .val .null, .unset] [(.ref q), (.ref x)]) := fun tg_ kk_ => S71 tg_ (st72 tg_ kk_)
  obtain ⟨T74, X74, e74, st74⟩ := getF X69 hx hZL hownL (host := "") (Or.inl (hw _ (List.mem_of_getElem? (i := 35) rfl))) Via.refl e69 Fq2 (g := (mkF m 20 #[.val (.ref x), .val (.ref b), .val (.int (0 : Int32)), .val (.int (0 : Int32)), .val .null, .unset] [(.ref q), (.ref x)])) rfl rfl (hb hby d4_20)
  have S75 : own_Go p e below s₁ G T74 (mkF m 23 #[.val (.ref x), .val (.ref b), .val (.int (0 : Int32)), .val (.int (0 : Int32)), .val .null, .unset] [(.int (0 : Int32)), (.ref x)]) := fun tg_ kk_ => S73 tg_ (st74 tg_ kk_)
  obtain ⟨T76, h76, X76, e76, W76, st76⟩ := putF X74 hx hZL hownL (host := "") (Or.inl (hw _ (List.mem_of_getElem? (i := 35) rfl))) Via.refl e74 Fc2 (Ex1.wr W69) (Or.inr ⟨(hw _ (List.mem_of_getElem? (i := 36) rfl)), rfl, hnm⟩) (hw _ (List.mem_of_getElem? (i := 10) rfl)) (ty := .byte) (by decide) rfl rfl (g := (mkF m 23 #[.val (.ref x), .val (.ref b), .val (.int (0 : Int32)), .val (.int (0 : Int32)), .val .null, .unset] [(.int (0 : Int32)), (.ref x)])) rfl rfl (hb hby d4_23)
  have S77 : own_Go p e below s₁ G T76 (mkF m 26 #[.val (.ref x), .val (.ref b), .val (.int (0 : Int32)), .val (.int (0 : Int32)), .val .null, .unset] []) := fun tg_ kk_ => S75 tg_ (st76 tg_ kk_)
  have M2 := Fr.snoc X76 M1 hx0
  have K2 : Keep h0 h76 [x] := K1.wr W76 (Or.inl (List.mem_of_getElem? (i := 0) rfl))
  have hk2 : kL ≤ h76.size := by rw [W76.size]; exact hk1
  have SS : own_Str Z h76 x t [] := ⟨(Ex1.wr W69).wr W76, Fv2.other W76 (Or.inr (slot_ne (C := "java/lang/String") (a0 := a0) (Or.inr (hw _ (List.mem_of_getElem? (i := 38) rfl))) (Or.inr (hw _ (List.mem_of_getElem? (i := 36) rfl))) (by decide) (t := .array .byte) (by decide) (t' := .byte) (by decide))), Or.inl ⟨Fc2.same W76, ⟨kt, Vt2.other W76 htx⟩, fun j hj => absurd hj (Nat.not_lt_zero j)⟩⟩
  obtain ⟨fs, hr, hrun, hended, hend⟩ := X76.leaveW hSL (by rw [e76]; exact hk2) (v := none) (fun _ => rfl)
  refine ⟨_, _, ?_, hrun, hended, _, _, rfl, ?_, hend.1, hend.2.1, hend.2.2.1, hend.2.2.2.mono (by decide) (by decide)⟩
  · rw [← hG]; exact S77 _ (X76.returnOut hx Bd.returns (hb hby d4_26) hr)
  · show Q4e Z x b h0 n0 _ T76.heap _
    rw [e76]
    exact ⟨rfl, M2, K2, t, SS⟩
def Q3e (Z : State) (x : Addr) (b : Addr) (h0 : Heap) (n0 : Nat) (v : Option Value) (h : Heap) (L : List Loc) : Prop := v = none ∧ Fr n0 L ∧ Keep h0 h [x] ∧ ∃ t, own_Str Z h x t []
set_option maxRecDepth 65536 in
set_option maxHeartbeats 40000000 in
theorem rm3e (l : Launch) (Z : State) (a0 : Array Value) (hw : ∀ d ∈ tables_1, d.before a0 Z = true) (ws : List Jvm.Cond) (x : Addr) (b : Addr) (h0 : Heap) (n0 : Nat) (Z0 : n0 ≤ h0.size) (kb : ClassId) (Vb : Arv Z h0 b kb .char (0 : Int32) [] (.int 0)) (Ex : Exa Z h0 x "java/lang/String") (Fv : Fld Z h0 x "java/lang/String" "value" "[B" .null) (Fc : Fld Z h0 x "java/lang/String" "coder" "B" (.int 0)) (hx0 : n0 ≤ x) :
    MetFree l (⟨"java/lang/String", "<init>", "([C)V"⟩ : MethodName) (head1 (Jvm.Cond.code (⟨"java/lang/String", "<init>", "([C)V"⟩ : MethodName) jdk_42_method_3_code 2 none :: ws) ({ frames := 2, cells := 2, slots := 4, locals := 35 } : Room)) (fun aa_ U => aa_ = #[(.ref x), (.ref b)] ∧ Z.Warmed39 U.vm ∧ U.heap = h0 ∧ CHv Z own_EL U.vm h0) (fun _ _ _ _ _ => True) (fun _ U o U' => ∃ v L, o = .returned v ∧ Q3e Z x b h0 n0 v U'.heap L ∧ ReturnedEndW U o U' L ({ frames := 2, cells := 2, slots := 4, locals := 35 } : Room).cells ({ frames := 2, cells := 2, slots := 4, locals := 35 } : Room).slots) := by
  refine MetFree.of_bodySF (plainFor_of_name pn2) hisR ?_
  intro p e s m args below meth c s₁ Bd hml0 hP hK
  obtain ⟨rfl, hZ, hh, hCH⟩ := hP
  have hx := Bd.exec
  have hby := Bd.bytes
  have hml : c.maxLocals = 2 := hml0
  have hown : s.vm.findClass "java/lang/String" = some m.cls := findClass_of_methodNamed Bd.named
  have hnm := (name_of_methodNamed Bd.named Bd.method).1
  have X0 : Stand p l e ({ frames := 2, cells := 2, slots := 4, locals := 35 } : Room) s m #[(.ref x), (.ref b)] below meth c s₁ [] 0 0 := Stand.of_body Bd
  have e0 : s₁.heap = h0 := by rw [← hh, Bd.state]; rfl
  have N0 := Fr.nil n0
  obtain ⟨G, hG⟩ : ∃ G, G = entryFrame m #[(.ref x), (.ref b)] 2 := ⟨_, rfl⟩
  have S0 : own_Go p e below s₁ G s₁ (mkF m 0 #[.val (.ref x), .val (.ref b)] []) := fun tg_ kk_ => castTop (by rw [hG]; first | rfl | simp [entryFrame, mkF, argsToLocals, Value.category, maxLocals]) kk_
  obtain ⟨cl, Ar, -, Sz, Mn, H, -⟩ := id Vb
  have S78 : own_Go p e below s₁ G s₁ (mkF m 6 #[.val (.ref x), .val (.ref b)] [.null, (.int (0 : Int32)), (.int (0 : Int32)), (.ref b), (.ref x)]) := fun tg_ kk_ => S0 tg_ (by
    refine XS.aloadN X0.here hx rfl (hb hby d3_0) rfl rfl ?_
    show Steps p.tables e below (s₁.setTop (mkF m 1 #[.val (.ref x), .val (.ref b)] [(.ref x)])) _
    refine XS.aloadN X0.here hx rfl (hb hby d3_1) rfl rfl ?_
    show Steps p.tables e below (s₁.setTop (mkF m 2 #[.val (.ref x), .val (.ref b)] [(.ref b), (.ref x)])) _
    refine XS.iconst X0.here hx rfl (hb hby d3_2) ?_
    show Steps p.tables e below (s₁.setTop (mkF m 3 #[.val (.ref x), .val (.ref b)] [(.int (0 : Int32)), (.ref b), (.ref x)])) _
    refine XS.aloadN X0.here hx rfl (hb hby d3_3) rfl rfl ?_
    show Steps p.tables e below (s₁.setTop (mkF m 4 #[.val (.ref x), .val (.ref b)] [(.ref b), (.int (0 : Int32)), (.ref b), (.ref x)])) _
    refine X0.arraylength hx (cell := cl) (by rw [e0]; exact Ar.1) (State.isArrayOf_alike hZ.alike Ar.2.1) (g := (mkF m 4 #[.val (.ref x), .val (.ref b)] [(.ref b), (.int (0 : Int32)), (.ref b), (.ref x)])) rfl (rest := [(.int (0 : Int32)), (.ref b), (.ref x)]) rfl (hb hby d3_4) _ ?_
    rw [len_of Sz Mn]
    show Steps p.tables e below (s₁.setTop (mkF m 5 #[.val (.ref x), .val (.ref b)] [(.int (0 : Int32)), (.int (0 : Int32)), (.ref b), (.ref x)])) _
    refine XS.aconstNull X0.here hx rfl (hb hby d3_5) ?_
    exact kk_)
  have XW : Stand p l e ({ frames := 2, cells := 2, slots := 4, locals := 35 } : Room) (s.setVm s.vm) m #[(.ref x), (.ref b)] below meth c s₁ _ _ _ := X0
  have hSW := (State.WarmedH.refl s).since 0
  have hEL := own_EW hw
  obtain ⟨_, T79, h79, L79, X79, e79, hS79, hZ79, hown79, hQ79, st79⟩ := own_callISH XW hx hZ (y := (⟨"java/lang/String", "<init>", "([CIILjava/lang/Void;)V"⟩ : MethodName)) rfl hown (hw _ (List.mem_of_getElem? (i := 16) rfl)) (hw _ (List.mem_of_getElem? (i := 17) rfl)) (hw _ (List.mem_of_getElem? (i := 11) rfl)) (hw _ (List.mem_of_getElem? (i := 19) rfl)) (by decide) 0 (g := (mkF m 6 #[.val (.ref x), .val (.ref b)] [.null, (.int (0 : Int32)), (.int (0 : Int32)), (.ref b), (.ref x)])) rfl (by rw [hml]; rfl) x [(.ref b), (.int (0 : Int32)), (.int (0 : Int32)), .null] [] (rm4e l Z a0 hw [] x b h0 n0 Z0 Ex Fv Fc hx0) (lenOf pd5 rfl) rfl (by show 2 * 0 + _ ≤ _; exact Nat.le_of_eq rfl) (hb hby d3_6) (by decide) (by decide) e0 (by decide) (by decide) hSW (Nat.zero_le _) hEL hCH
  obtain ⟨rfl, N79, K79, t, SS⟩ := hQ79
  have S80 : own_Go p e below s₁ G T79 (mkF m 9 #[.val (.ref x), .val (.ref b)] []) := fun tg_ kk_ => S78 tg_ (st79 tg_ kk_)
  have M1 := Fr.app N0 N79
  obtain ⟨fs, hr, hrun, hended, hend⟩ := X79.leaveW hS79 (by rw [e79]; exact (Nat.le_refl _)) (v := none) (fun _ => rfl)
  refine ⟨_, _, ?_, hrun, hended, _, _, rfl, ?_, hend.1, hend.2.1, hend.2.2.1, hend.2.2.2.mono (by decide) (by decide)⟩
  · rw [← hG]; exact S80 _ (X79.returnOut hx Bd.returns (hb hby d3_9) hr)
  · show Q3e Z x b h0 n0 _ T79.heap _
    rw [e79]
    exact ⟨rfl, M1, K79, t, SS⟩
/-! ## the plain words -/
def own_B (c : Int32) : Prop := ¬ c < 0 ∧ ¬ (255 : Int32) < c
theorem own_B.ch {c : Int32} (h : own_B c) : own_Ch c := ⟨h.1, fun q => h.2 (by rw [Int32.lt_iff_toInt_lt] at *; have e1 : (255 : Int32).toInt = 255 := rfl; have e2 : (65535 : Int32).toInt = 65535 := rfl; omega)⟩
def own_dot (c : Int32) : Bool := decide (c = 46)
def own_word (c : Int32) : Bool := (!decide (c < 97) && !decide (122 < c)) || (!decide (c < 65) && !decide (90 < c)) || (!decide (c < 48) && !decide (57 < c)) || decide (c = 95)
def own_ok (c i n : Int32) : Bool := !decide (i < n) || own_word c || own_dot c
def own_pairB (a b i n : Int32) : Bool := decide (i + 1 < n) && own_dot a && own_dot b
def own_bit (b : Bool) : Int32 := if b then 1 else 0
def own_dotAt (c i n : Int32) : Bool := decide (i < n) && own_dot c
theorem own_lmask (y : Int64) : own_B (y &&& 255).toInt32 := by
  have h1 := c_maskL y 255 8 (by decide) (by decide)
  have h2 := c_l2i (y &&& 255)
  have r := rng32 (y &&& 255).toInt32
  have e1 : (0 : Int32).toInt = 0 := rfl
  have e2 : (255 : Int32).toInt = 255 := rfl
  constructor <;> (rw [Int32.lt_iff_toInt_lt]; omega)
theorem pn3 : plainName "com/example/tallyhook/tallyhook/core/EventTypeIsSegmentsPinLaw" = true := by first | (simp [plainName, overriddenIn]; done) | decide +kernel
def Q1 (Z : State) (x : Int64) (q : Int32) (i : Int32) (h0 : Heap) (n0 : Nat) (v : Option Value) (h : Heap) (L : List Loc) : Prop := ∃ c, own_B c ∧ v = some (.int c) ∧ Fr n0 L ∧ h0 = h
set_option maxRecDepth 65536 in
set_option maxHeartbeats 40000000 in
theorem rm1 (l : Launch) (Z : State) (a0 : Array Value) (hw : ∀ d ∈ tables_1, d.before a0 Z = true) (ws : List Jvm.Cond) (x : Int64) (q : Int32) (i : Int32) (h0 : Heap) (n0 : Nat) (Z0 : n0 ≤ h0.size)  :
    MetFree l (⟨"com/example/tallyhook/tallyhook/core/EventTypeIsSegmentsPinLaw", "ch", "(JII)C"⟩ : MethodName) (head1 (Jvm.Cond.code (⟨"com/example/tallyhook/tallyhook/core/EventTypeIsSegmentsPinLaw", "ch", "(JII)C"⟩ : MethodName) method_3_code 4 (some .char) :: ws) ({ frames := 0, cells := 0, slots := 0, locals := 0 } : Room)) (fun aa_ U => aa_ = #[(.long x), (.int q), (.int i)] ∧ Z.Warmed39 U.vm ∧ U.heap = h0) (fun _ _ _ _ _ => True) (fun _ U o U' => ∃ v L, o = .returned v ∧ Q1 Z x q i h0 n0 v U'.heap L ∧ FrameEnd U o U' L ({ frames := 0, cells := 0, slots := 0, locals := 0 } : Room).cells ({ frames := 0, cells := 0, slots := 0, locals := 0 } : Room).slots) := by
  refine MetFree.of_bodySF (plainFor_of_name pn3) hisR ?_
  intro p e s m args below meth c s₁ Bd hml0 hP hK
  obtain ⟨rfl, hZ, hh⟩ := hP
  have hx := Bd.exec
  have hby := Bd.bytes
  have hml : c.maxLocals = 4 := hml0
  have hown : s.vm.findClass "com/example/tallyhook/tallyhook/core/EventTypeIsSegmentsPinLaw" = some m.cls := findClass_of_methodNamed Bd.named
  have hnm := (name_of_methodNamed Bd.named Bd.method).1
  have X0 : Stand p l e ({ frames := 0, cells := 0, slots := 0, locals := 0 } : Room) s m #[(.long x), (.int q), (.int i)] below meth c s₁ [] 0 0 := Stand.of_body Bd
  have e0 : s₁.heap = h0 := by rw [← hh, Bd.state]; rfl
  have N0 := Fr.nil n0
  obtain ⟨G, hG⟩ : ∃ G, G = entryFrame m #[(.long x), (.int q), (.int i)] 4 := ⟨_, rfl⟩
  have S0 : own_Go p e below s₁ G s₁ (mkF m 0 #[.val (.long x), .second, .val (.int q), .val (.int i)] []) := fun tg_ kk_ => castTop (by rw [hG]; simp [entryFrame, mkF, argsToLocals, Value.category, maxLocals]) kk_
  have S81 : own_Go p e below s₁ G s₁ (mkF m 5 #[.val (.long x), .second, .val (.int q), .val (.int i)] [(.int ((XT.ushr q i) &&& (1 : Int32)))]) := fun tg_ kk_ => S0 tg_ (by
    refine XS.iloadN X0.here hx rfl (hb hby d1_0) rfl ?_
    show Steps p.tables e below (s₁.setTop (mkF m 1 #[.val (.long x), .second, .val (.int q), .val (.int i)] [(.int q)])) _
    refine XS.iloadN X0.here hx rfl (hb hby d1_1) rfl ?_
    show Steps p.tables e below (s₁.setTop (mkF m 2 #[.val (.long x), .second, .val (.int q), .val (.int i)] [(.int i), (.int q)])) _
    refine XT.iushr X0.here hx rfl (hb hby d1_2) rfl ?_
    show Steps p.tables e below (s₁.setTop (mkF m 3 #[.val (.long x), .second, .val (.int q), .val (.int i)] [(.int (XT.ushr q i))])) _
    refine XS.iconst X0.here hx rfl (hb hby d1_3) ?_
    show Steps p.tables e below (s₁.setTop (mkF m 4 #[.val (.long x), .second, .val (.int q), .val (.int i)] [(.int (1 : Int32)), (.int (XT.ushr q i))])) _
    refine XS.iand X0.here hx rfl (hb hby d1_4) rfl ?_
    exact kk_)
  by_cases hc82 : ((XT.ushr q i) &&& (1 : Int32)) = 0
  · have _ := N0
    have S83 : own_Go p e below s₁ G s₁ (mkF m 23 #[.val (.long x), .second, .val (.int q), .val (.int i)] [(.int ((((XT.ushrL x ((8 : Int32) * i)) &&& (255 : Int64)).toInt32).toUInt32.toUInt16.toUInt32.toInt32))]) := fun tg_ kk_ => S81 tg_ (by
      refine XS.ifYes X0.here hx rfl (pc0 := 5) (pc' := 11) rfl (hb hby d1_5) rfl (XT.i0_eq_t hc82) (by decide) (by decide) ?_
      show Steps p.tables e below (s₁.setTop (mkF m 11 #[.val (.long x), .second, .val (.int q), .val (.int i)] [])) _
      refine XT.lloadN X0.here hx rfl (hb hby d1_11) rfl ?_
      show Steps p.tables e below (s₁.setTop (mkF m 12 #[.val (.long x), .second, .val (.int q), .val (.int i)] [(.long x)])) _
      refine XS.bipush X0.here hx rfl (hb hby d1_12) ?_
      show Steps p.tables e below (s₁.setTop (mkF m 14 #[.val (.long x), .second, .val (.int q), .val (.int i)] [(.int (8 : Int32)), (.long x)])) _
      refine XS.iloadN X0.here hx rfl (hb hby d1_14) rfl ?_
      show Steps p.tables e below (s₁.setTop (mkF m 15 #[.val (.long x), .second, .val (.int q), .val (.int i)] [(.int i), (.int (8 : Int32)), (.long x)])) _
      refine XS.imul X0.here hx rfl (hb hby d1_15) rfl ?_
      show Steps p.tables e below (s₁.setTop (mkF m 16 #[.val (.long x), .second, .val (.int q), .val (.int i)] [(.int ((8 : Int32) * i)), (.long x)])) _
      refine XT.lushr X0.here hx rfl (hb hby d1_16) rfl ?_
      show Steps p.tables e below (s₁.setTop (mkF m 17 #[.val (.long x), .second, .val (.int q), .val (.int i)] [(.long (XT.ushrL x ((8 : Int32) * i)))])) _
      refine X0.ldc2Long hx hown (mvT hZ (hw _ (List.mem_of_getElem? (i := 5) rfl))) (g := (mkF m 17 #[.val (.long x), .second, .val (.int q), .val (.int i)] [(.long (XT.ushrL x ((8 : Int32) * i)))])) rfl (hb hby d1_17) _ ?_
      show Steps p.tables e below (s₁.setTop (mkF m 20 #[.val (.long x), .second, .val (.int q), .val (.int i)] [(.long (255 : Int64)), (.long (XT.ushrL x ((8 : Int32) * i)))])) _
      refine XT.land X0.here hx rfl (hb hby d1_20) rfl ?_
      show Steps p.tables e below (s₁.setTop (mkF m 21 #[.val (.long x), .second, .val (.int q), .val (.int i)] [(.long ((XT.ushrL x ((8 : Int32) * i)) &&& (255 : Int64)))])) _
      refine XT.l2i X0.here hx rfl (hb hby d1_21) rfl ?_
      show Steps p.tables e below (s₁.setTop (mkF m 22 #[.val (.long x), .second, .val (.int q), .val (.int i)] [(.int (((XT.ushrL x ((8 : Int32) * i)) &&& (255 : Int64)).toInt32))])) _
      refine XT.i2c X0.here hx rfl (hb hby d1_22) rfl ?_
      exact kk_)
    have hB : own_B (((XT.ushrL x ((8 : Int32) * i)) &&& (255 : Int64)).toInt32) := own_lmask _
    have hq : ((((XT.ushrL x ((8 : Int32) * i)) &&& (255 : Int64)).toInt32).toUInt32.toUInt16.toUInt32.toInt32) = ((XT.ushrL x ((8 : Int32) * i)) &&& (255 : Int64)).toInt32 := own_nar_char hB.ch
    rw [hq] at S83
    obtain ⟨fs, hr, hrun, hended, hW, hsame⟩ := X0.leave (v := some (.int (nar .char (((XT.ushrL x ((8 : Int32) * i)) &&& (255 : Int64)).toInt32)))) (fun h => by rw [Bd.returns] at h; cases h)
    refine ⟨_, _, ?_, hrun, hended, _, _, rfl, ?_, ⟨_, rfl⟩, hW, hsame.mono (by decide) (by decide)⟩
    · rw [← hG]; exact S83 _ (retN X0 hx (t := .char) Bd.returns (by simp) (hb hby d1_23) hr)
    · show Q1 Z x q i h0 n0 _ s₁.heap _
      rw [e0]
      exact ⟨_, hB, by rw [own_nar_char hB.ch], N0, rfl⟩
  · have _ := N0
    have S84 : own_Go p e below s₁ G s₁ (mkF m 10 #[.val (.long x), .second, .val (.int q), .val (.int i)] [(.int (46 : Int32))]) := fun tg_ kk_ => S81 tg_ (by
      refine XS.ifNo X0.here hx rfl (hb hby d1_5) rfl (XT.i0_eq_f hc82) ?_
      show Steps p.tables e below (s₁.setTop (mkF m 8 #[.val (.long x), .second, .val (.int q), .val (.int i)] [])) _
      refine XS.bipush X0.here hx rfl (hb hby d1_8) ?_
      exact kk_)
    obtain ⟨fs, hr, hrun, hended, hW, hsame⟩ := X0.leave (v := some (.int (nar .char (46 : Int32)))) (fun h => by rw [Bd.returns] at h; cases h)
    refine ⟨_, _, ?_, hrun, hended, _, _, rfl, ?_, ⟨_, rfl⟩, hW, hsame.mono (by decide) (by decide)⟩
    · rw [← hG]; exact S84 _ (retN X0 hx (t := .char) Bd.returns (by simp) (hb hby d1_10) hr)
    · show Q1 Z x q i h0 n0 _ s₁.heap _
      rw [e0]
      exact ⟨46, ⟨by decide, by decide⟩, rfl, N0, rfl⟩
def Q20 (Z : State) (c0 : Int32) (h0 : Heap) (n0 : Nat) (v : Option Value) (h : Heap) (L : List Loc) : Prop := ((own_dot c0 = true ∧ v = some (.int 1)) ∨ (own_dot c0 = false ∧ v = some (.int 0))) ∧ Fr n0 L ∧ h0 = h
set_option maxRecDepth 65536 in
set_option maxHeartbeats 40000000 in
theorem rm20 (l : Launch) (Z : State) (a0 : Array Value) (hw : ∀ d ∈ tables_1, d.before a0 Z = true) (ws : List Jvm.Cond) (c0 : Int32) (h0 : Heap) (n0 : Nat) (Z0 : n0 ≤ h0.size)  :
    MetFree l (⟨"com/example/tallyhook/tallyhook/core/EventTypeIsSegmentsPinLaw", "dot", "(C)Z"⟩ : MethodName) (head1 (Jvm.Cond.code (⟨"com/example/tallyhook/tallyhook/core/EventTypeIsSegmentsPinLaw", "dot", "(C)Z"⟩ : MethodName) method_6_code 1 (some .boolean) :: ws) ({ frames := 0, cells := 0, slots := 0, locals := 0 } : Room)) (fun aa_ U => aa_ = #[(.int c0)] ∧ Z.Warmed39 U.vm ∧ U.heap = h0) (fun _ _ _ _ _ => True) (fun _ U o U' => ∃ v L, o = .returned v ∧ Q20 Z c0 h0 n0 v U'.heap L ∧ FrameEnd U o U' L ({ frames := 0, cells := 0, slots := 0, locals := 0 } : Room).cells ({ frames := 0, cells := 0, slots := 0, locals := 0 } : Room).slots) := by
  refine MetFree.of_bodySF (plainFor_of_name pn3) hisR ?_
  intro p e s m args below meth c s₁ Bd hml0 hP hK
  obtain ⟨rfl, hZ, hh⟩ := hP
  have hx := Bd.exec
  have hby := Bd.bytes
  have hml : c.maxLocals = 1 := hml0
  have hown : s.vm.findClass "com/example/tallyhook/tallyhook/core/EventTypeIsSegmentsPinLaw" = some m.cls := findClass_of_methodNamed Bd.named
  have hnm := (name_of_methodNamed Bd.named Bd.method).1
  have X0 : Stand p l e ({ frames := 0, cells := 0, slots := 0, locals := 0 } : Room) s m #[(.int c0)] below meth c s₁ [] 0 0 := Stand.of_body Bd
  have e0 : s₁.heap = h0 := by rw [← hh, Bd.state]; rfl
  have N0 := Fr.nil n0
  obtain ⟨G, hG⟩ : ∃ G, G = entryFrame m #[(.int c0)] 1 := ⟨_, rfl⟩
  have S0 : own_Go p e below s₁ G s₁ (mkF m 0 #[.val (.int c0)] []) := fun tg_ kk_ => castTop (by rw [hG]; first | rfl | simp [entryFrame, mkF, argsToLocals, Value.category, maxLocals]) kk_
  have S85 : own_Go p e below s₁ G s₁ (mkF m 3 #[.val (.int c0)] [(.int (46 : Int32)), (.int c0)]) := fun tg_ kk_ => S0 tg_ (by
    refine XS.iloadN X0.here hx rfl (hb hby d20_0) rfl ?_
    show Steps p.tables e below (s₁.setTop (mkF m 1 #[.val (.int c0)] [(.int c0)])) _
    refine XS.bipush X0.here hx rfl (hb hby d20_1) ?_
    exact kk_)
  by_cases hc86 : c0 = (46 : Int32)
  · have _ := N0
    have S87 : own_Go p e below s₁ G s₁ (mkF m 11 #[.val (.int c0)] [(.int (1 : Int32))]) := fun tg_ kk_ => S85 tg_ (by
      refine XS.icmpNo X0.here hx rfl (hb hby d20_3) rfl (XT.ii_ne_f hc86) ?_
      show Steps p.tables e below (s₁.setTop (mkF m 6 #[.val (.int c0)] [])) _
      refine XS.iconst X0.here hx rfl (hb hby d20_6) ?_
      show Steps p.tables e below (s₁.setTop (mkF m 7 #[.val (.int c0)] [(.int (1 : Int32))])) _
      refine XS.goto X0.here hx rfl (pc0 := 7) (pc' := 11) rfl (hb hby d20_7) (by decide) (by decide) ?_
      exact kk_)
    obtain ⟨fs, hr, hrun, hended, hW, hsame⟩ := X0.leave (v := some (.int (1 : Int32))) (fun h => by rw [Bd.returns] at h; cases h)
    refine ⟨_, _, ?_, hrun, hended, _, _, rfl, ?_, ⟨_, rfl⟩, hW, hsame.mono (by decide) (by decide)⟩
    · rw [← hG]; exact S87 _ (retN X0 hx (t := .boolean) Bd.returns (by simp) (hb hby d20_11) hr)
    · show Q20 Z c0 h0 n0 _ s₁.heap _
      rw [e0]
      exact ⟨Or.inl ⟨by simp [own_dot, hc86], rfl⟩, N0, rfl⟩
  · have _ := N0
    have S88 : own_Go p e below s₁ G s₁ (mkF m 11 #[.val (.int c0)] [(.int (0 : Int32))]) := fun tg_ kk_ => S85 tg_ (by
      refine XS.icmpYes X0.here hx rfl (pc0 := 3) (pc' := 10) rfl (hb hby d20_3) rfl (XT.ii_ne_t hc86) (by decide) (by decide) ?_
      show Steps p.tables e below (s₁.setTop (mkF m 10 #[.val (.int c0)] [])) _
      refine XS.iconst X0.here hx rfl (hb hby d20_10) ?_
      exact kk_)
    obtain ⟨fs, hr, hrun, hended, hW, hsame⟩ := X0.leave (v := some (.int (0 : Int32))) (fun h => by rw [Bd.returns] at h; cases h)
    refine ⟨_, _, ?_, hrun, hended, _, _, rfl, ?_, ⟨_, rfl⟩, hW, hsame.mono (by decide) (by decide)⟩
    · rw [← hG]; exact S88 _ (retN X0 hx (t := .boolean) Bd.returns (by simp) (hb hby d20_11) hr)
    · show Q20 Z c0 h0 n0 _ s₁.heap _
      rw [e0]
      exact ⟨Or.inr ⟨by simp [own_dot, hc86], rfl⟩, N0, rfl⟩
def Q19 (Z : State) (c0 : Int32) (h0 : Heap) (n0 : Nat) (v : Option Value) (h : Heap) (L : List Loc) : Prop := ((own_word c0 = true ∧ v = some (.int 1)) ∨ (own_word c0 = false ∧ v = some (.int 0))) ∧ Fr n0 L ∧ h0 = h
set_option maxRecDepth 65536 in
set_option maxHeartbeats 40000000 in
theorem rm19 (l : Launch) (Z : State) (a0 : Array Value) (hw : ∀ d ∈ tables_1, d.before a0 Z = true) (ws : List Jvm.Cond) (c0 : Int32) (h0 : Heap) (n0 : Nat) (Z0 : n0 ≤ h0.size)  :
    MetFree l (⟨"com/example/tallyhook/tallyhook/core/EventTypeIsSegmentsPinLaw", "word", "(C)Z"⟩ : MethodName) (head1 (Jvm.Cond.code (⟨"com/example/tallyhook/tallyhook/core/EventTypeIsSegmentsPinLaw", "word", "(C)Z"⟩ : MethodName) method_7_code 1 (some .boolean) :: ws) ({ frames := 0, cells := 0, slots := 0, locals := 0 } : Room)) (fun aa_ U => aa_ = #[(.int c0)] ∧ Z.Warmed39 U.vm ∧ U.heap = h0) (fun _ _ _ _ _ => True) (fun _ U o U' => ∃ v L, o = .returned v ∧ Q19 Z c0 h0 n0 v U'.heap L ∧ FrameEnd U o U' L ({ frames := 0, cells := 0, slots := 0, locals := 0 } : Room).cells ({ frames := 0, cells := 0, slots := 0, locals := 0 } : Room).slots) := by
  refine MetFree.of_bodySF (plainFor_of_name pn3) hisR ?_
  intro p e s m args below meth c s₁ Bd hml0 hP hK
  obtain ⟨rfl, hZ, hh⟩ := hP
  have hx := Bd.exec
  have hby := Bd.bytes
  have hml : c.maxLocals = 1 := hml0
  have hown : s.vm.findClass "com/example/tallyhook/tallyhook/core/EventTypeIsSegmentsPinLaw" = some m.cls := findClass_of_methodNamed Bd.named
  have hnm := (name_of_methodNamed Bd.named Bd.method).1
  have X0 : Stand p l e ({ frames := 0, cells := 0, slots := 0, locals := 0 } : Room) s m #[(.int c0)] below meth c s₁ [] 0 0 := Stand.of_body Bd
  have e0 : s₁.heap = h0 := by rw [← hh, Bd.state]; rfl
  have N0 := Fr.nil n0
  obtain ⟨G, hG⟩ : ∃ G, G = entryFrame m #[(.int c0)] 1 := ⟨_, rfl⟩
  have S0 : own_Go p e below s₁ G s₁ (mkF m 0 #[.val (.int c0)] []) := fun tg_ kk_ => castTop (by rw [hG]; first | rfl | simp [entryFrame, mkF, argsToLocals, Value.category, maxLocals]) kk_
  have S89 : own_Go p e below s₁ G s₁ (mkF m 3 #[.val (.int c0)] [(.int (97 : Int32)), (.int c0)]) := fun tg_ kk_ => S0 tg_ (by
    refine XS.iloadN X0.here hx rfl (hb hby d19_0) rfl ?_
    show Steps p.tables e below (s₁.setTop (mkF m 1 #[.val (.int c0)] [(.int c0)])) _
    refine XS.bipush X0.here hx rfl (hb hby d19_1) ?_
    exact kk_)
  by_cases hc90 : c0 < (97 : Int32)
  · have _ := N0
    have S91 : own_Go p e below s₁ G s₁ (mkF m 15 #[.val (.int c0)] [(.int (65 : Int32)), (.int c0)]) := fun tg_ kk_ => S89 tg_ (by
      refine XS.icmpYes X0.here hx rfl (pc0 := 3) (pc' := 12) rfl (hb hby d19_3) rfl (XT.ii_lt_t hc90) (by decide) (by decide) ?_
      show Steps p.tables e below (s₁.setTop (mkF m 12 #[.val (.int c0)] [])) _
      refine XS.iloadN X0.here hx rfl (hb hby d19_12) rfl ?_
      show Steps p.tables e below (s₁.setTop (mkF m 13 #[.val (.int c0)] [(.int c0)])) _
      refine XS.bipush X0.here hx rfl (hb hby d19_13) ?_
      exact kk_)
    by_cases hc92 : c0 < (65 : Int32)
    · have _ := N0
      have S93 : own_Go p e below s₁ G s₁ (mkF m 27 #[.val (.int c0)] [(.int (48 : Int32)), (.int c0)]) := fun tg_ kk_ => S91 tg_ (by
        refine XS.icmpYes X0.here hx rfl (pc0 := 15) (pc' := 24) rfl (hb hby d19_15) rfl (XT.ii_lt_t hc92) (by decide) (by decide) ?_
        show Steps p.tables e below (s₁.setTop (mkF m 24 #[.val (.int c0)] [])) _
        refine XS.iloadN X0.here hx rfl (hb hby d19_24) rfl ?_
        show Steps p.tables e below (s₁.setTop (mkF m 25 #[.val (.int c0)] [(.int c0)])) _
        refine XS.bipush X0.here hx rfl (hb hby d19_25) ?_
        exact kk_)
      by_cases hc94 : c0 < (48 : Int32)
      · have _ := N0
        have S95 : own_Go p e below s₁ G s₁ (mkF m 39 #[.val (.int c0)] [(.int (95 : Int32)), (.int c0)]) := fun tg_ kk_ => S93 tg_ (by
          refine XS.icmpYes X0.here hx rfl (pc0 := 27) (pc' := 36) rfl (hb hby d19_27) rfl (XT.ii_lt_t hc94) (by decide) (by decide) ?_
          show Steps p.tables e below (s₁.setTop (mkF m 36 #[.val (.int c0)] [])) _
          refine XS.iloadN X0.here hx rfl (hb hby d19_36) rfl ?_
          show Steps p.tables e below (s₁.setTop (mkF m 37 #[.val (.int c0)] [(.int c0)])) _
          refine XS.bipush X0.here hx rfl (hb hby d19_37) ?_
          exact kk_)
        by_cases hc96 : c0 = (95 : Int32)
        · have _ := N0
          have S97 : own_Go p e below s₁ G s₁ (mkF m 47 #[.val (.int c0)] [(.int (1 : Int32))]) := fun tg_ kk_ => S95 tg_ (by
            refine XS.icmpNo X0.here hx rfl (hb hby d19_39) rfl (XT.ii_ne_f hc96) ?_
            show Steps p.tables e below (s₁.setTop (mkF m 42 #[.val (.int c0)] [])) _
            refine XS.iconst X0.here hx rfl (hb hby d19_42) ?_
            show Steps p.tables e below (s₁.setTop (mkF m 43 #[.val (.int c0)] [(.int (1 : Int32))])) _
            refine XS.goto X0.here hx rfl (pc0 := 43) (pc' := 47) rfl (hb hby d19_43) (by decide) (by decide) ?_
            exact kk_)
          obtain ⟨fs, hr, hrun, hended, hW, hsame⟩ := X0.leave (v := some (.int (1 : Int32))) (fun h => by rw [Bd.returns] at h; cases h)
          refine ⟨_, _, ?_, hrun, hended, _, _, rfl, ?_, ⟨_, rfl⟩, hW, hsame.mono (by decide) (by decide)⟩
          · rw [← hG]; exact S97 _ (retN X0 hx (t := .boolean) Bd.returns (by simp) (hb hby d19_47) hr)
          · show Q19 Z c0 h0 n0 _ s₁.heap _
            rw [e0]
            exact ⟨Or.inl ⟨by simp [own_word, hc90, hc92, hc94, hc96], rfl⟩, N0, rfl⟩
        · have _ := N0
          have S98 : own_Go p e below s₁ G s₁ (mkF m 47 #[.val (.int c0)] [(.int (0 : Int32))]) := fun tg_ kk_ => S95 tg_ (by
            refine XS.icmpYes X0.here hx rfl (pc0 := 39) (pc' := 46) rfl (hb hby d19_39) rfl (XT.ii_ne_t hc96) (by decide) (by decide) ?_
            show Steps p.tables e below (s₁.setTop (mkF m 46 #[.val (.int c0)] [])) _
            refine XS.iconst X0.here hx rfl (hb hby d19_46) ?_
            exact kk_)
          obtain ⟨fs, hr, hrun, hended, hW, hsame⟩ := X0.leave (v := some (.int (0 : Int32))) (fun h => by rw [Bd.returns] at h; cases h)
          refine ⟨_, _, ?_, hrun, hended, _, _, rfl, ?_, ⟨_, rfl⟩, hW, hsame.mono (by decide) (by decide)⟩
          · rw [← hG]; exact S98 _ (retN X0 hx (t := .boolean) Bd.returns (by simp) (hb hby d19_47) hr)
          · show Q19 Z c0 h0 n0 _ s₁.heap _
            rw [e0]
            exact ⟨Or.inr ⟨by simp [own_word, hc90, hc92, hc94, hc96], rfl⟩, N0, rfl⟩
      · have _ := N0
        have S99 : own_Go p e below s₁ G s₁ (mkF m 33 #[.val (.int c0)] [(.int (57 : Int32)), (.int c0)]) := fun tg_ kk_ => S93 tg_ (by
          refine XS.icmpNo X0.here hx rfl (hb hby d19_27) rfl (XT.ii_lt_f hc94) ?_
          show Steps p.tables e below (s₁.setTop (mkF m 30 #[.val (.int c0)] [])) _
          refine XS.iloadN X0.here hx rfl (hb hby d19_30) rfl ?_
          show Steps p.tables e below (s₁.setTop (mkF m 31 #[.val (.int c0)] [(.int c0)])) _
          refine XS.bipush X0.here hx rfl (hb hby d19_31) ?_
          exact kk_)
        by_cases hc100 : (57 : Int32) < c0
        · have _ := N0
          have S101 : own_Go p e below s₁ G s₁ (mkF m 39 #[.val (.int c0)] [(.int (95 : Int32)), (.int c0)]) := fun tg_ kk_ => S99 tg_ (by
            refine XS.icmpNo X0.here hx rfl (hb hby d19_33) rfl (XT.ii_le_f hc100) ?_
            show Steps p.tables e below (s₁.setTop (mkF m 36 #[.val (.int c0)] [])) _
            refine XS.iloadN X0.here hx rfl (hb hby d19_36) rfl ?_
            show Steps p.tables e below (s₁.setTop (mkF m 37 #[.val (.int c0)] [(.int c0)])) _
            refine XS.bipush X0.here hx rfl (hb hby d19_37) ?_
            exact kk_)
          by_cases hc102 : c0 = (95 : Int32)
          · have _ := N0
            have S103 : own_Go p e below s₁ G s₁ (mkF m 47 #[.val (.int c0)] [(.int (1 : Int32))]) := fun tg_ kk_ => S101 tg_ (by
              refine XS.icmpNo X0.here hx rfl (hb hby d19_39) rfl (XT.ii_ne_f hc102) ?_
              show Steps p.tables e below (s₁.setTop (mkF m 42 #[.val (.int c0)] [])) _
              refine XS.iconst X0.here hx rfl (hb hby d19_42) ?_
              show Steps p.tables e below (s₁.setTop (mkF m 43 #[.val (.int c0)] [(.int (1 : Int32))])) _
              refine XS.goto X0.here hx rfl (pc0 := 43) (pc' := 47) rfl (hb hby d19_43) (by decide) (by decide) ?_
              exact kk_)
            obtain ⟨fs, hr, hrun, hended, hW, hsame⟩ := X0.leave (v := some (.int (1 : Int32))) (fun h => by rw [Bd.returns] at h; cases h)
            refine ⟨_, _, ?_, hrun, hended, _, _, rfl, ?_, ⟨_, rfl⟩, hW, hsame.mono (by decide) (by decide)⟩
            · rw [← hG]; exact S103 _ (retN X0 hx (t := .boolean) Bd.returns (by simp) (hb hby d19_47) hr)
            · show Q19 Z c0 h0 n0 _ s₁.heap _
              rw [e0]
              exact ⟨Or.inl ⟨by simp [own_word, hc90, hc92, hc94, hc100, hc102], rfl⟩, N0, rfl⟩
          · have _ := N0
            have S104 : own_Go p e below s₁ G s₁ (mkF m 47 #[.val (.int c0)] [(.int (0 : Int32))]) := fun tg_ kk_ => S101 tg_ (by
              refine XS.icmpYes X0.here hx rfl (pc0 := 39) (pc' := 46) rfl (hb hby d19_39) rfl (XT.ii_ne_t hc102) (by decide) (by decide) ?_
              show Steps p.tables e below (s₁.setTop (mkF m 46 #[.val (.int c0)] [])) _
              refine XS.iconst X0.here hx rfl (hb hby d19_46) ?_
              exact kk_)
            obtain ⟨fs, hr, hrun, hended, hW, hsame⟩ := X0.leave (v := some (.int (0 : Int32))) (fun h => by rw [Bd.returns] at h; cases h)
            refine ⟨_, _, ?_, hrun, hended, _, _, rfl, ?_, ⟨_, rfl⟩, hW, hsame.mono (by decide) (by decide)⟩
            · rw [← hG]; exact S104 _ (retN X0 hx (t := .boolean) Bd.returns (by simp) (hb hby d19_47) hr)
            · show Q19 Z c0 h0 n0 _ s₁.heap _
              rw [e0]
              exact ⟨Or.inr ⟨by simp [own_word, hc90, hc92, hc94, hc100, hc102], rfl⟩, N0, rfl⟩
        · have _ := N0
          have S105 : own_Go p e below s₁ G s₁ (mkF m 47 #[.val (.int c0)] [(.int (1 : Int32))]) := fun tg_ kk_ => S99 tg_ (by
            refine XS.icmpYes X0.here hx rfl (pc0 := 33) (pc' := 42) rfl (hb hby d19_33) rfl (XT.ii_le_t hc100) (by decide) (by decide) ?_
            show Steps p.tables e below (s₁.setTop (mkF m 42 #[.val (.int c0)] [])) _
            refine XS.iconst X0.here hx rfl (hb hby d19_42) ?_
            show Steps p.tables e below (s₁.setTop (mkF m 43 #[.val (.int c0)] [(.int (1 : Int32))])) _
            refine XS.goto X0.here hx rfl (pc0 := 43) (pc' := 47) rfl (hb hby d19_43) (by decide) (by decide) ?_
            exact kk_)
          obtain ⟨fs, hr, hrun, hended, hW, hsame⟩ := X0.leave (v := some (.int (1 : Int32))) (fun h => by rw [Bd.returns] at h; cases h)
          refine ⟨_, _, ?_, hrun, hended, _, _, rfl, ?_, ⟨_, rfl⟩, hW, hsame.mono (by decide) (by decide)⟩
          · rw [← hG]; exact S105 _ (retN X0 hx (t := .boolean) Bd.returns (by simp) (hb hby d19_47) hr)
          · show Q19 Z c0 h0 n0 _ s₁.heap _
            rw [e0]
            exact ⟨Or.inl ⟨by simp [own_word, hc90, hc92, hc94, hc100], rfl⟩, N0, rfl⟩
    · have _ := N0
      have S106 : own_Go p e below s₁ G s₁ (mkF m 21 #[.val (.int c0)] [(.int (90 : Int32)), (.int c0)]) := fun tg_ kk_ => S91 tg_ (by
        refine XS.icmpNo X0.here hx rfl (hb hby d19_15) rfl (XT.ii_lt_f hc92) ?_
        show Steps p.tables e below (s₁.setTop (mkF m 18 #[.val (.int c0)] [])) _
        refine XS.iloadN X0.here hx rfl (hb hby d19_18) rfl ?_
        show Steps p.tables e below (s₁.setTop (mkF m 19 #[.val (.int c0)] [(.int c0)])) _
        refine XS.bipush X0.here hx rfl (hb hby d19_19) ?_
        exact kk_)
      by_cases hc107 : (90 : Int32) < c0
      · have _ := N0
        have S108 : own_Go p e below s₁ G s₁ (mkF m 27 #[.val (.int c0)] [(.int (48 : Int32)), (.int c0)]) := fun tg_ kk_ => S106 tg_ (by
          refine XS.icmpNo X0.here hx rfl (hb hby d19_21) rfl (XT.ii_le_f hc107) ?_
          show Steps p.tables e below (s₁.setTop (mkF m 24 #[.val (.int c0)] [])) _
          refine XS.iloadN X0.here hx rfl (hb hby d19_24) rfl ?_
          show Steps p.tables e below (s₁.setTop (mkF m 25 #[.val (.int c0)] [(.int c0)])) _
          refine XS.bipush X0.here hx rfl (hb hby d19_25) ?_
          exact kk_)
        by_cases hc109 : c0 < (48 : Int32)
        · have _ := N0
          have S110 : own_Go p e below s₁ G s₁ (mkF m 39 #[.val (.int c0)] [(.int (95 : Int32)), (.int c0)]) := fun tg_ kk_ => S108 tg_ (by
            refine XS.icmpYes X0.here hx rfl (pc0 := 27) (pc' := 36) rfl (hb hby d19_27) rfl (XT.ii_lt_t hc109) (by decide) (by decide) ?_
            show Steps p.tables e below (s₁.setTop (mkF m 36 #[.val (.int c0)] [])) _
            refine XS.iloadN X0.here hx rfl (hb hby d19_36) rfl ?_
            show Steps p.tables e below (s₁.setTop (mkF m 37 #[.val (.int c0)] [(.int c0)])) _
            refine XS.bipush X0.here hx rfl (hb hby d19_37) ?_
            exact kk_)
          by_cases hc111 : c0 = (95 : Int32)
          · have _ := N0
            have S112 : own_Go p e below s₁ G s₁ (mkF m 47 #[.val (.int c0)] [(.int (1 : Int32))]) := fun tg_ kk_ => S110 tg_ (by
              refine XS.icmpNo X0.here hx rfl (hb hby d19_39) rfl (XT.ii_ne_f hc111) ?_
              show Steps p.tables e below (s₁.setTop (mkF m 42 #[.val (.int c0)] [])) _
              refine XS.iconst X0.here hx rfl (hb hby d19_42) ?_
              show Steps p.tables e below (s₁.setTop (mkF m 43 #[.val (.int c0)] [(.int (1 : Int32))])) _
              refine XS.goto X0.here hx rfl (pc0 := 43) (pc' := 47) rfl (hb hby d19_43) (by decide) (by decide) ?_
              exact kk_)
            obtain ⟨fs, hr, hrun, hended, hW, hsame⟩ := X0.leave (v := some (.int (1 : Int32))) (fun h => by rw [Bd.returns] at h; cases h)
            refine ⟨_, _, ?_, hrun, hended, _, _, rfl, ?_, ⟨_, rfl⟩, hW, hsame.mono (by decide) (by decide)⟩
            · rw [← hG]; exact S112 _ (retN X0 hx (t := .boolean) Bd.returns (by simp) (hb hby d19_47) hr)
            · show Q19 Z c0 h0 n0 _ s₁.heap _
              rw [e0]
              exact ⟨Or.inl ⟨by simp [own_word, hc90, hc92, hc107, hc109, hc111], rfl⟩, N0, rfl⟩
          · have _ := N0
            have S113 : own_Go p e below s₁ G s₁ (mkF m 47 #[.val (.int c0)] [(.int (0 : Int32))]) := fun tg_ kk_ => S110 tg_ (by
              refine XS.icmpYes X0.here hx rfl (pc0 := 39) (pc' := 46) rfl (hb hby d19_39) rfl (XT.ii_ne_t hc111) (by decide) (by decide) ?_
              show Steps p.tables e below (s₁.setTop (mkF m 46 #[.val (.int c0)] [])) _
              refine XS.iconst X0.here hx rfl (hb hby d19_46) ?_
              exact kk_)
            obtain ⟨fs, hr, hrun, hended, hW, hsame⟩ := X0.leave (v := some (.int (0 : Int32))) (fun h => by rw [Bd.returns] at h; cases h)
            refine ⟨_, _, ?_, hrun, hended, _, _, rfl, ?_, ⟨_, rfl⟩, hW, hsame.mono (by decide) (by decide)⟩
            · rw [← hG]; exact S113 _ (retN X0 hx (t := .boolean) Bd.returns (by simp) (hb hby d19_47) hr)
            · show Q19 Z c0 h0 n0 _ s₁.heap _
              rw [e0]
              exact ⟨Or.inr ⟨by simp [own_word, hc90, hc92, hc107, hc109, hc111], rfl⟩, N0, rfl⟩
        · have _ := N0
          have S114 : own_Go p e below s₁ G s₁ (mkF m 33 #[.val (.int c0)] [(.int (57 : Int32)), (.int c0)]) := fun tg_ kk_ => S108 tg_ (by
            refine XS.icmpNo X0.here hx rfl (hb hby d19_27) rfl (XT.ii_lt_f hc109) ?_
            show Steps p.tables e below (s₁.setTop (mkF m 30 #[.val (.int c0)] [])) _
            refine XS.iloadN X0.here hx rfl (hb hby d19_30) rfl ?_
            show Steps p.tables e below (s₁.setTop (mkF m 31 #[.val (.int c0)] [(.int c0)])) _
            refine XS.bipush X0.here hx rfl (hb hby d19_31) ?_
            exact kk_)
          by_cases hc115 : (57 : Int32) < c0
          · have _ := N0
            have S116 : own_Go p e below s₁ G s₁ (mkF m 39 #[.val (.int c0)] [(.int (95 : Int32)), (.int c0)]) := fun tg_ kk_ => S114 tg_ (by
              refine XS.icmpNo X0.here hx rfl (hb hby d19_33) rfl (XT.ii_le_f hc115) ?_
              show Steps p.tables e below (s₁.setTop (mkF m 36 #[.val (.int c0)] [])) _
              refine XS.iloadN X0.here hx rfl (hb hby d19_36) rfl ?_
              show Steps p.tables e below (s₁.setTop (mkF m 37 #[.val (.int c0)] [(.int c0)])) _
              refine XS.bipush X0.here hx rfl (hb hby d19_37) ?_
              exact kk_)
            by_cases hc117 : c0 = (95 : Int32)
            · have _ := N0
              have S118 : own_Go p e below s₁ G s₁ (mkF m 47 #[.val (.int c0)] [(.int (1 : Int32))]) := fun tg_ kk_ => S116 tg_ (by
                refine XS.icmpNo X0.here hx rfl (hb hby d19_39) rfl (XT.ii_ne_f hc117) ?_
                show Steps p.tables e below (s₁.setTop (mkF m 42 #[.val (.int c0)] [])) _
                refine XS.iconst X0.here hx rfl (hb hby d19_42) ?_
                show Steps p.tables e below (s₁.setTop (mkF m 43 #[.val (.int c0)] [(.int (1 : Int32))])) _
                refine XS.goto X0.here hx rfl (pc0 := 43) (pc' := 47) rfl (hb hby d19_43) (by decide) (by decide) ?_
                exact kk_)
              obtain ⟨fs, hr, hrun, hended, hW, hsame⟩ := X0.leave (v := some (.int (1 : Int32))) (fun h => by rw [Bd.returns] at h; cases h)
              refine ⟨_, _, ?_, hrun, hended, _, _, rfl, ?_, ⟨_, rfl⟩, hW, hsame.mono (by decide) (by decide)⟩
              · rw [← hG]; exact S118 _ (retN X0 hx (t := .boolean) Bd.returns (by simp) (hb hby d19_47) hr)
              · show Q19 Z c0 h0 n0 _ s₁.heap _
                rw [e0]
                exact ⟨Or.inl ⟨by simp [own_word, hc90, hc92, hc107, hc109, hc115, hc117], rfl⟩, N0, rfl⟩
            · have _ := N0
              have S119 : own_Go p e below s₁ G s₁ (mkF m 47 #[.val (.int c0)] [(.int (0 : Int32))]) := fun tg_ kk_ => S116 tg_ (by
                refine XS.icmpYes X0.here hx rfl (pc0 := 39) (pc' := 46) rfl (hb hby d19_39) rfl (XT.ii_ne_t hc117) (by decide) (by decide) ?_
                show Steps p.tables e below (s₁.setTop (mkF m 46 #[.val (.int c0)] [])) _
                refine XS.iconst X0.here hx rfl (hb hby d19_46) ?_
                exact kk_)
              obtain ⟨fs, hr, hrun, hended, hW, hsame⟩ := X0.leave (v := some (.int (0 : Int32))) (fun h => by rw [Bd.returns] at h; cases h)
              refine ⟨_, _, ?_, hrun, hended, _, _, rfl, ?_, ⟨_, rfl⟩, hW, hsame.mono (by decide) (by decide)⟩
              · rw [← hG]; exact S119 _ (retN X0 hx (t := .boolean) Bd.returns (by simp) (hb hby d19_47) hr)
              · show Q19 Z c0 h0 n0 _ s₁.heap _
                rw [e0]
                exact ⟨Or.inr ⟨by simp [own_word, hc90, hc92, hc107, hc109, hc115, hc117], rfl⟩, N0, rfl⟩
          · have _ := N0
            have S120 : own_Go p e below s₁ G s₁ (mkF m 47 #[.val (.int c0)] [(.int (1 : Int32))]) := fun tg_ kk_ => S114 tg_ (by
              refine XS.icmpYes X0.here hx rfl (pc0 := 33) (pc' := 42) rfl (hb hby d19_33) rfl (XT.ii_le_t hc115) (by decide) (by decide) ?_
              show Steps p.tables e below (s₁.setTop (mkF m 42 #[.val (.int c0)] [])) _
              refine XS.iconst X0.here hx rfl (hb hby d19_42) ?_
              show Steps p.tables e below (s₁.setTop (mkF m 43 #[.val (.int c0)] [(.int (1 : Int32))])) _
              refine XS.goto X0.here hx rfl (pc0 := 43) (pc' := 47) rfl (hb hby d19_43) (by decide) (by decide) ?_
              exact kk_)
            obtain ⟨fs, hr, hrun, hended, hW, hsame⟩ := X0.leave (v := some (.int (1 : Int32))) (fun h => by rw [Bd.returns] at h; cases h)
            refine ⟨_, _, ?_, hrun, hended, _, _, rfl, ?_, ⟨_, rfl⟩, hW, hsame.mono (by decide) (by decide)⟩
            · rw [← hG]; exact S120 _ (retN X0 hx (t := .boolean) Bd.returns (by simp) (hb hby d19_47) hr)
            · show Q19 Z c0 h0 n0 _ s₁.heap _
              rw [e0]
              exact ⟨Or.inl ⟨by simp [own_word, hc90, hc92, hc107, hc109, hc115], rfl⟩, N0, rfl⟩
      · have _ := N0
        have S121 : own_Go p e below s₁ G s₁ (mkF m 47 #[.val (.int c0)] [(.int (1 : Int32))]) := fun tg_ kk_ => S106 tg_ (by
          refine XS.icmpYes X0.here hx rfl (pc0 := 21) (pc' := 42) rfl (hb hby d19_21) rfl (XT.ii_le_t hc107) (by decide) (by decide) ?_
          show Steps p.tables e below (s₁.setTop (mkF m 42 #[.val (.int c0)] [])) _
          refine XS.iconst X0.here hx rfl (hb hby d19_42) ?_
          show Steps p.tables e below (s₁.setTop (mkF m 43 #[.val (.int c0)] [(.int (1 : Int32))])) _
          refine XS.goto X0.here hx rfl (pc0 := 43) (pc' := 47) rfl (hb hby d19_43) (by decide) (by decide) ?_
          exact kk_)
        obtain ⟨fs, hr, hrun, hended, hW, hsame⟩ := X0.leave (v := some (.int (1 : Int32))) (fun h => by rw [Bd.returns] at h; cases h)
        refine ⟨_, _, ?_, hrun, hended, _, _, rfl, ?_, ⟨_, rfl⟩, hW, hsame.mono (by decide) (by decide)⟩
        · rw [← hG]; exact S121 _ (retN X0 hx (t := .boolean) Bd.returns (by simp) (hb hby d19_47) hr)
        · show Q19 Z c0 h0 n0 _ s₁.heap _
          rw [e0]
          exact ⟨Or.inl ⟨by simp [own_word, hc90, hc92, hc107], rfl⟩, N0, rfl⟩
  · have _ := N0
    have S122 : own_Go p e below s₁ G s₁ (mkF m 9 #[.val (.int c0)] [(.int (122 : Int32)), (.int c0)]) := fun tg_ kk_ => S89 tg_ (by
      refine XS.icmpNo X0.here hx rfl (hb hby d19_3) rfl (XT.ii_lt_f hc90) ?_
      show Steps p.tables e below (s₁.setTop (mkF m 6 #[.val (.int c0)] [])) _
      refine XS.iloadN X0.here hx rfl (hb hby d19_6) rfl ?_
      show Steps p.tables e below (s₁.setTop (mkF m 7 #[.val (.int c0)] [(.int c0)])) _
      refine XS.bipush X0.here hx rfl (hb hby d19_7) ?_
      exact kk_)
    by_cases hc123 : (122 : Int32) < c0
    · have _ := N0
      have S124 : own_Go p e below s₁ G s₁ (mkF m 15 #[.val (.int c0)] [(.int (65 : Int32)), (.int c0)]) := fun tg_ kk_ => S122 tg_ (by
        refine XS.icmpNo X0.here hx rfl (hb hby d19_9) rfl (XT.ii_le_f hc123) ?_
        show Steps p.tables e below (s₁.setTop (mkF m 12 #[.val (.int c0)] [])) _
        refine XS.iloadN X0.here hx rfl (hb hby d19_12) rfl ?_
        show Steps p.tables e below (s₁.setTop (mkF m 13 #[.val (.int c0)] [(.int c0)])) _
        refine XS.bipush X0.here hx rfl (hb hby d19_13) ?_
        exact kk_)
      by_cases hc125 : c0 < (65 : Int32)
      · have _ := N0
        have S126 : own_Go p e below s₁ G s₁ (mkF m 27 #[.val (.int c0)] [(.int (48 : Int32)), (.int c0)]) := fun tg_ kk_ => S124 tg_ (by
          refine XS.icmpYes X0.here hx rfl (pc0 := 15) (pc' := 24) rfl (hb hby d19_15) rfl (XT.ii_lt_t hc125) (by decide) (by decide) ?_
          show Steps p.tables e below (s₁.setTop (mkF m 24 #[.val (.int c0)] [])) _
          refine XS.iloadN X0.here hx rfl (hb hby d19_24) rfl ?_
          show Steps p.tables e below (s₁.setTop (mkF m 25 #[.val (.int c0)] [(.int c0)])) _
          refine XS.bipush X0.here hx rfl (hb hby d19_25) ?_
          exact kk_)
        by_cases hc127 : c0 < (48 : Int32)
        · have _ := N0
          have S128 : own_Go p e below s₁ G s₁ (mkF m 39 #[.val (.int c0)] [(.int (95 : Int32)), (.int c0)]) := fun tg_ kk_ => S126 tg_ (by
            refine XS.icmpYes X0.here hx rfl (pc0 := 27) (pc' := 36) rfl (hb hby d19_27) rfl (XT.ii_lt_t hc127) (by decide) (by decide) ?_
            show Steps p.tables e below (s₁.setTop (mkF m 36 #[.val (.int c0)] [])) _
            refine XS.iloadN X0.here hx rfl (hb hby d19_36) rfl ?_
            show Steps p.tables e below (s₁.setTop (mkF m 37 #[.val (.int c0)] [(.int c0)])) _
            refine XS.bipush X0.here hx rfl (hb hby d19_37) ?_
            exact kk_)
          by_cases hc129 : c0 = (95 : Int32)
          · have _ := N0
            have S130 : own_Go p e below s₁ G s₁ (mkF m 47 #[.val (.int c0)] [(.int (1 : Int32))]) := fun tg_ kk_ => S128 tg_ (by
              refine XS.icmpNo X0.here hx rfl (hb hby d19_39) rfl (XT.ii_ne_f hc129) ?_
              show Steps p.tables e below (s₁.setTop (mkF m 42 #[.val (.int c0)] [])) _
              refine XS.iconst X0.here hx rfl (hb hby d19_42) ?_
              show Steps p.tables e below (s₁.setTop (mkF m 43 #[.val (.int c0)] [(.int (1 : Int32))])) _
              refine XS.goto X0.here hx rfl (pc0 := 43) (pc' := 47) rfl (hb hby d19_43) (by decide) (by decide) ?_
              exact kk_)
            obtain ⟨fs, hr, hrun, hended, hW, hsame⟩ := X0.leave (v := some (.int (1 : Int32))) (fun h => by rw [Bd.returns] at h; cases h)
            refine ⟨_, _, ?_, hrun, hended, _, _, rfl, ?_, ⟨_, rfl⟩, hW, hsame.mono (by decide) (by decide)⟩
            · rw [← hG]; exact S130 _ (retN X0 hx (t := .boolean) Bd.returns (by simp) (hb hby d19_47) hr)
            · show Q19 Z c0 h0 n0 _ s₁.heap _
              rw [e0]
              exact ⟨Or.inl ⟨by simp [own_word, hc90, hc123, hc125, hc127, hc129], rfl⟩, N0, rfl⟩
          · have _ := N0
            have S131 : own_Go p e below s₁ G s₁ (mkF m 47 #[.val (.int c0)] [(.int (0 : Int32))]) := fun tg_ kk_ => S128 tg_ (by
              refine XS.icmpYes X0.here hx rfl (pc0 := 39) (pc' := 46) rfl (hb hby d19_39) rfl (XT.ii_ne_t hc129) (by decide) (by decide) ?_
              show Steps p.tables e below (s₁.setTop (mkF m 46 #[.val (.int c0)] [])) _
              refine XS.iconst X0.here hx rfl (hb hby d19_46) ?_
              exact kk_)
            obtain ⟨fs, hr, hrun, hended, hW, hsame⟩ := X0.leave (v := some (.int (0 : Int32))) (fun h => by rw [Bd.returns] at h; cases h)
            refine ⟨_, _, ?_, hrun, hended, _, _, rfl, ?_, ⟨_, rfl⟩, hW, hsame.mono (by decide) (by decide)⟩
            · rw [← hG]; exact S131 _ (retN X0 hx (t := .boolean) Bd.returns (by simp) (hb hby d19_47) hr)
            · show Q19 Z c0 h0 n0 _ s₁.heap _
              rw [e0]
              exact ⟨Or.inr ⟨by simp [own_word, hc90, hc123, hc125, hc127, hc129], rfl⟩, N0, rfl⟩
        · have _ := N0
          have S132 : own_Go p e below s₁ G s₁ (mkF m 33 #[.val (.int c0)] [(.int (57 : Int32)), (.int c0)]) := fun tg_ kk_ => S126 tg_ (by
            refine XS.icmpNo X0.here hx rfl (hb hby d19_27) rfl (XT.ii_lt_f hc127) ?_
            show Steps p.tables e below (s₁.setTop (mkF m 30 #[.val (.int c0)] [])) _
            refine XS.iloadN X0.here hx rfl (hb hby d19_30) rfl ?_
            show Steps p.tables e below (s₁.setTop (mkF m 31 #[.val (.int c0)] [(.int c0)])) _
            refine XS.bipush X0.here hx rfl (hb hby d19_31) ?_
            exact kk_)
          by_cases hc133 : (57 : Int32) < c0
          · have _ := N0
            have S134 : own_Go p e below s₁ G s₁ (mkF m 39 #[.val (.int c0)] [(.int (95 : Int32)), (.int c0)]) := fun tg_ kk_ => S132 tg_ (by
              refine XS.icmpNo X0.here hx rfl (hb hby d19_33) rfl (XT.ii_le_f hc133) ?_
              show Steps p.tables e below (s₁.setTop (mkF m 36 #[.val (.int c0)] [])) _
              refine XS.iloadN X0.here hx rfl (hb hby d19_36) rfl ?_
              show Steps p.tables e below (s₁.setTop (mkF m 37 #[.val (.int c0)] [(.int c0)])) _
              refine XS.bipush X0.here hx rfl (hb hby d19_37) ?_
              exact kk_)
            by_cases hc135 : c0 = (95 : Int32)
            · have _ := N0
              have S136 : own_Go p e below s₁ G s₁ (mkF m 47 #[.val (.int c0)] [(.int (1 : Int32))]) := fun tg_ kk_ => S134 tg_ (by
                refine XS.icmpNo X0.here hx rfl (hb hby d19_39) rfl (XT.ii_ne_f hc135) ?_
                show Steps p.tables e below (s₁.setTop (mkF m 42 #[.val (.int c0)] [])) _
                refine XS.iconst X0.here hx rfl (hb hby d19_42) ?_
                show Steps p.tables e below (s₁.setTop (mkF m 43 #[.val (.int c0)] [(.int (1 : Int32))])) _
                refine XS.goto X0.here hx rfl (pc0 := 43) (pc' := 47) rfl (hb hby d19_43) (by decide) (by decide) ?_
                exact kk_)
              obtain ⟨fs, hr, hrun, hended, hW, hsame⟩ := X0.leave (v := some (.int (1 : Int32))) (fun h => by rw [Bd.returns] at h; cases h)
              refine ⟨_, _, ?_, hrun, hended, _, _, rfl, ?_, ⟨_, rfl⟩, hW, hsame.mono (by decide) (by decide)⟩
              · rw [← hG]; exact S136 _ (retN X0 hx (t := .boolean) Bd.returns (by simp) (hb hby d19_47) hr)
              · show Q19 Z c0 h0 n0 _ s₁.heap _
                rw [e0]
                exact ⟨Or.inl ⟨by simp [own_word, hc90, hc123, hc125, hc127, hc133, hc135], rfl⟩, N0, rfl⟩
            · have _ := N0
              have S137 : own_Go p e below s₁ G s₁ (mkF m 47 #[.val (.int c0)] [(.int (0 : Int32))]) := fun tg_ kk_ => S134 tg_ (by
                refine XS.icmpYes X0.here hx rfl (pc0 := 39) (pc' := 46) rfl (hb hby d19_39) rfl (XT.ii_ne_t hc135) (by decide) (by decide) ?_
                show Steps p.tables e below (s₁.setTop (mkF m 46 #[.val (.int c0)] [])) _
                refine XS.iconst X0.here hx rfl (hb hby d19_46) ?_
                exact kk_)
              obtain ⟨fs, hr, hrun, hended, hW, hsame⟩ := X0.leave (v := some (.int (0 : Int32))) (fun h => by rw [Bd.returns] at h; cases h)
              refine ⟨_, _, ?_, hrun, hended, _, _, rfl, ?_, ⟨_, rfl⟩, hW, hsame.mono (by decide) (by decide)⟩
              · rw [← hG]; exact S137 _ (retN X0 hx (t := .boolean) Bd.returns (by simp) (hb hby d19_47) hr)
              · show Q19 Z c0 h0 n0 _ s₁.heap _
                rw [e0]
                exact ⟨Or.inr ⟨by simp [own_word, hc90, hc123, hc125, hc127, hc133, hc135], rfl⟩, N0, rfl⟩
          · have _ := N0
            have S138 : own_Go p e below s₁ G s₁ (mkF m 47 #[.val (.int c0)] [(.int (1 : Int32))]) := fun tg_ kk_ => S132 tg_ (by
              refine XS.icmpYes X0.here hx rfl (pc0 := 33) (pc' := 42) rfl (hb hby d19_33) rfl (XT.ii_le_t hc133) (by decide) (by decide) ?_
              show Steps p.tables e below (s₁.setTop (mkF m 42 #[.val (.int c0)] [])) _
              refine XS.iconst X0.here hx rfl (hb hby d19_42) ?_
              show Steps p.tables e below (s₁.setTop (mkF m 43 #[.val (.int c0)] [(.int (1 : Int32))])) _
              refine XS.goto X0.here hx rfl (pc0 := 43) (pc' := 47) rfl (hb hby d19_43) (by decide) (by decide) ?_
              exact kk_)
            obtain ⟨fs, hr, hrun, hended, hW, hsame⟩ := X0.leave (v := some (.int (1 : Int32))) (fun h => by rw [Bd.returns] at h; cases h)
            refine ⟨_, _, ?_, hrun, hended, _, _, rfl, ?_, ⟨_, rfl⟩, hW, hsame.mono (by decide) (by decide)⟩
            · rw [← hG]; exact S138 _ (retN X0 hx (t := .boolean) Bd.returns (by simp) (hb hby d19_47) hr)
            · show Q19 Z c0 h0 n0 _ s₁.heap _
              rw [e0]
              exact ⟨Or.inl ⟨by simp [own_word, hc90, hc123, hc125, hc127, hc133], rfl⟩, N0, rfl⟩
      · have _ := N0
        have S139 : own_Go p e below s₁ G s₁ (mkF m 21 #[.val (.int c0)] [(.int (90 : Int32)), (.int c0)]) := fun tg_ kk_ => S124 tg_ (by
          refine XS.icmpNo X0.here hx rfl (hb hby d19_15) rfl (XT.ii_lt_f hc125) ?_
          show Steps p.tables e below (s₁.setTop (mkF m 18 #[.val (.int c0)] [])) _
          refine XS.iloadN X0.here hx rfl (hb hby d19_18) rfl ?_
          show Steps p.tables e below (s₁.setTop (mkF m 19 #[.val (.int c0)] [(.int c0)])) _
          refine XS.bipush X0.here hx rfl (hb hby d19_19) ?_
          exact kk_)
        by_cases hc140 : (90 : Int32) < c0
        · have _ := N0
          have S141 : own_Go p e below s₁ G s₁ (mkF m 27 #[.val (.int c0)] [(.int (48 : Int32)), (.int c0)]) := fun tg_ kk_ => S139 tg_ (by
            refine XS.icmpNo X0.here hx rfl (hb hby d19_21) rfl (XT.ii_le_f hc140) ?_
            show Steps p.tables e below (s₁.setTop (mkF m 24 #[.val (.int c0)] [])) _
            refine XS.iloadN X0.here hx rfl (hb hby d19_24) rfl ?_
            show Steps p.tables e below (s₁.setTop (mkF m 25 #[.val (.int c0)] [(.int c0)])) _
            refine XS.bipush X0.here hx rfl (hb hby d19_25) ?_
            exact kk_)
          by_cases hc142 : c0 < (48 : Int32)
          · have _ := N0
            have S143 : own_Go p e below s₁ G s₁ (mkF m 39 #[.val (.int c0)] [(.int (95 : Int32)), (.int c0)]) := fun tg_ kk_ => S141 tg_ (by
              refine XS.icmpYes X0.here hx rfl (pc0 := 27) (pc' := 36) rfl (hb hby d19_27) rfl (XT.ii_lt_t hc142) (by decide) (by decide) ?_
              show Steps p.tables e below (s₁.setTop (mkF m 36 #[.val (.int c0)] [])) _
              refine XS.iloadN X0.here hx rfl (hb hby d19_36) rfl ?_
              show Steps p.tables e below (s₁.setTop (mkF m 37 #[.val (.int c0)] [(.int c0)])) _
              refine XS.bipush X0.here hx rfl (hb hby d19_37) ?_
              exact kk_)
            by_cases hc144 : c0 = (95 : Int32)
            · have _ := N0
              have S145 : own_Go p e below s₁ G s₁ (mkF m 47 #[.val (.int c0)] [(.int (1 : Int32))]) := fun tg_ kk_ => S143 tg_ (by
                refine XS.icmpNo X0.here hx rfl (hb hby d19_39) rfl (XT.ii_ne_f hc144) ?_
                show Steps p.tables e below (s₁.setTop (mkF m 42 #[.val (.int c0)] [])) _
                refine XS.iconst X0.here hx rfl (hb hby d19_42) ?_
                show Steps p.tables e below (s₁.setTop (mkF m 43 #[.val (.int c0)] [(.int (1 : Int32))])) _
                refine XS.goto X0.here hx rfl (pc0 := 43) (pc' := 47) rfl (hb hby d19_43) (by decide) (by decide) ?_
                exact kk_)
              obtain ⟨fs, hr, hrun, hended, hW, hsame⟩ := X0.leave (v := some (.int (1 : Int32))) (fun h => by rw [Bd.returns] at h; cases h)
              refine ⟨_, _, ?_, hrun, hended, _, _, rfl, ?_, ⟨_, rfl⟩, hW, hsame.mono (by decide) (by decide)⟩
              · rw [← hG]; exact S145 _ (retN X0 hx (t := .boolean) Bd.returns (by simp) (hb hby d19_47) hr)
              · show Q19 Z c0 h0 n0 _ s₁.heap _
                rw [e0]
                exact ⟨Or.inl ⟨by simp [own_word, hc90, hc123, hc125, hc140, hc142, hc144], rfl⟩, N0, rfl⟩
            · have _ := N0
              have S146 : own_Go p e below s₁ G s₁ (mkF m 47 #[.val (.int c0)] [(.int (0 : Int32))]) := fun tg_ kk_ => S143 tg_ (by
                refine XS.icmpYes X0.here hx rfl (pc0 := 39) (pc' := 46) rfl (hb hby d19_39) rfl (XT.ii_ne_t hc144) (by decide) (by decide) ?_
                show Steps p.tables e below (s₁.setTop (mkF m 46 #[.val (.int c0)] [])) _
                refine XS.iconst X0.here hx rfl (hb hby d19_46) ?_
                exact kk_)
              obtain ⟨fs, hr, hrun, hended, hW, hsame⟩ := X0.leave (v := some (.int (0 : Int32))) (fun h => by rw [Bd.returns] at h; cases h)
              refine ⟨_, _, ?_, hrun, hended, _, _, rfl, ?_, ⟨_, rfl⟩, hW, hsame.mono (by decide) (by decide)⟩
              · rw [← hG]; exact S146 _ (retN X0 hx (t := .boolean) Bd.returns (by simp) (hb hby d19_47) hr)
              · show Q19 Z c0 h0 n0 _ s₁.heap _
                rw [e0]
                exact ⟨Or.inr ⟨by simp [own_word, hc90, hc123, hc125, hc140, hc142, hc144], rfl⟩, N0, rfl⟩
          · have _ := N0
            have S147 : own_Go p e below s₁ G s₁ (mkF m 33 #[.val (.int c0)] [(.int (57 : Int32)), (.int c0)]) := fun tg_ kk_ => S141 tg_ (by
              refine XS.icmpNo X0.here hx rfl (hb hby d19_27) rfl (XT.ii_lt_f hc142) ?_
              show Steps p.tables e below (s₁.setTop (mkF m 30 #[.val (.int c0)] [])) _
              refine XS.iloadN X0.here hx rfl (hb hby d19_30) rfl ?_
              show Steps p.tables e below (s₁.setTop (mkF m 31 #[.val (.int c0)] [(.int c0)])) _
              refine XS.bipush X0.here hx rfl (hb hby d19_31) ?_
              exact kk_)
            by_cases hc148 : (57 : Int32) < c0
            · have _ := N0
              have S149 : own_Go p e below s₁ G s₁ (mkF m 39 #[.val (.int c0)] [(.int (95 : Int32)), (.int c0)]) := fun tg_ kk_ => S147 tg_ (by
                refine XS.icmpNo X0.here hx rfl (hb hby d19_33) rfl (XT.ii_le_f hc148) ?_
                show Steps p.tables e below (s₁.setTop (mkF m 36 #[.val (.int c0)] [])) _
                refine XS.iloadN X0.here hx rfl (hb hby d19_36) rfl ?_
                show Steps p.tables e below (s₁.setTop (mkF m 37 #[.val (.int c0)] [(.int c0)])) _
                refine XS.bipush X0.here hx rfl (hb hby d19_37) ?_
                exact kk_)
              by_cases hc150 : c0 = (95 : Int32)
              · have _ := N0
                have S151 : own_Go p e below s₁ G s₁ (mkF m 47 #[.val (.int c0)] [(.int (1 : Int32))]) := fun tg_ kk_ => S149 tg_ (by
                  refine XS.icmpNo X0.here hx rfl (hb hby d19_39) rfl (XT.ii_ne_f hc150) ?_
                  show Steps p.tables e below (s₁.setTop (mkF m 42 #[.val (.int c0)] [])) _
                  refine XS.iconst X0.here hx rfl (hb hby d19_42) ?_
                  show Steps p.tables e below (s₁.setTop (mkF m 43 #[.val (.int c0)] [(.int (1 : Int32))])) _
                  refine XS.goto X0.here hx rfl (pc0 := 43) (pc' := 47) rfl (hb hby d19_43) (by decide) (by decide) ?_
                  exact kk_)
                obtain ⟨fs, hr, hrun, hended, hW, hsame⟩ := X0.leave (v := some (.int (1 : Int32))) (fun h => by rw [Bd.returns] at h; cases h)
                refine ⟨_, _, ?_, hrun, hended, _, _, rfl, ?_, ⟨_, rfl⟩, hW, hsame.mono (by decide) (by decide)⟩
                · rw [← hG]; exact S151 _ (retN X0 hx (t := .boolean) Bd.returns (by simp) (hb hby d19_47) hr)
                · show Q19 Z c0 h0 n0 _ s₁.heap _
                  rw [e0]
                  exact ⟨Or.inl ⟨by simp [own_word, hc90, hc123, hc125, hc140, hc142, hc148, hc150], rfl⟩, N0, rfl⟩
              · have _ := N0
                have S152 : own_Go p e below s₁ G s₁ (mkF m 47 #[.val (.int c0)] [(.int (0 : Int32))]) := fun tg_ kk_ => S149 tg_ (by
                  refine XS.icmpYes X0.here hx rfl (pc0 := 39) (pc' := 46) rfl (hb hby d19_39) rfl (XT.ii_ne_t hc150) (by decide) (by decide) ?_
                  show Steps p.tables e below (s₁.setTop (mkF m 46 #[.val (.int c0)] [])) _
                  refine XS.iconst X0.here hx rfl (hb hby d19_46) ?_
                  exact kk_)
                obtain ⟨fs, hr, hrun, hended, hW, hsame⟩ := X0.leave (v := some (.int (0 : Int32))) (fun h => by rw [Bd.returns] at h; cases h)
                refine ⟨_, _, ?_, hrun, hended, _, _, rfl, ?_, ⟨_, rfl⟩, hW, hsame.mono (by decide) (by decide)⟩
                · rw [← hG]; exact S152 _ (retN X0 hx (t := .boolean) Bd.returns (by simp) (hb hby d19_47) hr)
                · show Q19 Z c0 h0 n0 _ s₁.heap _
                  rw [e0]
                  exact ⟨Or.inr ⟨by simp [own_word, hc90, hc123, hc125, hc140, hc142, hc148, hc150], rfl⟩, N0, rfl⟩
            · have _ := N0
              have S153 : own_Go p e below s₁ G s₁ (mkF m 47 #[.val (.int c0)] [(.int (1 : Int32))]) := fun tg_ kk_ => S147 tg_ (by
                refine XS.icmpYes X0.here hx rfl (pc0 := 33) (pc' := 42) rfl (hb hby d19_33) rfl (XT.ii_le_t hc148) (by decide) (by decide) ?_
                show Steps p.tables e below (s₁.setTop (mkF m 42 #[.val (.int c0)] [])) _
                refine XS.iconst X0.here hx rfl (hb hby d19_42) ?_
                show Steps p.tables e below (s₁.setTop (mkF m 43 #[.val (.int c0)] [(.int (1 : Int32))])) _
                refine XS.goto X0.here hx rfl (pc0 := 43) (pc' := 47) rfl (hb hby d19_43) (by decide) (by decide) ?_
                exact kk_)
              obtain ⟨fs, hr, hrun, hended, hW, hsame⟩ := X0.leave (v := some (.int (1 : Int32))) (fun h => by rw [Bd.returns] at h; cases h)
              refine ⟨_, _, ?_, hrun, hended, _, _, rfl, ?_, ⟨_, rfl⟩, hW, hsame.mono (by decide) (by decide)⟩
              · rw [← hG]; exact S153 _ (retN X0 hx (t := .boolean) Bd.returns (by simp) (hb hby d19_47) hr)
              · show Q19 Z c0 h0 n0 _ s₁.heap _
                rw [e0]
                exact ⟨Or.inl ⟨by simp [own_word, hc90, hc123, hc125, hc140, hc142, hc148], rfl⟩, N0, rfl⟩
        · have _ := N0
          have S154 : own_Go p e below s₁ G s₁ (mkF m 47 #[.val (.int c0)] [(.int (1 : Int32))]) := fun tg_ kk_ => S139 tg_ (by
            refine XS.icmpYes X0.here hx rfl (pc0 := 21) (pc' := 42) rfl (hb hby d19_21) rfl (XT.ii_le_t hc140) (by decide) (by decide) ?_
            show Steps p.tables e below (s₁.setTop (mkF m 42 #[.val (.int c0)] [])) _
            refine XS.iconst X0.here hx rfl (hb hby d19_42) ?_
            show Steps p.tables e below (s₁.setTop (mkF m 43 #[.val (.int c0)] [(.int (1 : Int32))])) _
            refine XS.goto X0.here hx rfl (pc0 := 43) (pc' := 47) rfl (hb hby d19_43) (by decide) (by decide) ?_
            exact kk_)
          obtain ⟨fs, hr, hrun, hended, hW, hsame⟩ := X0.leave (v := some (.int (1 : Int32))) (fun h => by rw [Bd.returns] at h; cases h)
          refine ⟨_, _, ?_, hrun, hended, _, _, rfl, ?_, ⟨_, rfl⟩, hW, hsame.mono (by decide) (by decide)⟩
          · rw [← hG]; exact S154 _ (retN X0 hx (t := .boolean) Bd.returns (by simp) (hb hby d19_47) hr)
          · show Q19 Z c0 h0 n0 _ s₁.heap _
            rw [e0]
            exact ⟨Or.inl ⟨by simp [own_word, hc90, hc123, hc125, hc140], rfl⟩, N0, rfl⟩
    · have _ := N0
      have S155 : own_Go p e below s₁ G s₁ (mkF m 47 #[.val (.int c0)] [(.int (1 : Int32))]) := fun tg_ kk_ => S122 tg_ (by
        refine XS.icmpYes X0.here hx rfl (pc0 := 9) (pc' := 42) rfl (hb hby d19_9) rfl (XT.ii_le_t hc123) (by decide) (by decide) ?_
        show Steps p.tables e below (s₁.setTop (mkF m 42 #[.val (.int c0)] [])) _
        refine XS.iconst X0.here hx rfl (hb hby d19_42) ?_
        show Steps p.tables e below (s₁.setTop (mkF m 43 #[.val (.int c0)] [(.int (1 : Int32))])) _
        refine XS.goto X0.here hx rfl (pc0 := 43) (pc' := 47) rfl (hb hby d19_43) (by decide) (by decide) ?_
        exact kk_)
      obtain ⟨fs, hr, hrun, hended, hW, hsame⟩ := X0.leave (v := some (.int (1 : Int32))) (fun h => by rw [Bd.returns] at h; cases h)
      refine ⟨_, _, ?_, hrun, hended, _, _, rfl, ?_, ⟨_, rfl⟩, hW, hsame.mono (by decide) (by decide)⟩
      · rw [← hG]; exact S155 _ (retN X0 hx (t := .boolean) Bd.returns (by simp) (hb hby d19_47) hr)
      · show Q19 Z c0 h0 n0 _ s₁.heap _
        rw [e0]
        exact ⟨Or.inl ⟨by simp [own_word, hc90, hc123], rfl⟩, N0, rfl⟩
def Q18 (Z : State) (c0 : Int32) (i : Int32) (n : Int32) (h0 : Heap) (n0 : Nat) (v : Option Value) (h : Heap) (L : List Loc) : Prop := ((own_ok c0 i n = true ∧ v = some (.int 1)) ∨ (own_ok c0 i n = false ∧ v = some (.int 0))) ∧ Fr n0 L ∧ h0 = h
set_option maxRecDepth 65536 in
set_option maxHeartbeats 40000000 in
theorem rm18 (l : Launch) (Z : State) (a0 : Array Value) (hw : ∀ d ∈ tables_1, d.before a0 Z = true) (ws : List Jvm.Cond) (c0 : Int32) (i : Int32) (n : Int32) (h0 : Heap) (n0 : Nat) (Z0 : n0 ≤ h0.size)  :
    MetFree l (⟨"com/example/tallyhook/tallyhook/core/EventTypeIsSegmentsPinLaw", "ok", "(CII)Z"⟩ : MethodName) (head1 (Jvm.Cond.code (⟨"com/example/tallyhook/tallyhook/core/EventTypeIsSegmentsPinLaw", "ok", "(CII)Z"⟩ : MethodName) method_8_code 3 (some .boolean) :: ws) ({ frames := 1, cells := 0, slots := 0, locals := 14 } : Room)) (fun aa_ U => aa_ = #[(.int c0), (.int i), (.int n)] ∧ Z.Warmed39 U.vm ∧ U.heap = h0) (fun _ _ _ _ _ => True) (fun _ U o U' => ∃ v L, o = .returned v ∧ Q18 Z c0 i n h0 n0 v U'.heap L ∧ FrameEnd U o U' L ({ frames := 1, cells := 0, slots := 0, locals := 14 } : Room).cells ({ frames := 1, cells := 0, slots := 0, locals := 14 } : Room).slots) := by
  refine MetFree.of_bodySF (plainFor_of_name pn3) hisR ?_
  intro p e s m args below meth c s₁ Bd hml0 hP hK
  obtain ⟨rfl, hZ, hh⟩ := hP
  have hx := Bd.exec
  have hby := Bd.bytes
  have hml : c.maxLocals = 3 := hml0
  have hown : s.vm.findClass "com/example/tallyhook/tallyhook/core/EventTypeIsSegmentsPinLaw" = some m.cls := findClass_of_methodNamed Bd.named
  have hnm := (name_of_methodNamed Bd.named Bd.method).1
  have X0 : Stand p l e ({ frames := 1, cells := 0, slots := 0, locals := 14 } : Room) s m #[(.int c0), (.int i), (.int n)] below meth c s₁ [] 0 0 := Stand.of_body Bd
  have e0 : s₁.heap = h0 := by rw [← hh, Bd.state]; rfl
  have N0 := Fr.nil n0
  obtain ⟨G, hG⟩ : ∃ G, G = entryFrame m #[(.int c0), (.int i), (.int n)] 3 := ⟨_, rfl⟩
  have S0 : own_Go p e below s₁ G s₁ (mkF m 0 #[.val (.int c0), .val (.int i), .val (.int n)] []) := fun tg_ kk_ => castTop (by rw [hG]; first | rfl | simp [entryFrame, mkF, argsToLocals, Value.category, maxLocals]) kk_
  have S156 : own_Go p e below s₁ G s₁ (mkF m 2 #[.val (.int c0), .val (.int i), .val (.int n)] [(.int n), (.int i)]) := fun tg_ kk_ => S0 tg_ (by
    refine XS.iloadN X0.here hx rfl (hb hby d18_0) rfl ?_
    show Steps p.tables e below (s₁.setTop (mkF m 1 #[.val (.int c0), .val (.int i), .val (.int n)] [(.int i)])) _
    refine XS.iloadN X0.here hx rfl (hb hby d18_1) rfl ?_
    exact kk_)
  by_cases hin : i < n
  · have _ := N0
    have S157 : own_Go p e below s₁ G s₁ (mkF m 6 #[.val (.int c0), .val (.int i), .val (.int n)] [(.int c0)]) := fun tg_ kk_ => S156 tg_ (by
      refine XS.icmpNo X0.here hx rfl (hb hby d18_2) rfl (XT.ii_ge_f hin) ?_
      show Steps p.tables e below (s₁.setTop (mkF m 5 #[.val (.int c0), .val (.int i), .val (.int n)] [])) _
      refine XS.iloadN X0.here hx rfl (hb hby d18_5) rfl ?_
      exact kk_)
    obtain ⟨_, T158, h158, L158, X158, e158, hQ158, st158⟩ := own_callS X0 hx hZ (y := (⟨"com/example/tallyhook/tallyhook/core/EventTypeIsSegmentsPinLaw", "word", "(C)Z"⟩ : MethodName)) hown (hw _ (List.mem_of_getElem? (i := 81) rfl)) (hw _ (List.mem_of_getElem? (i := 82) rfl)) (hw _ (List.mem_of_getElem? (i := 3) rfl)) (hw _ (List.mem_of_getElem? (i := 83) rfl)) (by decide) 0 (g := (mkF m 6 #[.val (.int c0), .val (.int i), .val (.int n)] [(.int c0)])) rfl (by rw [hml]; rfl) [(.int c0)] [] (rm19 l Z a0 hw [] c0 h0 n0 Z0) (lenOf pd20 rfl) rfl (by show 2 * 0 + _ ≤ _; exact Nat.le_of_eq rfl) (hb hby d18_6) (by decide) (by decide) e0 (by decide) (by decide)
    rcases hQ158 with ⟨⟨hwd, rfl⟩ | ⟨hwd, rfl⟩, N158, rfl⟩
    · have _ := e158
      have S159 : own_Go p e below s₁ G T158 (mkF m 9 #[.val (.int c0), .val (.int i), .val (.int n)] [(.int (1 : Int32))]) := fun tg_ kk_ => S157 tg_ (st158 tg_ kk_)
      have M158 := Fr.app N0 N158
      have S160 : own_Go p e below s₁ G T158 (mkF m 24 #[.val (.int c0), .val (.int i), .val (.int n)] [(.int (1 : Int32))]) := fun tg_ kk_ => S159 tg_ (by
        refine XS.ifYes X158.here hx rfl (pc0 := 9) (pc' := 19) rfl (hb hby d18_9) rfl (XT.i0_ne_t (by decide)) (by decide) (by decide) ?_
        show Steps p.tables e below (T158.setTop (mkF m 19 #[.val (.int c0), .val (.int i), .val (.int n)] [])) _
        refine XS.iconst X158.here hx rfl (hb hby d18_19) ?_
        show Steps p.tables e below (T158.setTop (mkF m 20 #[.val (.int c0), .val (.int i), .val (.int n)] [(.int (1 : Int32))])) _
        refine XS.goto X158.here hx rfl (pc0 := 20) (pc' := 24) rfl (hb hby d18_20) (by decide) (by decide) ?_
        exact kk_)
      obtain ⟨fs, hr, hrun, hended, hW, hsame⟩ := X158.leave (v := some (.int (1 : Int32))) (fun h => by rw [Bd.returns] at h; cases h)
      refine ⟨_, _, ?_, hrun, hended, _, _, rfl, ?_, ⟨_, rfl⟩, hW, hsame.mono (by decide) (by decide)⟩
      · rw [← hG]; exact S160 _ (retN X158 hx (t := .boolean) Bd.returns (by simp) (hb hby d18_24) hr)
      · show Q18 Z c0 i n h0 n0 _ T158.heap _
        rw [e158]
        exact ⟨Or.inl ⟨by simp [own_ok, hwd], rfl⟩, M158, rfl⟩
    · have _ := e158
      have S161 : own_Go p e below s₁ G T158 (mkF m 9 #[.val (.int c0), .val (.int i), .val (.int n)] [(.int (0 : Int32))]) := fun tg_ kk_ => S157 tg_ (st158 tg_ kk_)
      have M158 := Fr.app N0 N158
      have S162 : own_Go p e below s₁ G T158 (mkF m 13 #[.val (.int c0), .val (.int i), .val (.int n)] [(.int c0)]) := fun tg_ kk_ => S161 tg_ (by
        refine XS.ifNo X158.here hx rfl (hb hby d18_9) rfl (XT.i0_ne_f (by decide)) ?_
        show Steps p.tables e below (T158.setTop (mkF m 12 #[.val (.int c0), .val (.int i), .val (.int n)] [])) _
        refine XS.iloadN X158.here hx rfl (hb hby d18_12) rfl ?_
        exact kk_)
      obtain ⟨_, T163, h163, L163, X163, e163, hQ163, st163⟩ := own_callS X158 hx hZ (y := (⟨"com/example/tallyhook/tallyhook/core/EventTypeIsSegmentsPinLaw", "dot", "(C)Z"⟩ : MethodName)) hown (hw _ (List.mem_of_getElem? (i := 84) rfl)) (hw _ (List.mem_of_getElem? (i := 85) rfl)) (hw _ (List.mem_of_getElem? (i := 3) rfl)) (hw _ (List.mem_of_getElem? (i := 86) rfl)) (by decide) 0 (g := (mkF m 13 #[.val (.int c0), .val (.int i), .val (.int n)] [(.int c0)])) rfl (by rw [hml]; rfl) [(.int c0)] [] (rm20 l Z a0 hw [] c0 h0 n0 Z0) (lenOf pd20 rfl) rfl (by show 2 * 0 + _ ≤ _; exact Nat.le_of_eq rfl) (hb hby d18_13) (by decide) (by decide) e158 (by decide) (by decide)
      rcases hQ163 with ⟨⟨hdt, rfl⟩ | ⟨hdt, rfl⟩, N163, rfl⟩
      · have _ := e163
        have S164 : own_Go p e below s₁ G T163 (mkF m 16 #[.val (.int c0), .val (.int i), .val (.int n)] [(.int (1 : Int32))]) := fun tg_ kk_ => S162 tg_ (st163 tg_ kk_)
        have M163 := Fr.app M158 N163
        have S165 : own_Go p e below s₁ G T163 (mkF m 24 #[.val (.int c0), .val (.int i), .val (.int n)] [(.int (1 : Int32))]) := fun tg_ kk_ => S164 tg_ (by
          refine XS.ifNo X163.here hx rfl (hb hby d18_16) rfl (XT.i0_eq_f (by decide)) ?_
          show Steps p.tables e below (T163.setTop (mkF m 19 #[.val (.int c0), .val (.int i), .val (.int n)] [])) _
          refine XS.iconst X163.here hx rfl (hb hby d18_19) ?_
          show Steps p.tables e below (T163.setTop (mkF m 20 #[.val (.int c0), .val (.int i), .val (.int n)] [(.int (1 : Int32))])) _
          refine XS.goto X163.here hx rfl (pc0 := 20) (pc' := 24) rfl (hb hby d18_20) (by decide) (by decide) ?_
          exact kk_)
        obtain ⟨fs, hr, hrun, hended, hW, hsame⟩ := X163.leave (v := some (.int (1 : Int32))) (fun h => by rw [Bd.returns] at h; cases h)
        refine ⟨_, _, ?_, hrun, hended, _, _, rfl, ?_, ⟨_, rfl⟩, hW, hsame.mono (by decide) (by decide)⟩
        · rw [← hG]; exact S165 _ (retN X163 hx (t := .boolean) Bd.returns (by simp) (hb hby d18_24) hr)
        · show Q18 Z c0 i n h0 n0 _ T163.heap _
          rw [e163]
          exact ⟨Or.inl ⟨by simp [own_ok, hdt], rfl⟩, M163, rfl⟩
      · have _ := e163
        have S166 : own_Go p e below s₁ G T163 (mkF m 16 #[.val (.int c0), .val (.int i), .val (.int n)] [(.int (0 : Int32))]) := fun tg_ kk_ => S162 tg_ (st163 tg_ kk_)
        have M163 := Fr.app M158 N163
        have S167 : own_Go p e below s₁ G T163 (mkF m 24 #[.val (.int c0), .val (.int i), .val (.int n)] [(.int (0 : Int32))]) := fun tg_ kk_ => S166 tg_ (by
          refine XS.ifYes X163.here hx rfl (pc0 := 16) (pc' := 23) rfl (hb hby d18_16) rfl (XT.i0_eq_t (by decide)) (by decide) (by decide) ?_
          show Steps p.tables e below (T163.setTop (mkF m 23 #[.val (.int c0), .val (.int i), .val (.int n)] [])) _
          refine XS.iconst X163.here hx rfl (hb hby d18_23) ?_
          exact kk_)
        obtain ⟨fs, hr, hrun, hended, hW, hsame⟩ := X163.leave (v := some (.int (0 : Int32))) (fun h => by rw [Bd.returns] at h; cases h)
        refine ⟨_, _, ?_, hrun, hended, _, _, rfl, ?_, ⟨_, rfl⟩, hW, hsame.mono (by decide) (by decide)⟩
        · rw [← hG]; exact S167 _ (retN X163 hx (t := .boolean) Bd.returns (by simp) (hb hby d18_24) hr)
        · show Q18 Z c0 i n h0 n0 _ T163.heap _
          rw [e163]
          exact ⟨Or.inr ⟨by simp [own_ok, hin, hwd, hdt], rfl⟩, M163, rfl⟩
  · have _ := N0
    have S168 : own_Go p e below s₁ G s₁ (mkF m 24 #[.val (.int c0), .val (.int i), .val (.int n)] [(.int (1 : Int32))]) := fun tg_ kk_ => S156 tg_ (by
      refine XS.icmpYes X0.here hx rfl (pc0 := 2) (pc' := 19) rfl (hb hby d18_2) rfl (XT.ii_ge_t hin) (by decide) (by decide) ?_
      show Steps p.tables e below (s₁.setTop (mkF m 19 #[.val (.int c0), .val (.int i), .val (.int n)] [])) _
      refine XS.iconst X0.here hx rfl (hb hby d18_19) ?_
      show Steps p.tables e below (s₁.setTop (mkF m 20 #[.val (.int c0), .val (.int i), .val (.int n)] [(.int (1 : Int32))])) _
      refine XS.goto X0.here hx rfl (pc0 := 20) (pc' := 24) rfl (hb hby d18_20) (by decide) (by decide) ?_
      exact kk_)
    obtain ⟨fs, hr, hrun, hended, hW, hsame⟩ := X0.leave (v := some (.int (1 : Int32))) (fun h => by rw [Bd.returns] at h; cases h)
    refine ⟨_, _, ?_, hrun, hended, _, _, rfl, ?_, ⟨_, rfl⟩, hW, hsame.mono (by decide) (by decide)⟩
    · rw [← hG]; exact S168 _ (retN X0 hx (t := .boolean) Bd.returns (by simp) (hb hby d18_24) hr)
    · show Q18 Z c0 i n h0 n0 _ s₁.heap _
      rw [e0]
      exact ⟨Or.inl ⟨by simp [own_ok, hin], rfl⟩, N0, rfl⟩
def Q21 (Z : State) (c0 : Int32) (c1 : Int32) (i : Int32) (n : Int32) (h0 : Heap) (n0 : Nat) (v : Option Value) (h : Heap) (L : List Loc) : Prop := ((own_pairB c0 c1 i n = true ∧ v = some (.int 1)) ∨ (own_pairB c0 c1 i n = false ∧ v = some (.int 0))) ∧ Fr n0 L ∧ h0 = h
set_option maxRecDepth 65536 in
set_option maxHeartbeats 40000000 in
theorem rm21 (l : Launch) (Z : State) (a0 : Array Value) (hw : ∀ d ∈ tables_1, d.before a0 Z = true) (ws : List Jvm.Cond) (c0 : Int32) (c1 : Int32) (i : Int32) (n : Int32) (h0 : Heap) (n0 : Nat) (Z0 : n0 ≤ h0.size)  :
    MetFree l (⟨"com/example/tallyhook/tallyhook/core/EventTypeIsSegmentsPinLaw", "pair", "(CCII)Z"⟩ : MethodName) (head1 (Jvm.Cond.code (⟨"com/example/tallyhook/tallyhook/core/EventTypeIsSegmentsPinLaw", "pair", "(CCII)Z"⟩ : MethodName) method_10_code 4 (some .boolean) :: ws) ({ frames := 1, cells := 0, slots := 0, locals := 14 } : Room)) (fun aa_ U => aa_ = #[(.int c0), (.int c1), (.int i), (.int n)] ∧ Z.Warmed39 U.vm ∧ U.heap = h0) (fun _ _ _ _ _ => True) (fun _ U o U' => ∃ v L, o = .returned v ∧ Q21 Z c0 c1 i n h0 n0 v U'.heap L ∧ FrameEnd U o U' L ({ frames := 1, cells := 0, slots := 0, locals := 14 } : Room).cells ({ frames := 1, cells := 0, slots := 0, locals := 14 } : Room).slots) := by
  refine MetFree.of_bodySF (plainFor_of_name pn3) hisR ?_
  intro p e s m args below meth c s₁ Bd hml0 hP hK
  obtain ⟨rfl, hZ, hh⟩ := hP
  have hx := Bd.exec
  have hby := Bd.bytes
  have hml : c.maxLocals = 4 := hml0
  have hown : s.vm.findClass "com/example/tallyhook/tallyhook/core/EventTypeIsSegmentsPinLaw" = some m.cls := findClass_of_methodNamed Bd.named
  have hnm := (name_of_methodNamed Bd.named Bd.method).1
  have X0 : Stand p l e ({ frames := 1, cells := 0, slots := 0, locals := 14 } : Room) s m #[(.int c0), (.int c1), (.int i), (.int n)] below meth c s₁ [] 0 0 := Stand.of_body Bd
  have e0 : s₁.heap = h0 := by rw [← hh, Bd.state]; rfl
  have N0 := Fr.nil n0
  obtain ⟨G, hG⟩ : ∃ G, G = entryFrame m #[(.int c0), (.int c1), (.int i), (.int n)] 4 := ⟨_, rfl⟩
  have S0 : own_Go p e below s₁ G s₁ (mkF m 0 #[.val (.int c0), .val (.int c1), .val (.int i), .val (.int n)] []) := fun tg_ kk_ => castTop (by rw [hG]; first | (simp [entryFrame, mkF, argsToLocals, Value.category, maxLocals]; done) | rfl) kk_
  have S169 : own_Go p e below s₁ G s₁ (mkF m 4 #[.val (.int c0), .val (.int c1), .val (.int i), .val (.int n)] [(.int n), (.int (i + (1 : Int32)))]) := fun tg_ kk_ => S0 tg_ (by
    refine XS.iloadN X0.here hx rfl (hb hby d21_0) rfl ?_
    show Steps p.tables e below (s₁.setTop (mkF m 1 #[.val (.int c0), .val (.int c1), .val (.int i), .val (.int n)] [(.int i)])) _
    refine XS.iconst X0.here hx rfl (hb hby d21_1) ?_
    show Steps p.tables e below (s₁.setTop (mkF m 2 #[.val (.int c0), .val (.int c1), .val (.int i), .val (.int n)] [(.int (1 : Int32)), (.int i)])) _
    refine XS.iadd X0.here hx rfl (hb hby d21_2) rfl ?_
    show Steps p.tables e below (s₁.setTop (mkF m 3 #[.val (.int c0), .val (.int c1), .val (.int i), .val (.int n)] [(.int (i + (1 : Int32)))])) _
    refine XS.iloadN X0.here hx rfl (hb hby d21_3) rfl ?_
    exact kk_)
  by_cases hin : (i + (1 : Int32)) < n
  · have _ := N0
    have S170 : own_Go p e below s₁ G s₁ (mkF m 8 #[.val (.int c0), .val (.int c1), .val (.int i), .val (.int n)] [(.int c0)]) := fun tg_ kk_ => S169 tg_ (by
      refine XS.icmpNo X0.here hx rfl (hb hby d21_4) rfl (XT.ii_ge_f hin) ?_
      show Steps p.tables e below (s₁.setTop (mkF m 7 #[.val (.int c0), .val (.int c1), .val (.int i), .val (.int n)] [])) _
      refine XS.iloadN X0.here hx rfl (hb hby d21_7) rfl ?_
      exact kk_)
    obtain ⟨_, T171, h171, L171, X171, e171, hQ171, st171⟩ := own_callS X0 hx hZ (y := (⟨"com/example/tallyhook/tallyhook/core/EventTypeIsSegmentsPinLaw", "dot", "(C)Z"⟩ : MethodName)) hown (hw _ (List.mem_of_getElem? (i := 84) rfl)) (hw _ (List.mem_of_getElem? (i := 85) rfl)) (hw _ (List.mem_of_getElem? (i := 3) rfl)) (hw _ (List.mem_of_getElem? (i := 86) rfl)) (by decide) 0 (g := (mkF m 8 #[.val (.int c0), .val (.int c1), .val (.int i), .val (.int n)] [(.int c0)])) rfl (by rw [hml]; rfl) [(.int c0)] [] (rm20 l Z a0 hw [] c0 h0 n0 Z0) (lenOf pd20 rfl) rfl (by show 2 * 0 + _ ≤ _; exact Nat.le_of_eq rfl) (hb hby d21_8) (by decide) (by decide) e0 (by decide) (by decide)
    rcases hQ171 with ⟨⟨h1, rfl⟩ | ⟨h1, rfl⟩, N171, rfl⟩
    · have _ := e171
      have S172 : own_Go p e below s₁ G T171 (mkF m 11 #[.val (.int c0), .val (.int c1), .val (.int i), .val (.int n)] [(.int (1 : Int32))]) := fun tg_ kk_ => S170 tg_ (st171 tg_ kk_)
      have M171 := Fr.app N0 N171
      have S173 : own_Go p e below s₁ G T171 (mkF m 15 #[.val (.int c0), .val (.int c1), .val (.int i), .val (.int n)] [(.int c1)]) := fun tg_ kk_ => S172 tg_ (by
        refine XS.ifNo X171.here hx rfl (hb hby d21_11) rfl (XT.i0_eq_f (by decide)) ?_
        show Steps p.tables e below (T171.setTop (mkF m 14 #[.val (.int c0), .val (.int c1), .val (.int i), .val (.int n)] [])) _
        refine XS.iloadN X171.here hx rfl (hb hby d21_14) rfl ?_
        exact kk_)
      obtain ⟨_, T174, h174, L174, X174, e174, hQ174, st174⟩ := own_callS X171 hx hZ (y := (⟨"com/example/tallyhook/tallyhook/core/EventTypeIsSegmentsPinLaw", "dot", "(C)Z"⟩ : MethodName)) hown (hw _ (List.mem_of_getElem? (i := 84) rfl)) (hw _ (List.mem_of_getElem? (i := 85) rfl)) (hw _ (List.mem_of_getElem? (i := 3) rfl)) (hw _ (List.mem_of_getElem? (i := 86) rfl)) (by decide) 0 (g := (mkF m 15 #[.val (.int c0), .val (.int c1), .val (.int i), .val (.int n)] [(.int c1)])) rfl (by rw [hml]; rfl) [(.int c1)] [] (rm20 l Z a0 hw [] c1 h0 n0 Z0) (lenOf pd20 rfl) rfl (by show 2 * 0 + _ ≤ _; exact Nat.le_of_eq rfl) (hb hby d21_15) (by decide) (by decide) e171 (by decide) (by decide)
      rcases hQ174 with ⟨⟨h2, rfl⟩ | ⟨h2, rfl⟩, N174, rfl⟩
      · have _ := e174
        have S175 : own_Go p e below s₁ G T174 (mkF m 18 #[.val (.int c0), .val (.int c1), .val (.int i), .val (.int n)] [(.int (1 : Int32))]) := fun tg_ kk_ => S173 tg_ (st174 tg_ kk_)
        have M174 := Fr.app M171 N174
        have S176 : own_Go p e below s₁ G T174 (mkF m 26 #[.val (.int c0), .val (.int c1), .val (.int i), .val (.int n)] [(.int (1 : Int32))]) := fun tg_ kk_ => S175 tg_ (by
          refine XS.ifNo X174.here hx rfl (hb hby d21_18) rfl (XT.i0_eq_f (by decide)) ?_
          show Steps p.tables e below (T174.setTop (mkF m 21 #[.val (.int c0), .val (.int c1), .val (.int i), .val (.int n)] [])) _
          refine XS.iconst X174.here hx rfl (hb hby d21_21) ?_
          show Steps p.tables e below (T174.setTop (mkF m 22 #[.val (.int c0), .val (.int c1), .val (.int i), .val (.int n)] [(.int (1 : Int32))])) _
          refine XS.goto X174.here hx rfl (pc0 := 22) (pc' := 26) rfl (hb hby d21_22) (by decide) (by decide) ?_
          exact kk_)
        obtain ⟨fs, hr, hrun, hended, hW, hsame⟩ := X174.leave (v := some (.int (1 : Int32))) (fun h => by rw [Bd.returns] at h; cases h)
        refine ⟨_, _, ?_, hrun, hended, _, _, rfl, ?_, ⟨_, rfl⟩, hW, hsame.mono (by decide) (by decide)⟩
        · rw [← hG]; exact S176 _ (retN X174 hx (t := .boolean) Bd.returns (by simp) (hb hby d21_26) hr)
        · show Q21 Z c0 c1 i n h0 n0 _ T174.heap _
          rw [e174]
          exact ⟨Or.inl ⟨by simp [own_pairB, hin, h1, h2], rfl⟩, M174, rfl⟩
      · have _ := e174
        have S177 : own_Go p e below s₁ G T174 (mkF m 18 #[.val (.int c0), .val (.int c1), .val (.int i), .val (.int n)] [(.int (0 : Int32))]) := fun tg_ kk_ => S173 tg_ (st174 tg_ kk_)
        have M174 := Fr.app M171 N174
        have S178 : own_Go p e below s₁ G T174 (mkF m 26 #[.val (.int c0), .val (.int c1), .val (.int i), .val (.int n)] [(.int (0 : Int32))]) := fun tg_ kk_ => S177 tg_ (by
          refine XS.ifYes X174.here hx rfl (pc0 := 18) (pc' := 25) rfl (hb hby d21_18) rfl (XT.i0_eq_t (by decide)) (by decide) (by decide) ?_
          show Steps p.tables e below (T174.setTop (mkF m 25 #[.val (.int c0), .val (.int c1), .val (.int i), .val (.int n)] [])) _
          refine XS.iconst X174.here hx rfl (hb hby d21_25) ?_
          exact kk_)
        obtain ⟨fs, hr, hrun, hended, hW, hsame⟩ := X174.leave (v := some (.int (0 : Int32))) (fun h => by rw [Bd.returns] at h; cases h)
        refine ⟨_, _, ?_, hrun, hended, _, _, rfl, ?_, ⟨_, rfl⟩, hW, hsame.mono (by decide) (by decide)⟩
        · rw [← hG]; exact S178 _ (retN X174 hx (t := .boolean) Bd.returns (by simp) (hb hby d21_26) hr)
        · show Q21 Z c0 c1 i n h0 n0 _ T174.heap _
          rw [e174]
          exact ⟨Or.inr ⟨by simp [own_pairB, h2], rfl⟩, M174, rfl⟩
    · have _ := e171
      have S179 : own_Go p e below s₁ G T171 (mkF m 11 #[.val (.int c0), .val (.int c1), .val (.int i), .val (.int n)] [(.int (0 : Int32))]) := fun tg_ kk_ => S170 tg_ (st171 tg_ kk_)
      have M171 := Fr.app N0 N171
      have S180 : own_Go p e below s₁ G T171 (mkF m 26 #[.val (.int c0), .val (.int c1), .val (.int i), .val (.int n)] [(.int (0 : Int32))]) := fun tg_ kk_ => S179 tg_ (by
        refine XS.ifYes X171.here hx rfl (pc0 := 11) (pc' := 25) rfl (hb hby d21_11) rfl (XT.i0_eq_t (by decide)) (by decide) (by decide) ?_
        show Steps p.tables e below (T171.setTop (mkF m 25 #[.val (.int c0), .val (.int c1), .val (.int i), .val (.int n)] [])) _
        refine XS.iconst X171.here hx rfl (hb hby d21_25) ?_
        exact kk_)
      obtain ⟨fs, hr, hrun, hended, hW, hsame⟩ := X171.leave (v := some (.int (0 : Int32))) (fun h => by rw [Bd.returns] at h; cases h)
      refine ⟨_, _, ?_, hrun, hended, _, _, rfl, ?_, ⟨_, rfl⟩, hW, hsame.mono (by decide) (by decide)⟩
      · rw [← hG]; exact S180 _ (retN X171 hx (t := .boolean) Bd.returns (by simp) (hb hby d21_26) hr)
      · show Q21 Z c0 c1 i n h0 n0 _ T171.heap _
        rw [e171]
        exact ⟨Or.inr ⟨by simp [own_pairB, h1], rfl⟩, M171, rfl⟩
  · have _ := N0
    have S181 : own_Go p e below s₁ G s₁ (mkF m 26 #[.val (.int c0), .val (.int c1), .val (.int i), .val (.int n)] [(.int (0 : Int32))]) := fun tg_ kk_ => S169 tg_ (by
      refine XS.icmpYes X0.here hx rfl (pc0 := 4) (pc' := 25) rfl (hb hby d21_4) rfl (XT.ii_ge_t hin) (by decide) (by decide) ?_
      show Steps p.tables e below (s₁.setTop (mkF m 25 #[.val (.int c0), .val (.int c1), .val (.int i), .val (.int n)] [])) _
      refine XS.iconst X0.here hx rfl (hb hby d21_25) ?_
      exact kk_)
    obtain ⟨fs, hr, hrun, hended, hW, hsame⟩ := X0.leave (v := some (.int (0 : Int32))) (fun h => by rw [Bd.returns] at h; cases h)
    refine ⟨_, _, ?_, hrun, hended, _, _, rfl, ?_, ⟨_, rfl⟩, hW, hsame.mono (by decide) (by decide)⟩
    · rw [← hG]; exact S181 _ (retN X0 hx (t := .boolean) Bd.returns (by simp) (hb hby d21_26) hr)
    · show Q21 Z c0 c1 i n h0 n0 _ s₁.heap _
      rw [e0]
      exact ⟨Or.inr ⟨by simp [own_pairB, hin], rfl⟩, N0, rfl⟩
def Q23 (Z : State) (c0 : Int32) (i : Int32) (n : Int32) (h0 : Heap) (n0 : Nat) (v : Option Value) (h : Heap) (L : List Loc) : Prop := v = some (.int (own_bit (own_dotAt c0 i n))) ∧ Fr n0 L ∧ h0 = h
set_option maxRecDepth 65536 in
set_option maxHeartbeats 40000000 in
theorem rm23 (l : Launch) (Z : State) (a0 : Array Value) (hw : ∀ d ∈ tables_1, d.before a0 Z = true) (ws : List Jvm.Cond) (c0 : Int32) (i : Int32) (n : Int32) (h0 : Heap) (n0 : Nat) (Z0 : n0 ≤ h0.size)  :
    MetFree l (⟨"com/example/tallyhook/tallyhook/core/EventTypeIsSegmentsPinLaw", "dotAt", "(CII)I"⟩ : MethodName) (head1 (Jvm.Cond.code (⟨"com/example/tallyhook/tallyhook/core/EventTypeIsSegmentsPinLaw", "dotAt", "(CII)I"⟩ : MethodName) method_9_code 3 (some .int) :: ws) ({ frames := 1, cells := 0, slots := 0, locals := 14 } : Room)) (fun aa_ U => aa_ = #[(.int c0), (.int i), (.int n)] ∧ Z.Warmed39 U.vm ∧ U.heap = h0) (fun _ _ _ _ _ => True) (fun _ U o U' => ∃ v L, o = .returned v ∧ Q23 Z c0 i n h0 n0 v U'.heap L ∧ FrameEnd U o U' L ({ frames := 1, cells := 0, slots := 0, locals := 14 } : Room).cells ({ frames := 1, cells := 0, slots := 0, locals := 14 } : Room).slots) := by
  refine MetFree.of_bodySF (plainFor_of_name pn3) hisR ?_
  intro p e s m args below meth c s₁ Bd hml0 hP hK
  obtain ⟨rfl, hZ, hh⟩ := hP
  have hx := Bd.exec
  have hby := Bd.bytes
  have hml : c.maxLocals = 3 := hml0
  have hown : s.vm.findClass "com/example/tallyhook/tallyhook/core/EventTypeIsSegmentsPinLaw" = some m.cls := findClass_of_methodNamed Bd.named
  have hnm := (name_of_methodNamed Bd.named Bd.method).1
  have X0 : Stand p l e ({ frames := 1, cells := 0, slots := 0, locals := 14 } : Room) s m #[(.int c0), (.int i), (.int n)] below meth c s₁ [] 0 0 := Stand.of_body Bd
  have e0 : s₁.heap = h0 := by rw [← hh, Bd.state]; rfl
  have N0 := Fr.nil n0
  obtain ⟨G, hG⟩ : ∃ G, G = entryFrame m #[(.int c0), (.int i), (.int n)] 3 := ⟨_, rfl⟩
  have S0 : own_Go p e below s₁ G s₁ (mkF m 0 #[.val (.int c0), .val (.int i), .val (.int n)] []) := fun tg_ kk_ => castTop (by rw [hG]; first | rfl | simp [entryFrame, mkF, argsToLocals, Value.category, maxLocals]) kk_
  have S182 : own_Go p e below s₁ G s₁ (mkF m 2 #[.val (.int c0), .val (.int i), .val (.int n)] [(.int n), (.int i)]) := fun tg_ kk_ => S0 tg_ (by
    refine XS.iloadN X0.here hx rfl (hb hby d23_0) rfl ?_
    show Steps p.tables e below (s₁.setTop (mkF m 1 #[.val (.int c0), .val (.int i), .val (.int n)] [(.int i)])) _
    refine XS.iloadN X0.here hx rfl (hb hby d23_1) rfl ?_
    exact kk_)
  by_cases hin : i < n
  · have _ := N0
    have S183 : own_Go p e below s₁ G s₁ (mkF m 6 #[.val (.int c0), .val (.int i), .val (.int n)] [(.int c0)]) := fun tg_ kk_ => S182 tg_ (by
      refine XS.icmpNo X0.here hx rfl (hb hby d23_2) rfl (XT.ii_ge_f hin) ?_
      show Steps p.tables e below (s₁.setTop (mkF m 5 #[.val (.int c0), .val (.int i), .val (.int n)] [])) _
      refine XS.iloadN X0.here hx rfl (hb hby d23_5) rfl ?_
      exact kk_)
    obtain ⟨_, T184, h184, L184, X184, e184, hQ184, st184⟩ := own_callS X0 hx hZ (y := (⟨"com/example/tallyhook/tallyhook/core/EventTypeIsSegmentsPinLaw", "dot", "(C)Z"⟩ : MethodName)) hown (hw _ (List.mem_of_getElem? (i := 84) rfl)) (hw _ (List.mem_of_getElem? (i := 85) rfl)) (hw _ (List.mem_of_getElem? (i := 3) rfl)) (hw _ (List.mem_of_getElem? (i := 86) rfl)) (by decide) 0 (g := (mkF m 6 #[.val (.int c0), .val (.int i), .val (.int n)] [(.int c0)])) rfl (by rw [hml]; rfl) [(.int c0)] [] (rm20 l Z a0 hw [] c0 h0 n0 Z0) (lenOf pd20 rfl) rfl (by show 2 * 0 + _ ≤ _; exact Nat.le_of_eq rfl) (hb hby d23_6) (by decide) (by decide) e0 (by decide) (by decide)
    rcases hQ184 with ⟨⟨h1, rfl⟩ | ⟨h1, rfl⟩, N184, rfl⟩
    · have _ := e184
      have S185 : own_Go p e below s₁ G T184 (mkF m 9 #[.val (.int c0), .val (.int i), .val (.int n)] [(.int (1 : Int32))]) := fun tg_ kk_ => S183 tg_ (st184 tg_ kk_)
      have M184 := Fr.app N0 N184
      have S186 : own_Go p e below s₁ G T184 (mkF m 17 #[.val (.int c0), .val (.int i), .val (.int n)] [(.int (1 : Int32))]) := fun tg_ kk_ => S185 tg_ (by
        refine XS.ifNo X184.here hx rfl (hb hby d23_9) rfl (XT.i0_eq_f (by decide)) ?_
        show Steps p.tables e below (T184.setTop (mkF m 12 #[.val (.int c0), .val (.int i), .val (.int n)] [])) _
        refine XS.iconst X184.here hx rfl (hb hby d23_12) ?_
        show Steps p.tables e below (T184.setTop (mkF m 13 #[.val (.int c0), .val (.int i), .val (.int n)] [(.int (1 : Int32))])) _
        refine XS.goto X184.here hx rfl (pc0 := 13) (pc' := 17) rfl (hb hby d23_13) (by decide) (by decide) ?_
        exact kk_)
      obtain ⟨fs, hr, hrun, hended, hW, hsame⟩ := X184.leave (v := some (.int (1 : Int32))) (fun h => by rw [Bd.returns] at h; cases h)
      refine ⟨_, _, ?_, hrun, hended, _, _, rfl, ?_, ⟨_, rfl⟩, hW, hsame.mono (by decide) (by decide)⟩
      · rw [← hG]; exact S186 _ (retI X184 hx Bd.returns (hb hby d23_17) hr)
      · show Q23 Z c0 i n h0 n0 _ T184.heap _
        rw [e184]
        exact ⟨by simp [own_dotAt, own_bit, hin, h1], M184, rfl⟩
    · have _ := e184
      have S187 : own_Go p e below s₁ G T184 (mkF m 9 #[.val (.int c0), .val (.int i), .val (.int n)] [(.int (0 : Int32))]) := fun tg_ kk_ => S183 tg_ (st184 tg_ kk_)
      have M184 := Fr.app N0 N184
      have S188 : own_Go p e below s₁ G T184 (mkF m 17 #[.val (.int c0), .val (.int i), .val (.int n)] [(.int (0 : Int32))]) := fun tg_ kk_ => S187 tg_ (by
        refine XS.ifYes X184.here hx rfl (pc0 := 9) (pc' := 16) rfl (hb hby d23_9) rfl (XT.i0_eq_t (by decide)) (by decide) (by decide) ?_
        show Steps p.tables e below (T184.setTop (mkF m 16 #[.val (.int c0), .val (.int i), .val (.int n)] [])) _
        refine XS.iconst X184.here hx rfl (hb hby d23_16) ?_
        exact kk_)
      obtain ⟨fs, hr, hrun, hended, hW, hsame⟩ := X184.leave (v := some (.int (0 : Int32))) (fun h => by rw [Bd.returns] at h; cases h)
      refine ⟨_, _, ?_, hrun, hended, _, _, rfl, ?_, ⟨_, rfl⟩, hW, hsame.mono (by decide) (by decide)⟩
      · rw [← hG]; exact S188 _ (retI X184 hx Bd.returns (hb hby d23_17) hr)
      · show Q23 Z c0 i n h0 n0 _ T184.heap _
        rw [e184]
        exact ⟨by simp [own_dotAt, own_bit, h1], M184, rfl⟩
  · have _ := N0
    have S189 : own_Go p e below s₁ G s₁ (mkF m 17 #[.val (.int c0), .val (.int i), .val (.int n)] [(.int (0 : Int32))]) := fun tg_ kk_ => S182 tg_ (by
      refine XS.icmpYes X0.here hx rfl (pc0 := 2) (pc' := 16) rfl (hb hby d23_2) rfl (XT.ii_ge_t hin) (by decide) (by decide) ?_
      show Steps p.tables e below (s₁.setTop (mkF m 16 #[.val (.int c0), .val (.int i), .val (.int n)] [])) _
      refine XS.iconst X0.here hx rfl (hb hby d23_16) ?_
      exact kk_)
    obtain ⟨fs, hr, hrun, hended, hW, hsame⟩ := X0.leave (v := some (.int (0 : Int32))) (fun h => by rw [Bd.returns] at h; cases h)
    refine ⟨_, _, ?_, hrun, hended, _, _, rfl, ?_, ⟨_, rfl⟩, hW, hsame.mono (by decide) (by decide)⟩
    · rw [← hG]; exact S189 _ (retI X0 hx Bd.returns (hb hby d23_17) hr)
    · show Q23 Z c0 i n h0 n0 _ s₁.heap _
      rw [e0]
      exact ⟨by simp [own_dotAt, own_bit, hin], N0, rfl⟩
def Q22 (Z : State) (k : Nat) (c0 : Int32) (c1 : Int32) (c2 : Int32) (c3 : Int32) (c4 : Int32) (c5 : Int32) (c6 : Int32) (c7 : Int32) (h0 : Heap) (n0 : Nat) (v : Option Value) (h : Heap) (L : List Loc) : Prop := v = some (.int ([c0, c1, c2, c3, c4, c5, c6, c7].getD k 0)) ∧ Fr n0 L ∧ h0 = h
set_option maxRecDepth 65536 in
set_option maxHeartbeats 40000000 in
theorem rm22 (l : Launch) (Z : State) (a0 : Array Value) (hw : ∀ d ∈ tables_1, d.before a0 Z = true) (ws : List Jvm.Cond) (k : Nat) (c0 : Int32) (c1 : Int32) (c2 : Int32) (c3 : Int32) (c4 : Int32) (c5 : Int32) (c6 : Int32) (c7 : Int32) (h0 : Heap) (n0 : Nat) (Z0 : n0 ≤ h0.size) (hk : k < 8) (hc : ∀ c ∈ [c0, c1, c2, c3, c4, c5, c6, c7], own_B c) :
    MetFree l (⟨"com/example/tallyhook/tallyhook/core/EventTypeIsSegmentsPinLaw", "pick", "(ICCCCCCCC)C"⟩ : MethodName) (head1 (Jvm.Cond.code (⟨"com/example/tallyhook/tallyhook/core/EventTypeIsSegmentsPinLaw", "pick", "(ICCCCCCCC)C"⟩ : MethodName) method_5_code 9 (some .char) :: ws) ({ frames := 0, cells := 0, slots := 0, locals := 0 } : Room)) (fun aa_ U => aa_ = #[(.int (Int32.ofNat k)), (.int c0), (.int c1), (.int c2), (.int c3), (.int c4), (.int c5), (.int c6), (.int c7)] ∧ Z.Warmed39 U.vm ∧ U.heap = h0) (fun _ _ _ _ _ => True) (fun _ U o U' => ∃ v L, o = .returned v ∧ Q22 Z k c0 c1 c2 c3 c4 c5 c6 c7 h0 n0 v U'.heap L ∧ FrameEnd U o U' L ({ frames := 0, cells := 0, slots := 0, locals := 0 } : Room).cells ({ frames := 0, cells := 0, slots := 0, locals := 0 } : Room).slots) := by
  refine MetFree.of_bodySF (plainFor_of_name pn3) hisR ?_
  intro p e s m args below meth c s₁ Bd hml0 hP hK
  obtain ⟨rfl, hZ, hh⟩ := hP
  have hx := Bd.exec
  have hby := Bd.bytes
  have hml : c.maxLocals = 9 := hml0
  have hown : s.vm.findClass "com/example/tallyhook/tallyhook/core/EventTypeIsSegmentsPinLaw" = some m.cls := findClass_of_methodNamed Bd.named
  have hnm := (name_of_methodNamed Bd.named Bd.method).1
  have X0 : Stand p l e ({ frames := 0, cells := 0, slots := 0, locals := 0 } : Room) s m #[(.int (Int32.ofNat k)), (.int c0), (.int c1), (.int c2), (.int c3), (.int c4), (.int c5), (.int c6), (.int c7)] below meth c s₁ [] 0 0 := Stand.of_body Bd
  have e0 : s₁.heap = h0 := by rw [← hh, Bd.state]; rfl
  have N0 := Fr.nil n0
  obtain ⟨G, hG⟩ : ∃ G, G = entryFrame m #[(.int (Int32.ofNat k)), (.int c0), (.int c1), (.int c2), (.int c3), (.int c4), (.int c5), (.int c6), (.int c7)] 9 := ⟨_, rfl⟩
  have S0 : own_Go p e below s₁ G s₁ (mkF m 0 #[.val (.int (Int32.ofNat k)), .val (.int c0), .val (.int c1), .val (.int c2), .val (.int c3), .val (.int c4), .val (.int c5), .val (.int c6), .val (.int c7)] []) := fun tg_ kk_ => castTop (by rw [hG]; first | (simp [entryFrame, mkF, argsToLocals, Value.category, maxLocals]; done) | rfl) kk_
  have hk8 : k = 0 ∨ k = 1 ∨ k = 2 ∨ k = 3 ∨ k = 4 ∨ k = 5 ∨ k = 6 ∨ k = 7 := by omega
  rcases hk8 with rfl | rfl | rfl | rfl | rfl | rfl | rfl | rfl
  · have _ := N0
    have S190 : own_Go p e below s₁ G s₁ (mkF m 5 #[.val (.int (0 : Int32)), .val (.int c0), .val (.int c1), .val (.int c2), .val (.int c3), .val (.int c4), .val (.int c5), .val (.int c6), .val (.int c7)] [(.int c0)]) := fun tg_ kk_ => S0 tg_ (by
      refine XS.iloadN X0.here hx rfl (hb hby d22_0) rfl ?_
      show Steps p.tables e below (s₁.setTop (mkF m 1 #[.val (.int (0 : Int32)), .val (.int c0), .val (.int c1), .val (.int c2), .val (.int c3), .val (.int c4), .val (.int c5), .val (.int c6), .val (.int c7)] [(.int (0 : Int32))])) _
      refine XS.ifNo X0.here hx rfl (hb hby d22_1) rfl (XT.i0_ne_f (by decide)) ?_
      show Steps p.tables e below (s₁.setTop (mkF m 4 #[.val (.int (0 : Int32)), .val (.int c0), .val (.int c1), .val (.int c2), .val (.int c3), .val (.int c4), .val (.int c5), .val (.int c6), .val (.int c7)] [])) _
      refine XS.iloadN X0.here hx rfl (hb hby d22_4) rfl ?_
      exact kk_)
    obtain ⟨fs, hr, hrun, hended, hW, hsame⟩ := X0.leave (v := some (.int (nar .char c0))) (fun h => by rw [Bd.returns] at h; cases h)
    refine ⟨_, _, ?_, hrun, hended, _, _, rfl, ?_, ⟨_, rfl⟩, hW, hsame.mono (by decide) (by decide)⟩
    · rw [← hG]; exact S190 _ (retN X0 hx (t := .char) Bd.returns (by simp) (hb hby d22_5) hr)
    · show Q22 Z 0 c0 c1 c2 c3 c4 c5 c6 c7 h0 n0 _ s₁.heap _
      rw [e0]
      exact ⟨by rw [own_nar_char (hc c0 (by simp)).ch]; rfl, N0, rfl⟩
  · have _ := N0
    have S191 : own_Go p e below s₁ G s₁ (mkF m 12 #[.val (.int (1 : Int32)), .val (.int c0), .val (.int c1), .val (.int c2), .val (.int c3), .val (.int c4), .val (.int c5), .val (.int c6), .val (.int c7)] [(.int c1)]) := fun tg_ kk_ => S0 tg_ (by
      refine XS.iloadN X0.here hx rfl (hb hby d22_0) rfl ?_
      show Steps p.tables e below (s₁.setTop (mkF m 1 #[.val (.int (1 : Int32)), .val (.int c0), .val (.int c1), .val (.int c2), .val (.int c3), .val (.int c4), .val (.int c5), .val (.int c6), .val (.int c7)] [(.int (1 : Int32))])) _
      refine XS.ifYes X0.here hx rfl (pc0 := 1) (pc' := 6) rfl (hb hby d22_1) rfl (XT.i0_ne_t (by decide)) (by decide) (by decide) ?_
      show Steps p.tables e below (s₁.setTop (mkF m 6 #[.val (.int (1 : Int32)), .val (.int c0), .val (.int c1), .val (.int c2), .val (.int c3), .val (.int c4), .val (.int c5), .val (.int c6), .val (.int c7)] [])) _
      refine XS.iloadN X0.here hx rfl (hb hby d22_6) rfl ?_
      show Steps p.tables e below (s₁.setTop (mkF m 7 #[.val (.int (1 : Int32)), .val (.int c0), .val (.int c1), .val (.int c2), .val (.int c3), .val (.int c4), .val (.int c5), .val (.int c6), .val (.int c7)] [(.int (1 : Int32))])) _
      refine XS.iconst X0.here hx rfl (hb hby d22_7) ?_
      show Steps p.tables e below (s₁.setTop (mkF m 8 #[.val (.int (1 : Int32)), .val (.int c0), .val (.int c1), .val (.int c2), .val (.int c3), .val (.int c4), .val (.int c5), .val (.int c6), .val (.int c7)] [(.int (1 : Int32)), (.int (1 : Int32))])) _
      refine XS.icmpNo X0.here hx rfl (hb hby d22_8) rfl (XT.ii_ne_f (by decide)) ?_
      show Steps p.tables e below (s₁.setTop (mkF m 11 #[.val (.int (1 : Int32)), .val (.int c0), .val (.int c1), .val (.int c2), .val (.int c3), .val (.int c4), .val (.int c5), .val (.int c6), .val (.int c7)] [])) _
      refine XS.iloadN X0.here hx rfl (hb hby d22_11) rfl ?_
      exact kk_)
    obtain ⟨fs, hr, hrun, hended, hW, hsame⟩ := X0.leave (v := some (.int (nar .char c1))) (fun h => by rw [Bd.returns] at h; cases h)
    refine ⟨_, _, ?_, hrun, hended, _, _, rfl, ?_, ⟨_, rfl⟩, hW, hsame.mono (by decide) (by decide)⟩
    · rw [← hG]; exact S191 _ (retN X0 hx (t := .char) Bd.returns (by simp) (hb hby d22_12) hr)
    · show Q22 Z 1 c0 c1 c2 c3 c4 c5 c6 c7 h0 n0 _ s₁.heap _
      rw [e0]
      exact ⟨by rw [own_nar_char (hc c1 (by simp)).ch]; rfl, N0, rfl⟩
  · have _ := N0
    have S192 : own_Go p e below s₁ G s₁ (mkF m 19 #[.val (.int (2 : Int32)), .val (.int c0), .val (.int c1), .val (.int c2), .val (.int c3), .val (.int c4), .val (.int c5), .val (.int c6), .val (.int c7)] [(.int c2)]) := fun tg_ kk_ => S0 tg_ (by
      refine XS.iloadN X0.here hx rfl (hb hby d22_0) rfl ?_
      show Steps p.tables e below (s₁.setTop (mkF m 1 #[.val (.int (2 : Int32)), .val (.int c0), .val (.int c1), .val (.int c2), .val (.int c3), .val (.int c4), .val (.int c5), .val (.int c6), .val (.int c7)] [(.int (2 : Int32))])) _
      refine XS.ifYes X0.here hx rfl (pc0 := 1) (pc' := 6) rfl (hb hby d22_1) rfl (XT.i0_ne_t (by decide)) (by decide) (by decide) ?_
      show Steps p.tables e below (s₁.setTop (mkF m 6 #[.val (.int (2 : Int32)), .val (.int c0), .val (.int c1), .val (.int c2), .val (.int c3), .val (.int c4), .val (.int c5), .val (.int c6), .val (.int c7)] [])) _
      refine XS.iloadN X0.here hx rfl (hb hby d22_6) rfl ?_
      show Steps p.tables e below (s₁.setTop (mkF m 7 #[.val (.int (2 : Int32)), .val (.int c0), .val (.int c1), .val (.int c2), .val (.int c3), .val (.int c4), .val (.int c5), .val (.int c6), .val (.int c7)] [(.int (2 : Int32))])) _
      refine XS.iconst X0.here hx rfl (hb hby d22_7) ?_
      show Steps p.tables e below (s₁.setTop (mkF m 8 #[.val (.int (2 : Int32)), .val (.int c0), .val (.int c1), .val (.int c2), .val (.int c3), .val (.int c4), .val (.int c5), .val (.int c6), .val (.int c7)] [(.int (1 : Int32)), (.int (2 : Int32))])) _
      refine XS.icmpYes X0.here hx rfl (pc0 := 8) (pc' := 13) rfl (hb hby d22_8) rfl (XT.ii_ne_t (by decide)) (by decide) (by decide) ?_
      show Steps p.tables e below (s₁.setTop (mkF m 13 #[.val (.int (2 : Int32)), .val (.int c0), .val (.int c1), .val (.int c2), .val (.int c3), .val (.int c4), .val (.int c5), .val (.int c6), .val (.int c7)] [])) _
      refine XS.iloadN X0.here hx rfl (hb hby d22_13) rfl ?_
      show Steps p.tables e below (s₁.setTop (mkF m 14 #[.val (.int (2 : Int32)), .val (.int c0), .val (.int c1), .val (.int c2), .val (.int c3), .val (.int c4), .val (.int c5), .val (.int c6), .val (.int c7)] [(.int (2 : Int32))])) _
      refine XS.iconst X0.here hx rfl (hb hby d22_14) ?_
      show Steps p.tables e below (s₁.setTop (mkF m 15 #[.val (.int (2 : Int32)), .val (.int c0), .val (.int c1), .val (.int c2), .val (.int c3), .val (.int c4), .val (.int c5), .val (.int c6), .val (.int c7)] [(.int (2 : Int32)), (.int (2 : Int32))])) _
      refine XS.icmpNo X0.here hx rfl (hb hby d22_15) rfl (XT.ii_ne_f (by decide)) ?_
      show Steps p.tables e below (s₁.setTop (mkF m 18 #[.val (.int (2 : Int32)), .val (.int c0), .val (.int c1), .val (.int c2), .val (.int c3), .val (.int c4), .val (.int c5), .val (.int c6), .val (.int c7)] [])) _
      refine XS.iloadN X0.here hx rfl (hb hby d22_18) rfl ?_
      exact kk_)
    obtain ⟨fs, hr, hrun, hended, hW, hsame⟩ := X0.leave (v := some (.int (nar .char c2))) (fun h => by rw [Bd.returns] at h; cases h)
    refine ⟨_, _, ?_, hrun, hended, _, _, rfl, ?_, ⟨_, rfl⟩, hW, hsame.mono (by decide) (by decide)⟩
    · rw [← hG]; exact S192 _ (retN X0 hx (t := .char) Bd.returns (by simp) (hb hby d22_19) hr)
    · show Q22 Z 2 c0 c1 c2 c3 c4 c5 c6 c7 h0 n0 _ s₁.heap _
      rw [e0]
      exact ⟨by rw [own_nar_char (hc c2 (by simp)).ch]; rfl, N0, rfl⟩
  · have _ := N0
    have S193 : own_Go p e below s₁ G s₁ (mkF m 27 #[.val (.int (3 : Int32)), .val (.int c0), .val (.int c1), .val (.int c2), .val (.int c3), .val (.int c4), .val (.int c5), .val (.int c6), .val (.int c7)] [(.int c3)]) := fun tg_ kk_ => S0 tg_ (by
      refine XS.iloadN X0.here hx rfl (hb hby d22_0) rfl ?_
      show Steps p.tables e below (s₁.setTop (mkF m 1 #[.val (.int (3 : Int32)), .val (.int c0), .val (.int c1), .val (.int c2), .val (.int c3), .val (.int c4), .val (.int c5), .val (.int c6), .val (.int c7)] [(.int (3 : Int32))])) _
      refine XS.ifYes X0.here hx rfl (pc0 := 1) (pc' := 6) rfl (hb hby d22_1) rfl (XT.i0_ne_t (by decide)) (by decide) (by decide) ?_
      show Steps p.tables e below (s₁.setTop (mkF m 6 #[.val (.int (3 : Int32)), .val (.int c0), .val (.int c1), .val (.int c2), .val (.int c3), .val (.int c4), .val (.int c5), .val (.int c6), .val (.int c7)] [])) _
      refine XS.iloadN X0.here hx rfl (hb hby d22_6) rfl ?_
      show Steps p.tables e below (s₁.setTop (mkF m 7 #[.val (.int (3 : Int32)), .val (.int c0), .val (.int c1), .val (.int c2), .val (.int c3), .val (.int c4), .val (.int c5), .val (.int c6), .val (.int c7)] [(.int (3 : Int32))])) _
      refine XS.iconst X0.here hx rfl (hb hby d22_7) ?_
      show Steps p.tables e below (s₁.setTop (mkF m 8 #[.val (.int (3 : Int32)), .val (.int c0), .val (.int c1), .val (.int c2), .val (.int c3), .val (.int c4), .val (.int c5), .val (.int c6), .val (.int c7)] [(.int (1 : Int32)), (.int (3 : Int32))])) _
      refine XS.icmpYes X0.here hx rfl (pc0 := 8) (pc' := 13) rfl (hb hby d22_8) rfl (XT.ii_ne_t (by decide)) (by decide) (by decide) ?_
      show Steps p.tables e below (s₁.setTop (mkF m 13 #[.val (.int (3 : Int32)), .val (.int c0), .val (.int c1), .val (.int c2), .val (.int c3), .val (.int c4), .val (.int c5), .val (.int c6), .val (.int c7)] [])) _
      refine XS.iloadN X0.here hx rfl (hb hby d22_13) rfl ?_
      show Steps p.tables e below (s₁.setTop (mkF m 14 #[.val (.int (3 : Int32)), .val (.int c0), .val (.int c1), .val (.int c2), .val (.int c3), .val (.int c4), .val (.int c5), .val (.int c6), .val (.int c7)] [(.int (3 : Int32))])) _
      refine XS.iconst X0.here hx rfl (hb hby d22_14) ?_
      show Steps p.tables e below (s₁.setTop (mkF m 15 #[.val (.int (3 : Int32)), .val (.int c0), .val (.int c1), .val (.int c2), .val (.int c3), .val (.int c4), .val (.int c5), .val (.int c6), .val (.int c7)] [(.int (2 : Int32)), (.int (3 : Int32))])) _
      refine XS.icmpYes X0.here hx rfl (pc0 := 15) (pc' := 20) rfl (hb hby d22_15) rfl (XT.ii_ne_t (by decide)) (by decide) (by decide) ?_
      show Steps p.tables e below (s₁.setTop (mkF m 20 #[.val (.int (3 : Int32)), .val (.int c0), .val (.int c1), .val (.int c2), .val (.int c3), .val (.int c4), .val (.int c5), .val (.int c6), .val (.int c7)] [])) _
      refine XS.iloadN X0.here hx rfl (hb hby d22_20) rfl ?_
      show Steps p.tables e below (s₁.setTop (mkF m 21 #[.val (.int (3 : Int32)), .val (.int c0), .val (.int c1), .val (.int c2), .val (.int c3), .val (.int c4), .val (.int c5), .val (.int c6), .val (.int c7)] [(.int (3 : Int32))])) _
      refine XS.iconst X0.here hx rfl (hb hby d22_21) ?_
      show Steps p.tables e below (s₁.setTop (mkF m 22 #[.val (.int (3 : Int32)), .val (.int c0), .val (.int c1), .val (.int c2), .val (.int c3), .val (.int c4), .val (.int c5), .val (.int c6), .val (.int c7)] [(.int (3 : Int32)), (.int (3 : Int32))])) _
      refine XS.icmpNo X0.here hx rfl (hb hby d22_22) rfl (XT.ii_ne_f (by decide)) ?_
      show Steps p.tables e below (s₁.setTop (mkF m 25 #[.val (.int (3 : Int32)), .val (.int c0), .val (.int c1), .val (.int c2), .val (.int c3), .val (.int c4), .val (.int c5), .val (.int c6), .val (.int c7)] [])) _
      refine XS.iload X0.here hx rfl (hb hby d22_25) rfl ?_
      exact kk_)
    obtain ⟨fs, hr, hrun, hended, hW, hsame⟩ := X0.leave (v := some (.int (nar .char c3))) (fun h => by rw [Bd.returns] at h; cases h)
    refine ⟨_, _, ?_, hrun, hended, _, _, rfl, ?_, ⟨_, rfl⟩, hW, hsame.mono (by decide) (by decide)⟩
    · rw [← hG]; exact S193 _ (retN X0 hx (t := .char) Bd.returns (by simp) (hb hby d22_27) hr)
    · show Q22 Z 3 c0 c1 c2 c3 c4 c5 c6 c7 h0 n0 _ s₁.heap _
      rw [e0]
      exact ⟨by rw [own_nar_char (hc c3 (by simp)).ch]; rfl, N0, rfl⟩
  · have _ := N0
    have S194 : own_Go p e below s₁ G s₁ (mkF m 35 #[.val (.int (4 : Int32)), .val (.int c0), .val (.int c1), .val (.int c2), .val (.int c3), .val (.int c4), .val (.int c5), .val (.int c6), .val (.int c7)] [(.int c4)]) := fun tg_ kk_ => S0 tg_ (by
      refine XS.iloadN X0.here hx rfl (hb hby d22_0) rfl ?_
      show Steps p.tables e below (s₁.setTop (mkF m 1 #[.val (.int (4 : Int32)), .val (.int c0), .val (.int c1), .val (.int c2), .val (.int c3), .val (.int c4), .val (.int c5), .val (.int c6), .val (.int c7)] [(.int (4 : Int32))])) _
      refine XS.ifYes X0.here hx rfl (pc0 := 1) (pc' := 6) rfl (hb hby d22_1) rfl (XT.i0_ne_t (by decide)) (by decide) (by decide) ?_
      show Steps p.tables e below (s₁.setTop (mkF m 6 #[.val (.int (4 : Int32)), .val (.int c0), .val (.int c1), .val (.int c2), .val (.int c3), .val (.int c4), .val (.int c5), .val (.int c6), .val (.int c7)] [])) _
      refine XS.iloadN X0.here hx rfl (hb hby d22_6) rfl ?_
      show Steps p.tables e below (s₁.setTop (mkF m 7 #[.val (.int (4 : Int32)), .val (.int c0), .val (.int c1), .val (.int c2), .val (.int c3), .val (.int c4), .val (.int c5), .val (.int c6), .val (.int c7)] [(.int (4 : Int32))])) _
      refine XS.iconst X0.here hx rfl (hb hby d22_7) ?_
      show Steps p.tables e below (s₁.setTop (mkF m 8 #[.val (.int (4 : Int32)), .val (.int c0), .val (.int c1), .val (.int c2), .val (.int c3), .val (.int c4), .val (.int c5), .val (.int c6), .val (.int c7)] [(.int (1 : Int32)), (.int (4 : Int32))])) _
      refine XS.icmpYes X0.here hx rfl (pc0 := 8) (pc' := 13) rfl (hb hby d22_8) rfl (XT.ii_ne_t (by decide)) (by decide) (by decide) ?_
      show Steps p.tables e below (s₁.setTop (mkF m 13 #[.val (.int (4 : Int32)), .val (.int c0), .val (.int c1), .val (.int c2), .val (.int c3), .val (.int c4), .val (.int c5), .val (.int c6), .val (.int c7)] [])) _
      refine XS.iloadN X0.here hx rfl (hb hby d22_13) rfl ?_
      show Steps p.tables e below (s₁.setTop (mkF m 14 #[.val (.int (4 : Int32)), .val (.int c0), .val (.int c1), .val (.int c2), .val (.int c3), .val (.int c4), .val (.int c5), .val (.int c6), .val (.int c7)] [(.int (4 : Int32))])) _
      refine XS.iconst X0.here hx rfl (hb hby d22_14) ?_
      show Steps p.tables e below (s₁.setTop (mkF m 15 #[.val (.int (4 : Int32)), .val (.int c0), .val (.int c1), .val (.int c2), .val (.int c3), .val (.int c4), .val (.int c5), .val (.int c6), .val (.int c7)] [(.int (2 : Int32)), (.int (4 : Int32))])) _
      refine XS.icmpYes X0.here hx rfl (pc0 := 15) (pc' := 20) rfl (hb hby d22_15) rfl (XT.ii_ne_t (by decide)) (by decide) (by decide) ?_
      show Steps p.tables e below (s₁.setTop (mkF m 20 #[.val (.int (4 : Int32)), .val (.int c0), .val (.int c1), .val (.int c2), .val (.int c3), .val (.int c4), .val (.int c5), .val (.int c6), .val (.int c7)] [])) _
      refine XS.iloadN X0.here hx rfl (hb hby d22_20) rfl ?_
      show Steps p.tables e below (s₁.setTop (mkF m 21 #[.val (.int (4 : Int32)), .val (.int c0), .val (.int c1), .val (.int c2), .val (.int c3), .val (.int c4), .val (.int c5), .val (.int c6), .val (.int c7)] [(.int (4 : Int32))])) _
      refine XS.iconst X0.here hx rfl (hb hby d22_21) ?_
      show Steps p.tables e below (s₁.setTop (mkF m 22 #[.val (.int (4 : Int32)), .val (.int c0), .val (.int c1), .val (.int c2), .val (.int c3), .val (.int c4), .val (.int c5), .val (.int c6), .val (.int c7)] [(.int (3 : Int32)), (.int (4 : Int32))])) _
      refine XS.icmpYes X0.here hx rfl (pc0 := 22) (pc' := 28) rfl (hb hby d22_22) rfl (XT.ii_ne_t (by decide)) (by decide) (by decide) ?_
      show Steps p.tables e below (s₁.setTop (mkF m 28 #[.val (.int (4 : Int32)), .val (.int c0), .val (.int c1), .val (.int c2), .val (.int c3), .val (.int c4), .val (.int c5), .val (.int c6), .val (.int c7)] [])) _
      refine XS.iloadN X0.here hx rfl (hb hby d22_28) rfl ?_
      show Steps p.tables e below (s₁.setTop (mkF m 29 #[.val (.int (4 : Int32)), .val (.int c0), .val (.int c1), .val (.int c2), .val (.int c3), .val (.int c4), .val (.int c5), .val (.int c6), .val (.int c7)] [(.int (4 : Int32))])) _
      refine XS.iconst X0.here hx rfl (hb hby d22_29) ?_
      show Steps p.tables e below (s₁.setTop (mkF m 30 #[.val (.int (4 : Int32)), .val (.int c0), .val (.int c1), .val (.int c2), .val (.int c3), .val (.int c4), .val (.int c5), .val (.int c6), .val (.int c7)] [(.int (4 : Int32)), (.int (4 : Int32))])) _
      refine XS.icmpNo X0.here hx rfl (hb hby d22_30) rfl (XT.ii_ne_f (by decide)) ?_
      show Steps p.tables e below (s₁.setTop (mkF m 33 #[.val (.int (4 : Int32)), .val (.int c0), .val (.int c1), .val (.int c2), .val (.int c3), .val (.int c4), .val (.int c5), .val (.int c6), .val (.int c7)] [])) _
      refine XS.iload X0.here hx rfl (hb hby d22_33) rfl ?_
      exact kk_)
    obtain ⟨fs, hr, hrun, hended, hW, hsame⟩ := X0.leave (v := some (.int (nar .char c4))) (fun h => by rw [Bd.returns] at h; cases h)
    refine ⟨_, _, ?_, hrun, hended, _, _, rfl, ?_, ⟨_, rfl⟩, hW, hsame.mono (by decide) (by decide)⟩
    · rw [← hG]; exact S194 _ (retN X0 hx (t := .char) Bd.returns (by simp) (hb hby d22_35) hr)
    · show Q22 Z 4 c0 c1 c2 c3 c4 c5 c6 c7 h0 n0 _ s₁.heap _
      rw [e0]
      exact ⟨by rw [own_nar_char (hc c4 (by simp)).ch]; rfl, N0, rfl⟩
  · have _ := N0
    have S195 : own_Go p e below s₁ G s₁ (mkF m 43 #[.val (.int (5 : Int32)), .val (.int c0), .val (.int c1), .val (.int c2), .val (.int c3), .val (.int c4), .val (.int c5), .val (.int c6), .val (.int c7)] [(.int c5)]) := fun tg_ kk_ => S0 tg_ (by
      refine XS.iloadN X0.here hx rfl (hb hby d22_0) rfl ?_
      show Steps p.tables e below (s₁.setTop (mkF m 1 #[.val (.int (5 : Int32)), .val (.int c0), .val (.int c1), .val (.int c2), .val (.int c3), .val (.int c4), .val (.int c5), .val (.int c6), .val (.int c7)] [(.int (5 : Int32))])) _
      refine XS.ifYes X0.here hx rfl (pc0 := 1) (pc' := 6) rfl (hb hby d22_1) rfl (XT.i0_ne_t (by decide)) (by decide) (by decide) ?_
      show Steps p.tables e below (s₁.setTop (mkF m 6 #[.val (.int (5 : Int32)), .val (.int c0), .val (.int c1), .val (.int c2), .val (.int c3), .val (.int c4), .val (.int c5), .val (.int c6), .val (.int c7)] [])) _
      refine XS.iloadN X0.here hx rfl (hb hby d22_6) rfl ?_
      show Steps p.tables e below (s₁.setTop (mkF m 7 #[.val (.int (5 : Int32)), .val (.int c0), .val (.int c1), .val (.int c2), .val (.int c3), .val (.int c4), .val (.int c5), .val (.int c6), .val (.int c7)] [(.int (5 : Int32))])) _
      refine XS.iconst X0.here hx rfl (hb hby d22_7) ?_
      show Steps p.tables e below (s₁.setTop (mkF m 8 #[.val (.int (5 : Int32)), .val (.int c0), .val (.int c1), .val (.int c2), .val (.int c3), .val (.int c4), .val (.int c5), .val (.int c6), .val (.int c7)] [(.int (1 : Int32)), (.int (5 : Int32))])) _
      refine XS.icmpYes X0.here hx rfl (pc0 := 8) (pc' := 13) rfl (hb hby d22_8) rfl (XT.ii_ne_t (by decide)) (by decide) (by decide) ?_
      show Steps p.tables e below (s₁.setTop (mkF m 13 #[.val (.int (5 : Int32)), .val (.int c0), .val (.int c1), .val (.int c2), .val (.int c3), .val (.int c4), .val (.int c5), .val (.int c6), .val (.int c7)] [])) _
      refine XS.iloadN X0.here hx rfl (hb hby d22_13) rfl ?_
      show Steps p.tables e below (s₁.setTop (mkF m 14 #[.val (.int (5 : Int32)), .val (.int c0), .val (.int c1), .val (.int c2), .val (.int c3), .val (.int c4), .val (.int c5), .val (.int c6), .val (.int c7)] [(.int (5 : Int32))])) _
      refine XS.iconst X0.here hx rfl (hb hby d22_14) ?_
      show Steps p.tables e below (s₁.setTop (mkF m 15 #[.val (.int (5 : Int32)), .val (.int c0), .val (.int c1), .val (.int c2), .val (.int c3), .val (.int c4), .val (.int c5), .val (.int c6), .val (.int c7)] [(.int (2 : Int32)), (.int (5 : Int32))])) _
      refine XS.icmpYes X0.here hx rfl (pc0 := 15) (pc' := 20) rfl (hb hby d22_15) rfl (XT.ii_ne_t (by decide)) (by decide) (by decide) ?_
      show Steps p.tables e below (s₁.setTop (mkF m 20 #[.val (.int (5 : Int32)), .val (.int c0), .val (.int c1), .val (.int c2), .val (.int c3), .val (.int c4), .val (.int c5), .val (.int c6), .val (.int c7)] [])) _
      refine XS.iloadN X0.here hx rfl (hb hby d22_20) rfl ?_
      show Steps p.tables e below (s₁.setTop (mkF m 21 #[.val (.int (5 : Int32)), .val (.int c0), .val (.int c1), .val (.int c2), .val (.int c3), .val (.int c4), .val (.int c5), .val (.int c6), .val (.int c7)] [(.int (5 : Int32))])) _
      refine XS.iconst X0.here hx rfl (hb hby d22_21) ?_
      show Steps p.tables e below (s₁.setTop (mkF m 22 #[.val (.int (5 : Int32)), .val (.int c0), .val (.int c1), .val (.int c2), .val (.int c3), .val (.int c4), .val (.int c5), .val (.int c6), .val (.int c7)] [(.int (3 : Int32)), (.int (5 : Int32))])) _
      refine XS.icmpYes X0.here hx rfl (pc0 := 22) (pc' := 28) rfl (hb hby d22_22) rfl (XT.ii_ne_t (by decide)) (by decide) (by decide) ?_
      show Steps p.tables e below (s₁.setTop (mkF m 28 #[.val (.int (5 : Int32)), .val (.int c0), .val (.int c1), .val (.int c2), .val (.int c3), .val (.int c4), .val (.int c5), .val (.int c6), .val (.int c7)] [])) _
      refine XS.iloadN X0.here hx rfl (hb hby d22_28) rfl ?_
      show Steps p.tables e below (s₁.setTop (mkF m 29 #[.val (.int (5 : Int32)), .val (.int c0), .val (.int c1), .val (.int c2), .val (.int c3), .val (.int c4), .val (.int c5), .val (.int c6), .val (.int c7)] [(.int (5 : Int32))])) _
      refine XS.iconst X0.here hx rfl (hb hby d22_29) ?_
      show Steps p.tables e below (s₁.setTop (mkF m 30 #[.val (.int (5 : Int32)), .val (.int c0), .val (.int c1), .val (.int c2), .val (.int c3), .val (.int c4), .val (.int c5), .val (.int c6), .val (.int c7)] [(.int (4 : Int32)), (.int (5 : Int32))])) _
      refine XS.icmpYes X0.here hx rfl (pc0 := 30) (pc' := 36) rfl (hb hby d22_30) rfl (XT.ii_ne_t (by decide)) (by decide) (by decide) ?_
      show Steps p.tables e below (s₁.setTop (mkF m 36 #[.val (.int (5 : Int32)), .val (.int c0), .val (.int c1), .val (.int c2), .val (.int c3), .val (.int c4), .val (.int c5), .val (.int c6), .val (.int c7)] [])) _
      refine XS.iloadN X0.here hx rfl (hb hby d22_36) rfl ?_
      show Steps p.tables e below (s₁.setTop (mkF m 37 #[.val (.int (5 : Int32)), .val (.int c0), .val (.int c1), .val (.int c2), .val (.int c3), .val (.int c4), .val (.int c5), .val (.int c6), .val (.int c7)] [(.int (5 : Int32))])) _
      refine XS.iconst X0.here hx rfl (hb hby d22_37) ?_
      show Steps p.tables e below (s₁.setTop (mkF m 38 #[.val (.int (5 : Int32)), .val (.int c0), .val (.int c1), .val (.int c2), .val (.int c3), .val (.int c4), .val (.int c5), .val (.int c6), .val (.int c7)] [(.int (5 : Int32)), (.int (5 : Int32))])) _
      refine XS.icmpNo X0.here hx rfl (hb hby d22_38) rfl (XT.ii_ne_f (by decide)) ?_
      show Steps p.tables e below (s₁.setTop (mkF m 41 #[.val (.int (5 : Int32)), .val (.int c0), .val (.int c1), .val (.int c2), .val (.int c3), .val (.int c4), .val (.int c5), .val (.int c6), .val (.int c7)] [])) _
      refine XS.iload X0.here hx rfl (hb hby d22_41) rfl ?_
      exact kk_)
    obtain ⟨fs, hr, hrun, hended, hW, hsame⟩ := X0.leave (v := some (.int (nar .char c5))) (fun h => by rw [Bd.returns] at h; cases h)
    refine ⟨_, _, ?_, hrun, hended, _, _, rfl, ?_, ⟨_, rfl⟩, hW, hsame.mono (by decide) (by decide)⟩
    · rw [← hG]; exact S195 _ (retN X0 hx (t := .char) Bd.returns (by simp) (hb hby d22_43) hr)
    · show Q22 Z 5 c0 c1 c2 c3 c4 c5 c6 c7 h0 n0 _ s₁.heap _
      rw [e0]
      exact ⟨by rw [own_nar_char (hc c5 (by simp)).ch]; rfl, N0, rfl⟩
  · have _ := N0
    have S196 : own_Go p e below s₁ G s₁ (mkF m 52 #[.val (.int (6 : Int32)), .val (.int c0), .val (.int c1), .val (.int c2), .val (.int c3), .val (.int c4), .val (.int c5), .val (.int c6), .val (.int c7)] [(.int c6)]) := fun tg_ kk_ => S0 tg_ (by
      refine XS.iloadN X0.here hx rfl (hb hby d22_0) rfl ?_
      show Steps p.tables e below (s₁.setTop (mkF m 1 #[.val (.int (6 : Int32)), .val (.int c0), .val (.int c1), .val (.int c2), .val (.int c3), .val (.int c4), .val (.int c5), .val (.int c6), .val (.int c7)] [(.int (6 : Int32))])) _
      refine XS.ifYes X0.here hx rfl (pc0 := 1) (pc' := 6) rfl (hb hby d22_1) rfl (XT.i0_ne_t (by decide)) (by decide) (by decide) ?_
      show Steps p.tables e below (s₁.setTop (mkF m 6 #[.val (.int (6 : Int32)), .val (.int c0), .val (.int c1), .val (.int c2), .val (.int c3), .val (.int c4), .val (.int c5), .val (.int c6), .val (.int c7)] [])) _
      refine XS.iloadN X0.here hx rfl (hb hby d22_6) rfl ?_
      show Steps p.tables e below (s₁.setTop (mkF m 7 #[.val (.int (6 : Int32)), .val (.int c0), .val (.int c1), .val (.int c2), .val (.int c3), .val (.int c4), .val (.int c5), .val (.int c6), .val (.int c7)] [(.int (6 : Int32))])) _
      refine XS.iconst X0.here hx rfl (hb hby d22_7) ?_
      show Steps p.tables e below (s₁.setTop (mkF m 8 #[.val (.int (6 : Int32)), .val (.int c0), .val (.int c1), .val (.int c2), .val (.int c3), .val (.int c4), .val (.int c5), .val (.int c6), .val (.int c7)] [(.int (1 : Int32)), (.int (6 : Int32))])) _
      refine XS.icmpYes X0.here hx rfl (pc0 := 8) (pc' := 13) rfl (hb hby d22_8) rfl (XT.ii_ne_t (by decide)) (by decide) (by decide) ?_
      show Steps p.tables e below (s₁.setTop (mkF m 13 #[.val (.int (6 : Int32)), .val (.int c0), .val (.int c1), .val (.int c2), .val (.int c3), .val (.int c4), .val (.int c5), .val (.int c6), .val (.int c7)] [])) _
      refine XS.iloadN X0.here hx rfl (hb hby d22_13) rfl ?_
      show Steps p.tables e below (s₁.setTop (mkF m 14 #[.val (.int (6 : Int32)), .val (.int c0), .val (.int c1), .val (.int c2), .val (.int c3), .val (.int c4), .val (.int c5), .val (.int c6), .val (.int c7)] [(.int (6 : Int32))])) _
      refine XS.iconst X0.here hx rfl (hb hby d22_14) ?_
      show Steps p.tables e below (s₁.setTop (mkF m 15 #[.val (.int (6 : Int32)), .val (.int c0), .val (.int c1), .val (.int c2), .val (.int c3), .val (.int c4), .val (.int c5), .val (.int c6), .val (.int c7)] [(.int (2 : Int32)), (.int (6 : Int32))])) _
      refine XS.icmpYes X0.here hx rfl (pc0 := 15) (pc' := 20) rfl (hb hby d22_15) rfl (XT.ii_ne_t (by decide)) (by decide) (by decide) ?_
      show Steps p.tables e below (s₁.setTop (mkF m 20 #[.val (.int (6 : Int32)), .val (.int c0), .val (.int c1), .val (.int c2), .val (.int c3), .val (.int c4), .val (.int c5), .val (.int c6), .val (.int c7)] [])) _
      refine XS.iloadN X0.here hx rfl (hb hby d22_20) rfl ?_
      show Steps p.tables e below (s₁.setTop (mkF m 21 #[.val (.int (6 : Int32)), .val (.int c0), .val (.int c1), .val (.int c2), .val (.int c3), .val (.int c4), .val (.int c5), .val (.int c6), .val (.int c7)] [(.int (6 : Int32))])) _
      refine XS.iconst X0.here hx rfl (hb hby d22_21) ?_
      show Steps p.tables e below (s₁.setTop (mkF m 22 #[.val (.int (6 : Int32)), .val (.int c0), .val (.int c1), .val (.int c2), .val (.int c3), .val (.int c4), .val (.int c5), .val (.int c6), .val (.int c7)] [(.int (3 : Int32)), (.int (6 : Int32))])) _
      refine XS.icmpYes X0.here hx rfl (pc0 := 22) (pc' := 28) rfl (hb hby d22_22) rfl (XT.ii_ne_t (by decide)) (by decide) (by decide) ?_
      show Steps p.tables e below (s₁.setTop (mkF m 28 #[.val (.int (6 : Int32)), .val (.int c0), .val (.int c1), .val (.int c2), .val (.int c3), .val (.int c4), .val (.int c5), .val (.int c6), .val (.int c7)] [])) _
      refine XS.iloadN X0.here hx rfl (hb hby d22_28) rfl ?_
      show Steps p.tables e below (s₁.setTop (mkF m 29 #[.val (.int (6 : Int32)), .val (.int c0), .val (.int c1), .val (.int c2), .val (.int c3), .val (.int c4), .val (.int c5), .val (.int c6), .val (.int c7)] [(.int (6 : Int32))])) _
      refine XS.iconst X0.here hx rfl (hb hby d22_29) ?_
      show Steps p.tables e below (s₁.setTop (mkF m 30 #[.val (.int (6 : Int32)), .val (.int c0), .val (.int c1), .val (.int c2), .val (.int c3), .val (.int c4), .val (.int c5), .val (.int c6), .val (.int c7)] [(.int (4 : Int32)), (.int (6 : Int32))])) _
      refine XS.icmpYes X0.here hx rfl (pc0 := 30) (pc' := 36) rfl (hb hby d22_30) rfl (XT.ii_ne_t (by decide)) (by decide) (by decide) ?_
      show Steps p.tables e below (s₁.setTop (mkF m 36 #[.val (.int (6 : Int32)), .val (.int c0), .val (.int c1), .val (.int c2), .val (.int c3), .val (.int c4), .val (.int c5), .val (.int c6), .val (.int c7)] [])) _
      refine XS.iloadN X0.here hx rfl (hb hby d22_36) rfl ?_
      show Steps p.tables e below (s₁.setTop (mkF m 37 #[.val (.int (6 : Int32)), .val (.int c0), .val (.int c1), .val (.int c2), .val (.int c3), .val (.int c4), .val (.int c5), .val (.int c6), .val (.int c7)] [(.int (6 : Int32))])) _
      refine XS.iconst X0.here hx rfl (hb hby d22_37) ?_
      show Steps p.tables e below (s₁.setTop (mkF m 38 #[.val (.int (6 : Int32)), .val (.int c0), .val (.int c1), .val (.int c2), .val (.int c3), .val (.int c4), .val (.int c5), .val (.int c6), .val (.int c7)] [(.int (5 : Int32)), (.int (6 : Int32))])) _
      refine XS.icmpYes X0.here hx rfl (pc0 := 38) (pc' := 44) rfl (hb hby d22_38) rfl (XT.ii_ne_t (by decide)) (by decide) (by decide) ?_
      show Steps p.tables e below (s₁.setTop (mkF m 44 #[.val (.int (6 : Int32)), .val (.int c0), .val (.int c1), .val (.int c2), .val (.int c3), .val (.int c4), .val (.int c5), .val (.int c6), .val (.int c7)] [])) _
      refine XS.iloadN X0.here hx rfl (hb hby d22_44) rfl ?_
      show Steps p.tables e below (s₁.setTop (mkF m 45 #[.val (.int (6 : Int32)), .val (.int c0), .val (.int c1), .val (.int c2), .val (.int c3), .val (.int c4), .val (.int c5), .val (.int c6), .val (.int c7)] [(.int (6 : Int32))])) _
      refine XS.bipush X0.here hx rfl (hb hby d22_45) ?_
      show Steps p.tables e below (s₁.setTop (mkF m 47 #[.val (.int (6 : Int32)), .val (.int c0), .val (.int c1), .val (.int c2), .val (.int c3), .val (.int c4), .val (.int c5), .val (.int c6), .val (.int c7)] [(.int (6 : Int32)), (.int (6 : Int32))])) _
      refine XS.icmpNo X0.here hx rfl (hb hby d22_47) rfl (XT.ii_ne_f (by decide)) ?_
      show Steps p.tables e below (s₁.setTop (mkF m 50 #[.val (.int (6 : Int32)), .val (.int c0), .val (.int c1), .val (.int c2), .val (.int c3), .val (.int c4), .val (.int c5), .val (.int c6), .val (.int c7)] [])) _
      refine XS.iload X0.here hx rfl (hb hby d22_50) rfl ?_
      exact kk_)
    obtain ⟨fs, hr, hrun, hended, hW, hsame⟩ := X0.leave (v := some (.int (nar .char c6))) (fun h => by rw [Bd.returns] at h; cases h)
    refine ⟨_, _, ?_, hrun, hended, _, _, rfl, ?_, ⟨_, rfl⟩, hW, hsame.mono (by decide) (by decide)⟩
    · rw [← hG]; exact S196 _ (retN X0 hx (t := .char) Bd.returns (by simp) (hb hby d22_52) hr)
    · show Q22 Z 6 c0 c1 c2 c3 c4 c5 c6 c7 h0 n0 _ s₁.heap _
      rw [e0]
      exact ⟨by rw [own_nar_char (hc c6 (by simp)).ch]; rfl, N0, rfl⟩
  · have _ := N0
    have S197 : own_Go p e below s₁ G s₁ (mkF m 55 #[.val (.int (7 : Int32)), .val (.int c0), .val (.int c1), .val (.int c2), .val (.int c3), .val (.int c4), .val (.int c5), .val (.int c6), .val (.int c7)] [(.int c7)]) := fun tg_ kk_ => S0 tg_ (by
      refine XS.iloadN X0.here hx rfl (hb hby d22_0) rfl ?_
      show Steps p.tables e below (s₁.setTop (mkF m 1 #[.val (.int (7 : Int32)), .val (.int c0), .val (.int c1), .val (.int c2), .val (.int c3), .val (.int c4), .val (.int c5), .val (.int c6), .val (.int c7)] [(.int (7 : Int32))])) _
      refine XS.ifYes X0.here hx rfl (pc0 := 1) (pc' := 6) rfl (hb hby d22_1) rfl (XT.i0_ne_t (by decide)) (by decide) (by decide) ?_
      show Steps p.tables e below (s₁.setTop (mkF m 6 #[.val (.int (7 : Int32)), .val (.int c0), .val (.int c1), .val (.int c2), .val (.int c3), .val (.int c4), .val (.int c5), .val (.int c6), .val (.int c7)] [])) _
      refine XS.iloadN X0.here hx rfl (hb hby d22_6) rfl ?_
      show Steps p.tables e below (s₁.setTop (mkF m 7 #[.val (.int (7 : Int32)), .val (.int c0), .val (.int c1), .val (.int c2), .val (.int c3), .val (.int c4), .val (.int c5), .val (.int c6), .val (.int c7)] [(.int (7 : Int32))])) _
      refine XS.iconst X0.here hx rfl (hb hby d22_7) ?_
      show Steps p.tables e below (s₁.setTop (mkF m 8 #[.val (.int (7 : Int32)), .val (.int c0), .val (.int c1), .val (.int c2), .val (.int c3), .val (.int c4), .val (.int c5), .val (.int c6), .val (.int c7)] [(.int (1 : Int32)), (.int (7 : Int32))])) _
      refine XS.icmpYes X0.here hx rfl (pc0 := 8) (pc' := 13) rfl (hb hby d22_8) rfl (XT.ii_ne_t (by decide)) (by decide) (by decide) ?_
      show Steps p.tables e below (s₁.setTop (mkF m 13 #[.val (.int (7 : Int32)), .val (.int c0), .val (.int c1), .val (.int c2), .val (.int c3), .val (.int c4), .val (.int c5), .val (.int c6), .val (.int c7)] [])) _
      refine XS.iloadN X0.here hx rfl (hb hby d22_13) rfl ?_
      show Steps p.tables e below (s₁.setTop (mkF m 14 #[.val (.int (7 : Int32)), .val (.int c0), .val (.int c1), .val (.int c2), .val (.int c3), .val (.int c4), .val (.int c5), .val (.int c6), .val (.int c7)] [(.int (7 : Int32))])) _
      refine XS.iconst X0.here hx rfl (hb hby d22_14) ?_
      show Steps p.tables e below (s₁.setTop (mkF m 15 #[.val (.int (7 : Int32)), .val (.int c0), .val (.int c1), .val (.int c2), .val (.int c3), .val (.int c4), .val (.int c5), .val (.int c6), .val (.int c7)] [(.int (2 : Int32)), (.int (7 : Int32))])) _
      refine XS.icmpYes X0.here hx rfl (pc0 := 15) (pc' := 20) rfl (hb hby d22_15) rfl (XT.ii_ne_t (by decide)) (by decide) (by decide) ?_
      show Steps p.tables e below (s₁.setTop (mkF m 20 #[.val (.int (7 : Int32)), .val (.int c0), .val (.int c1), .val (.int c2), .val (.int c3), .val (.int c4), .val (.int c5), .val (.int c6), .val (.int c7)] [])) _
      refine XS.iloadN X0.here hx rfl (hb hby d22_20) rfl ?_
      show Steps p.tables e below (s₁.setTop (mkF m 21 #[.val (.int (7 : Int32)), .val (.int c0), .val (.int c1), .val (.int c2), .val (.int c3), .val (.int c4), .val (.int c5), .val (.int c6), .val (.int c7)] [(.int (7 : Int32))])) _
      refine XS.iconst X0.here hx rfl (hb hby d22_21) ?_
      show Steps p.tables e below (s₁.setTop (mkF m 22 #[.val (.int (7 : Int32)), .val (.int c0), .val (.int c1), .val (.int c2), .val (.int c3), .val (.int c4), .val (.int c5), .val (.int c6), .val (.int c7)] [(.int (3 : Int32)), (.int (7 : Int32))])) _
      refine XS.icmpYes X0.here hx rfl (pc0 := 22) (pc' := 28) rfl (hb hby d22_22) rfl (XT.ii_ne_t (by decide)) (by decide) (by decide) ?_
      show Steps p.tables e below (s₁.setTop (mkF m 28 #[.val (.int (7 : Int32)), .val (.int c0), .val (.int c1), .val (.int c2), .val (.int c3), .val (.int c4), .val (.int c5), .val (.int c6), .val (.int c7)] [])) _
      refine XS.iloadN X0.here hx rfl (hb hby d22_28) rfl ?_
      show Steps p.tables e below (s₁.setTop (mkF m 29 #[.val (.int (7 : Int32)), .val (.int c0), .val (.int c1), .val (.int c2), .val (.int c3), .val (.int c4), .val (.int c5), .val (.int c6), .val (.int c7)] [(.int (7 : Int32))])) _
      refine XS.iconst X0.here hx rfl (hb hby d22_29) ?_
      show Steps p.tables e below (s₁.setTop (mkF m 30 #[.val (.int (7 : Int32)), .val (.int c0), .val (.int c1), .val (.int c2), .val (.int c3), .val (.int c4), .val (.int c5), .val (.int c6), .val (.int c7)] [(.int (4 : Int32)), (.int (7 : Int32))])) _
      refine XS.icmpYes X0.here hx rfl (pc0 := 30) (pc' := 36) rfl (hb hby d22_30) rfl (XT.ii_ne_t (by decide)) (by decide) (by decide) ?_
      show Steps p.tables e below (s₁.setTop (mkF m 36 #[.val (.int (7 : Int32)), .val (.int c0), .val (.int c1), .val (.int c2), .val (.int c3), .val (.int c4), .val (.int c5), .val (.int c6), .val (.int c7)] [])) _
      refine XS.iloadN X0.here hx rfl (hb hby d22_36) rfl ?_
      show Steps p.tables e below (s₁.setTop (mkF m 37 #[.val (.int (7 : Int32)), .val (.int c0), .val (.int c1), .val (.int c2), .val (.int c3), .val (.int c4), .val (.int c5), .val (.int c6), .val (.int c7)] [(.int (7 : Int32))])) _
      refine XS.iconst X0.here hx rfl (hb hby d22_37) ?_
      show Steps p.tables e below (s₁.setTop (mkF m 38 #[.val (.int (7 : Int32)), .val (.int c0), .val (.int c1), .val (.int c2), .val (.int c3), .val (.int c4), .val (.int c5), .val (.int c6), .val (.int c7)] [(.int (5 : Int32)), (.int (7 : Int32))])) _
      refine XS.icmpYes X0.here hx rfl (pc0 := 38) (pc' := 44) rfl (hb hby d22_38) rfl (XT.ii_ne_t (by decide)) (by decide) (by decide) ?_
      show Steps p.tables e below (s₁.setTop (mkF m 44 #[.val (.int (7 : Int32)), .val (.int c0), .val (.int c1), .val (.int c2), .val (.int c3), .val (.int c4), .val (.int c5), .val (.int c6), .val (.int c7)] [])) _
      refine XS.iloadN X0.here hx rfl (hb hby d22_44) rfl ?_
      show Steps p.tables e below (s₁.setTop (mkF m 45 #[.val (.int (7 : Int32)), .val (.int c0), .val (.int c1), .val (.int c2), .val (.int c3), .val (.int c4), .val (.int c5), .val (.int c6), .val (.int c7)] [(.int (7 : Int32))])) _
      refine XS.bipush X0.here hx rfl (hb hby d22_45) ?_
      show Steps p.tables e below (s₁.setTop (mkF m 47 #[.val (.int (7 : Int32)), .val (.int c0), .val (.int c1), .val (.int c2), .val (.int c3), .val (.int c4), .val (.int c5), .val (.int c6), .val (.int c7)] [(.int (6 : Int32)), (.int (7 : Int32))])) _
      refine XS.icmpYes X0.here hx rfl (pc0 := 47) (pc' := 53) rfl (hb hby d22_47) rfl (XT.ii_ne_t (by decide)) (by decide) (by decide) ?_
      show Steps p.tables e below (s₁.setTop (mkF m 53 #[.val (.int (7 : Int32)), .val (.int c0), .val (.int c1), .val (.int c2), .val (.int c3), .val (.int c4), .val (.int c5), .val (.int c6), .val (.int c7)] [])) _
      refine XS.iload X0.here hx rfl (hb hby d22_53) rfl ?_
      exact kk_)
    obtain ⟨fs, hr, hrun, hended, hW, hsame⟩ := X0.leave (v := some (.int (nar .char c7))) (fun h => by rw [Bd.returns] at h; cases h)
    refine ⟨_, _, ?_, hrun, hended, _, _, rfl, ?_, ⟨_, rfl⟩, hW, hsame.mono (by decide) (by decide)⟩
    · rw [← hG]; exact S197 _ (retN X0 hx (t := .char) Bd.returns (by simp) (hb hby d22_55) hr)
    · show Q22 Z 7 c0 c1 c2 c3 c4 c5 c6 c7 h0 n0 _ s₁.heap _
      rw [e0]
      exact ⟨by rw [own_nar_char (hc c7 (by simp)).ch]; rfl, N0, rfl⟩
def own_all (n c0 c1 c2 c3 c4 c5 c6 c7 : Int32) : Bool := own_ok c0 0 n && own_ok c1 1 n && own_ok c2 2 n && own_ok c3 3 n && own_ok c4 4 n && own_ok c5 5 n && own_ok c6 6 n && own_ok c7 7 n
def own_adj (n c0 c1 c2 c3 c4 c5 c6 c7 : Int32) : Bool := own_pairB c0 c1 0 n || own_pairB c1 c2 1 n || own_pairB c2 c3 2 n || own_pairB c3 c4 3 n || own_pairB c4 c5 4 n || own_pairB c5 c6 5 n || own_pairB c6 c7 6 n
def own_edge (a b : Int32) : Bool := own_dot a || own_dot b
def own_segs (n c0 c1 c2 c3 c4 c5 c6 c7 : Int32) : Int32 := (((((((((1 : Int32) + own_bit (own_dotAt c0 0 n)) + own_bit (own_dotAt c1 1 n)) + own_bit (own_dotAt c2 2 n)) + own_bit (own_dotAt c3 3 n)) + own_bit (own_dotAt c4 4 n)) + own_bit (own_dotAt c5 5 n)) + own_bit (own_dotAt c6 6 n)) + own_bit (own_dotAt c7 7 n))
def own_fin (al ad ed : Bool) (sg mn mx : Int32) : Bool := al && !ad && !ed && !decide (sg < mn) && !decide (mx < sg)
def own_ref (k : Nat) (c0 c1 c2 c3 c4 c5 c6 c7 mn mx : Int32) : Bool := own_fin (own_all (Int32.ofNat k) c0 c1 c2 c3 c4 c5 c6 c7) (own_adj (Int32.ofNat k) c0 c1 c2 c3 c4 c5 c6 c7) (own_edge c0 ([c0, c1, c2, c3, c4, c5, c6, c7].getD (k - 1) 0)) (own_segs (Int32.ofNat k) c0 c1 c2 c3 c4 c5 c6 c7) mn mx
theorem own_pred {k : Nat} (h : 1 ≤ k) (h2 : k ≤ 1000) : Int32.ofNat k - 1 = Int32.ofNat (k - 1) := by
  have q := c_isub (Int32.ofNat k) 1
  have r := rng32 (Int32.ofNat k - 1)
  refine Int32.toInt_inj.mp ?_
  have e1 : (1 : Int32).toInt = 1 := rfl
  rw [Int32.toInt_ofNat_of_lt (by omega)] at *
  omega
def Q17 (Z : State) (k : Nat) (c0 : Int32) (c1 : Int32) (c2 : Int32) (c3 : Int32) (c4 : Int32) (c5 : Int32) (c6 : Int32) (c7 : Int32) (mn : Int32) (mx : Int32) (h0 : Heap) (n0 : Nat) (v : Option Value) (h : Heap) (L : List Loc) : Prop := ((own_ref k c0 c1 c2 c3 c4 c5 c6 c7 mn mx = true ∧ v = some (.int 1)) ∨ (own_ref k c0 c1 c2 c3 c4 c5 c6 c7 mn mx = false ∧ v = some (.int 0))) ∧ Fr n0 L ∧ h0 = h
set_option maxRecDepth 65536 in
set_option maxHeartbeats 40000000 in
theorem rm17 (l : Launch) (Z : State) (a0 : Array Value) (hw : ∀ d ∈ tables_1, d.before a0 Z = true) (ws : List Jvm.Cond) (k : Nat) (c0 : Int32) (c1 : Int32) (c2 : Int32) (c3 : Int32) (c4 : Int32) (c5 : Int32) (c6 : Int32) (c7 : Int32) (mn : Int32) (mx : Int32) (h0 : Heap) (n0 : Nat) (Z0 : n0 ≤ h0.size) (hk : 1 ≤ k ∧ k ≤ 8) (hc : ∀ c ∈ [c0, c1, c2, c3, c4, c5, c6, c7], own_B c) :
    MetFree l (⟨"com/example/tallyhook/tallyhook/core/EventTypeIsSegmentsPinLaw", "ref", "(ICCCCCCCCII)Z"⟩ : MethodName) (head1 (Jvm.Cond.code (⟨"com/example/tallyhook/tallyhook/core/EventTypeIsSegmentsPinLaw", "ref", "(ICCCCCCCCII)Z"⟩ : MethodName) method_11_code 16 (some .boolean) :: ws) ({ frames := 2, cells := 0, slots := 0, locals := 40 } : Room)) (fun aa_ U => aa_ = #[(.int (Int32.ofNat k)), (.int c0), (.int c1), (.int c2), (.int c3), (.int c4), (.int c5), (.int c6), (.int c7), (.int mn), (.int mx)] ∧ Z.Warmed39 U.vm ∧ U.heap = h0) (fun _ _ _ _ _ => True) (fun _ U o U' => ∃ v L, o = .returned v ∧ Q17 Z k c0 c1 c2 c3 c4 c5 c6 c7 mn mx h0 n0 v U'.heap L ∧ FrameEnd U o U' L ({ frames := 2, cells := 0, slots := 0, locals := 40 } : Room).cells ({ frames := 2, cells := 0, slots := 0, locals := 40 } : Room).slots) := by
  refine MetFree.of_bodySF (plainFor_of_name pn3) hisR ?_
  intro p e s m args below meth c s₁ Bd hml0 hP hK
  obtain ⟨rfl, hZ, hh⟩ := hP
  have hx := Bd.exec
  have hby := Bd.bytes
  have hml : c.maxLocals = 16 := hml0
  have hown : s.vm.findClass "com/example/tallyhook/tallyhook/core/EventTypeIsSegmentsPinLaw" = some m.cls := findClass_of_methodNamed Bd.named
  have hnm := (name_of_methodNamed Bd.named Bd.method).1
  have X0 : Stand p l e ({ frames := 2, cells := 0, slots := 0, locals := 40 } : Room) s m #[(.int (Int32.ofNat k)), (.int c0), (.int c1), (.int c2), (.int c3), (.int c4), (.int c5), (.int c6), (.int c7), (.int mn), (.int mx)] below meth c s₁ [] 0 0 := Stand.of_body Bd
  have e0 : s₁.heap = h0 := by rw [← hh, Bd.state]; rfl
  have N0 := Fr.nil n0
  obtain ⟨G, hG⟩ : ∃ G, G = entryFrame m #[(.int (Int32.ofNat k)), (.int c0), (.int c1), (.int c2), (.int c3), (.int c4), (.int c5), (.int c6), (.int c7), (.int mn), (.int mx)] 16 := ⟨_, rfl⟩
  have S0 : own_Go p e below s₁ G s₁ (mkF m 0 #[.val (.int (Int32.ofNat k)), .val (.int c0), .val (.int c1), .val (.int c2), .val (.int c3), .val (.int c4), .val (.int c5), .val (.int c6), .val (.int c7), .val (.int mn), .val (.int mx), .unset, .unset, .unset, .unset, .unset] []) := fun tg_ kk_ => castTop (by rw [hG]; first | (simp [entryFrame, mkF, argsToLocals, Value.category, maxLocals]; done) | rfl) kk_
  obtain ⟨n, hn⟩ : ∃ n : Int32, n = Int32.ofNat k := ⟨_, rfl⟩
  rw [← hn] at S0
  have hn0 : ¬ n = 0 := by rw [hn]; exact fun q => absurd (own_inj32 (n := 0) (by omega) (by omega) q) (by omega)
  have S198 : own_Go p e below s₁ G s₁ (mkF m 9 #[.val (.int n), .val (.int c0), .val (.int c1), .val (.int c2), .val (.int c3), .val (.int c4), .val (.int c5), .val (.int c6), .val (.int c7), .val (.int mn), .val (.int mx), .unset, .unset, .unset, .unset, .unset] [(.int n), (.int (0 : Int32)), (.int c0)]) := fun tg_ kk_ => S0 tg_ (by
    refine XS.iloadN X0.here hx rfl (hb hby d17_0) rfl ?_
    show Steps p.tables e below (s₁.setTop (mkF m 1 #[.val (.int n), .val (.int c0), .val (.int c1), .val (.int c2), .val (.int c3), .val (.int c4), .val (.int c5), .val (.int c6), .val (.int c7), .val (.int mn), .val (.int mx), .unset, .unset, .unset, .unset, .unset] [(.int n)])) _
    refine XS.ifYes X0.here hx rfl (pc0 := 1) (pc' := 6) rfl (hb hby d17_1) rfl (XT.i0_ne_t hn0) (by decide) (by decide) ?_
    show Steps p.tables e below (s₁.setTop (mkF m 6 #[.val (.int n), .val (.int c0), .val (.int c1), .val (.int c2), .val (.int c3), .val (.int c4), .val (.int c5), .val (.int c6), .val (.int c7), .val (.int mn), .val (.int mx), .unset, .unset, .unset, .unset, .unset] [])) _
    refine XS.iloadN X0.here hx rfl (hb hby d17_6) rfl ?_
    show Steps p.tables e below (s₁.setTop (mkF m 7 #[.val (.int n), .val (.int c0), .val (.int c1), .val (.int c2), .val (.int c3), .val (.int c4), .val (.int c5), .val (.int c6), .val (.int c7), .val (.int mn), .val (.int mx), .unset, .unset, .unset, .unset, .unset] [(.int c0)])) _
    refine XS.iconst X0.here hx rfl (hb hby d17_7) ?_
    show Steps p.tables e below (s₁.setTop (mkF m 8 #[.val (.int n), .val (.int c0), .val (.int c1), .val (.int c2), .val (.int c3), .val (.int c4), .val (.int c5), .val (.int c6), .val (.int c7), .val (.int mn), .val (.int mx), .unset, .unset, .unset, .unset, .unset] [(.int (0 : Int32)), (.int c0)])) _
    refine XS.iloadN X0.here hx rfl (hb hby d17_8) rfl ?_
    exact kk_)
  have ph199 : ∃ (T' : State) (L' : List Loc), Stand p l e ({ frames := 2, cells := 0, slots := 0, locals := 40 } : Room) s m #[(.int (Int32.ofNat k)), (.int c0), (.int c1), (.int c2), (.int c3), (.int c4), (.int c5), (.int c6), (.int c7), (.int mn), (.int mx)] below meth c T' L' 0 0 ∧ T'.heap = h0 ∧ Fr n0 L' ∧ own_Go p e below s₁ G T' (mkF m 90 #[.val (.int n), .val (.int c0), .val (.int c1), .val (.int c2), .val (.int c3), .val (.int c4), .val (.int c5), .val (.int c6), .val (.int c7), .val (.int mn), .val (.int mx), .unset, .unset, .unset, .unset, .unset] [(.int (own_bit (own_all n c0 c1 c2 c3 c4 c5 c6 c7)))]) := by
    obtain ⟨_, T200, h200, L200, X200, e200, hQ200, st200⟩ := own_callS X0 hx hZ (y := (⟨"com/example/tallyhook/tallyhook/core/EventTypeIsSegmentsPinLaw", "ok", "(CII)Z"⟩ : MethodName)) hown (hw _ (List.mem_of_getElem? (i := 78) rfl)) (hw _ (List.mem_of_getElem? (i := 79) rfl)) (hw _ (List.mem_of_getElem? (i := 3) rfl)) (hw _ (List.mem_of_getElem? (i := 80) rfl)) (by decide) 0 (g := (mkF m 9 #[.val (.int n), .val (.int c0), .val (.int c1), .val (.int c2), .val (.int c3), .val (.int c4), .val (.int c5), .val (.int c6), .val (.int c7), .val (.int mn), .val (.int mx), .unset, .unset, .unset, .unset, .unset] [(.int n), (.int (0 : Int32)), (.int c0)])) rfl (by rw [hml]; rfl) [(.int c0), (.int (0 : Int32)), (.int n)] [] (rm18 l Z a0 hw [] c0 0 n h0 n0 Z0) (lenOf pd19 rfl) rfl (by show 2 * 0 + _ ≤ _; exact Nat.le_of_eq rfl) (hb hby d17_9) (by decide) (by decide) e0 (by decide) (by decide)
    rcases hQ200 with ⟨⟨hp0, rfl⟩ | ⟨hp0, rfl⟩, N200, rfl⟩
    · have _ := e200
      have S201 : own_Go p e below s₁ G T200 (mkF m 12 #[.val (.int n), .val (.int c0), .val (.int c1), .val (.int c2), .val (.int c3), .val (.int c4), .val (.int c5), .val (.int c6), .val (.int c7), .val (.int mn), .val (.int mx), .unset, .unset, .unset, .unset, .unset] [(.int (1 : Int32))]) := fun tg_ kk_ => S198 tg_ (st200 tg_ kk_)
      have M200 := Fr.app N0 N200
      have S202 : own_Go p e below s₁ G T200 (mkF m 18 #[.val (.int n), .val (.int c0), .val (.int c1), .val (.int c2), .val (.int c3), .val (.int c4), .val (.int c5), .val (.int c6), .val (.int c7), .val (.int mn), .val (.int mx), .unset, .unset, .unset, .unset, .unset] [(.int n), (.int (1 : Int32)), (.int c1)]) := fun tg_ kk_ => S201 tg_ (by
        refine XS.ifNo X200.here hx rfl (hb hby d17_12) rfl (XT.i0_eq_f (by decide)) ?_
        show Steps p.tables e below (T200.setTop (mkF m 15 #[.val (.int n), .val (.int c0), .val (.int c1), .val (.int c2), .val (.int c3), .val (.int c4), .val (.int c5), .val (.int c6), .val (.int c7), .val (.int mn), .val (.int mx), .unset, .unset, .unset, .unset, .unset] [])) _
        refine XS.iloadN X200.here hx rfl (hb hby d17_15) rfl ?_
        show Steps p.tables e below (T200.setTop (mkF m 16 #[.val (.int n), .val (.int c0), .val (.int c1), .val (.int c2), .val (.int c3), .val (.int c4), .val (.int c5), .val (.int c6), .val (.int c7), .val (.int mn), .val (.int mx), .unset, .unset, .unset, .unset, .unset] [(.int c1)])) _
        refine XS.iconst X200.here hx rfl (hb hby d17_16) ?_
        show Steps p.tables e below (T200.setTop (mkF m 17 #[.val (.int n), .val (.int c0), .val (.int c1), .val (.int c2), .val (.int c3), .val (.int c4), .val (.int c5), .val (.int c6), .val (.int c7), .val (.int mn), .val (.int mx), .unset, .unset, .unset, .unset, .unset] [(.int (1 : Int32)), (.int c1)])) _
        refine XS.iloadN X200.here hx rfl (hb hby d17_17) rfl ?_
        exact kk_)
      obtain ⟨_, T203, h203, L203, X203, e203, hQ203, st203⟩ := own_callS X200 hx hZ (y := (⟨"com/example/tallyhook/tallyhook/core/EventTypeIsSegmentsPinLaw", "ok", "(CII)Z"⟩ : MethodName)) hown (hw _ (List.mem_of_getElem? (i := 78) rfl)) (hw _ (List.mem_of_getElem? (i := 79) rfl)) (hw _ (List.mem_of_getElem? (i := 3) rfl)) (hw _ (List.mem_of_getElem? (i := 80) rfl)) (by decide) 0 (g := (mkF m 18 #[.val (.int n), .val (.int c0), .val (.int c1), .val (.int c2), .val (.int c3), .val (.int c4), .val (.int c5), .val (.int c6), .val (.int c7), .val (.int mn), .val (.int mx), .unset, .unset, .unset, .unset, .unset] [(.int n), (.int (1 : Int32)), (.int c1)])) rfl (by rw [hml]; rfl) [(.int c1), (.int (1 : Int32)), (.int n)] [] (rm18 l Z a0 hw [] c1 1 n h0 n0 Z0) (lenOf pd19 rfl) rfl (by show 2 * 0 + _ ≤ _; exact Nat.le_of_eq rfl) (hb hby d17_18) (by decide) (by decide) e200 (by decide) (by decide)
      rcases hQ203 with ⟨⟨hp1, rfl⟩ | ⟨hp1, rfl⟩, N203, rfl⟩
      · have _ := e203
        have S204 : own_Go p e below s₁ G T203 (mkF m 21 #[.val (.int n), .val (.int c0), .val (.int c1), .val (.int c2), .val (.int c3), .val (.int c4), .val (.int c5), .val (.int c6), .val (.int c7), .val (.int mn), .val (.int mx), .unset, .unset, .unset, .unset, .unset] [(.int (1 : Int32))]) := fun tg_ kk_ => S202 tg_ (st203 tg_ kk_)
        have M203 := Fr.app M200 N203
        have S205 : own_Go p e below s₁ G T203 (mkF m 27 #[.val (.int n), .val (.int c0), .val (.int c1), .val (.int c2), .val (.int c3), .val (.int c4), .val (.int c5), .val (.int c6), .val (.int c7), .val (.int mn), .val (.int mx), .unset, .unset, .unset, .unset, .unset] [(.int n), (.int (2 : Int32)), (.int c2)]) := fun tg_ kk_ => S204 tg_ (by
          refine XS.ifNo X203.here hx rfl (hb hby d17_21) rfl (XT.i0_eq_f (by decide)) ?_
          show Steps p.tables e below (T203.setTop (mkF m 24 #[.val (.int n), .val (.int c0), .val (.int c1), .val (.int c2), .val (.int c3), .val (.int c4), .val (.int c5), .val (.int c6), .val (.int c7), .val (.int mn), .val (.int mx), .unset, .unset, .unset, .unset, .unset] [])) _
          refine XS.iloadN X203.here hx rfl (hb hby d17_24) rfl ?_
          show Steps p.tables e below (T203.setTop (mkF m 25 #[.val (.int n), .val (.int c0), .val (.int c1), .val (.int c2), .val (.int c3), .val (.int c4), .val (.int c5), .val (.int c6), .val (.int c7), .val (.int mn), .val (.int mx), .unset, .unset, .unset, .unset, .unset] [(.int c2)])) _
          refine XS.iconst X203.here hx rfl (hb hby d17_25) ?_
          show Steps p.tables e below (T203.setTop (mkF m 26 #[.val (.int n), .val (.int c0), .val (.int c1), .val (.int c2), .val (.int c3), .val (.int c4), .val (.int c5), .val (.int c6), .val (.int c7), .val (.int mn), .val (.int mx), .unset, .unset, .unset, .unset, .unset] [(.int (2 : Int32)), (.int c2)])) _
          refine XS.iloadN X203.here hx rfl (hb hby d17_26) rfl ?_
          exact kk_)
        obtain ⟨_, T206, h206, L206, X206, e206, hQ206, st206⟩ := own_callS X203 hx hZ (y := (⟨"com/example/tallyhook/tallyhook/core/EventTypeIsSegmentsPinLaw", "ok", "(CII)Z"⟩ : MethodName)) hown (hw _ (List.mem_of_getElem? (i := 78) rfl)) (hw _ (List.mem_of_getElem? (i := 79) rfl)) (hw _ (List.mem_of_getElem? (i := 3) rfl)) (hw _ (List.mem_of_getElem? (i := 80) rfl)) (by decide) 0 (g := (mkF m 27 #[.val (.int n), .val (.int c0), .val (.int c1), .val (.int c2), .val (.int c3), .val (.int c4), .val (.int c5), .val (.int c6), .val (.int c7), .val (.int mn), .val (.int mx), .unset, .unset, .unset, .unset, .unset] [(.int n), (.int (2 : Int32)), (.int c2)])) rfl (by rw [hml]; rfl) [(.int c2), (.int (2 : Int32)), (.int n)] [] (rm18 l Z a0 hw [] c2 2 n h0 n0 Z0) (lenOf pd19 rfl) rfl (by show 2 * 0 + _ ≤ _; exact Nat.le_of_eq rfl) (hb hby d17_27) (by decide) (by decide) e203 (by decide) (by decide)
        rcases hQ206 with ⟨⟨hp2, rfl⟩ | ⟨hp2, rfl⟩, N206, rfl⟩
        · have _ := e206
          have S207 : own_Go p e below s₁ G T206 (mkF m 30 #[.val (.int n), .val (.int c0), .val (.int c1), .val (.int c2), .val (.int c3), .val (.int c4), .val (.int c5), .val (.int c6), .val (.int c7), .val (.int mn), .val (.int mx), .unset, .unset, .unset, .unset, .unset] [(.int (1 : Int32))]) := fun tg_ kk_ => S205 tg_ (st206 tg_ kk_)
          have M206 := Fr.app M203 N206
          have S208 : own_Go p e below s₁ G T206 (mkF m 37 #[.val (.int n), .val (.int c0), .val (.int c1), .val (.int c2), .val (.int c3), .val (.int c4), .val (.int c5), .val (.int c6), .val (.int c7), .val (.int mn), .val (.int mx), .unset, .unset, .unset, .unset, .unset] [(.int n), (.int (3 : Int32)), (.int c3)]) := fun tg_ kk_ => S207 tg_ (by
            refine XS.ifNo X206.here hx rfl (hb hby d17_30) rfl (XT.i0_eq_f (by decide)) ?_
            show Steps p.tables e below (T206.setTop (mkF m 33 #[.val (.int n), .val (.int c0), .val (.int c1), .val (.int c2), .val (.int c3), .val (.int c4), .val (.int c5), .val (.int c6), .val (.int c7), .val (.int mn), .val (.int mx), .unset, .unset, .unset, .unset, .unset] [])) _
            refine XS.iload X206.here hx rfl (hb hby d17_33) rfl ?_
            show Steps p.tables e below (T206.setTop (mkF m 35 #[.val (.int n), .val (.int c0), .val (.int c1), .val (.int c2), .val (.int c3), .val (.int c4), .val (.int c5), .val (.int c6), .val (.int c7), .val (.int mn), .val (.int mx), .unset, .unset, .unset, .unset, .unset] [(.int c3)])) _
            refine XS.iconst X206.here hx rfl (hb hby d17_35) ?_
            show Steps p.tables e below (T206.setTop (mkF m 36 #[.val (.int n), .val (.int c0), .val (.int c1), .val (.int c2), .val (.int c3), .val (.int c4), .val (.int c5), .val (.int c6), .val (.int c7), .val (.int mn), .val (.int mx), .unset, .unset, .unset, .unset, .unset] [(.int (3 : Int32)), (.int c3)])) _
            refine XS.iloadN X206.here hx rfl (hb hby d17_36) rfl ?_
            exact kk_)
          obtain ⟨_, T209, h209, L209, X209, e209, hQ209, st209⟩ := own_callS X206 hx hZ (y := (⟨"com/example/tallyhook/tallyhook/core/EventTypeIsSegmentsPinLaw", "ok", "(CII)Z"⟩ : MethodName)) hown (hw _ (List.mem_of_getElem? (i := 78) rfl)) (hw _ (List.mem_of_getElem? (i := 79) rfl)) (hw _ (List.mem_of_getElem? (i := 3) rfl)) (hw _ (List.mem_of_getElem? (i := 80) rfl)) (by decide) 0 (g := (mkF m 37 #[.val (.int n), .val (.int c0), .val (.int c1), .val (.int c2), .val (.int c3), .val (.int c4), .val (.int c5), .val (.int c6), .val (.int c7), .val (.int mn), .val (.int mx), .unset, .unset, .unset, .unset, .unset] [(.int n), (.int (3 : Int32)), (.int c3)])) rfl (by rw [hml]; rfl) [(.int c3), (.int (3 : Int32)), (.int n)] [] (rm18 l Z a0 hw [] c3 3 n h0 n0 Z0) (lenOf pd19 rfl) rfl (by show 2 * 0 + _ ≤ _; exact Nat.le_of_eq rfl) (hb hby d17_37) (by decide) (by decide) e206 (by decide) (by decide)
          rcases hQ209 with ⟨⟨hp3, rfl⟩ | ⟨hp3, rfl⟩, N209, rfl⟩
          · have _ := e209
            have S210 : own_Go p e below s₁ G T209 (mkF m 40 #[.val (.int n), .val (.int c0), .val (.int c1), .val (.int c2), .val (.int c3), .val (.int c4), .val (.int c5), .val (.int c6), .val (.int c7), .val (.int mn), .val (.int mx), .unset, .unset, .unset, .unset, .unset] [(.int (1 : Int32))]) := fun tg_ kk_ => S208 tg_ (st209 tg_ kk_)
            have M209 := Fr.app M206 N209
            have S211 : own_Go p e below s₁ G T209 (mkF m 47 #[.val (.int n), .val (.int c0), .val (.int c1), .val (.int c2), .val (.int c3), .val (.int c4), .val (.int c5), .val (.int c6), .val (.int c7), .val (.int mn), .val (.int mx), .unset, .unset, .unset, .unset, .unset] [(.int n), (.int (4 : Int32)), (.int c4)]) := fun tg_ kk_ => S210 tg_ (by
              refine XS.ifNo X209.here hx rfl (hb hby d17_40) rfl (XT.i0_eq_f (by decide)) ?_
              show Steps p.tables e below (T209.setTop (mkF m 43 #[.val (.int n), .val (.int c0), .val (.int c1), .val (.int c2), .val (.int c3), .val (.int c4), .val (.int c5), .val (.int c6), .val (.int c7), .val (.int mn), .val (.int mx), .unset, .unset, .unset, .unset, .unset] [])) _
              refine XS.iload X209.here hx rfl (hb hby d17_43) rfl ?_
              show Steps p.tables e below (T209.setTop (mkF m 45 #[.val (.int n), .val (.int c0), .val (.int c1), .val (.int c2), .val (.int c3), .val (.int c4), .val (.int c5), .val (.int c6), .val (.int c7), .val (.int mn), .val (.int mx), .unset, .unset, .unset, .unset, .unset] [(.int c4)])) _
              refine XS.iconst X209.here hx rfl (hb hby d17_45) ?_
              show Steps p.tables e below (T209.setTop (mkF m 46 #[.val (.int n), .val (.int c0), .val (.int c1), .val (.int c2), .val (.int c3), .val (.int c4), .val (.int c5), .val (.int c6), .val (.int c7), .val (.int mn), .val (.int mx), .unset, .unset, .unset, .unset, .unset] [(.int (4 : Int32)), (.int c4)])) _
              refine XS.iloadN X209.here hx rfl (hb hby d17_46) rfl ?_
              exact kk_)
            obtain ⟨_, T212, h212, L212, X212, e212, hQ212, st212⟩ := own_callS X209 hx hZ (y := (⟨"com/example/tallyhook/tallyhook/core/EventTypeIsSegmentsPinLaw", "ok", "(CII)Z"⟩ : MethodName)) hown (hw _ (List.mem_of_getElem? (i := 78) rfl)) (hw _ (List.mem_of_getElem? (i := 79) rfl)) (hw _ (List.mem_of_getElem? (i := 3) rfl)) (hw _ (List.mem_of_getElem? (i := 80) rfl)) (by decide) 0 (g := (mkF m 47 #[.val (.int n), .val (.int c0), .val (.int c1), .val (.int c2), .val (.int c3), .val (.int c4), .val (.int c5), .val (.int c6), .val (.int c7), .val (.int mn), .val (.int mx), .unset, .unset, .unset, .unset, .unset] [(.int n), (.int (4 : Int32)), (.int c4)])) rfl (by rw [hml]; rfl) [(.int c4), (.int (4 : Int32)), (.int n)] [] (rm18 l Z a0 hw [] c4 4 n h0 n0 Z0) (lenOf pd19 rfl) rfl (by show 2 * 0 + _ ≤ _; exact Nat.le_of_eq rfl) (hb hby d17_47) (by decide) (by decide) e209 (by decide) (by decide)
            rcases hQ212 with ⟨⟨hp4, rfl⟩ | ⟨hp4, rfl⟩, N212, rfl⟩
            · have _ := e212
              have S213 : own_Go p e below s₁ G T212 (mkF m 50 #[.val (.int n), .val (.int c0), .val (.int c1), .val (.int c2), .val (.int c3), .val (.int c4), .val (.int c5), .val (.int c6), .val (.int c7), .val (.int mn), .val (.int mx), .unset, .unset, .unset, .unset, .unset] [(.int (1 : Int32))]) := fun tg_ kk_ => S211 tg_ (st212 tg_ kk_)
              have M212 := Fr.app M209 N212
              have S214 : own_Go p e below s₁ G T212 (mkF m 57 #[.val (.int n), .val (.int c0), .val (.int c1), .val (.int c2), .val (.int c3), .val (.int c4), .val (.int c5), .val (.int c6), .val (.int c7), .val (.int mn), .val (.int mx), .unset, .unset, .unset, .unset, .unset] [(.int n), (.int (5 : Int32)), (.int c5)]) := fun tg_ kk_ => S213 tg_ (by
                refine XS.ifNo X212.here hx rfl (hb hby d17_50) rfl (XT.i0_eq_f (by decide)) ?_
                show Steps p.tables e below (T212.setTop (mkF m 53 #[.val (.int n), .val (.int c0), .val (.int c1), .val (.int c2), .val (.int c3), .val (.int c4), .val (.int c5), .val (.int c6), .val (.int c7), .val (.int mn), .val (.int mx), .unset, .unset, .unset, .unset, .unset] [])) _
                refine XS.iload X212.here hx rfl (hb hby d17_53) rfl ?_
                show Steps p.tables e below (T212.setTop (mkF m 55 #[.val (.int n), .val (.int c0), .val (.int c1), .val (.int c2), .val (.int c3), .val (.int c4), .val (.int c5), .val (.int c6), .val (.int c7), .val (.int mn), .val (.int mx), .unset, .unset, .unset, .unset, .unset] [(.int c5)])) _
                refine XS.iconst X212.here hx rfl (hb hby d17_55) ?_
                show Steps p.tables e below (T212.setTop (mkF m 56 #[.val (.int n), .val (.int c0), .val (.int c1), .val (.int c2), .val (.int c3), .val (.int c4), .val (.int c5), .val (.int c6), .val (.int c7), .val (.int mn), .val (.int mx), .unset, .unset, .unset, .unset, .unset] [(.int (5 : Int32)), (.int c5)])) _
                refine XS.iloadN X212.here hx rfl (hb hby d17_56) rfl ?_
                exact kk_)
              obtain ⟨_, T215, h215, L215, X215, e215, hQ215, st215⟩ := own_callS X212 hx hZ (y := (⟨"com/example/tallyhook/tallyhook/core/EventTypeIsSegmentsPinLaw", "ok", "(CII)Z"⟩ : MethodName)) hown (hw _ (List.mem_of_getElem? (i := 78) rfl)) (hw _ (List.mem_of_getElem? (i := 79) rfl)) (hw _ (List.mem_of_getElem? (i := 3) rfl)) (hw _ (List.mem_of_getElem? (i := 80) rfl)) (by decide) 0 (g := (mkF m 57 #[.val (.int n), .val (.int c0), .val (.int c1), .val (.int c2), .val (.int c3), .val (.int c4), .val (.int c5), .val (.int c6), .val (.int c7), .val (.int mn), .val (.int mx), .unset, .unset, .unset, .unset, .unset] [(.int n), (.int (5 : Int32)), (.int c5)])) rfl (by rw [hml]; rfl) [(.int c5), (.int (5 : Int32)), (.int n)] [] (rm18 l Z a0 hw [] c5 5 n h0 n0 Z0) (lenOf pd19 rfl) rfl (by show 2 * 0 + _ ≤ _; exact Nat.le_of_eq rfl) (hb hby d17_57) (by decide) (by decide) e212 (by decide) (by decide)
              rcases hQ215 with ⟨⟨hp5, rfl⟩ | ⟨hp5, rfl⟩, N215, rfl⟩
              · have _ := e215
                have S216 : own_Go p e below s₁ G T215 (mkF m 60 #[.val (.int n), .val (.int c0), .val (.int c1), .val (.int c2), .val (.int c3), .val (.int c4), .val (.int c5), .val (.int c6), .val (.int c7), .val (.int mn), .val (.int mx), .unset, .unset, .unset, .unset, .unset] [(.int (1 : Int32))]) := fun tg_ kk_ => S214 tg_ (st215 tg_ kk_)
                have M215 := Fr.app M212 N215
                have S217 : own_Go p e below s₁ G T215 (mkF m 68 #[.val (.int n), .val (.int c0), .val (.int c1), .val (.int c2), .val (.int c3), .val (.int c4), .val (.int c5), .val (.int c6), .val (.int c7), .val (.int mn), .val (.int mx), .unset, .unset, .unset, .unset, .unset] [(.int n), (.int (6 : Int32)), (.int c6)]) := fun tg_ kk_ => S216 tg_ (by
                  refine XS.ifNo X215.here hx rfl (hb hby d17_60) rfl (XT.i0_eq_f (by decide)) ?_
                  show Steps p.tables e below (T215.setTop (mkF m 63 #[.val (.int n), .val (.int c0), .val (.int c1), .val (.int c2), .val (.int c3), .val (.int c4), .val (.int c5), .val (.int c6), .val (.int c7), .val (.int mn), .val (.int mx), .unset, .unset, .unset, .unset, .unset] [])) _
                  refine XS.iload X215.here hx rfl (hb hby d17_63) rfl ?_
                  show Steps p.tables e below (T215.setTop (mkF m 65 #[.val (.int n), .val (.int c0), .val (.int c1), .val (.int c2), .val (.int c3), .val (.int c4), .val (.int c5), .val (.int c6), .val (.int c7), .val (.int mn), .val (.int mx), .unset, .unset, .unset, .unset, .unset] [(.int c6)])) _
                  refine XS.bipush X215.here hx rfl (hb hby d17_65) ?_
                  show Steps p.tables e below (T215.setTop (mkF m 67 #[.val (.int n), .val (.int c0), .val (.int c1), .val (.int c2), .val (.int c3), .val (.int c4), .val (.int c5), .val (.int c6), .val (.int c7), .val (.int mn), .val (.int mx), .unset, .unset, .unset, .unset, .unset] [(.int (6 : Int32)), (.int c6)])) _
                  refine XS.iloadN X215.here hx rfl (hb hby d17_67) rfl ?_
                  exact kk_)
                obtain ⟨_, T218, h218, L218, X218, e218, hQ218, st218⟩ := own_callS X215 hx hZ (y := (⟨"com/example/tallyhook/tallyhook/core/EventTypeIsSegmentsPinLaw", "ok", "(CII)Z"⟩ : MethodName)) hown (hw _ (List.mem_of_getElem? (i := 78) rfl)) (hw _ (List.mem_of_getElem? (i := 79) rfl)) (hw _ (List.mem_of_getElem? (i := 3) rfl)) (hw _ (List.mem_of_getElem? (i := 80) rfl)) (by decide) 0 (g := (mkF m 68 #[.val (.int n), .val (.int c0), .val (.int c1), .val (.int c2), .val (.int c3), .val (.int c4), .val (.int c5), .val (.int c6), .val (.int c7), .val (.int mn), .val (.int mx), .unset, .unset, .unset, .unset, .unset] [(.int n), (.int (6 : Int32)), (.int c6)])) rfl (by rw [hml]; rfl) [(.int c6), (.int (6 : Int32)), (.int n)] [] (rm18 l Z a0 hw [] c6 6 n h0 n0 Z0) (lenOf pd19 rfl) rfl (by show 2 * 0 + _ ≤ _; exact Nat.le_of_eq rfl) (hb hby d17_68) (by decide) (by decide) e215 (by decide) (by decide)
                rcases hQ218 with ⟨⟨hp6, rfl⟩ | ⟨hp6, rfl⟩, N218, rfl⟩
                · have _ := e218
                  have S219 : own_Go p e below s₁ G T218 (mkF m 71 #[.val (.int n), .val (.int c0), .val (.int c1), .val (.int c2), .val (.int c3), .val (.int c4), .val (.int c5), .val (.int c6), .val (.int c7), .val (.int mn), .val (.int mx), .unset, .unset, .unset, .unset, .unset] [(.int (1 : Int32))]) := fun tg_ kk_ => S217 tg_ (st218 tg_ kk_)
                  have M218 := Fr.app M215 N218
                  have S220 : own_Go p e below s₁ G T218 (mkF m 79 #[.val (.int n), .val (.int c0), .val (.int c1), .val (.int c2), .val (.int c3), .val (.int c4), .val (.int c5), .val (.int c6), .val (.int c7), .val (.int mn), .val (.int mx), .unset, .unset, .unset, .unset, .unset] [(.int n), (.int (7 : Int32)), (.int c7)]) := fun tg_ kk_ => S219 tg_ (by
                    refine XS.ifNo X218.here hx rfl (hb hby d17_71) rfl (XT.i0_eq_f (by decide)) ?_
                    show Steps p.tables e below (T218.setTop (mkF m 74 #[.val (.int n), .val (.int c0), .val (.int c1), .val (.int c2), .val (.int c3), .val (.int c4), .val (.int c5), .val (.int c6), .val (.int c7), .val (.int mn), .val (.int mx), .unset, .unset, .unset, .unset, .unset] [])) _
                    refine XS.iload X218.here hx rfl (hb hby d17_74) rfl ?_
                    show Steps p.tables e below (T218.setTop (mkF m 76 #[.val (.int n), .val (.int c0), .val (.int c1), .val (.int c2), .val (.int c3), .val (.int c4), .val (.int c5), .val (.int c6), .val (.int c7), .val (.int mn), .val (.int mx), .unset, .unset, .unset, .unset, .unset] [(.int c7)])) _
                    refine XS.bipush X218.here hx rfl (hb hby d17_76) ?_
                    show Steps p.tables e below (T218.setTop (mkF m 78 #[.val (.int n), .val (.int c0), .val (.int c1), .val (.int c2), .val (.int c3), .val (.int c4), .val (.int c5), .val (.int c6), .val (.int c7), .val (.int mn), .val (.int mx), .unset, .unset, .unset, .unset, .unset] [(.int (7 : Int32)), (.int c7)])) _
                    refine XS.iloadN X218.here hx rfl (hb hby d17_78) rfl ?_
                    exact kk_)
                  obtain ⟨_, T221, h221, L221, X221, e221, hQ221, st221⟩ := own_callS X218 hx hZ (y := (⟨"com/example/tallyhook/tallyhook/core/EventTypeIsSegmentsPinLaw", "ok", "(CII)Z"⟩ : MethodName)) hown (hw _ (List.mem_of_getElem? (i := 78) rfl)) (hw _ (List.mem_of_getElem? (i := 79) rfl)) (hw _ (List.mem_of_getElem? (i := 3) rfl)) (hw _ (List.mem_of_getElem? (i := 80) rfl)) (by decide) 0 (g := (mkF m 79 #[.val (.int n), .val (.int c0), .val (.int c1), .val (.int c2), .val (.int c3), .val (.int c4), .val (.int c5), .val (.int c6), .val (.int c7), .val (.int mn), .val (.int mx), .unset, .unset, .unset, .unset, .unset] [(.int n), (.int (7 : Int32)), (.int c7)])) rfl (by rw [hml]; rfl) [(.int c7), (.int (7 : Int32)), (.int n)] [] (rm18 l Z a0 hw [] c7 7 n h0 n0 Z0) (lenOf pd19 rfl) rfl (by show 2 * 0 + _ ≤ _; exact Nat.le_of_eq rfl) (hb hby d17_79) (by decide) (by decide) e218 (by decide) (by decide)
                  rcases hQ221 with ⟨⟨hp7, rfl⟩ | ⟨hp7, rfl⟩, N221, rfl⟩
                  · have _ := e221
                    have S222 : own_Go p e below s₁ G T221 (mkF m 82 #[.val (.int n), .val (.int c0), .val (.int c1), .val (.int c2), .val (.int c3), .val (.int c4), .val (.int c5), .val (.int c6), .val (.int c7), .val (.int mn), .val (.int mx), .unset, .unset, .unset, .unset, .unset] [(.int (1 : Int32))]) := fun tg_ kk_ => S220 tg_ (st221 tg_ kk_)
                    have M221 := Fr.app M218 N221
                    have S223 : own_Go p e below s₁ G T221 (mkF m 90 #[.val (.int n), .val (.int c0), .val (.int c1), .val (.int c2), .val (.int c3), .val (.int c4), .val (.int c5), .val (.int c6), .val (.int c7), .val (.int mn), .val (.int mx), .unset, .unset, .unset, .unset, .unset] [(.int (1 : Int32))]) := fun tg_ kk_ => S222 tg_ (by
                      refine XS.ifNo X221.here hx rfl (hb hby d17_82) rfl (XT.i0_eq_f (by decide)) ?_
                      show Steps p.tables e below (T221.setTop (mkF m 85 #[.val (.int n), .val (.int c0), .val (.int c1), .val (.int c2), .val (.int c3), .val (.int c4), .val (.int c5), .val (.int c6), .val (.int c7), .val (.int mn), .val (.int mx), .unset, .unset, .unset, .unset, .unset] [])) _
                      refine XS.iconst X221.here hx rfl (hb hby d17_85) ?_
                      show Steps p.tables e below (T221.setTop (mkF m 86 #[.val (.int n), .val (.int c0), .val (.int c1), .val (.int c2), .val (.int c3), .val (.int c4), .val (.int c5), .val (.int c6), .val (.int c7), .val (.int mn), .val (.int mx), .unset, .unset, .unset, .unset, .unset] [(.int (1 : Int32))])) _
                      refine XS.goto X221.here hx rfl (pc0 := 86) (pc' := 90) rfl (hb hby d17_86) (by decide) (by decide) ?_
                      exact kk_)
                    have hv : (own_all n c0 c1 c2 c3 c4 c5 c6 c7) = true := by simp only [own_all, hp0, hp1, hp2, hp3, hp4, hp5, hp6, hp7, Bool.and_true, Bool.true_and, Bool.and_false, Bool.false_and, Bool.or_true, Bool.true_or, Bool.or_false, Bool.false_or]
                    rw [hv]
                    exact ⟨T221, _, X221, e221, M221, S223⟩
                  · have _ := e221
                    have S224 : own_Go p e below s₁ G T221 (mkF m 82 #[.val (.int n), .val (.int c0), .val (.int c1), .val (.int c2), .val (.int c3), .val (.int c4), .val (.int c5), .val (.int c6), .val (.int c7), .val (.int mn), .val (.int mx), .unset, .unset, .unset, .unset, .unset] [(.int (0 : Int32))]) := fun tg_ kk_ => S220 tg_ (st221 tg_ kk_)
                    have M221 := Fr.app M218 N221
                    have S225 : own_Go p e below s₁ G T221 (mkF m 90 #[.val (.int n), .val (.int c0), .val (.int c1), .val (.int c2), .val (.int c3), .val (.int c4), .val (.int c5), .val (.int c6), .val (.int c7), .val (.int mn), .val (.int mx), .unset, .unset, .unset, .unset, .unset] [(.int (0 : Int32))]) := fun tg_ kk_ => S224 tg_ (by
                      refine XS.ifYes X221.here hx rfl (pc0 := 82) (pc' := 89) rfl (hb hby d17_82) rfl (XT.i0_eq_t (by decide)) (by decide) (by decide) ?_
                      show Steps p.tables e below (T221.setTop (mkF m 89 #[.val (.int n), .val (.int c0), .val (.int c1), .val (.int c2), .val (.int c3), .val (.int c4), .val (.int c5), .val (.int c6), .val (.int c7), .val (.int mn), .val (.int mx), .unset, .unset, .unset, .unset, .unset] [])) _
                      refine XS.iconst X221.here hx rfl (hb hby d17_89) ?_
                      exact kk_)
                    have hv : (own_all n c0 c1 c2 c3 c4 c5 c6 c7) = false := by simp only [own_all, hp0, hp1, hp2, hp3, hp4, hp5, hp6, hp7, Bool.and_true, Bool.true_and, Bool.and_false, Bool.false_and, Bool.or_true, Bool.true_or, Bool.or_false, Bool.false_or]
                    rw [hv]
                    exact ⟨T221, _, X221, e221, M221, S225⟩
                · have _ := e218
                  have S226 : own_Go p e below s₁ G T218 (mkF m 71 #[.val (.int n), .val (.int c0), .val (.int c1), .val (.int c2), .val (.int c3), .val (.int c4), .val (.int c5), .val (.int c6), .val (.int c7), .val (.int mn), .val (.int mx), .unset, .unset, .unset, .unset, .unset] [(.int (0 : Int32))]) := fun tg_ kk_ => S217 tg_ (st218 tg_ kk_)
                  have M218 := Fr.app M215 N218
                  have S227 : own_Go p e below s₁ G T218 (mkF m 90 #[.val (.int n), .val (.int c0), .val (.int c1), .val (.int c2), .val (.int c3), .val (.int c4), .val (.int c5), .val (.int c6), .val (.int c7), .val (.int mn), .val (.int mx), .unset, .unset, .unset, .unset, .unset] [(.int (0 : Int32))]) := fun tg_ kk_ => S226 tg_ (by
                    refine XS.ifYes X218.here hx rfl (pc0 := 71) (pc' := 89) rfl (hb hby d17_71) rfl (XT.i0_eq_t (by decide)) (by decide) (by decide) ?_
                    show Steps p.tables e below (T218.setTop (mkF m 89 #[.val (.int n), .val (.int c0), .val (.int c1), .val (.int c2), .val (.int c3), .val (.int c4), .val (.int c5), .val (.int c6), .val (.int c7), .val (.int mn), .val (.int mx), .unset, .unset, .unset, .unset, .unset] [])) _
                    refine XS.iconst X218.here hx rfl (hb hby d17_89) ?_
                    exact kk_)
                  have hv : (own_all n c0 c1 c2 c3 c4 c5 c6 c7) = false := by simp only [own_all, hp0, hp1, hp2, hp3, hp4, hp5, hp6, Bool.and_true, Bool.true_and, Bool.and_false, Bool.false_and, Bool.or_true, Bool.true_or, Bool.or_false, Bool.false_or]
                  rw [hv]
                  exact ⟨T218, _, X218, e218, M218, S227⟩
              · have _ := e215
                have S228 : own_Go p e below s₁ G T215 (mkF m 60 #[.val (.int n), .val (.int c0), .val (.int c1), .val (.int c2), .val (.int c3), .val (.int c4), .val (.int c5), .val (.int c6), .val (.int c7), .val (.int mn), .val (.int mx), .unset, .unset, .unset, .unset, .unset] [(.int (0 : Int32))]) := fun tg_ kk_ => S214 tg_ (st215 tg_ kk_)
                have M215 := Fr.app M212 N215
                have S229 : own_Go p e below s₁ G T215 (mkF m 90 #[.val (.int n), .val (.int c0), .val (.int c1), .val (.int c2), .val (.int c3), .val (.int c4), .val (.int c5), .val (.int c6), .val (.int c7), .val (.int mn), .val (.int mx), .unset, .unset, .unset, .unset, .unset] [(.int (0 : Int32))]) := fun tg_ kk_ => S228 tg_ (by
                  refine XS.ifYes X215.here hx rfl (pc0 := 60) (pc' := 89) rfl (hb hby d17_60) rfl (XT.i0_eq_t (by decide)) (by decide) (by decide) ?_
                  show Steps p.tables e below (T215.setTop (mkF m 89 #[.val (.int n), .val (.int c0), .val (.int c1), .val (.int c2), .val (.int c3), .val (.int c4), .val (.int c5), .val (.int c6), .val (.int c7), .val (.int mn), .val (.int mx), .unset, .unset, .unset, .unset, .unset] [])) _
                  refine XS.iconst X215.here hx rfl (hb hby d17_89) ?_
                  exact kk_)
                have hv : (own_all n c0 c1 c2 c3 c4 c5 c6 c7) = false := by simp only [own_all, hp0, hp1, hp2, hp3, hp4, hp5, Bool.and_true, Bool.true_and, Bool.and_false, Bool.false_and, Bool.or_true, Bool.true_or, Bool.or_false, Bool.false_or]
                rw [hv]
                exact ⟨T215, _, X215, e215, M215, S229⟩
            · have _ := e212
              have S230 : own_Go p e below s₁ G T212 (mkF m 50 #[.val (.int n), .val (.int c0), .val (.int c1), .val (.int c2), .val (.int c3), .val (.int c4), .val (.int c5), .val (.int c6), .val (.int c7), .val (.int mn), .val (.int mx), .unset, .unset, .unset, .unset, .unset] [(.int (0 : Int32))]) := fun tg_ kk_ => S211 tg_ (st212 tg_ kk_)
              have M212 := Fr.app M209 N212
              have S231 : own_Go p e below s₁ G T212 (mkF m 90 #[.val (.int n), .val (.int c0), .val (.int c1), .val (.int c2), .val (.int c3), .val (.int c4), .val (.int c5), .val (.int c6), .val (.int c7), .val (.int mn), .val (.int mx), .unset, .unset, .unset, .unset, .unset] [(.int (0 : Int32))]) := fun tg_ kk_ => S230 tg_ (by
                refine XS.ifYes X212.here hx rfl (pc0 := 50) (pc' := 89) rfl (hb hby d17_50) rfl (XT.i0_eq_t (by decide)) (by decide) (by decide) ?_
                show Steps p.tables e below (T212.setTop (mkF m 89 #[.val (.int n), .val (.int c0), .val (.int c1), .val (.int c2), .val (.int c3), .val (.int c4), .val (.int c5), .val (.int c6), .val (.int c7), .val (.int mn), .val (.int mx), .unset, .unset, .unset, .unset, .unset] [])) _
                refine XS.iconst X212.here hx rfl (hb hby d17_89) ?_
                exact kk_)
              have hv : (own_all n c0 c1 c2 c3 c4 c5 c6 c7) = false := by simp only [own_all, hp0, hp1, hp2, hp3, hp4, Bool.and_true, Bool.true_and, Bool.and_false, Bool.false_and, Bool.or_true, Bool.true_or, Bool.or_false, Bool.false_or]
              rw [hv]
              exact ⟨T212, _, X212, e212, M212, S231⟩
          · have _ := e209
            have S232 : own_Go p e below s₁ G T209 (mkF m 40 #[.val (.int n), .val (.int c0), .val (.int c1), .val (.int c2), .val (.int c3), .val (.int c4), .val (.int c5), .val (.int c6), .val (.int c7), .val (.int mn), .val (.int mx), .unset, .unset, .unset, .unset, .unset] [(.int (0 : Int32))]) := fun tg_ kk_ => S208 tg_ (st209 tg_ kk_)
            have M209 := Fr.app M206 N209
            have S233 : own_Go p e below s₁ G T209 (mkF m 90 #[.val (.int n), .val (.int c0), .val (.int c1), .val (.int c2), .val (.int c3), .val (.int c4), .val (.int c5), .val (.int c6), .val (.int c7), .val (.int mn), .val (.int mx), .unset, .unset, .unset, .unset, .unset] [(.int (0 : Int32))]) := fun tg_ kk_ => S232 tg_ (by
              refine XS.ifYes X209.here hx rfl (pc0 := 40) (pc' := 89) rfl (hb hby d17_40) rfl (XT.i0_eq_t (by decide)) (by decide) (by decide) ?_
              show Steps p.tables e below (T209.setTop (mkF m 89 #[.val (.int n), .val (.int c0), .val (.int c1), .val (.int c2), .val (.int c3), .val (.int c4), .val (.int c5), .val (.int c6), .val (.int c7), .val (.int mn), .val (.int mx), .unset, .unset, .unset, .unset, .unset] [])) _
              refine XS.iconst X209.here hx rfl (hb hby d17_89) ?_
              exact kk_)
            have hv : (own_all n c0 c1 c2 c3 c4 c5 c6 c7) = false := by simp only [own_all, hp0, hp1, hp2, hp3, Bool.and_true, Bool.true_and, Bool.and_false, Bool.false_and, Bool.or_true, Bool.true_or, Bool.or_false, Bool.false_or]
            rw [hv]
            exact ⟨T209, _, X209, e209, M209, S233⟩
        · have _ := e206
          have S234 : own_Go p e below s₁ G T206 (mkF m 30 #[.val (.int n), .val (.int c0), .val (.int c1), .val (.int c2), .val (.int c3), .val (.int c4), .val (.int c5), .val (.int c6), .val (.int c7), .val (.int mn), .val (.int mx), .unset, .unset, .unset, .unset, .unset] [(.int (0 : Int32))]) := fun tg_ kk_ => S205 tg_ (st206 tg_ kk_)
          have M206 := Fr.app M203 N206
          have S235 : own_Go p e below s₁ G T206 (mkF m 90 #[.val (.int n), .val (.int c0), .val (.int c1), .val (.int c2), .val (.int c3), .val (.int c4), .val (.int c5), .val (.int c6), .val (.int c7), .val (.int mn), .val (.int mx), .unset, .unset, .unset, .unset, .unset] [(.int (0 : Int32))]) := fun tg_ kk_ => S234 tg_ (by
            refine XS.ifYes X206.here hx rfl (pc0 := 30) (pc' := 89) rfl (hb hby d17_30) rfl (XT.i0_eq_t (by decide)) (by decide) (by decide) ?_
            show Steps p.tables e below (T206.setTop (mkF m 89 #[.val (.int n), .val (.int c0), .val (.int c1), .val (.int c2), .val (.int c3), .val (.int c4), .val (.int c5), .val (.int c6), .val (.int c7), .val (.int mn), .val (.int mx), .unset, .unset, .unset, .unset, .unset] [])) _
            refine XS.iconst X206.here hx rfl (hb hby d17_89) ?_
            exact kk_)
          have hv : (own_all n c0 c1 c2 c3 c4 c5 c6 c7) = false := by simp only [own_all, hp0, hp1, hp2, Bool.and_true, Bool.true_and, Bool.and_false, Bool.false_and, Bool.or_true, Bool.true_or, Bool.or_false, Bool.false_or]
          rw [hv]
          exact ⟨T206, _, X206, e206, M206, S235⟩
      · have _ := e203
        have S236 : own_Go p e below s₁ G T203 (mkF m 21 #[.val (.int n), .val (.int c0), .val (.int c1), .val (.int c2), .val (.int c3), .val (.int c4), .val (.int c5), .val (.int c6), .val (.int c7), .val (.int mn), .val (.int mx), .unset, .unset, .unset, .unset, .unset] [(.int (0 : Int32))]) := fun tg_ kk_ => S202 tg_ (st203 tg_ kk_)
        have M203 := Fr.app M200 N203
        have S237 : own_Go p e below s₁ G T203 (mkF m 90 #[.val (.int n), .val (.int c0), .val (.int c1), .val (.int c2), .val (.int c3), .val (.int c4), .val (.int c5), .val (.int c6), .val (.int c7), .val (.int mn), .val (.int mx), .unset, .unset, .unset, .unset, .unset] [(.int (0 : Int32))]) := fun tg_ kk_ => S236 tg_ (by
          refine XS.ifYes X203.here hx rfl (pc0 := 21) (pc' := 89) rfl (hb hby d17_21) rfl (XT.i0_eq_t (by decide)) (by decide) (by decide) ?_
          show Steps p.tables e below (T203.setTop (mkF m 89 #[.val (.int n), .val (.int c0), .val (.int c1), .val (.int c2), .val (.int c3), .val (.int c4), .val (.int c5), .val (.int c6), .val (.int c7), .val (.int mn), .val (.int mx), .unset, .unset, .unset, .unset, .unset] [])) _
          refine XS.iconst X203.here hx rfl (hb hby d17_89) ?_
          exact kk_)
        have hv : (own_all n c0 c1 c2 c3 c4 c5 c6 c7) = false := by simp only [own_all, hp0, hp1, Bool.and_true, Bool.true_and, Bool.and_false, Bool.false_and, Bool.or_true, Bool.true_or, Bool.or_false, Bool.false_or]
        rw [hv]
        exact ⟨T203, _, X203, e203, M203, S237⟩
    · have _ := e200
      have S238 : own_Go p e below s₁ G T200 (mkF m 12 #[.val (.int n), .val (.int c0), .val (.int c1), .val (.int c2), .val (.int c3), .val (.int c4), .val (.int c5), .val (.int c6), .val (.int c7), .val (.int mn), .val (.int mx), .unset, .unset, .unset, .unset, .unset] [(.int (0 : Int32))]) := fun tg_ kk_ => S198 tg_ (st200 tg_ kk_)
      have M200 := Fr.app N0 N200
      have S239 : own_Go p e below s₁ G T200 (mkF m 90 #[.val (.int n), .val (.int c0), .val (.int c1), .val (.int c2), .val (.int c3), .val (.int c4), .val (.int c5), .val (.int c6), .val (.int c7), .val (.int mn), .val (.int mx), .unset, .unset, .unset, .unset, .unset] [(.int (0 : Int32))]) := fun tg_ kk_ => S238 tg_ (by
        refine XS.ifYes X200.here hx rfl (pc0 := 12) (pc' := 89) rfl (hb hby d17_12) rfl (XT.i0_eq_t (by decide)) (by decide) (by decide) ?_
        show Steps p.tables e below (T200.setTop (mkF m 89 #[.val (.int n), .val (.int c0), .val (.int c1), .val (.int c2), .val (.int c3), .val (.int c4), .val (.int c5), .val (.int c6), .val (.int c7), .val (.int mn), .val (.int mx), .unset, .unset, .unset, .unset, .unset] [])) _
        refine XS.iconst X200.here hx rfl (hb hby d17_89) ?_
        exact kk_)
      have hv : (own_all n c0 c1 c2 c3 c4 c5 c6 c7) = false := by simp only [own_all, hp0, Bool.and_true, Bool.true_and, Bool.and_false, Bool.false_and, Bool.or_true, Bool.true_or, Bool.or_false, Bool.false_or]
      rw [hv]
      exact ⟨T200, _, X200, e200, M200, S239⟩
  obtain ⟨T199, L199, X199, e199, N199, S199⟩ := ph199
  have S240 : own_Go p e below s₁ G T199 (mkF m 92 #[.val (.int n), .val (.int c0), .val (.int c1), .val (.int c2), .val (.int c3), .val (.int c4), .val (.int c5), .val (.int c6), .val (.int c7), .val (.int mn), .val (.int mx), .val (.int (own_bit (own_all n c0 c1 c2 c3 c4 c5 c6 c7))), .unset, .unset, .unset, .unset] []) := fun tg_ kk_ => S199 tg_ (by
    refine XS.istore X199.here hx rfl (hb hby d17_90) rfl (l' := #[.val (.int n), .val (.int c0), .val (.int c1), .val (.int c2), .val (.int c3), .val (.int c4), .val (.int c5), .val (.int c6), .val (.int c7), .val (.int mn), .val (.int mx), .val (.int (own_bit (own_all n c0 c1 c2 c3 c4 c5 c6 c7))), .unset, .unset, .unset, .unset]) rfl ?_
    exact kk_)
  have ph241 : ∃ (T' : State) (L' : List Loc), Stand p l e ({ frames := 2, cells := 0, slots := 0, locals := 40 } : Room) s m #[(.int (Int32.ofNat k)), (.int c0), (.int c1), (.int c2), (.int c3), (.int c4), (.int c5), (.int c6), (.int c7), (.int mn), (.int mx)] below meth c T' L' 0 0 ∧ T'.heap = h0 ∧ Fr n0 L' ∧ own_Go p e below s₁ G T' (mkF m 177 #[.val (.int n), .val (.int c0), .val (.int c1), .val (.int c2), .val (.int c3), .val (.int c4), .val (.int c5), .val (.int c6), .val (.int c7), .val (.int mn), .val (.int mx), .val (.int (own_bit (own_all n c0 c1 c2 c3 c4 c5 c6 c7))), .unset, .unset, .unset, .unset] [(.int (own_bit (own_adj n c0 c1 c2 c3 c4 c5 c6 c7)))]) := by
    have S242 : own_Go p e below s₁ G T199 (mkF m 96 #[.val (.int n), .val (.int c0), .val (.int c1), .val (.int c2), .val (.int c3), .val (.int c4), .val (.int c5), .val (.int c6), .val (.int c7), .val (.int mn), .val (.int mx), .val (.int (own_bit (own_all n c0 c1 c2 c3 c4 c5 c6 c7))), .unset, .unset, .unset, .unset] [(.int n), (.int (0 : Int32)), (.int c1), (.int c0)]) := fun tg_ kk_ => S240 tg_ (by
      refine XS.iloadN X199.here hx rfl (hb hby d17_92) rfl ?_
      show Steps p.tables e below (T199.setTop (mkF m 93 #[.val (.int n), .val (.int c0), .val (.int c1), .val (.int c2), .val (.int c3), .val (.int c4), .val (.int c5), .val (.int c6), .val (.int c7), .val (.int mn), .val (.int mx), .val (.int (own_bit (own_all n c0 c1 c2 c3 c4 c5 c6 c7))), .unset, .unset, .unset, .unset] [(.int c0)])) _
      refine XS.iloadN X199.here hx rfl (hb hby d17_93) rfl ?_
      show Steps p.tables e below (T199.setTop (mkF m 94 #[.val (.int n), .val (.int c0), .val (.int c1), .val (.int c2), .val (.int c3), .val (.int c4), .val (.int c5), .val (.int c6), .val (.int c7), .val (.int mn), .val (.int mx), .val (.int (own_bit (own_all n c0 c1 c2 c3 c4 c5 c6 c7))), .unset, .unset, .unset, .unset] [(.int c1), (.int c0)])) _
      refine XS.iconst X199.here hx rfl (hb hby d17_94) ?_
      show Steps p.tables e below (T199.setTop (mkF m 95 #[.val (.int n), .val (.int c0), .val (.int c1), .val (.int c2), .val (.int c3), .val (.int c4), .val (.int c5), .val (.int c6), .val (.int c7), .val (.int mn), .val (.int mx), .val (.int (own_bit (own_all n c0 c1 c2 c3 c4 c5 c6 c7))), .unset, .unset, .unset, .unset] [(.int (0 : Int32)), (.int c1), (.int c0)])) _
      refine XS.iloadN X199.here hx rfl (hb hby d17_95) rfl ?_
      exact kk_)
    obtain ⟨_, T243, h243, L243, X243, e243, hQ243, st243⟩ := own_callS X199 hx hZ (y := (⟨"com/example/tallyhook/tallyhook/core/EventTypeIsSegmentsPinLaw", "pair", "(CCII)Z"⟩ : MethodName)) hown (hw _ (List.mem_of_getElem? (i := 87) rfl)) (hw _ (List.mem_of_getElem? (i := 88) rfl)) (hw _ (List.mem_of_getElem? (i := 3) rfl)) (hw _ (List.mem_of_getElem? (i := 89) rfl)) (by decide) 0 (g := (mkF m 96 #[.val (.int n), .val (.int c0), .val (.int c1), .val (.int c2), .val (.int c3), .val (.int c4), .val (.int c5), .val (.int c6), .val (.int c7), .val (.int mn), .val (.int mx), .val (.int (own_bit (own_all n c0 c1 c2 c3 c4 c5 c6 c7))), .unset, .unset, .unset, .unset] [(.int n), (.int (0 : Int32)), (.int c1), (.int c0)])) rfl (by rw [hml]; rfl) [(.int c0), (.int c1), (.int (0 : Int32)), (.int n)] [] (rm21 l Z a0 hw [] c0 c1 0 n h0 n0 Z0) (lenOf pd21 rfl) rfl (by show 2 * 0 + _ ≤ _; exact Nat.le_of_eq rfl) (hb hby d17_96) (by decide) (by decide) e199 (by decide) (by decide)
    rcases hQ243 with ⟨⟨hp0, rfl⟩ | ⟨hp0, rfl⟩, N243, rfl⟩
    · have _ := e243
      have S244 : own_Go p e below s₁ G T243 (mkF m 99 #[.val (.int n), .val (.int c0), .val (.int c1), .val (.int c2), .val (.int c3), .val (.int c4), .val (.int c5), .val (.int c6), .val (.int c7), .val (.int mn), .val (.int mx), .val (.int (own_bit (own_all n c0 c1 c2 c3 c4 c5 c6 c7))), .unset, .unset, .unset, .unset] [(.int (1 : Int32))]) := fun tg_ kk_ => S242 tg_ (st243 tg_ kk_)
      have M243 := Fr.app N199 N243
      have S245 : own_Go p e below s₁ G T243 (mkF m 177 #[.val (.int n), .val (.int c0), .val (.int c1), .val (.int c2), .val (.int c3), .val (.int c4), .val (.int c5), .val (.int c6), .val (.int c7), .val (.int mn), .val (.int mx), .val (.int (own_bit (own_all n c0 c1 c2 c3 c4 c5 c6 c7))), .unset, .unset, .unset, .unset] [(.int (1 : Int32))]) := fun tg_ kk_ => S244 tg_ (by
        refine XS.ifYes X243.here hx rfl (pc0 := 99) (pc' := 172) rfl (hb hby d17_99) rfl (XT.i0_ne_t (by decide)) (by decide) (by decide) ?_
        show Steps p.tables e below (T243.setTop (mkF m 172 #[.val (.int n), .val (.int c0), .val (.int c1), .val (.int c2), .val (.int c3), .val (.int c4), .val (.int c5), .val (.int c6), .val (.int c7), .val (.int mn), .val (.int mx), .val (.int (own_bit (own_all n c0 c1 c2 c3 c4 c5 c6 c7))), .unset, .unset, .unset, .unset] [])) _
        refine XS.iconst X243.here hx rfl (hb hby d17_172) ?_
        show Steps p.tables e below (T243.setTop (mkF m 173 #[.val (.int n), .val (.int c0), .val (.int c1), .val (.int c2), .val (.int c3), .val (.int c4), .val (.int c5), .val (.int c6), .val (.int c7), .val (.int mn), .val (.int mx), .val (.int (own_bit (own_all n c0 c1 c2 c3 c4 c5 c6 c7))), .unset, .unset, .unset, .unset] [(.int (1 : Int32))])) _
        refine XS.goto X243.here hx rfl (pc0 := 173) (pc' := 177) rfl (hb hby d17_173) (by decide) (by decide) ?_
        exact kk_)
      have hv : (own_adj n c0 c1 c2 c3 c4 c5 c6 c7) = true := by simp only [own_adj, hp0, Bool.and_true, Bool.true_and, Bool.and_false, Bool.false_and, Bool.or_true, Bool.true_or, Bool.or_false, Bool.false_or]
      rw [hv]
      exact ⟨T243, _, X243, e243, M243, S245⟩
    · have _ := e243
      have S246 : own_Go p e below s₁ G T243 (mkF m 99 #[.val (.int n), .val (.int c0), .val (.int c1), .val (.int c2), .val (.int c3), .val (.int c4), .val (.int c5), .val (.int c6), .val (.int c7), .val (.int mn), .val (.int mx), .val (.int (own_bit (own_all n c0 c1 c2 c3 c4 c5 c6 c7))), .unset, .unset, .unset, .unset] [(.int (0 : Int32))]) := fun tg_ kk_ => S242 tg_ (st243 tg_ kk_)
      have M243 := Fr.app N199 N243
      have S247 : own_Go p e below s₁ G T243 (mkF m 106 #[.val (.int n), .val (.int c0), .val (.int c1), .val (.int c2), .val (.int c3), .val (.int c4), .val (.int c5), .val (.int c6), .val (.int c7), .val (.int mn), .val (.int mx), .val (.int (own_bit (own_all n c0 c1 c2 c3 c4 c5 c6 c7))), .unset, .unset, .unset, .unset] [(.int n), (.int (1 : Int32)), (.int c2), (.int c1)]) := fun tg_ kk_ => S246 tg_ (by
        refine XS.ifNo X243.here hx rfl (hb hby d17_99) rfl (XT.i0_ne_f (by decide)) ?_
        show Steps p.tables e below (T243.setTop (mkF m 102 #[.val (.int n), .val (.int c0), .val (.int c1), .val (.int c2), .val (.int c3), .val (.int c4), .val (.int c5), .val (.int c6), .val (.int c7), .val (.int mn), .val (.int mx), .val (.int (own_bit (own_all n c0 c1 c2 c3 c4 c5 c6 c7))), .unset, .unset, .unset, .unset] [])) _
        refine XS.iloadN X243.here hx rfl (hb hby d17_102) rfl ?_
        show Steps p.tables e below (T243.setTop (mkF m 103 #[.val (.int n), .val (.int c0), .val (.int c1), .val (.int c2), .val (.int c3), .val (.int c4), .val (.int c5), .val (.int c6), .val (.int c7), .val (.int mn), .val (.int mx), .val (.int (own_bit (own_all n c0 c1 c2 c3 c4 c5 c6 c7))), .unset, .unset, .unset, .unset] [(.int c1)])) _
        refine XS.iloadN X243.here hx rfl (hb hby d17_103) rfl ?_
        show Steps p.tables e below (T243.setTop (mkF m 104 #[.val (.int n), .val (.int c0), .val (.int c1), .val (.int c2), .val (.int c3), .val (.int c4), .val (.int c5), .val (.int c6), .val (.int c7), .val (.int mn), .val (.int mx), .val (.int (own_bit (own_all n c0 c1 c2 c3 c4 c5 c6 c7))), .unset, .unset, .unset, .unset] [(.int c2), (.int c1)])) _
        refine XS.iconst X243.here hx rfl (hb hby d17_104) ?_
        show Steps p.tables e below (T243.setTop (mkF m 105 #[.val (.int n), .val (.int c0), .val (.int c1), .val (.int c2), .val (.int c3), .val (.int c4), .val (.int c5), .val (.int c6), .val (.int c7), .val (.int mn), .val (.int mx), .val (.int (own_bit (own_all n c0 c1 c2 c3 c4 c5 c6 c7))), .unset, .unset, .unset, .unset] [(.int (1 : Int32)), (.int c2), (.int c1)])) _
        refine XS.iloadN X243.here hx rfl (hb hby d17_105) rfl ?_
        exact kk_)
      obtain ⟨_, T248, h248, L248, X248, e248, hQ248, st248⟩ := own_callS X243 hx hZ (y := (⟨"com/example/tallyhook/tallyhook/core/EventTypeIsSegmentsPinLaw", "pair", "(CCII)Z"⟩ : MethodName)) hown (hw _ (List.mem_of_getElem? (i := 87) rfl)) (hw _ (List.mem_of_getElem? (i := 88) rfl)) (hw _ (List.mem_of_getElem? (i := 3) rfl)) (hw _ (List.mem_of_getElem? (i := 89) rfl)) (by decide) 0 (g := (mkF m 106 #[.val (.int n), .val (.int c0), .val (.int c1), .val (.int c2), .val (.int c3), .val (.int c4), .val (.int c5), .val (.int c6), .val (.int c7), .val (.int mn), .val (.int mx), .val (.int (own_bit (own_all n c0 c1 c2 c3 c4 c5 c6 c7))), .unset, .unset, .unset, .unset] [(.int n), (.int (1 : Int32)), (.int c2), (.int c1)])) rfl (by rw [hml]; rfl) [(.int c1), (.int c2), (.int (1 : Int32)), (.int n)] [] (rm21 l Z a0 hw [] c1 c2 1 n h0 n0 Z0) (lenOf pd21 rfl) rfl (by show 2 * 0 + _ ≤ _; exact Nat.le_of_eq rfl) (hb hby d17_106) (by decide) (by decide) e243 (by decide) (by decide)
      rcases hQ248 with ⟨⟨hp1, rfl⟩ | ⟨hp1, rfl⟩, N248, rfl⟩
      · have _ := e248
        have S249 : own_Go p e below s₁ G T248 (mkF m 109 #[.val (.int n), .val (.int c0), .val (.int c1), .val (.int c2), .val (.int c3), .val (.int c4), .val (.int c5), .val (.int c6), .val (.int c7), .val (.int mn), .val (.int mx), .val (.int (own_bit (own_all n c0 c1 c2 c3 c4 c5 c6 c7))), .unset, .unset, .unset, .unset] [(.int (1 : Int32))]) := fun tg_ kk_ => S247 tg_ (st248 tg_ kk_)
        have M248 := Fr.app M243 N248
        have S250 : own_Go p e below s₁ G T248 (mkF m 177 #[.val (.int n), .val (.int c0), .val (.int c1), .val (.int c2), .val (.int c3), .val (.int c4), .val (.int c5), .val (.int c6), .val (.int c7), .val (.int mn), .val (.int mx), .val (.int (own_bit (own_all n c0 c1 c2 c3 c4 c5 c6 c7))), .unset, .unset, .unset, .unset] [(.int (1 : Int32))]) := fun tg_ kk_ => S249 tg_ (by
          refine XS.ifYes X248.here hx rfl (pc0 := 109) (pc' := 172) rfl (hb hby d17_109) rfl (XT.i0_ne_t (by decide)) (by decide) (by decide) ?_
          show Steps p.tables e below (T248.setTop (mkF m 172 #[.val (.int n), .val (.int c0), .val (.int c1), .val (.int c2), .val (.int c3), .val (.int c4), .val (.int c5), .val (.int c6), .val (.int c7), .val (.int mn), .val (.int mx), .val (.int (own_bit (own_all n c0 c1 c2 c3 c4 c5 c6 c7))), .unset, .unset, .unset, .unset] [])) _
          refine XS.iconst X248.here hx rfl (hb hby d17_172) ?_
          show Steps p.tables e below (T248.setTop (mkF m 173 #[.val (.int n), .val (.int c0), .val (.int c1), .val (.int c2), .val (.int c3), .val (.int c4), .val (.int c5), .val (.int c6), .val (.int c7), .val (.int mn), .val (.int mx), .val (.int (own_bit (own_all n c0 c1 c2 c3 c4 c5 c6 c7))), .unset, .unset, .unset, .unset] [(.int (1 : Int32))])) _
          refine XS.goto X248.here hx rfl (pc0 := 173) (pc' := 177) rfl (hb hby d17_173) (by decide) (by decide) ?_
          exact kk_)
        have hv : (own_adj n c0 c1 c2 c3 c4 c5 c6 c7) = true := by simp only [own_adj, hp0, hp1, Bool.and_true, Bool.true_and, Bool.and_false, Bool.false_and, Bool.or_true, Bool.true_or, Bool.or_false, Bool.false_or]
        rw [hv]
        exact ⟨T248, _, X248, e248, M248, S250⟩
      · have _ := e248
        have S251 : own_Go p e below s₁ G T248 (mkF m 109 #[.val (.int n), .val (.int c0), .val (.int c1), .val (.int c2), .val (.int c3), .val (.int c4), .val (.int c5), .val (.int c6), .val (.int c7), .val (.int mn), .val (.int mx), .val (.int (own_bit (own_all n c0 c1 c2 c3 c4 c5 c6 c7))), .unset, .unset, .unset, .unset] [(.int (0 : Int32))]) := fun tg_ kk_ => S247 tg_ (st248 tg_ kk_)
        have M248 := Fr.app M243 N248
        have S252 : own_Go p e below s₁ G T248 (mkF m 117 #[.val (.int n), .val (.int c0), .val (.int c1), .val (.int c2), .val (.int c3), .val (.int c4), .val (.int c5), .val (.int c6), .val (.int c7), .val (.int mn), .val (.int mx), .val (.int (own_bit (own_all n c0 c1 c2 c3 c4 c5 c6 c7))), .unset, .unset, .unset, .unset] [(.int n), (.int (2 : Int32)), (.int c3), (.int c2)]) := fun tg_ kk_ => S251 tg_ (by
          refine XS.ifNo X248.here hx rfl (hb hby d17_109) rfl (XT.i0_ne_f (by decide)) ?_
          show Steps p.tables e below (T248.setTop (mkF m 112 #[.val (.int n), .val (.int c0), .val (.int c1), .val (.int c2), .val (.int c3), .val (.int c4), .val (.int c5), .val (.int c6), .val (.int c7), .val (.int mn), .val (.int mx), .val (.int (own_bit (own_all n c0 c1 c2 c3 c4 c5 c6 c7))), .unset, .unset, .unset, .unset] [])) _
          refine XS.iloadN X248.here hx rfl (hb hby d17_112) rfl ?_
          show Steps p.tables e below (T248.setTop (mkF m 113 #[.val (.int n), .val (.int c0), .val (.int c1), .val (.int c2), .val (.int c3), .val (.int c4), .val (.int c5), .val (.int c6), .val (.int c7), .val (.int mn), .val (.int mx), .val (.int (own_bit (own_all n c0 c1 c2 c3 c4 c5 c6 c7))), .unset, .unset, .unset, .unset] [(.int c2)])) _
          refine XS.iload X248.here hx rfl (hb hby d17_113) rfl ?_
          show Steps p.tables e below (T248.setTop (mkF m 115 #[.val (.int n), .val (.int c0), .val (.int c1), .val (.int c2), .val (.int c3), .val (.int c4), .val (.int c5), .val (.int c6), .val (.int c7), .val (.int mn), .val (.int mx), .val (.int (own_bit (own_all n c0 c1 c2 c3 c4 c5 c6 c7))), .unset, .unset, .unset, .unset] [(.int c3), (.int c2)])) _
          refine XS.iconst X248.here hx rfl (hb hby d17_115) ?_
          show Steps p.tables e below (T248.setTop (mkF m 116 #[.val (.int n), .val (.int c0), .val (.int c1), .val (.int c2), .val (.int c3), .val (.int c4), .val (.int c5), .val (.int c6), .val (.int c7), .val (.int mn), .val (.int mx), .val (.int (own_bit (own_all n c0 c1 c2 c3 c4 c5 c6 c7))), .unset, .unset, .unset, .unset] [(.int (2 : Int32)), (.int c3), (.int c2)])) _
          refine XS.iloadN X248.here hx rfl (hb hby d17_116) rfl ?_
          exact kk_)
        obtain ⟨_, T253, h253, L253, X253, e253, hQ253, st253⟩ := own_callS X248 hx hZ (y := (⟨"com/example/tallyhook/tallyhook/core/EventTypeIsSegmentsPinLaw", "pair", "(CCII)Z"⟩ : MethodName)) hown (hw _ (List.mem_of_getElem? (i := 87) rfl)) (hw _ (List.mem_of_getElem? (i := 88) rfl)) (hw _ (List.mem_of_getElem? (i := 3) rfl)) (hw _ (List.mem_of_getElem? (i := 89) rfl)) (by decide) 0 (g := (mkF m 117 #[.val (.int n), .val (.int c0), .val (.int c1), .val (.int c2), .val (.int c3), .val (.int c4), .val (.int c5), .val (.int c6), .val (.int c7), .val (.int mn), .val (.int mx), .val (.int (own_bit (own_all n c0 c1 c2 c3 c4 c5 c6 c7))), .unset, .unset, .unset, .unset] [(.int n), (.int (2 : Int32)), (.int c3), (.int c2)])) rfl (by rw [hml]; rfl) [(.int c2), (.int c3), (.int (2 : Int32)), (.int n)] [] (rm21 l Z a0 hw [] c2 c3 2 n h0 n0 Z0) (lenOf pd21 rfl) rfl (by show 2 * 0 + _ ≤ _; exact Nat.le_of_eq rfl) (hb hby d17_117) (by decide) (by decide) e248 (by decide) (by decide)
        rcases hQ253 with ⟨⟨hp2, rfl⟩ | ⟨hp2, rfl⟩, N253, rfl⟩
        · have _ := e253
          have S254 : own_Go p e below s₁ G T253 (mkF m 120 #[.val (.int n), .val (.int c0), .val (.int c1), .val (.int c2), .val (.int c3), .val (.int c4), .val (.int c5), .val (.int c6), .val (.int c7), .val (.int mn), .val (.int mx), .val (.int (own_bit (own_all n c0 c1 c2 c3 c4 c5 c6 c7))), .unset, .unset, .unset, .unset] [(.int (1 : Int32))]) := fun tg_ kk_ => S252 tg_ (st253 tg_ kk_)
          have M253 := Fr.app M248 N253
          have S255 : own_Go p e below s₁ G T253 (mkF m 177 #[.val (.int n), .val (.int c0), .val (.int c1), .val (.int c2), .val (.int c3), .val (.int c4), .val (.int c5), .val (.int c6), .val (.int c7), .val (.int mn), .val (.int mx), .val (.int (own_bit (own_all n c0 c1 c2 c3 c4 c5 c6 c7))), .unset, .unset, .unset, .unset] [(.int (1 : Int32))]) := fun tg_ kk_ => S254 tg_ (by
            refine XS.ifYes X253.here hx rfl (pc0 := 120) (pc' := 172) rfl (hb hby d17_120) rfl (XT.i0_ne_t (by decide)) (by decide) (by decide) ?_
            show Steps p.tables e below (T253.setTop (mkF m 172 #[.val (.int n), .val (.int c0), .val (.int c1), .val (.int c2), .val (.int c3), .val (.int c4), .val (.int c5), .val (.int c6), .val (.int c7), .val (.int mn), .val (.int mx), .val (.int (own_bit (own_all n c0 c1 c2 c3 c4 c5 c6 c7))), .unset, .unset, .unset, .unset] [])) _
            refine XS.iconst X253.here hx rfl (hb hby d17_172) ?_
            show Steps p.tables e below (T253.setTop (mkF m 173 #[.val (.int n), .val (.int c0), .val (.int c1), .val (.int c2), .val (.int c3), .val (.int c4), .val (.int c5), .val (.int c6), .val (.int c7), .val (.int mn), .val (.int mx), .val (.int (own_bit (own_all n c0 c1 c2 c3 c4 c5 c6 c7))), .unset, .unset, .unset, .unset] [(.int (1 : Int32))])) _
            refine XS.goto X253.here hx rfl (pc0 := 173) (pc' := 177) rfl (hb hby d17_173) (by decide) (by decide) ?_
            exact kk_)
          have hv : (own_adj n c0 c1 c2 c3 c4 c5 c6 c7) = true := by simp only [own_adj, hp0, hp1, hp2, Bool.and_true, Bool.true_and, Bool.and_false, Bool.false_and, Bool.or_true, Bool.true_or, Bool.or_false, Bool.false_or]
          rw [hv]
          exact ⟨T253, _, X253, e253, M253, S255⟩
        · have _ := e253
          have S256 : own_Go p e below s₁ G T253 (mkF m 120 #[.val (.int n), .val (.int c0), .val (.int c1), .val (.int c2), .val (.int c3), .val (.int c4), .val (.int c5), .val (.int c6), .val (.int c7), .val (.int mn), .val (.int mx), .val (.int (own_bit (own_all n c0 c1 c2 c3 c4 c5 c6 c7))), .unset, .unset, .unset, .unset] [(.int (0 : Int32))]) := fun tg_ kk_ => S252 tg_ (st253 tg_ kk_)
          have M253 := Fr.app M248 N253
          have S257 : own_Go p e below s₁ G T253 (mkF m 129 #[.val (.int n), .val (.int c0), .val (.int c1), .val (.int c2), .val (.int c3), .val (.int c4), .val (.int c5), .val (.int c6), .val (.int c7), .val (.int mn), .val (.int mx), .val (.int (own_bit (own_all n c0 c1 c2 c3 c4 c5 c6 c7))), .unset, .unset, .unset, .unset] [(.int n), (.int (3 : Int32)), (.int c4), (.int c3)]) := fun tg_ kk_ => S256 tg_ (by
            refine XS.ifNo X253.here hx rfl (hb hby d17_120) rfl (XT.i0_ne_f (by decide)) ?_
            show Steps p.tables e below (T253.setTop (mkF m 123 #[.val (.int n), .val (.int c0), .val (.int c1), .val (.int c2), .val (.int c3), .val (.int c4), .val (.int c5), .val (.int c6), .val (.int c7), .val (.int mn), .val (.int mx), .val (.int (own_bit (own_all n c0 c1 c2 c3 c4 c5 c6 c7))), .unset, .unset, .unset, .unset] [])) _
            refine XS.iload X253.here hx rfl (hb hby d17_123) rfl ?_
            show Steps p.tables e below (T253.setTop (mkF m 125 #[.val (.int n), .val (.int c0), .val (.int c1), .val (.int c2), .val (.int c3), .val (.int c4), .val (.int c5), .val (.int c6), .val (.int c7), .val (.int mn), .val (.int mx), .val (.int (own_bit (own_all n c0 c1 c2 c3 c4 c5 c6 c7))), .unset, .unset, .unset, .unset] [(.int c3)])) _
            refine XS.iload X253.here hx rfl (hb hby d17_125) rfl ?_
            show Steps p.tables e below (T253.setTop (mkF m 127 #[.val (.int n), .val (.int c0), .val (.int c1), .val (.int c2), .val (.int c3), .val (.int c4), .val (.int c5), .val (.int c6), .val (.int c7), .val (.int mn), .val (.int mx), .val (.int (own_bit (own_all n c0 c1 c2 c3 c4 c5 c6 c7))), .unset, .unset, .unset, .unset] [(.int c4), (.int c3)])) _
            refine XS.iconst X253.here hx rfl (hb hby d17_127) ?_
            show Steps p.tables e below (T253.setTop (mkF m 128 #[.val (.int n), .val (.int c0), .val (.int c1), .val (.int c2), .val (.int c3), .val (.int c4), .val (.int c5), .val (.int c6), .val (.int c7), .val (.int mn), .val (.int mx), .val (.int (own_bit (own_all n c0 c1 c2 c3 c4 c5 c6 c7))), .unset, .unset, .unset, .unset] [(.int (3 : Int32)), (.int c4), (.int c3)])) _
            refine XS.iloadN X253.here hx rfl (hb hby d17_128) rfl ?_
            exact kk_)
          obtain ⟨_, T258, h258, L258, X258, e258, hQ258, st258⟩ := own_callS X253 hx hZ (y := (⟨"com/example/tallyhook/tallyhook/core/EventTypeIsSegmentsPinLaw", "pair", "(CCII)Z"⟩ : MethodName)) hown (hw _ (List.mem_of_getElem? (i := 87) rfl)) (hw _ (List.mem_of_getElem? (i := 88) rfl)) (hw _ (List.mem_of_getElem? (i := 3) rfl)) (hw _ (List.mem_of_getElem? (i := 89) rfl)) (by decide) 0 (g := (mkF m 129 #[.val (.int n), .val (.int c0), .val (.int c1), .val (.int c2), .val (.int c3), .val (.int c4), .val (.int c5), .val (.int c6), .val (.int c7), .val (.int mn), .val (.int mx), .val (.int (own_bit (own_all n c0 c1 c2 c3 c4 c5 c6 c7))), .unset, .unset, .unset, .unset] [(.int n), (.int (3 : Int32)), (.int c4), (.int c3)])) rfl (by rw [hml]; rfl) [(.int c3), (.int c4), (.int (3 : Int32)), (.int n)] [] (rm21 l Z a0 hw [] c3 c4 3 n h0 n0 Z0) (lenOf pd21 rfl) rfl (by show 2 * 0 + _ ≤ _; exact Nat.le_of_eq rfl) (hb hby d17_129) (by decide) (by decide) e253 (by decide) (by decide)
          rcases hQ258 with ⟨⟨hp3, rfl⟩ | ⟨hp3, rfl⟩, N258, rfl⟩
          · have _ := e258
            have S259 : own_Go p e below s₁ G T258 (mkF m 132 #[.val (.int n), .val (.int c0), .val (.int c1), .val (.int c2), .val (.int c3), .val (.int c4), .val (.int c5), .val (.int c6), .val (.int c7), .val (.int mn), .val (.int mx), .val (.int (own_bit (own_all n c0 c1 c2 c3 c4 c5 c6 c7))), .unset, .unset, .unset, .unset] [(.int (1 : Int32))]) := fun tg_ kk_ => S257 tg_ (st258 tg_ kk_)
            have M258 := Fr.app M253 N258
            have S260 : own_Go p e below s₁ G T258 (mkF m 177 #[.val (.int n), .val (.int c0), .val (.int c1), .val (.int c2), .val (.int c3), .val (.int c4), .val (.int c5), .val (.int c6), .val (.int c7), .val (.int mn), .val (.int mx), .val (.int (own_bit (own_all n c0 c1 c2 c3 c4 c5 c6 c7))), .unset, .unset, .unset, .unset] [(.int (1 : Int32))]) := fun tg_ kk_ => S259 tg_ (by
              refine XS.ifYes X258.here hx rfl (pc0 := 132) (pc' := 172) rfl (hb hby d17_132) rfl (XT.i0_ne_t (by decide)) (by decide) (by decide) ?_
              show Steps p.tables e below (T258.setTop (mkF m 172 #[.val (.int n), .val (.int c0), .val (.int c1), .val (.int c2), .val (.int c3), .val (.int c4), .val (.int c5), .val (.int c6), .val (.int c7), .val (.int mn), .val (.int mx), .val (.int (own_bit (own_all n c0 c1 c2 c3 c4 c5 c6 c7))), .unset, .unset, .unset, .unset] [])) _
              refine XS.iconst X258.here hx rfl (hb hby d17_172) ?_
              show Steps p.tables e below (T258.setTop (mkF m 173 #[.val (.int n), .val (.int c0), .val (.int c1), .val (.int c2), .val (.int c3), .val (.int c4), .val (.int c5), .val (.int c6), .val (.int c7), .val (.int mn), .val (.int mx), .val (.int (own_bit (own_all n c0 c1 c2 c3 c4 c5 c6 c7))), .unset, .unset, .unset, .unset] [(.int (1 : Int32))])) _
              refine XS.goto X258.here hx rfl (pc0 := 173) (pc' := 177) rfl (hb hby d17_173) (by decide) (by decide) ?_
              exact kk_)
            have hv : (own_adj n c0 c1 c2 c3 c4 c5 c6 c7) = true := by simp only [own_adj, hp0, hp1, hp2, hp3, Bool.and_true, Bool.true_and, Bool.and_false, Bool.false_and, Bool.or_true, Bool.true_or, Bool.or_false, Bool.false_or]
            rw [hv]
            exact ⟨T258, _, X258, e258, M258, S260⟩
          · have _ := e258
            have S261 : own_Go p e below s₁ G T258 (mkF m 132 #[.val (.int n), .val (.int c0), .val (.int c1), .val (.int c2), .val (.int c3), .val (.int c4), .val (.int c5), .val (.int c6), .val (.int c7), .val (.int mn), .val (.int mx), .val (.int (own_bit (own_all n c0 c1 c2 c3 c4 c5 c6 c7))), .unset, .unset, .unset, .unset] [(.int (0 : Int32))]) := fun tg_ kk_ => S257 tg_ (st258 tg_ kk_)
            have M258 := Fr.app M253 N258
            have S262 : own_Go p e below s₁ G T258 (mkF m 141 #[.val (.int n), .val (.int c0), .val (.int c1), .val (.int c2), .val (.int c3), .val (.int c4), .val (.int c5), .val (.int c6), .val (.int c7), .val (.int mn), .val (.int mx), .val (.int (own_bit (own_all n c0 c1 c2 c3 c4 c5 c6 c7))), .unset, .unset, .unset, .unset] [(.int n), (.int (4 : Int32)), (.int c5), (.int c4)]) := fun tg_ kk_ => S261 tg_ (by
              refine XS.ifNo X258.here hx rfl (hb hby d17_132) rfl (XT.i0_ne_f (by decide)) ?_
              show Steps p.tables e below (T258.setTop (mkF m 135 #[.val (.int n), .val (.int c0), .val (.int c1), .val (.int c2), .val (.int c3), .val (.int c4), .val (.int c5), .val (.int c6), .val (.int c7), .val (.int mn), .val (.int mx), .val (.int (own_bit (own_all n c0 c1 c2 c3 c4 c5 c6 c7))), .unset, .unset, .unset, .unset] [])) _
              refine XS.iload X258.here hx rfl (hb hby d17_135) rfl ?_
              show Steps p.tables e below (T258.setTop (mkF m 137 #[.val (.int n), .val (.int c0), .val (.int c1), .val (.int c2), .val (.int c3), .val (.int c4), .val (.int c5), .val (.int c6), .val (.int c7), .val (.int mn), .val (.int mx), .val (.int (own_bit (own_all n c0 c1 c2 c3 c4 c5 c6 c7))), .unset, .unset, .unset, .unset] [(.int c4)])) _
              refine XS.iload X258.here hx rfl (hb hby d17_137) rfl ?_
              show Steps p.tables e below (T258.setTop (mkF m 139 #[.val (.int n), .val (.int c0), .val (.int c1), .val (.int c2), .val (.int c3), .val (.int c4), .val (.int c5), .val (.int c6), .val (.int c7), .val (.int mn), .val (.int mx), .val (.int (own_bit (own_all n c0 c1 c2 c3 c4 c5 c6 c7))), .unset, .unset, .unset, .unset] [(.int c5), (.int c4)])) _
              refine XS.iconst X258.here hx rfl (hb hby d17_139) ?_
              show Steps p.tables e below (T258.setTop (mkF m 140 #[.val (.int n), .val (.int c0), .val (.int c1), .val (.int c2), .val (.int c3), .val (.int c4), .val (.int c5), .val (.int c6), .val (.int c7), .val (.int mn), .val (.int mx), .val (.int (own_bit (own_all n c0 c1 c2 c3 c4 c5 c6 c7))), .unset, .unset, .unset, .unset] [(.int (4 : Int32)), (.int c5), (.int c4)])) _
              refine XS.iloadN X258.here hx rfl (hb hby d17_140) rfl ?_
              exact kk_)
            obtain ⟨_, T263, h263, L263, X263, e263, hQ263, st263⟩ := own_callS X258 hx hZ (y := (⟨"com/example/tallyhook/tallyhook/core/EventTypeIsSegmentsPinLaw", "pair", "(CCII)Z"⟩ : MethodName)) hown (hw _ (List.mem_of_getElem? (i := 87) rfl)) (hw _ (List.mem_of_getElem? (i := 88) rfl)) (hw _ (List.mem_of_getElem? (i := 3) rfl)) (hw _ (List.mem_of_getElem? (i := 89) rfl)) (by decide) 0 (g := (mkF m 141 #[.val (.int n), .val (.int c0), .val (.int c1), .val (.int c2), .val (.int c3), .val (.int c4), .val (.int c5), .val (.int c6), .val (.int c7), .val (.int mn), .val (.int mx), .val (.int (own_bit (own_all n c0 c1 c2 c3 c4 c5 c6 c7))), .unset, .unset, .unset, .unset] [(.int n), (.int (4 : Int32)), (.int c5), (.int c4)])) rfl (by rw [hml]; rfl) [(.int c4), (.int c5), (.int (4 : Int32)), (.int n)] [] (rm21 l Z a0 hw [] c4 c5 4 n h0 n0 Z0) (lenOf pd21 rfl) rfl (by show 2 * 0 + _ ≤ _; exact Nat.le_of_eq rfl) (hb hby d17_141) (by decide) (by decide) e258 (by decide) (by decide)
            rcases hQ263 with ⟨⟨hp4, rfl⟩ | ⟨hp4, rfl⟩, N263, rfl⟩
            · have _ := e263
              have S264 : own_Go p e below s₁ G T263 (mkF m 144 #[.val (.int n), .val (.int c0), .val (.int c1), .val (.int c2), .val (.int c3), .val (.int c4), .val (.int c5), .val (.int c6), .val (.int c7), .val (.int mn), .val (.int mx), .val (.int (own_bit (own_all n c0 c1 c2 c3 c4 c5 c6 c7))), .unset, .unset, .unset, .unset] [(.int (1 : Int32))]) := fun tg_ kk_ => S262 tg_ (st263 tg_ kk_)
              have M263 := Fr.app M258 N263
              have S265 : own_Go p e below s₁ G T263 (mkF m 177 #[.val (.int n), .val (.int c0), .val (.int c1), .val (.int c2), .val (.int c3), .val (.int c4), .val (.int c5), .val (.int c6), .val (.int c7), .val (.int mn), .val (.int mx), .val (.int (own_bit (own_all n c0 c1 c2 c3 c4 c5 c6 c7))), .unset, .unset, .unset, .unset] [(.int (1 : Int32))]) := fun tg_ kk_ => S264 tg_ (by
                refine XS.ifYes X263.here hx rfl (pc0 := 144) (pc' := 172) rfl (hb hby d17_144) rfl (XT.i0_ne_t (by decide)) (by decide) (by decide) ?_
                show Steps p.tables e below (T263.setTop (mkF m 172 #[.val (.int n), .val (.int c0), .val (.int c1), .val (.int c2), .val (.int c3), .val (.int c4), .val (.int c5), .val (.int c6), .val (.int c7), .val (.int mn), .val (.int mx), .val (.int (own_bit (own_all n c0 c1 c2 c3 c4 c5 c6 c7))), .unset, .unset, .unset, .unset] [])) _
                refine XS.iconst X263.here hx rfl (hb hby d17_172) ?_
                show Steps p.tables e below (T263.setTop (mkF m 173 #[.val (.int n), .val (.int c0), .val (.int c1), .val (.int c2), .val (.int c3), .val (.int c4), .val (.int c5), .val (.int c6), .val (.int c7), .val (.int mn), .val (.int mx), .val (.int (own_bit (own_all n c0 c1 c2 c3 c4 c5 c6 c7))), .unset, .unset, .unset, .unset] [(.int (1 : Int32))])) _
                refine XS.goto X263.here hx rfl (pc0 := 173) (pc' := 177) rfl (hb hby d17_173) (by decide) (by decide) ?_
                exact kk_)
              have hv : (own_adj n c0 c1 c2 c3 c4 c5 c6 c7) = true := by simp only [own_adj, hp0, hp1, hp2, hp3, hp4, Bool.and_true, Bool.true_and, Bool.and_false, Bool.false_and, Bool.or_true, Bool.true_or, Bool.or_false, Bool.false_or]
              rw [hv]
              exact ⟨T263, _, X263, e263, M263, S265⟩
            · have _ := e263
              have S266 : own_Go p e below s₁ G T263 (mkF m 144 #[.val (.int n), .val (.int c0), .val (.int c1), .val (.int c2), .val (.int c3), .val (.int c4), .val (.int c5), .val (.int c6), .val (.int c7), .val (.int mn), .val (.int mx), .val (.int (own_bit (own_all n c0 c1 c2 c3 c4 c5 c6 c7))), .unset, .unset, .unset, .unset] [(.int (0 : Int32))]) := fun tg_ kk_ => S262 tg_ (st263 tg_ kk_)
              have M263 := Fr.app M258 N263
              have S267 : own_Go p e below s₁ G T263 (mkF m 153 #[.val (.int n), .val (.int c0), .val (.int c1), .val (.int c2), .val (.int c3), .val (.int c4), .val (.int c5), .val (.int c6), .val (.int c7), .val (.int mn), .val (.int mx), .val (.int (own_bit (own_all n c0 c1 c2 c3 c4 c5 c6 c7))), .unset, .unset, .unset, .unset] [(.int n), (.int (5 : Int32)), (.int c6), (.int c5)]) := fun tg_ kk_ => S266 tg_ (by
                refine XS.ifNo X263.here hx rfl (hb hby d17_144) rfl (XT.i0_ne_f (by decide)) ?_
                show Steps p.tables e below (T263.setTop (mkF m 147 #[.val (.int n), .val (.int c0), .val (.int c1), .val (.int c2), .val (.int c3), .val (.int c4), .val (.int c5), .val (.int c6), .val (.int c7), .val (.int mn), .val (.int mx), .val (.int (own_bit (own_all n c0 c1 c2 c3 c4 c5 c6 c7))), .unset, .unset, .unset, .unset] [])) _
                refine XS.iload X263.here hx rfl (hb hby d17_147) rfl ?_
                show Steps p.tables e below (T263.setTop (mkF m 149 #[.val (.int n), .val (.int c0), .val (.int c1), .val (.int c2), .val (.int c3), .val (.int c4), .val (.int c5), .val (.int c6), .val (.int c7), .val (.int mn), .val (.int mx), .val (.int (own_bit (own_all n c0 c1 c2 c3 c4 c5 c6 c7))), .unset, .unset, .unset, .unset] [(.int c5)])) _
                refine XS.iload X263.here hx rfl (hb hby d17_149) rfl ?_
                show Steps p.tables e below (T263.setTop (mkF m 151 #[.val (.int n), .val (.int c0), .val (.int c1), .val (.int c2), .val (.int c3), .val (.int c4), .val (.int c5), .val (.int c6), .val (.int c7), .val (.int mn), .val (.int mx), .val (.int (own_bit (own_all n c0 c1 c2 c3 c4 c5 c6 c7))), .unset, .unset, .unset, .unset] [(.int c6), (.int c5)])) _
                refine XS.iconst X263.here hx rfl (hb hby d17_151) ?_
                show Steps p.tables e below (T263.setTop (mkF m 152 #[.val (.int n), .val (.int c0), .val (.int c1), .val (.int c2), .val (.int c3), .val (.int c4), .val (.int c5), .val (.int c6), .val (.int c7), .val (.int mn), .val (.int mx), .val (.int (own_bit (own_all n c0 c1 c2 c3 c4 c5 c6 c7))), .unset, .unset, .unset, .unset] [(.int (5 : Int32)), (.int c6), (.int c5)])) _
                refine XS.iloadN X263.here hx rfl (hb hby d17_152) rfl ?_
                exact kk_)
              obtain ⟨_, T268, h268, L268, X268, e268, hQ268, st268⟩ := own_callS X263 hx hZ (y := (⟨"com/example/tallyhook/tallyhook/core/EventTypeIsSegmentsPinLaw", "pair", "(CCII)Z"⟩ : MethodName)) hown (hw _ (List.mem_of_getElem? (i := 87) rfl)) (hw _ (List.mem_of_getElem? (i := 88) rfl)) (hw _ (List.mem_of_getElem? (i := 3) rfl)) (hw _ (List.mem_of_getElem? (i := 89) rfl)) (by decide) 0 (g := (mkF m 153 #[.val (.int n), .val (.int c0), .val (.int c1), .val (.int c2), .val (.int c3), .val (.int c4), .val (.int c5), .val (.int c6), .val (.int c7), .val (.int mn), .val (.int mx), .val (.int (own_bit (own_all n c0 c1 c2 c3 c4 c5 c6 c7))), .unset, .unset, .unset, .unset] [(.int n), (.int (5 : Int32)), (.int c6), (.int c5)])) rfl (by rw [hml]; rfl) [(.int c5), (.int c6), (.int (5 : Int32)), (.int n)] [] (rm21 l Z a0 hw [] c5 c6 5 n h0 n0 Z0) (lenOf pd21 rfl) rfl (by show 2 * 0 + _ ≤ _; exact Nat.le_of_eq rfl) (hb hby d17_153) (by decide) (by decide) e263 (by decide) (by decide)
              rcases hQ268 with ⟨⟨hp5, rfl⟩ | ⟨hp5, rfl⟩, N268, rfl⟩
              · have _ := e268
                have S269 : own_Go p e below s₁ G T268 (mkF m 156 #[.val (.int n), .val (.int c0), .val (.int c1), .val (.int c2), .val (.int c3), .val (.int c4), .val (.int c5), .val (.int c6), .val (.int c7), .val (.int mn), .val (.int mx), .val (.int (own_bit (own_all n c0 c1 c2 c3 c4 c5 c6 c7))), .unset, .unset, .unset, .unset] [(.int (1 : Int32))]) := fun tg_ kk_ => S267 tg_ (st268 tg_ kk_)
                have M268 := Fr.app M263 N268
                have S270 : own_Go p e below s₁ G T268 (mkF m 177 #[.val (.int n), .val (.int c0), .val (.int c1), .val (.int c2), .val (.int c3), .val (.int c4), .val (.int c5), .val (.int c6), .val (.int c7), .val (.int mn), .val (.int mx), .val (.int (own_bit (own_all n c0 c1 c2 c3 c4 c5 c6 c7))), .unset, .unset, .unset, .unset] [(.int (1 : Int32))]) := fun tg_ kk_ => S269 tg_ (by
                  refine XS.ifYes X268.here hx rfl (pc0 := 156) (pc' := 172) rfl (hb hby d17_156) rfl (XT.i0_ne_t (by decide)) (by decide) (by decide) ?_
                  show Steps p.tables e below (T268.setTop (mkF m 172 #[.val (.int n), .val (.int c0), .val (.int c1), .val (.int c2), .val (.int c3), .val (.int c4), .val (.int c5), .val (.int c6), .val (.int c7), .val (.int mn), .val (.int mx), .val (.int (own_bit (own_all n c0 c1 c2 c3 c4 c5 c6 c7))), .unset, .unset, .unset, .unset] [])) _
                  refine XS.iconst X268.here hx rfl (hb hby d17_172) ?_
                  show Steps p.tables e below (T268.setTop (mkF m 173 #[.val (.int n), .val (.int c0), .val (.int c1), .val (.int c2), .val (.int c3), .val (.int c4), .val (.int c5), .val (.int c6), .val (.int c7), .val (.int mn), .val (.int mx), .val (.int (own_bit (own_all n c0 c1 c2 c3 c4 c5 c6 c7))), .unset, .unset, .unset, .unset] [(.int (1 : Int32))])) _
                  refine XS.goto X268.here hx rfl (pc0 := 173) (pc' := 177) rfl (hb hby d17_173) (by decide) (by decide) ?_
                  exact kk_)
                have hv : (own_adj n c0 c1 c2 c3 c4 c5 c6 c7) = true := by simp only [own_adj, hp0, hp1, hp2, hp3, hp4, hp5, Bool.and_true, Bool.true_and, Bool.and_false, Bool.false_and, Bool.or_true, Bool.true_or, Bool.or_false, Bool.false_or]
                rw [hv]
                exact ⟨T268, _, X268, e268, M268, S270⟩
              · have _ := e268
                have S271 : own_Go p e below s₁ G T268 (mkF m 156 #[.val (.int n), .val (.int c0), .val (.int c1), .val (.int c2), .val (.int c3), .val (.int c4), .val (.int c5), .val (.int c6), .val (.int c7), .val (.int mn), .val (.int mx), .val (.int (own_bit (own_all n c0 c1 c2 c3 c4 c5 c6 c7))), .unset, .unset, .unset, .unset] [(.int (0 : Int32))]) := fun tg_ kk_ => S267 tg_ (st268 tg_ kk_)
                have M268 := Fr.app M263 N268
                have S272 : own_Go p e below s₁ G T268 (mkF m 166 #[.val (.int n), .val (.int c0), .val (.int c1), .val (.int c2), .val (.int c3), .val (.int c4), .val (.int c5), .val (.int c6), .val (.int c7), .val (.int mn), .val (.int mx), .val (.int (own_bit (own_all n c0 c1 c2 c3 c4 c5 c6 c7))), .unset, .unset, .unset, .unset] [(.int n), (.int (6 : Int32)), (.int c7), (.int c6)]) := fun tg_ kk_ => S271 tg_ (by
                  refine XS.ifNo X268.here hx rfl (hb hby d17_156) rfl (XT.i0_ne_f (by decide)) ?_
                  show Steps p.tables e below (T268.setTop (mkF m 159 #[.val (.int n), .val (.int c0), .val (.int c1), .val (.int c2), .val (.int c3), .val (.int c4), .val (.int c5), .val (.int c6), .val (.int c7), .val (.int mn), .val (.int mx), .val (.int (own_bit (own_all n c0 c1 c2 c3 c4 c5 c6 c7))), .unset, .unset, .unset, .unset] [])) _
                  refine XS.iload X268.here hx rfl (hb hby d17_159) rfl ?_
                  show Steps p.tables e below (T268.setTop (mkF m 161 #[.val (.int n), .val (.int c0), .val (.int c1), .val (.int c2), .val (.int c3), .val (.int c4), .val (.int c5), .val (.int c6), .val (.int c7), .val (.int mn), .val (.int mx), .val (.int (own_bit (own_all n c0 c1 c2 c3 c4 c5 c6 c7))), .unset, .unset, .unset, .unset] [(.int c6)])) _
                  refine XS.iload X268.here hx rfl (hb hby d17_161) rfl ?_
                  show Steps p.tables e below (T268.setTop (mkF m 163 #[.val (.int n), .val (.int c0), .val (.int c1), .val (.int c2), .val (.int c3), .val (.int c4), .val (.int c5), .val (.int c6), .val (.int c7), .val (.int mn), .val (.int mx), .val (.int (own_bit (own_all n c0 c1 c2 c3 c4 c5 c6 c7))), .unset, .unset, .unset, .unset] [(.int c7), (.int c6)])) _
                  refine XS.bipush X268.here hx rfl (hb hby d17_163) ?_
                  show Steps p.tables e below (T268.setTop (mkF m 165 #[.val (.int n), .val (.int c0), .val (.int c1), .val (.int c2), .val (.int c3), .val (.int c4), .val (.int c5), .val (.int c6), .val (.int c7), .val (.int mn), .val (.int mx), .val (.int (own_bit (own_all n c0 c1 c2 c3 c4 c5 c6 c7))), .unset, .unset, .unset, .unset] [(.int (6 : Int32)), (.int c7), (.int c6)])) _
                  refine XS.iloadN X268.here hx rfl (hb hby d17_165) rfl ?_
                  exact kk_)
                obtain ⟨_, T273, h273, L273, X273, e273, hQ273, st273⟩ := own_callS X268 hx hZ (y := (⟨"com/example/tallyhook/tallyhook/core/EventTypeIsSegmentsPinLaw", "pair", "(CCII)Z"⟩ : MethodName)) hown (hw _ (List.mem_of_getElem? (i := 87) rfl)) (hw _ (List.mem_of_getElem? (i := 88) rfl)) (hw _ (List.mem_of_getElem? (i := 3) rfl)) (hw _ (List.mem_of_getElem? (i := 89) rfl)) (by decide) 0 (g := (mkF m 166 #[.val (.int n), .val (.int c0), .val (.int c1), .val (.int c2), .val (.int c3), .val (.int c4), .val (.int c5), .val (.int c6), .val (.int c7), .val (.int mn), .val (.int mx), .val (.int (own_bit (own_all n c0 c1 c2 c3 c4 c5 c6 c7))), .unset, .unset, .unset, .unset] [(.int n), (.int (6 : Int32)), (.int c7), (.int c6)])) rfl (by rw [hml]; rfl) [(.int c6), (.int c7), (.int (6 : Int32)), (.int n)] [] (rm21 l Z a0 hw [] c6 c7 6 n h0 n0 Z0) (lenOf pd21 rfl) rfl (by show 2 * 0 + _ ≤ _; exact Nat.le_of_eq rfl) (hb hby d17_166) (by decide) (by decide) e268 (by decide) (by decide)
                rcases hQ273 with ⟨⟨hp6, rfl⟩ | ⟨hp6, rfl⟩, N273, rfl⟩
                · have _ := e273
                  have S274 : own_Go p e below s₁ G T273 (mkF m 169 #[.val (.int n), .val (.int c0), .val (.int c1), .val (.int c2), .val (.int c3), .val (.int c4), .val (.int c5), .val (.int c6), .val (.int c7), .val (.int mn), .val (.int mx), .val (.int (own_bit (own_all n c0 c1 c2 c3 c4 c5 c6 c7))), .unset, .unset, .unset, .unset] [(.int (1 : Int32))]) := fun tg_ kk_ => S272 tg_ (st273 tg_ kk_)
                  have M273 := Fr.app M268 N273
                  have S275 : own_Go p e below s₁ G T273 (mkF m 177 #[.val (.int n), .val (.int c0), .val (.int c1), .val (.int c2), .val (.int c3), .val (.int c4), .val (.int c5), .val (.int c6), .val (.int c7), .val (.int mn), .val (.int mx), .val (.int (own_bit (own_all n c0 c1 c2 c3 c4 c5 c6 c7))), .unset, .unset, .unset, .unset] [(.int (1 : Int32))]) := fun tg_ kk_ => S274 tg_ (by
                    refine XS.ifNo X273.here hx rfl (hb hby d17_169) rfl (XT.i0_eq_f (by decide)) ?_
                    show Steps p.tables e below (T273.setTop (mkF m 172 #[.val (.int n), .val (.int c0), .val (.int c1), .val (.int c2), .val (.int c3), .val (.int c4), .val (.int c5), .val (.int c6), .val (.int c7), .val (.int mn), .val (.int mx), .val (.int (own_bit (own_all n c0 c1 c2 c3 c4 c5 c6 c7))), .unset, .unset, .unset, .unset] [])) _
                    refine XS.iconst X273.here hx rfl (hb hby d17_172) ?_
                    show Steps p.tables e below (T273.setTop (mkF m 173 #[.val (.int n), .val (.int c0), .val (.int c1), .val (.int c2), .val (.int c3), .val (.int c4), .val (.int c5), .val (.int c6), .val (.int c7), .val (.int mn), .val (.int mx), .val (.int (own_bit (own_all n c0 c1 c2 c3 c4 c5 c6 c7))), .unset, .unset, .unset, .unset] [(.int (1 : Int32))])) _
                    refine XS.goto X273.here hx rfl (pc0 := 173) (pc' := 177) rfl (hb hby d17_173) (by decide) (by decide) ?_
                    exact kk_)
                  have hv : (own_adj n c0 c1 c2 c3 c4 c5 c6 c7) = true := by simp only [own_adj, hp0, hp1, hp2, hp3, hp4, hp5, hp6, Bool.and_true, Bool.true_and, Bool.and_false, Bool.false_and, Bool.or_true, Bool.true_or, Bool.or_false, Bool.false_or]
                  rw [hv]
                  exact ⟨T273, _, X273, e273, M273, S275⟩
                · have _ := e273
                  have S276 : own_Go p e below s₁ G T273 (mkF m 169 #[.val (.int n), .val (.int c0), .val (.int c1), .val (.int c2), .val (.int c3), .val (.int c4), .val (.int c5), .val (.int c6), .val (.int c7), .val (.int mn), .val (.int mx), .val (.int (own_bit (own_all n c0 c1 c2 c3 c4 c5 c6 c7))), .unset, .unset, .unset, .unset] [(.int (0 : Int32))]) := fun tg_ kk_ => S272 tg_ (st273 tg_ kk_)
                  have M273 := Fr.app M268 N273
                  have S277 : own_Go p e below s₁ G T273 (mkF m 177 #[.val (.int n), .val (.int c0), .val (.int c1), .val (.int c2), .val (.int c3), .val (.int c4), .val (.int c5), .val (.int c6), .val (.int c7), .val (.int mn), .val (.int mx), .val (.int (own_bit (own_all n c0 c1 c2 c3 c4 c5 c6 c7))), .unset, .unset, .unset, .unset] [(.int (0 : Int32))]) := fun tg_ kk_ => S276 tg_ (by
                    refine XS.ifYes X273.here hx rfl (pc0 := 169) (pc' := 176) rfl (hb hby d17_169) rfl (XT.i0_eq_t (by decide)) (by decide) (by decide) ?_
                    show Steps p.tables e below (T273.setTop (mkF m 176 #[.val (.int n), .val (.int c0), .val (.int c1), .val (.int c2), .val (.int c3), .val (.int c4), .val (.int c5), .val (.int c6), .val (.int c7), .val (.int mn), .val (.int mx), .val (.int (own_bit (own_all n c0 c1 c2 c3 c4 c5 c6 c7))), .unset, .unset, .unset, .unset] [])) _
                    refine XS.iconst X273.here hx rfl (hb hby d17_176) ?_
                    exact kk_)
                  have hv : (own_adj n c0 c1 c2 c3 c4 c5 c6 c7) = false := by simp only [own_adj, hp0, hp1, hp2, hp3, hp4, hp5, hp6, Bool.and_true, Bool.true_and, Bool.and_false, Bool.false_and, Bool.or_true, Bool.true_or, Bool.or_false, Bool.false_or]
                  rw [hv]
                  exact ⟨T273, _, X273, e273, M273, S277⟩
  obtain ⟨T241, L241, X241, e241, N241, S241⟩ := ph241
  have hpk : n - 1 = Int32.ofNat (k - 1) := by rw [hn]; exact own_pred hk.1 (by omega)
  have S278 : own_Go p e below s₁ G T241 (mkF m 195 #[.val (.int n), .val (.int c0), .val (.int c1), .val (.int c2), .val (.int c3), .val (.int c4), .val (.int c5), .val (.int c6), .val (.int c7), .val (.int mn), .val (.int mx), .val (.int (own_bit (own_all n c0 c1 c2 c3 c4 c5 c6 c7))), .val (.int (own_bit (own_adj n c0 c1 c2 c3 c4 c5 c6 c7))), .unset, .unset, .unset] [(.int c7), (.int c6), (.int c5), (.int c4), (.int c3), (.int c2), (.int c1), (.int c0), (.int (n - (1 : Int32)))]) := fun tg_ kk_ => S241 tg_ (by
    refine XS.istore X241.here hx rfl (hb hby d17_177) rfl (l' := #[.val (.int n), .val (.int c0), .val (.int c1), .val (.int c2), .val (.int c3), .val (.int c4), .val (.int c5), .val (.int c6), .val (.int c7), .val (.int mn), .val (.int mx), .val (.int (own_bit (own_all n c0 c1 c2 c3 c4 c5 c6 c7))), .val (.int (own_bit (own_adj n c0 c1 c2 c3 c4 c5 c6 c7))), .unset, .unset, .unset]) rfl ?_
    show Steps p.tables e below (T241.setTop (mkF m 179 #[.val (.int n), .val (.int c0), .val (.int c1), .val (.int c2), .val (.int c3), .val (.int c4), .val (.int c5), .val (.int c6), .val (.int c7), .val (.int mn), .val (.int mx), .val (.int (own_bit (own_all n c0 c1 c2 c3 c4 c5 c6 c7))), .val (.int (own_bit (own_adj n c0 c1 c2 c3 c4 c5 c6 c7))), .unset, .unset, .unset] [])) _
    refine XS.iloadN X241.here hx rfl (hb hby d17_179) rfl ?_
    show Steps p.tables e below (T241.setTop (mkF m 180 #[.val (.int n), .val (.int c0), .val (.int c1), .val (.int c2), .val (.int c3), .val (.int c4), .val (.int c5), .val (.int c6), .val (.int c7), .val (.int mn), .val (.int mx), .val (.int (own_bit (own_all n c0 c1 c2 c3 c4 c5 c6 c7))), .val (.int (own_bit (own_adj n c0 c1 c2 c3 c4 c5 c6 c7))), .unset, .unset, .unset] [(.int n)])) _
    refine XS.iconst X241.here hx rfl (hb hby d17_180) ?_
    show Steps p.tables e below (T241.setTop (mkF m 181 #[.val (.int n), .val (.int c0), .val (.int c1), .val (.int c2), .val (.int c3), .val (.int c4), .val (.int c5), .val (.int c6), .val (.int c7), .val (.int mn), .val (.int mx), .val (.int (own_bit (own_all n c0 c1 c2 c3 c4 c5 c6 c7))), .val (.int (own_bit (own_adj n c0 c1 c2 c3 c4 c5 c6 c7))), .unset, .unset, .unset] [(.int (1 : Int32)), (.int n)])) _
    refine XS.isub X241.here hx rfl (hb hby d17_181) rfl ?_
    show Steps p.tables e below (T241.setTop (mkF m 182 #[.val (.int n), .val (.int c0), .val (.int c1), .val (.int c2), .val (.int c3), .val (.int c4), .val (.int c5), .val (.int c6), .val (.int c7), .val (.int mn), .val (.int mx), .val (.int (own_bit (own_all n c0 c1 c2 c3 c4 c5 c6 c7))), .val (.int (own_bit (own_adj n c0 c1 c2 c3 c4 c5 c6 c7))), .unset, .unset, .unset] [(.int (n - (1 : Int32)))])) _
    refine XS.iloadN X241.here hx rfl (hb hby d17_182) rfl ?_
    show Steps p.tables e below (T241.setTop (mkF m 183 #[.val (.int n), .val (.int c0), .val (.int c1), .val (.int c2), .val (.int c3), .val (.int c4), .val (.int c5), .val (.int c6), .val (.int c7), .val (.int mn), .val (.int mx), .val (.int (own_bit (own_all n c0 c1 c2 c3 c4 c5 c6 c7))), .val (.int (own_bit (own_adj n c0 c1 c2 c3 c4 c5 c6 c7))), .unset, .unset, .unset] [(.int c0), (.int (n - (1 : Int32)))])) _
    refine XS.iloadN X241.here hx rfl (hb hby d17_183) rfl ?_
    show Steps p.tables e below (T241.setTop (mkF m 184 #[.val (.int n), .val (.int c0), .val (.int c1), .val (.int c2), .val (.int c3), .val (.int c4), .val (.int c5), .val (.int c6), .val (.int c7), .val (.int mn), .val (.int mx), .val (.int (own_bit (own_all n c0 c1 c2 c3 c4 c5 c6 c7))), .val (.int (own_bit (own_adj n c0 c1 c2 c3 c4 c5 c6 c7))), .unset, .unset, .unset] [(.int c1), (.int c0), (.int (n - (1 : Int32)))])) _
    refine XS.iloadN X241.here hx rfl (hb hby d17_184) rfl ?_
    show Steps p.tables e below (T241.setTop (mkF m 185 #[.val (.int n), .val (.int c0), .val (.int c1), .val (.int c2), .val (.int c3), .val (.int c4), .val (.int c5), .val (.int c6), .val (.int c7), .val (.int mn), .val (.int mx), .val (.int (own_bit (own_all n c0 c1 c2 c3 c4 c5 c6 c7))), .val (.int (own_bit (own_adj n c0 c1 c2 c3 c4 c5 c6 c7))), .unset, .unset, .unset] [(.int c2), (.int c1), (.int c0), (.int (n - (1 : Int32)))])) _
    refine XS.iload X241.here hx rfl (hb hby d17_185) rfl ?_
    show Steps p.tables e below (T241.setTop (mkF m 187 #[.val (.int n), .val (.int c0), .val (.int c1), .val (.int c2), .val (.int c3), .val (.int c4), .val (.int c5), .val (.int c6), .val (.int c7), .val (.int mn), .val (.int mx), .val (.int (own_bit (own_all n c0 c1 c2 c3 c4 c5 c6 c7))), .val (.int (own_bit (own_adj n c0 c1 c2 c3 c4 c5 c6 c7))), .unset, .unset, .unset] [(.int c3), (.int c2), (.int c1), (.int c0), (.int (n - (1 : Int32)))])) _
    refine XS.iload X241.here hx rfl (hb hby d17_187) rfl ?_
    show Steps p.tables e below (T241.setTop (mkF m 189 #[.val (.int n), .val (.int c0), .val (.int c1), .val (.int c2), .val (.int c3), .val (.int c4), .val (.int c5), .val (.int c6), .val (.int c7), .val (.int mn), .val (.int mx), .val (.int (own_bit (own_all n c0 c1 c2 c3 c4 c5 c6 c7))), .val (.int (own_bit (own_adj n c0 c1 c2 c3 c4 c5 c6 c7))), .unset, .unset, .unset] [(.int c4), (.int c3), (.int c2), (.int c1), (.int c0), (.int (n - (1 : Int32)))])) _
    refine XS.iload X241.here hx rfl (hb hby d17_189) rfl ?_
    show Steps p.tables e below (T241.setTop (mkF m 191 #[.val (.int n), .val (.int c0), .val (.int c1), .val (.int c2), .val (.int c3), .val (.int c4), .val (.int c5), .val (.int c6), .val (.int c7), .val (.int mn), .val (.int mx), .val (.int (own_bit (own_all n c0 c1 c2 c3 c4 c5 c6 c7))), .val (.int (own_bit (own_adj n c0 c1 c2 c3 c4 c5 c6 c7))), .unset, .unset, .unset] [(.int c5), (.int c4), (.int c3), (.int c2), (.int c1), (.int c0), (.int (n - (1 : Int32)))])) _
    refine XS.iload X241.here hx rfl (hb hby d17_191) rfl ?_
    show Steps p.tables e below (T241.setTop (mkF m 193 #[.val (.int n), .val (.int c0), .val (.int c1), .val (.int c2), .val (.int c3), .val (.int c4), .val (.int c5), .val (.int c6), .val (.int c7), .val (.int mn), .val (.int mx), .val (.int (own_bit (own_all n c0 c1 c2 c3 c4 c5 c6 c7))), .val (.int (own_bit (own_adj n c0 c1 c2 c3 c4 c5 c6 c7))), .unset, .unset, .unset] [(.int c6), (.int c5), (.int c4), (.int c3), (.int c2), (.int c1), (.int c0), (.int (n - (1 : Int32)))])) _
    refine XS.iload X241.here hx rfl (hb hby d17_193) rfl ?_
    exact kk_)
  rw [hpk] at S278
  obtain ⟨_, T279, h279, L279, X279, e279, hQ279, st279⟩ := own_callS X241 hx hZ (y := (⟨"com/example/tallyhook/tallyhook/core/EventTypeIsSegmentsPinLaw", "pick", "(ICCCCCCCC)C"⟩ : MethodName)) hown (hw _ (List.mem_of_getElem? (i := 90) rfl)) (hw _ (List.mem_of_getElem? (i := 91) rfl)) (hw _ (List.mem_of_getElem? (i := 3) rfl)) (hw _ (List.mem_of_getElem? (i := 92) rfl)) (by decide) 0 (g := (mkF m 195 #[.val (.int n), .val (.int c0), .val (.int c1), .val (.int c2), .val (.int c3), .val (.int c4), .val (.int c5), .val (.int c6), .val (.int c7), .val (.int mn), .val (.int mx), .val (.int (own_bit (own_all n c0 c1 c2 c3 c4 c5 c6 c7))), .val (.int (own_bit (own_adj n c0 c1 c2 c3 c4 c5 c6 c7))), .unset, .unset, .unset] [(.int c7), (.int c6), (.int c5), (.int c4), (.int c3), (.int c2), (.int c1), (.int c0), (.int (Int32.ofNat (k - 1)))])) rfl (by rw [hml]; rfl) [(.int (Int32.ofNat (k - 1))), (.int c0), (.int c1), (.int c2), (.int c3), (.int c4), (.int c5), (.int c6), (.int c7)] [] (rm22 l Z a0 hw [] (k - 1) c0 c1 c2 c3 c4 c5 c6 c7 h0 n0 Z0 (by omega) hc) (lenOf pd22 rfl) rfl (by show 2 * 0 + _ ≤ _; exact Nat.le_of_eq rfl) (hb hby d17_195) (by decide) (by decide) e241 (by decide) (by decide)
  obtain ⟨rfl, N279, rfl⟩ := hQ279
  have S280 : own_Go p e below s₁ G T279 (mkF m 198 #[.val (.int n), .val (.int c0), .val (.int c1), .val (.int c2), .val (.int c3), .val (.int c4), .val (.int c5), .val (.int c6), .val (.int c7), .val (.int mn), .val (.int mx), .val (.int (own_bit (own_all n c0 c1 c2 c3 c4 c5 c6 c7))), .val (.int (own_bit (own_adj n c0 c1 c2 c3 c4 c5 c6 c7))), .unset, .unset, .unset] [(.int ([c0, c1, c2, c3, c4, c5, c6, c7].getD (k - 1) 0))]) := fun tg_ kk_ => S278 tg_ (st279 tg_ kk_)
  have M279 := Fr.app N241 N279
  have S281 : own_Go p e below s₁ G T279 (mkF m 200 #[.val (.int n), .val (.int c0), .val (.int c1), .val (.int c2), .val (.int c3), .val (.int c4), .val (.int c5), .val (.int c6), .val (.int c7), .val (.int mn), .val (.int mx), .val (.int (own_bit (own_all n c0 c1 c2 c3 c4 c5 c6 c7))), .val (.int (own_bit (own_adj n c0 c1 c2 c3 c4 c5 c6 c7))), .val (.int ([c0, c1, c2, c3, c4, c5, c6, c7].getD (k - 1) 0)), .unset, .unset] []) := fun tg_ kk_ => S280 tg_ (by
    refine XS.istore X279.here hx rfl (hb hby d17_198) rfl (l' := #[.val (.int n), .val (.int c0), .val (.int c1), .val (.int c2), .val (.int c3), .val (.int c4), .val (.int c5), .val (.int c6), .val (.int c7), .val (.int mn), .val (.int mx), .val (.int (own_bit (own_all n c0 c1 c2 c3 c4 c5 c6 c7))), .val (.int (own_bit (own_adj n c0 c1 c2 c3 c4 c5 c6 c7))), .val (.int ([c0, c1, c2, c3, c4, c5, c6, c7].getD (k - 1) 0)), .unset, .unset]) rfl ?_
    exact kk_)
  have ph282 : ∃ (T' : State) (L' : List Loc), Stand p l e ({ frames := 2, cells := 0, slots := 0, locals := 40 } : Room) s m #[(.int (Int32.ofNat k)), (.int c0), (.int c1), (.int c2), (.int c3), (.int c4), (.int c5), (.int c6), (.int c7), (.int mn), (.int mx)] below meth c T' L' 0 0 ∧ T'.heap = h0 ∧ Fr n0 L' ∧ own_Go p e below s₁ G T' (mkF m 220 #[.val (.int n), .val (.int c0), .val (.int c1), .val (.int c2), .val (.int c3), .val (.int c4), .val (.int c5), .val (.int c6), .val (.int c7), .val (.int mn), .val (.int mx), .val (.int (own_bit (own_all n c0 c1 c2 c3 c4 c5 c6 c7))), .val (.int (own_bit (own_adj n c0 c1 c2 c3 c4 c5 c6 c7))), .val (.int ([c0, c1, c2, c3, c4, c5, c6, c7].getD (k - 1) 0)), .unset, .unset] [(.int (own_bit (own_edge c0 ([c0, c1, c2, c3, c4, c5, c6, c7].getD (k - 1) 0))))]) := by
    have S283 : own_Go p e below s₁ G T279 (mkF m 201 #[.val (.int n), .val (.int c0), .val (.int c1), .val (.int c2), .val (.int c3), .val (.int c4), .val (.int c5), .val (.int c6), .val (.int c7), .val (.int mn), .val (.int mx), .val (.int (own_bit (own_all n c0 c1 c2 c3 c4 c5 c6 c7))), .val (.int (own_bit (own_adj n c0 c1 c2 c3 c4 c5 c6 c7))), .val (.int ([c0, c1, c2, c3, c4, c5, c6, c7].getD (k - 1) 0)), .unset, .unset] [(.int c0)]) := fun tg_ kk_ => S281 tg_ (by
      refine XS.iloadN X279.here hx rfl (hb hby d17_200) rfl ?_
      exact kk_)
    obtain ⟨_, T284, h284, L284, X284, e284, hQ284, st284⟩ := own_callS X279 hx hZ (y := (⟨"com/example/tallyhook/tallyhook/core/EventTypeIsSegmentsPinLaw", "dot", "(C)Z"⟩ : MethodName)) hown (hw _ (List.mem_of_getElem? (i := 84) rfl)) (hw _ (List.mem_of_getElem? (i := 85) rfl)) (hw _ (List.mem_of_getElem? (i := 3) rfl)) (hw _ (List.mem_of_getElem? (i := 86) rfl)) (by decide) 0 (g := (mkF m 201 #[.val (.int n), .val (.int c0), .val (.int c1), .val (.int c2), .val (.int c3), .val (.int c4), .val (.int c5), .val (.int c6), .val (.int c7), .val (.int mn), .val (.int mx), .val (.int (own_bit (own_all n c0 c1 c2 c3 c4 c5 c6 c7))), .val (.int (own_bit (own_adj n c0 c1 c2 c3 c4 c5 c6 c7))), .val (.int ([c0, c1, c2, c3, c4, c5, c6, c7].getD (k - 1) 0)), .unset, .unset] [(.int c0)])) rfl (by rw [hml]; rfl) [(.int c0)] [] (rm20 l Z a0 hw [] c0 h0 n0 Z0) (lenOf pd20 rfl) rfl (by show 2 * 0 + _ ≤ _; exact Nat.le_of_eq rfl) (hb hby d17_201) (by decide) (by decide) e279 (by decide) (by decide)
    rcases hQ284 with ⟨⟨hp0, rfl⟩ | ⟨hp0, rfl⟩, N284, rfl⟩
    · have _ := e284
      have S285 : own_Go p e below s₁ G T284 (mkF m 204 #[.val (.int n), .val (.int c0), .val (.int c1), .val (.int c2), .val (.int c3), .val (.int c4), .val (.int c5), .val (.int c6), .val (.int c7), .val (.int mn), .val (.int mx), .val (.int (own_bit (own_all n c0 c1 c2 c3 c4 c5 c6 c7))), .val (.int (own_bit (own_adj n c0 c1 c2 c3 c4 c5 c6 c7))), .val (.int ([c0, c1, c2, c3, c4, c5, c6, c7].getD (k - 1) 0)), .unset, .unset] [(.int (1 : Int32))]) := fun tg_ kk_ => S283 tg_ (st284 tg_ kk_)
      have M284 := Fr.app M279 N284
      have S286 : own_Go p e below s₁ G T284 (mkF m 220 #[.val (.int n), .val (.int c0), .val (.int c1), .val (.int c2), .val (.int c3), .val (.int c4), .val (.int c5), .val (.int c6), .val (.int c7), .val (.int mn), .val (.int mx), .val (.int (own_bit (own_all n c0 c1 c2 c3 c4 c5 c6 c7))), .val (.int (own_bit (own_adj n c0 c1 c2 c3 c4 c5 c6 c7))), .val (.int ([c0, c1, c2, c3, c4, c5, c6, c7].getD (k - 1) 0)), .unset, .unset] [(.int (1 : Int32))]) := fun tg_ kk_ => S285 tg_ (by
        refine XS.ifYes X284.here hx rfl (pc0 := 204) (pc' := 215) rfl (hb hby d17_204) rfl (XT.i0_ne_t (by decide)) (by decide) (by decide) ?_
        show Steps p.tables e below (T284.setTop (mkF m 215 #[.val (.int n), .val (.int c0), .val (.int c1), .val (.int c2), .val (.int c3), .val (.int c4), .val (.int c5), .val (.int c6), .val (.int c7), .val (.int mn), .val (.int mx), .val (.int (own_bit (own_all n c0 c1 c2 c3 c4 c5 c6 c7))), .val (.int (own_bit (own_adj n c0 c1 c2 c3 c4 c5 c6 c7))), .val (.int ([c0, c1, c2, c3, c4, c5, c6, c7].getD (k - 1) 0)), .unset, .unset] [])) _
        refine XS.iconst X284.here hx rfl (hb hby d17_215) ?_
        show Steps p.tables e below (T284.setTop (mkF m 216 #[.val (.int n), .val (.int c0), .val (.int c1), .val (.int c2), .val (.int c3), .val (.int c4), .val (.int c5), .val (.int c6), .val (.int c7), .val (.int mn), .val (.int mx), .val (.int (own_bit (own_all n c0 c1 c2 c3 c4 c5 c6 c7))), .val (.int (own_bit (own_adj n c0 c1 c2 c3 c4 c5 c6 c7))), .val (.int ([c0, c1, c2, c3, c4, c5, c6, c7].getD (k - 1) 0)), .unset, .unset] [(.int (1 : Int32))])) _
        refine XS.goto X284.here hx rfl (pc0 := 216) (pc' := 220) rfl (hb hby d17_216) (by decide) (by decide) ?_
        exact kk_)
      have hv : (own_edge c0 ([c0, c1, c2, c3, c4, c5, c6, c7].getD (k - 1) 0)) = true := by simp only [own_edge, hp0, Bool.and_true, Bool.true_and, Bool.and_false, Bool.false_and, Bool.or_true, Bool.true_or, Bool.or_false, Bool.false_or]
      rw [hv]
      exact ⟨T284, _, X284, e284, M284, S286⟩
    · have _ := e284
      have S287 : own_Go p e below s₁ G T284 (mkF m 204 #[.val (.int n), .val (.int c0), .val (.int c1), .val (.int c2), .val (.int c3), .val (.int c4), .val (.int c5), .val (.int c6), .val (.int c7), .val (.int mn), .val (.int mx), .val (.int (own_bit (own_all n c0 c1 c2 c3 c4 c5 c6 c7))), .val (.int (own_bit (own_adj n c0 c1 c2 c3 c4 c5 c6 c7))), .val (.int ([c0, c1, c2, c3, c4, c5, c6, c7].getD (k - 1) 0)), .unset, .unset] [(.int (0 : Int32))]) := fun tg_ kk_ => S283 tg_ (st284 tg_ kk_)
      have M284 := Fr.app M279 N284
      have S288 : own_Go p e below s₁ G T284 (mkF m 209 #[.val (.int n), .val (.int c0), .val (.int c1), .val (.int c2), .val (.int c3), .val (.int c4), .val (.int c5), .val (.int c6), .val (.int c7), .val (.int mn), .val (.int mx), .val (.int (own_bit (own_all n c0 c1 c2 c3 c4 c5 c6 c7))), .val (.int (own_bit (own_adj n c0 c1 c2 c3 c4 c5 c6 c7))), .val (.int ([c0, c1, c2, c3, c4, c5, c6, c7].getD (k - 1) 0)), .unset, .unset] [(.int ([c0, c1, c2, c3, c4, c5, c6, c7].getD (k - 1) 0))]) := fun tg_ kk_ => S287 tg_ (by
        refine XS.ifNo X284.here hx rfl (hb hby d17_204) rfl (XT.i0_ne_f (by decide)) ?_
        show Steps p.tables e below (T284.setTop (mkF m 207 #[.val (.int n), .val (.int c0), .val (.int c1), .val (.int c2), .val (.int c3), .val (.int c4), .val (.int c5), .val (.int c6), .val (.int c7), .val (.int mn), .val (.int mx), .val (.int (own_bit (own_all n c0 c1 c2 c3 c4 c5 c6 c7))), .val (.int (own_bit (own_adj n c0 c1 c2 c3 c4 c5 c6 c7))), .val (.int ([c0, c1, c2, c3, c4, c5, c6, c7].getD (k - 1) 0)), .unset, .unset] [])) _
        refine XS.iload X284.here hx rfl (hb hby d17_207) rfl ?_
        exact kk_)
      obtain ⟨_, T289, h289, L289, X289, e289, hQ289, st289⟩ := own_callS X284 hx hZ (y := (⟨"com/example/tallyhook/tallyhook/core/EventTypeIsSegmentsPinLaw", "dot", "(C)Z"⟩ : MethodName)) hown (hw _ (List.mem_of_getElem? (i := 84) rfl)) (hw _ (List.mem_of_getElem? (i := 85) rfl)) (hw _ (List.mem_of_getElem? (i := 3) rfl)) (hw _ (List.mem_of_getElem? (i := 86) rfl)) (by decide) 0 (g := (mkF m 209 #[.val (.int n), .val (.int c0), .val (.int c1), .val (.int c2), .val (.int c3), .val (.int c4), .val (.int c5), .val (.int c6), .val (.int c7), .val (.int mn), .val (.int mx), .val (.int (own_bit (own_all n c0 c1 c2 c3 c4 c5 c6 c7))), .val (.int (own_bit (own_adj n c0 c1 c2 c3 c4 c5 c6 c7))), .val (.int ([c0, c1, c2, c3, c4, c5, c6, c7].getD (k - 1) 0)), .unset, .unset] [(.int ([c0, c1, c2, c3, c4, c5, c6, c7].getD (k - 1) 0))])) rfl (by rw [hml]; rfl) [(.int ([c0, c1, c2, c3, c4, c5, c6, c7].getD (k - 1) 0))] [] (rm20 l Z a0 hw [] ([c0, c1, c2, c3, c4, c5, c6, c7].getD (k - 1) 0) h0 n0 Z0) (lenOf pd20 rfl) rfl (by show 2 * 0 + _ ≤ _; exact Nat.le_of_eq rfl) (hb hby d17_209) (by decide) (by decide) e284 (by decide) (by decide)
      rcases hQ289 with ⟨⟨hp1, rfl⟩ | ⟨hp1, rfl⟩, N289, rfl⟩
      · have _ := e289
        have S290 : own_Go p e below s₁ G T289 (mkF m 212 #[.val (.int n), .val (.int c0), .val (.int c1), .val (.int c2), .val (.int c3), .val (.int c4), .val (.int c5), .val (.int c6), .val (.int c7), .val (.int mn), .val (.int mx), .val (.int (own_bit (own_all n c0 c1 c2 c3 c4 c5 c6 c7))), .val (.int (own_bit (own_adj n c0 c1 c2 c3 c4 c5 c6 c7))), .val (.int ([c0, c1, c2, c3, c4, c5, c6, c7].getD (k - 1) 0)), .unset, .unset] [(.int (1 : Int32))]) := fun tg_ kk_ => S288 tg_ (st289 tg_ kk_)
        have M289 := Fr.app M284 N289
        have S291 : own_Go p e below s₁ G T289 (mkF m 220 #[.val (.int n), .val (.int c0), .val (.int c1), .val (.int c2), .val (.int c3), .val (.int c4), .val (.int c5), .val (.int c6), .val (.int c7), .val (.int mn), .val (.int mx), .val (.int (own_bit (own_all n c0 c1 c2 c3 c4 c5 c6 c7))), .val (.int (own_bit (own_adj n c0 c1 c2 c3 c4 c5 c6 c7))), .val (.int ([c0, c1, c2, c3, c4, c5, c6, c7].getD (k - 1) 0)), .unset, .unset] [(.int (1 : Int32))]) := fun tg_ kk_ => S290 tg_ (by
          refine XS.ifNo X289.here hx rfl (hb hby d17_212) rfl (XT.i0_eq_f (by decide)) ?_
          show Steps p.tables e below (T289.setTop (mkF m 215 #[.val (.int n), .val (.int c0), .val (.int c1), .val (.int c2), .val (.int c3), .val (.int c4), .val (.int c5), .val (.int c6), .val (.int c7), .val (.int mn), .val (.int mx), .val (.int (own_bit (own_all n c0 c1 c2 c3 c4 c5 c6 c7))), .val (.int (own_bit (own_adj n c0 c1 c2 c3 c4 c5 c6 c7))), .val (.int ([c0, c1, c2, c3, c4, c5, c6, c7].getD (k - 1) 0)), .unset, .unset] [])) _
          refine XS.iconst X289.here hx rfl (hb hby d17_215) ?_
          show Steps p.tables e below (T289.setTop (mkF m 216 #[.val (.int n), .val (.int c0), .val (.int c1), .val (.int c2), .val (.int c3), .val (.int c4), .val (.int c5), .val (.int c6), .val (.int c7), .val (.int mn), .val (.int mx), .val (.int (own_bit (own_all n c0 c1 c2 c3 c4 c5 c6 c7))), .val (.int (own_bit (own_adj n c0 c1 c2 c3 c4 c5 c6 c7))), .val (.int ([c0, c1, c2, c3, c4, c5, c6, c7].getD (k - 1) 0)), .unset, .unset] [(.int (1 : Int32))])) _
          refine XS.goto X289.here hx rfl (pc0 := 216) (pc' := 220) rfl (hb hby d17_216) (by decide) (by decide) ?_
          exact kk_)
        have hv : (own_edge c0 ([c0, c1, c2, c3, c4, c5, c6, c7].getD (k - 1) 0)) = true := by simp only [own_edge, hp0, hp1, Bool.and_true, Bool.true_and, Bool.and_false, Bool.false_and, Bool.or_true, Bool.true_or, Bool.or_false, Bool.false_or]
        rw [hv]
        exact ⟨T289, _, X289, e289, M289, S291⟩
      · have _ := e289
        have S292 : own_Go p e below s₁ G T289 (mkF m 212 #[.val (.int n), .val (.int c0), .val (.int c1), .val (.int c2), .val (.int c3), .val (.int c4), .val (.int c5), .val (.int c6), .val (.int c7), .val (.int mn), .val (.int mx), .val (.int (own_bit (own_all n c0 c1 c2 c3 c4 c5 c6 c7))), .val (.int (own_bit (own_adj n c0 c1 c2 c3 c4 c5 c6 c7))), .val (.int ([c0, c1, c2, c3, c4, c5, c6, c7].getD (k - 1) 0)), .unset, .unset] [(.int (0 : Int32))]) := fun tg_ kk_ => S288 tg_ (st289 tg_ kk_)
        have M289 := Fr.app M284 N289
        have S293 : own_Go p e below s₁ G T289 (mkF m 220 #[.val (.int n), .val (.int c0), .val (.int c1), .val (.int c2), .val (.int c3), .val (.int c4), .val (.int c5), .val (.int c6), .val (.int c7), .val (.int mn), .val (.int mx), .val (.int (own_bit (own_all n c0 c1 c2 c3 c4 c5 c6 c7))), .val (.int (own_bit (own_adj n c0 c1 c2 c3 c4 c5 c6 c7))), .val (.int ([c0, c1, c2, c3, c4, c5, c6, c7].getD (k - 1) 0)), .unset, .unset] [(.int (0 : Int32))]) := fun tg_ kk_ => S292 tg_ (by
          refine XS.ifYes X289.here hx rfl (pc0 := 212) (pc' := 219) rfl (hb hby d17_212) rfl (XT.i0_eq_t (by decide)) (by decide) (by decide) ?_
          show Steps p.tables e below (T289.setTop (mkF m 219 #[.val (.int n), .val (.int c0), .val (.int c1), .val (.int c2), .val (.int c3), .val (.int c4), .val (.int c5), .val (.int c6), .val (.int c7), .val (.int mn), .val (.int mx), .val (.int (own_bit (own_all n c0 c1 c2 c3 c4 c5 c6 c7))), .val (.int (own_bit (own_adj n c0 c1 c2 c3 c4 c5 c6 c7))), .val (.int ([c0, c1, c2, c3, c4, c5, c6, c7].getD (k - 1) 0)), .unset, .unset] [])) _
          refine XS.iconst X289.here hx rfl (hb hby d17_219) ?_
          exact kk_)
        have hv : (own_edge c0 ([c0, c1, c2, c3, c4, c5, c6, c7].getD (k - 1) 0)) = false := by simp only [own_edge, hp0, hp1, Bool.and_true, Bool.true_and, Bool.and_false, Bool.false_and, Bool.or_true, Bool.true_or, Bool.or_false, Bool.false_or]
        rw [hv]
        exact ⟨T289, _, X289, e289, M289, S293⟩
  obtain ⟨T282, L282, X282, e282, N282, S282⟩ := ph282
  have S294 : own_Go p e below s₁ G T282 (mkF m 226 #[.val (.int n), .val (.int c0), .val (.int c1), .val (.int c2), .val (.int c3), .val (.int c4), .val (.int c5), .val (.int c6), .val (.int c7), .val (.int mn), .val (.int mx), .val (.int (own_bit (own_all n c0 c1 c2 c3 c4 c5 c6 c7))), .val (.int (own_bit (own_adj n c0 c1 c2 c3 c4 c5 c6 c7))), .val (.int ([c0, c1, c2, c3, c4, c5, c6, c7].getD (k - 1) 0)), .val (.int (own_bit (own_edge c0 ([c0, c1, c2, c3, c4, c5, c6, c7].getD (k - 1) 0)))), .unset] [(.int n), (.int (0 : Int32)), (.int c0), (.int (1 : Int32))]) := fun tg_ kk_ => S282 tg_ (by
    refine XS.istore X282.here hx rfl (hb hby d17_220) rfl (l' := #[.val (.int n), .val (.int c0), .val (.int c1), .val (.int c2), .val (.int c3), .val (.int c4), .val (.int c5), .val (.int c6), .val (.int c7), .val (.int mn), .val (.int mx), .val (.int (own_bit (own_all n c0 c1 c2 c3 c4 c5 c6 c7))), .val (.int (own_bit (own_adj n c0 c1 c2 c3 c4 c5 c6 c7))), .val (.int ([c0, c1, c2, c3, c4, c5, c6, c7].getD (k - 1) 0)), .val (.int (own_bit (own_edge c0 ([c0, c1, c2, c3, c4, c5, c6, c7].getD (k - 1) 0)))), .unset]) rfl ?_
    show Steps p.tables e below (T282.setTop (mkF m 222 #[.val (.int n), .val (.int c0), .val (.int c1), .val (.int c2), .val (.int c3), .val (.int c4), .val (.int c5), .val (.int c6), .val (.int c7), .val (.int mn), .val (.int mx), .val (.int (own_bit (own_all n c0 c1 c2 c3 c4 c5 c6 c7))), .val (.int (own_bit (own_adj n c0 c1 c2 c3 c4 c5 c6 c7))), .val (.int ([c0, c1, c2, c3, c4, c5, c6, c7].getD (k - 1) 0)), .val (.int (own_bit (own_edge c0 ([c0, c1, c2, c3, c4, c5, c6, c7].getD (k - 1) 0)))), .unset] [])) _
    refine XS.iconst X282.here hx rfl (hb hby d17_222) ?_
    show Steps p.tables e below (T282.setTop (mkF m 223 #[.val (.int n), .val (.int c0), .val (.int c1), .val (.int c2), .val (.int c3), .val (.int c4), .val (.int c5), .val (.int c6), .val (.int c7), .val (.int mn), .val (.int mx), .val (.int (own_bit (own_all n c0 c1 c2 c3 c4 c5 c6 c7))), .val (.int (own_bit (own_adj n c0 c1 c2 c3 c4 c5 c6 c7))), .val (.int ([c0, c1, c2, c3, c4, c5, c6, c7].getD (k - 1) 0)), .val (.int (own_bit (own_edge c0 ([c0, c1, c2, c3, c4, c5, c6, c7].getD (k - 1) 0)))), .unset] [(.int (1 : Int32))])) _
    refine XS.iloadN X282.here hx rfl (hb hby d17_223) rfl ?_
    show Steps p.tables e below (T282.setTop (mkF m 224 #[.val (.int n), .val (.int c0), .val (.int c1), .val (.int c2), .val (.int c3), .val (.int c4), .val (.int c5), .val (.int c6), .val (.int c7), .val (.int mn), .val (.int mx), .val (.int (own_bit (own_all n c0 c1 c2 c3 c4 c5 c6 c7))), .val (.int (own_bit (own_adj n c0 c1 c2 c3 c4 c5 c6 c7))), .val (.int ([c0, c1, c2, c3, c4, c5, c6, c7].getD (k - 1) 0)), .val (.int (own_bit (own_edge c0 ([c0, c1, c2, c3, c4, c5, c6, c7].getD (k - 1) 0)))), .unset] [(.int c0), (.int (1 : Int32))])) _
    refine XS.iconst X282.here hx rfl (hb hby d17_224) ?_
    show Steps p.tables e below (T282.setTop (mkF m 225 #[.val (.int n), .val (.int c0), .val (.int c1), .val (.int c2), .val (.int c3), .val (.int c4), .val (.int c5), .val (.int c6), .val (.int c7), .val (.int mn), .val (.int mx), .val (.int (own_bit (own_all n c0 c1 c2 c3 c4 c5 c6 c7))), .val (.int (own_bit (own_adj n c0 c1 c2 c3 c4 c5 c6 c7))), .val (.int ([c0, c1, c2, c3, c4, c5, c6, c7].getD (k - 1) 0)), .val (.int (own_bit (own_edge c0 ([c0, c1, c2, c3, c4, c5, c6, c7].getD (k - 1) 0)))), .unset] [(.int (0 : Int32)), (.int c0), (.int (1 : Int32))])) _
    refine XS.iloadN X282.here hx rfl (hb hby d17_225) rfl ?_
    exact kk_)
  obtain ⟨_, T295, h295, L295, X295, e295, hQ295, st295⟩ := own_callS X282 hx hZ (y := (⟨"com/example/tallyhook/tallyhook/core/EventTypeIsSegmentsPinLaw", "dotAt", "(CII)I"⟩ : MethodName)) hown (hw _ (List.mem_of_getElem? (i := 93) rfl)) (hw _ (List.mem_of_getElem? (i := 94) rfl)) (hw _ (List.mem_of_getElem? (i := 3) rfl)) (hw _ (List.mem_of_getElem? (i := 95) rfl)) (by decide) 1 (g := (mkF m 226 #[.val (.int n), .val (.int c0), .val (.int c1), .val (.int c2), .val (.int c3), .val (.int c4), .val (.int c5), .val (.int c6), .val (.int c7), .val (.int mn), .val (.int mx), .val (.int (own_bit (own_all n c0 c1 c2 c3 c4 c5 c6 c7))), .val (.int (own_bit (own_adj n c0 c1 c2 c3 c4 c5 c6 c7))), .val (.int ([c0, c1, c2, c3, c4, c5, c6, c7].getD (k - 1) 0)), .val (.int (own_bit (own_edge c0 ([c0, c1, c2, c3, c4, c5, c6, c7].getD (k - 1) 0)))), .unset] [(.int n), (.int (0 : Int32)), (.int c0), (.int (1 : Int32))])) rfl (by rw [hml]; rfl) [(.int c0), (.int (0 : Int32)), (.int n)] [(.int (1 : Int32))] (rm23 l Z a0 hw [] c0 0 n h0 n0 Z0) (lenOf pd23 rfl) rfl (by show 2 * 0 + _ ≤ _; exact Nat.le_of_eq rfl) (hb hby d17_226) (by decide) (by decide) e282 (by decide) (by decide)
  obtain ⟨rfl, N295, rfl⟩ := hQ295
  have S296 : own_Go p e below s₁ G T295 (mkF m 229 #[.val (.int n), .val (.int c0), .val (.int c1), .val (.int c2), .val (.int c3), .val (.int c4), .val (.int c5), .val (.int c6), .val (.int c7), .val (.int mn), .val (.int mx), .val (.int (own_bit (own_all n c0 c1 c2 c3 c4 c5 c6 c7))), .val (.int (own_bit (own_adj n c0 c1 c2 c3 c4 c5 c6 c7))), .val (.int ([c0, c1, c2, c3, c4, c5, c6, c7].getD (k - 1) 0)), .val (.int (own_bit (own_edge c0 ([c0, c1, c2, c3, c4, c5, c6, c7].getD (k - 1) 0)))), .unset] [(.int (own_bit (own_dotAt c0 0 n))), (.int (1 : Int32))]) := fun tg_ kk_ => S294 tg_ (st295 tg_ kk_)
  have M295 := Fr.app N282 N295
  have S297 : own_Go p e below s₁ G T295 (mkF m 233 #[.val (.int n), .val (.int c0), .val (.int c1), .val (.int c2), .val (.int c3), .val (.int c4), .val (.int c5), .val (.int c6), .val (.int c7), .val (.int mn), .val (.int mx), .val (.int (own_bit (own_all n c0 c1 c2 c3 c4 c5 c6 c7))), .val (.int (own_bit (own_adj n c0 c1 c2 c3 c4 c5 c6 c7))), .val (.int ([c0, c1, c2, c3, c4, c5, c6, c7].getD (k - 1) 0)), .val (.int (own_bit (own_edge c0 ([c0, c1, c2, c3, c4, c5, c6, c7].getD (k - 1) 0)))), .unset] [(.int n), (.int (1 : Int32)), (.int c1), (.int ((1 : Int32) + (own_bit (own_dotAt c0 0 n))))]) := fun tg_ kk_ => S296 tg_ (by
    refine XS.iadd X295.here hx rfl (hb hby d17_229) rfl ?_
    show Steps p.tables e below (T295.setTop (mkF m 230 #[.val (.int n), .val (.int c0), .val (.int c1), .val (.int c2), .val (.int c3), .val (.int c4), .val (.int c5), .val (.int c6), .val (.int c7), .val (.int mn), .val (.int mx), .val (.int (own_bit (own_all n c0 c1 c2 c3 c4 c5 c6 c7))), .val (.int (own_bit (own_adj n c0 c1 c2 c3 c4 c5 c6 c7))), .val (.int ([c0, c1, c2, c3, c4, c5, c6, c7].getD (k - 1) 0)), .val (.int (own_bit (own_edge c0 ([c0, c1, c2, c3, c4, c5, c6, c7].getD (k - 1) 0)))), .unset] [(.int ((1 : Int32) + (own_bit (own_dotAt c0 0 n))))])) _
    refine XS.iloadN X295.here hx rfl (hb hby d17_230) rfl ?_
    show Steps p.tables e below (T295.setTop (mkF m 231 #[.val (.int n), .val (.int c0), .val (.int c1), .val (.int c2), .val (.int c3), .val (.int c4), .val (.int c5), .val (.int c6), .val (.int c7), .val (.int mn), .val (.int mx), .val (.int (own_bit (own_all n c0 c1 c2 c3 c4 c5 c6 c7))), .val (.int (own_bit (own_adj n c0 c1 c2 c3 c4 c5 c6 c7))), .val (.int ([c0, c1, c2, c3, c4, c5, c6, c7].getD (k - 1) 0)), .val (.int (own_bit (own_edge c0 ([c0, c1, c2, c3, c4, c5, c6, c7].getD (k - 1) 0)))), .unset] [(.int c1), (.int ((1 : Int32) + (own_bit (own_dotAt c0 0 n))))])) _
    refine XS.iconst X295.here hx rfl (hb hby d17_231) ?_
    show Steps p.tables e below (T295.setTop (mkF m 232 #[.val (.int n), .val (.int c0), .val (.int c1), .val (.int c2), .val (.int c3), .val (.int c4), .val (.int c5), .val (.int c6), .val (.int c7), .val (.int mn), .val (.int mx), .val (.int (own_bit (own_all n c0 c1 c2 c3 c4 c5 c6 c7))), .val (.int (own_bit (own_adj n c0 c1 c2 c3 c4 c5 c6 c7))), .val (.int ([c0, c1, c2, c3, c4, c5, c6, c7].getD (k - 1) 0)), .val (.int (own_bit (own_edge c0 ([c0, c1, c2, c3, c4, c5, c6, c7].getD (k - 1) 0)))), .unset] [(.int (1 : Int32)), (.int c1), (.int ((1 : Int32) + (own_bit (own_dotAt c0 0 n))))])) _
    refine XS.iloadN X295.here hx rfl (hb hby d17_232) rfl ?_
    exact kk_)
  obtain ⟨_, T298, h298, L298, X298, e298, hQ298, st298⟩ := own_callS X295 hx hZ (y := (⟨"com/example/tallyhook/tallyhook/core/EventTypeIsSegmentsPinLaw", "dotAt", "(CII)I"⟩ : MethodName)) hown (hw _ (List.mem_of_getElem? (i := 93) rfl)) (hw _ (List.mem_of_getElem? (i := 94) rfl)) (hw _ (List.mem_of_getElem? (i := 3) rfl)) (hw _ (List.mem_of_getElem? (i := 95) rfl)) (by decide) 1 (g := (mkF m 233 #[.val (.int n), .val (.int c0), .val (.int c1), .val (.int c2), .val (.int c3), .val (.int c4), .val (.int c5), .val (.int c6), .val (.int c7), .val (.int mn), .val (.int mx), .val (.int (own_bit (own_all n c0 c1 c2 c3 c4 c5 c6 c7))), .val (.int (own_bit (own_adj n c0 c1 c2 c3 c4 c5 c6 c7))), .val (.int ([c0, c1, c2, c3, c4, c5, c6, c7].getD (k - 1) 0)), .val (.int (own_bit (own_edge c0 ([c0, c1, c2, c3, c4, c5, c6, c7].getD (k - 1) 0)))), .unset] [(.int n), (.int (1 : Int32)), (.int c1), (.int ((1 : Int32) + (own_bit (own_dotAt c0 0 n))))])) rfl (by rw [hml]; rfl) [(.int c1), (.int (1 : Int32)), (.int n)] [(.int ((1 : Int32) + (own_bit (own_dotAt c0 0 n))))] (rm23 l Z a0 hw [] c1 1 n h0 n0 Z0) (lenOf pd23 rfl) rfl (by show 2 * 0 + _ ≤ _; exact Nat.le_of_eq rfl) (hb hby d17_233) (by decide) (by decide) e295 (by decide) (by decide)
  obtain ⟨rfl, N298, rfl⟩ := hQ298
  have S299 : own_Go p e below s₁ G T298 (mkF m 236 #[.val (.int n), .val (.int c0), .val (.int c1), .val (.int c2), .val (.int c3), .val (.int c4), .val (.int c5), .val (.int c6), .val (.int c7), .val (.int mn), .val (.int mx), .val (.int (own_bit (own_all n c0 c1 c2 c3 c4 c5 c6 c7))), .val (.int (own_bit (own_adj n c0 c1 c2 c3 c4 c5 c6 c7))), .val (.int ([c0, c1, c2, c3, c4, c5, c6, c7].getD (k - 1) 0)), .val (.int (own_bit (own_edge c0 ([c0, c1, c2, c3, c4, c5, c6, c7].getD (k - 1) 0)))), .unset] [(.int (own_bit (own_dotAt c1 1 n))), (.int ((1 : Int32) + (own_bit (own_dotAt c0 0 n))))]) := fun tg_ kk_ => S297 tg_ (st298 tg_ kk_)
  have M298 := Fr.app M295 N298
  have S300 : own_Go p e below s₁ G T298 (mkF m 240 #[.val (.int n), .val (.int c0), .val (.int c1), .val (.int c2), .val (.int c3), .val (.int c4), .val (.int c5), .val (.int c6), .val (.int c7), .val (.int mn), .val (.int mx), .val (.int (own_bit (own_all n c0 c1 c2 c3 c4 c5 c6 c7))), .val (.int (own_bit (own_adj n c0 c1 c2 c3 c4 c5 c6 c7))), .val (.int ([c0, c1, c2, c3, c4, c5, c6, c7].getD (k - 1) 0)), .val (.int (own_bit (own_edge c0 ([c0, c1, c2, c3, c4, c5, c6, c7].getD (k - 1) 0)))), .unset] [(.int n), (.int (2 : Int32)), (.int c2), (.int (((1 : Int32) + (own_bit (own_dotAt c0 0 n))) + (own_bit (own_dotAt c1 1 n))))]) := fun tg_ kk_ => S299 tg_ (by
    refine XS.iadd X298.here hx rfl (hb hby d17_236) rfl ?_
    show Steps p.tables e below (T298.setTop (mkF m 237 #[.val (.int n), .val (.int c0), .val (.int c1), .val (.int c2), .val (.int c3), .val (.int c4), .val (.int c5), .val (.int c6), .val (.int c7), .val (.int mn), .val (.int mx), .val (.int (own_bit (own_all n c0 c1 c2 c3 c4 c5 c6 c7))), .val (.int (own_bit (own_adj n c0 c1 c2 c3 c4 c5 c6 c7))), .val (.int ([c0, c1, c2, c3, c4, c5, c6, c7].getD (k - 1) 0)), .val (.int (own_bit (own_edge c0 ([c0, c1, c2, c3, c4, c5, c6, c7].getD (k - 1) 0)))), .unset] [(.int (((1 : Int32) + (own_bit (own_dotAt c0 0 n))) + (own_bit (own_dotAt c1 1 n))))])) _
    refine XS.iloadN X298.here hx rfl (hb hby d17_237) rfl ?_
    show Steps p.tables e below (T298.setTop (mkF m 238 #[.val (.int n), .val (.int c0), .val (.int c1), .val (.int c2), .val (.int c3), .val (.int c4), .val (.int c5), .val (.int c6), .val (.int c7), .val (.int mn), .val (.int mx), .val (.int (own_bit (own_all n c0 c1 c2 c3 c4 c5 c6 c7))), .val (.int (own_bit (own_adj n c0 c1 c2 c3 c4 c5 c6 c7))), .val (.int ([c0, c1, c2, c3, c4, c5, c6, c7].getD (k - 1) 0)), .val (.int (own_bit (own_edge c0 ([c0, c1, c2, c3, c4, c5, c6, c7].getD (k - 1) 0)))), .unset] [(.int c2), (.int (((1 : Int32) + (own_bit (own_dotAt c0 0 n))) + (own_bit (own_dotAt c1 1 n))))])) _
    refine XS.iconst X298.here hx rfl (hb hby d17_238) ?_
    show Steps p.tables e below (T298.setTop (mkF m 239 #[.val (.int n), .val (.int c0), .val (.int c1), .val (.int c2), .val (.int c3), .val (.int c4), .val (.int c5), .val (.int c6), .val (.int c7), .val (.int mn), .val (.int mx), .val (.int (own_bit (own_all n c0 c1 c2 c3 c4 c5 c6 c7))), .val (.int (own_bit (own_adj n c0 c1 c2 c3 c4 c5 c6 c7))), .val (.int ([c0, c1, c2, c3, c4, c5, c6, c7].getD (k - 1) 0)), .val (.int (own_bit (own_edge c0 ([c0, c1, c2, c3, c4, c5, c6, c7].getD (k - 1) 0)))), .unset] [(.int (2 : Int32)), (.int c2), (.int (((1 : Int32) + (own_bit (own_dotAt c0 0 n))) + (own_bit (own_dotAt c1 1 n))))])) _
    refine XS.iloadN X298.here hx rfl (hb hby d17_239) rfl ?_
    exact kk_)
  obtain ⟨_, T301, h301, L301, X301, e301, hQ301, st301⟩ := own_callS X298 hx hZ (y := (⟨"com/example/tallyhook/tallyhook/core/EventTypeIsSegmentsPinLaw", "dotAt", "(CII)I"⟩ : MethodName)) hown (hw _ (List.mem_of_getElem? (i := 93) rfl)) (hw _ (List.mem_of_getElem? (i := 94) rfl)) (hw _ (List.mem_of_getElem? (i := 3) rfl)) (hw _ (List.mem_of_getElem? (i := 95) rfl)) (by decide) 1 (g := (mkF m 240 #[.val (.int n), .val (.int c0), .val (.int c1), .val (.int c2), .val (.int c3), .val (.int c4), .val (.int c5), .val (.int c6), .val (.int c7), .val (.int mn), .val (.int mx), .val (.int (own_bit (own_all n c0 c1 c2 c3 c4 c5 c6 c7))), .val (.int (own_bit (own_adj n c0 c1 c2 c3 c4 c5 c6 c7))), .val (.int ([c0, c1, c2, c3, c4, c5, c6, c7].getD (k - 1) 0)), .val (.int (own_bit (own_edge c0 ([c0, c1, c2, c3, c4, c5, c6, c7].getD (k - 1) 0)))), .unset] [(.int n), (.int (2 : Int32)), (.int c2), (.int (((1 : Int32) + (own_bit (own_dotAt c0 0 n))) + (own_bit (own_dotAt c1 1 n))))])) rfl (by rw [hml]; rfl) [(.int c2), (.int (2 : Int32)), (.int n)] [(.int (((1 : Int32) + (own_bit (own_dotAt c0 0 n))) + (own_bit (own_dotAt c1 1 n))))] (rm23 l Z a0 hw [] c2 2 n h0 n0 Z0) (lenOf pd23 rfl) rfl (by show 2 * 0 + _ ≤ _; exact Nat.le_of_eq rfl) (hb hby d17_240) (by decide) (by decide) e298 (by decide) (by decide)
  obtain ⟨rfl, N301, rfl⟩ := hQ301
  have S302 : own_Go p e below s₁ G T301 (mkF m 243 #[.val (.int n), .val (.int c0), .val (.int c1), .val (.int c2), .val (.int c3), .val (.int c4), .val (.int c5), .val (.int c6), .val (.int c7), .val (.int mn), .val (.int mx), .val (.int (own_bit (own_all n c0 c1 c2 c3 c4 c5 c6 c7))), .val (.int (own_bit (own_adj n c0 c1 c2 c3 c4 c5 c6 c7))), .val (.int ([c0, c1, c2, c3, c4, c5, c6, c7].getD (k - 1) 0)), .val (.int (own_bit (own_edge c0 ([c0, c1, c2, c3, c4, c5, c6, c7].getD (k - 1) 0)))), .unset] [(.int (own_bit (own_dotAt c2 2 n))), (.int (((1 : Int32) + (own_bit (own_dotAt c0 0 n))) + (own_bit (own_dotAt c1 1 n))))]) := fun tg_ kk_ => S300 tg_ (st301 tg_ kk_)
  have M301 := Fr.app M298 N301
  have S303 : own_Go p e below s₁ G T301 (mkF m 248 #[.val (.int n), .val (.int c0), .val (.int c1), .val (.int c2), .val (.int c3), .val (.int c4), .val (.int c5), .val (.int c6), .val (.int c7), .val (.int mn), .val (.int mx), .val (.int (own_bit (own_all n c0 c1 c2 c3 c4 c5 c6 c7))), .val (.int (own_bit (own_adj n c0 c1 c2 c3 c4 c5 c6 c7))), .val (.int ([c0, c1, c2, c3, c4, c5, c6, c7].getD (k - 1) 0)), .val (.int (own_bit (own_edge c0 ([c0, c1, c2, c3, c4, c5, c6, c7].getD (k - 1) 0)))), .unset] [(.int n), (.int (3 : Int32)), (.int c3), (.int ((((1 : Int32) + (own_bit (own_dotAt c0 0 n))) + (own_bit (own_dotAt c1 1 n))) + (own_bit (own_dotAt c2 2 n))))]) := fun tg_ kk_ => S302 tg_ (by
    refine XS.iadd X301.here hx rfl (hb hby d17_243) rfl ?_
    show Steps p.tables e below (T301.setTop (mkF m 244 #[.val (.int n), .val (.int c0), .val (.int c1), .val (.int c2), .val (.int c3), .val (.int c4), .val (.int c5), .val (.int c6), .val (.int c7), .val (.int mn), .val (.int mx), .val (.int (own_bit (own_all n c0 c1 c2 c3 c4 c5 c6 c7))), .val (.int (own_bit (own_adj n c0 c1 c2 c3 c4 c5 c6 c7))), .val (.int ([c0, c1, c2, c3, c4, c5, c6, c7].getD (k - 1) 0)), .val (.int (own_bit (own_edge c0 ([c0, c1, c2, c3, c4, c5, c6, c7].getD (k - 1) 0)))), .unset] [(.int ((((1 : Int32) + (own_bit (own_dotAt c0 0 n))) + (own_bit (own_dotAt c1 1 n))) + (own_bit (own_dotAt c2 2 n))))])) _
    refine XS.iload X301.here hx rfl (hb hby d17_244) rfl ?_
    show Steps p.tables e below (T301.setTop (mkF m 246 #[.val (.int n), .val (.int c0), .val (.int c1), .val (.int c2), .val (.int c3), .val (.int c4), .val (.int c5), .val (.int c6), .val (.int c7), .val (.int mn), .val (.int mx), .val (.int (own_bit (own_all n c0 c1 c2 c3 c4 c5 c6 c7))), .val (.int (own_bit (own_adj n c0 c1 c2 c3 c4 c5 c6 c7))), .val (.int ([c0, c1, c2, c3, c4, c5, c6, c7].getD (k - 1) 0)), .val (.int (own_bit (own_edge c0 ([c0, c1, c2, c3, c4, c5, c6, c7].getD (k - 1) 0)))), .unset] [(.int c3), (.int ((((1 : Int32) + (own_bit (own_dotAt c0 0 n))) + (own_bit (own_dotAt c1 1 n))) + (own_bit (own_dotAt c2 2 n))))])) _
    refine XS.iconst X301.here hx rfl (hb hby d17_246) ?_
    show Steps p.tables e below (T301.setTop (mkF m 247 #[.val (.int n), .val (.int c0), .val (.int c1), .val (.int c2), .val (.int c3), .val (.int c4), .val (.int c5), .val (.int c6), .val (.int c7), .val (.int mn), .val (.int mx), .val (.int (own_bit (own_all n c0 c1 c2 c3 c4 c5 c6 c7))), .val (.int (own_bit (own_adj n c0 c1 c2 c3 c4 c5 c6 c7))), .val (.int ([c0, c1, c2, c3, c4, c5, c6, c7].getD (k - 1) 0)), .val (.int (own_bit (own_edge c0 ([c0, c1, c2, c3, c4, c5, c6, c7].getD (k - 1) 0)))), .unset] [(.int (3 : Int32)), (.int c3), (.int ((((1 : Int32) + (own_bit (own_dotAt c0 0 n))) + (own_bit (own_dotAt c1 1 n))) + (own_bit (own_dotAt c2 2 n))))])) _
    refine XS.iloadN X301.here hx rfl (hb hby d17_247) rfl ?_
    exact kk_)
  obtain ⟨_, T304, h304, L304, X304, e304, hQ304, st304⟩ := own_callS X301 hx hZ (y := (⟨"com/example/tallyhook/tallyhook/core/EventTypeIsSegmentsPinLaw", "dotAt", "(CII)I"⟩ : MethodName)) hown (hw _ (List.mem_of_getElem? (i := 93) rfl)) (hw _ (List.mem_of_getElem? (i := 94) rfl)) (hw _ (List.mem_of_getElem? (i := 3) rfl)) (hw _ (List.mem_of_getElem? (i := 95) rfl)) (by decide) 1 (g := (mkF m 248 #[.val (.int n), .val (.int c0), .val (.int c1), .val (.int c2), .val (.int c3), .val (.int c4), .val (.int c5), .val (.int c6), .val (.int c7), .val (.int mn), .val (.int mx), .val (.int (own_bit (own_all n c0 c1 c2 c3 c4 c5 c6 c7))), .val (.int (own_bit (own_adj n c0 c1 c2 c3 c4 c5 c6 c7))), .val (.int ([c0, c1, c2, c3, c4, c5, c6, c7].getD (k - 1) 0)), .val (.int (own_bit (own_edge c0 ([c0, c1, c2, c3, c4, c5, c6, c7].getD (k - 1) 0)))), .unset] [(.int n), (.int (3 : Int32)), (.int c3), (.int ((((1 : Int32) + (own_bit (own_dotAt c0 0 n))) + (own_bit (own_dotAt c1 1 n))) + (own_bit (own_dotAt c2 2 n))))])) rfl (by rw [hml]; rfl) [(.int c3), (.int (3 : Int32)), (.int n)] [(.int ((((1 : Int32) + (own_bit (own_dotAt c0 0 n))) + (own_bit (own_dotAt c1 1 n))) + (own_bit (own_dotAt c2 2 n))))] (rm23 l Z a0 hw [] c3 3 n h0 n0 Z0) (lenOf pd23 rfl) rfl (by show 2 * 0 + _ ≤ _; exact Nat.le_of_eq rfl) (hb hby d17_248) (by decide) (by decide) e301 (by decide) (by decide)
  obtain ⟨rfl, N304, rfl⟩ := hQ304
  have S305 : own_Go p e below s₁ G T304 (mkF m 251 #[.val (.int n), .val (.int c0), .val (.int c1), .val (.int c2), .val (.int c3), .val (.int c4), .val (.int c5), .val (.int c6), .val (.int c7), .val (.int mn), .val (.int mx), .val (.int (own_bit (own_all n c0 c1 c2 c3 c4 c5 c6 c7))), .val (.int (own_bit (own_adj n c0 c1 c2 c3 c4 c5 c6 c7))), .val (.int ([c0, c1, c2, c3, c4, c5, c6, c7].getD (k - 1) 0)), .val (.int (own_bit (own_edge c0 ([c0, c1, c2, c3, c4, c5, c6, c7].getD (k - 1) 0)))), .unset] [(.int (own_bit (own_dotAt c3 3 n))), (.int ((((1 : Int32) + (own_bit (own_dotAt c0 0 n))) + (own_bit (own_dotAt c1 1 n))) + (own_bit (own_dotAt c2 2 n))))]) := fun tg_ kk_ => S303 tg_ (st304 tg_ kk_)
  have M304 := Fr.app M301 N304
  have S306 : own_Go p e below s₁ G T304 (mkF m 256 #[.val (.int n), .val (.int c0), .val (.int c1), .val (.int c2), .val (.int c3), .val (.int c4), .val (.int c5), .val (.int c6), .val (.int c7), .val (.int mn), .val (.int mx), .val (.int (own_bit (own_all n c0 c1 c2 c3 c4 c5 c6 c7))), .val (.int (own_bit (own_adj n c0 c1 c2 c3 c4 c5 c6 c7))), .val (.int ([c0, c1, c2, c3, c4, c5, c6, c7].getD (k - 1) 0)), .val (.int (own_bit (own_edge c0 ([c0, c1, c2, c3, c4, c5, c6, c7].getD (k - 1) 0)))), .unset] [(.int n), (.int (4 : Int32)), (.int c4), (.int (((((1 : Int32) + (own_bit (own_dotAt c0 0 n))) + (own_bit (own_dotAt c1 1 n))) + (own_bit (own_dotAt c2 2 n))) + (own_bit (own_dotAt c3 3 n))))]) := fun tg_ kk_ => S305 tg_ (by
    refine XS.iadd X304.here hx rfl (hb hby d17_251) rfl ?_
    show Steps p.tables e below (T304.setTop (mkF m 252 #[.val (.int n), .val (.int c0), .val (.int c1), .val (.int c2), .val (.int c3), .val (.int c4), .val (.int c5), .val (.int c6), .val (.int c7), .val (.int mn), .val (.int mx), .val (.int (own_bit (own_all n c0 c1 c2 c3 c4 c5 c6 c7))), .val (.int (own_bit (own_adj n c0 c1 c2 c3 c4 c5 c6 c7))), .val (.int ([c0, c1, c2, c3, c4, c5, c6, c7].getD (k - 1) 0)), .val (.int (own_bit (own_edge c0 ([c0, c1, c2, c3, c4, c5, c6, c7].getD (k - 1) 0)))), .unset] [(.int (((((1 : Int32) + (own_bit (own_dotAt c0 0 n))) + (own_bit (own_dotAt c1 1 n))) + (own_bit (own_dotAt c2 2 n))) + (own_bit (own_dotAt c3 3 n))))])) _
    refine XS.iload X304.here hx rfl (hb hby d17_252) rfl ?_
    show Steps p.tables e below (T304.setTop (mkF m 254 #[.val (.int n), .val (.int c0), .val (.int c1), .val (.int c2), .val (.int c3), .val (.int c4), .val (.int c5), .val (.int c6), .val (.int c7), .val (.int mn), .val (.int mx), .val (.int (own_bit (own_all n c0 c1 c2 c3 c4 c5 c6 c7))), .val (.int (own_bit (own_adj n c0 c1 c2 c3 c4 c5 c6 c7))), .val (.int ([c0, c1, c2, c3, c4, c5, c6, c7].getD (k - 1) 0)), .val (.int (own_bit (own_edge c0 ([c0, c1, c2, c3, c4, c5, c6, c7].getD (k - 1) 0)))), .unset] [(.int c4), (.int (((((1 : Int32) + (own_bit (own_dotAt c0 0 n))) + (own_bit (own_dotAt c1 1 n))) + (own_bit (own_dotAt c2 2 n))) + (own_bit (own_dotAt c3 3 n))))])) _
    refine XS.iconst X304.here hx rfl (hb hby d17_254) ?_
    show Steps p.tables e below (T304.setTop (mkF m 255 #[.val (.int n), .val (.int c0), .val (.int c1), .val (.int c2), .val (.int c3), .val (.int c4), .val (.int c5), .val (.int c6), .val (.int c7), .val (.int mn), .val (.int mx), .val (.int (own_bit (own_all n c0 c1 c2 c3 c4 c5 c6 c7))), .val (.int (own_bit (own_adj n c0 c1 c2 c3 c4 c5 c6 c7))), .val (.int ([c0, c1, c2, c3, c4, c5, c6, c7].getD (k - 1) 0)), .val (.int (own_bit (own_edge c0 ([c0, c1, c2, c3, c4, c5, c6, c7].getD (k - 1) 0)))), .unset] [(.int (4 : Int32)), (.int c4), (.int (((((1 : Int32) + (own_bit (own_dotAt c0 0 n))) + (own_bit (own_dotAt c1 1 n))) + (own_bit (own_dotAt c2 2 n))) + (own_bit (own_dotAt c3 3 n))))])) _
    refine XS.iloadN X304.here hx rfl (hb hby d17_255) rfl ?_
    exact kk_)
  obtain ⟨_, T307, h307, L307, X307, e307, hQ307, st307⟩ := own_callS X304 hx hZ (y := (⟨"com/example/tallyhook/tallyhook/core/EventTypeIsSegmentsPinLaw", "dotAt", "(CII)I"⟩ : MethodName)) hown (hw _ (List.mem_of_getElem? (i := 93) rfl)) (hw _ (List.mem_of_getElem? (i := 94) rfl)) (hw _ (List.mem_of_getElem? (i := 3) rfl)) (hw _ (List.mem_of_getElem? (i := 95) rfl)) (by decide) 1 (g := (mkF m 256 #[.val (.int n), .val (.int c0), .val (.int c1), .val (.int c2), .val (.int c3), .val (.int c4), .val (.int c5), .val (.int c6), .val (.int c7), .val (.int mn), .val (.int mx), .val (.int (own_bit (own_all n c0 c1 c2 c3 c4 c5 c6 c7))), .val (.int (own_bit (own_adj n c0 c1 c2 c3 c4 c5 c6 c7))), .val (.int ([c0, c1, c2, c3, c4, c5, c6, c7].getD (k - 1) 0)), .val (.int (own_bit (own_edge c0 ([c0, c1, c2, c3, c4, c5, c6, c7].getD (k - 1) 0)))), .unset] [(.int n), (.int (4 : Int32)), (.int c4), (.int (((((1 : Int32) + (own_bit (own_dotAt c0 0 n))) + (own_bit (own_dotAt c1 1 n))) + (own_bit (own_dotAt c2 2 n))) + (own_bit (own_dotAt c3 3 n))))])) rfl (by rw [hml]; rfl) [(.int c4), (.int (4 : Int32)), (.int n)] [(.int (((((1 : Int32) + (own_bit (own_dotAt c0 0 n))) + (own_bit (own_dotAt c1 1 n))) + (own_bit (own_dotAt c2 2 n))) + (own_bit (own_dotAt c3 3 n))))] (rm23 l Z a0 hw [] c4 4 n h0 n0 Z0) (lenOf pd23 rfl) rfl (by show 2 * 0 + _ ≤ _; exact Nat.le_of_eq rfl) (hb hby d17_256) (by decide) (by decide) e304 (by decide) (by decide)
  obtain ⟨rfl, N307, rfl⟩ := hQ307
  have S308 : own_Go p e below s₁ G T307 (mkF m 259 #[.val (.int n), .val (.int c0), .val (.int c1), .val (.int c2), .val (.int c3), .val (.int c4), .val (.int c5), .val (.int c6), .val (.int c7), .val (.int mn), .val (.int mx), .val (.int (own_bit (own_all n c0 c1 c2 c3 c4 c5 c6 c7))), .val (.int (own_bit (own_adj n c0 c1 c2 c3 c4 c5 c6 c7))), .val (.int ([c0, c1, c2, c3, c4, c5, c6, c7].getD (k - 1) 0)), .val (.int (own_bit (own_edge c0 ([c0, c1, c2, c3, c4, c5, c6, c7].getD (k - 1) 0)))), .unset] [(.int (own_bit (own_dotAt c4 4 n))), (.int (((((1 : Int32) + (own_bit (own_dotAt c0 0 n))) + (own_bit (own_dotAt c1 1 n))) + (own_bit (own_dotAt c2 2 n))) + (own_bit (own_dotAt c3 3 n))))]) := fun tg_ kk_ => S306 tg_ (st307 tg_ kk_)
  have M307 := Fr.app M304 N307
  have S309 : own_Go p e below s₁ G T307 (mkF m 264 #[.val (.int n), .val (.int c0), .val (.int c1), .val (.int c2), .val (.int c3), .val (.int c4), .val (.int c5), .val (.int c6), .val (.int c7), .val (.int mn), .val (.int mx), .val (.int (own_bit (own_all n c0 c1 c2 c3 c4 c5 c6 c7))), .val (.int (own_bit (own_adj n c0 c1 c2 c3 c4 c5 c6 c7))), .val (.int ([c0, c1, c2, c3, c4, c5, c6, c7].getD (k - 1) 0)), .val (.int (own_bit (own_edge c0 ([c0, c1, c2, c3, c4, c5, c6, c7].getD (k - 1) 0)))), .unset] [(.int n), (.int (5 : Int32)), (.int c5), (.int ((((((1 : Int32) + (own_bit (own_dotAt c0 0 n))) + (own_bit (own_dotAt c1 1 n))) + (own_bit (own_dotAt c2 2 n))) + (own_bit (own_dotAt c3 3 n))) + (own_bit (own_dotAt c4 4 n))))]) := fun tg_ kk_ => S308 tg_ (by
    refine XS.iadd X307.here hx rfl (hb hby d17_259) rfl ?_
    show Steps p.tables e below (T307.setTop (mkF m 260 #[.val (.int n), .val (.int c0), .val (.int c1), .val (.int c2), .val (.int c3), .val (.int c4), .val (.int c5), .val (.int c6), .val (.int c7), .val (.int mn), .val (.int mx), .val (.int (own_bit (own_all n c0 c1 c2 c3 c4 c5 c6 c7))), .val (.int (own_bit (own_adj n c0 c1 c2 c3 c4 c5 c6 c7))), .val (.int ([c0, c1, c2, c3, c4, c5, c6, c7].getD (k - 1) 0)), .val (.int (own_bit (own_edge c0 ([c0, c1, c2, c3, c4, c5, c6, c7].getD (k - 1) 0)))), .unset] [(.int ((((((1 : Int32) + (own_bit (own_dotAt c0 0 n))) + (own_bit (own_dotAt c1 1 n))) + (own_bit (own_dotAt c2 2 n))) + (own_bit (own_dotAt c3 3 n))) + (own_bit (own_dotAt c4 4 n))))])) _
    refine XS.iload X307.here hx rfl (hb hby d17_260) rfl ?_
    show Steps p.tables e below (T307.setTop (mkF m 262 #[.val (.int n), .val (.int c0), .val (.int c1), .val (.int c2), .val (.int c3), .val (.int c4), .val (.int c5), .val (.int c6), .val (.int c7), .val (.int mn), .val (.int mx), .val (.int (own_bit (own_all n c0 c1 c2 c3 c4 c5 c6 c7))), .val (.int (own_bit (own_adj n c0 c1 c2 c3 c4 c5 c6 c7))), .val (.int ([c0, c1, c2, c3, c4, c5, c6, c7].getD (k - 1) 0)), .val (.int (own_bit (own_edge c0 ([c0, c1, c2, c3, c4, c5, c6, c7].getD (k - 1) 0)))), .unset] [(.int c5), (.int ((((((1 : Int32) + (own_bit (own_dotAt c0 0 n))) + (own_bit (own_dotAt c1 1 n))) + (own_bit (own_dotAt c2 2 n))) + (own_bit (own_dotAt c3 3 n))) + (own_bit (own_dotAt c4 4 n))))])) _
    refine XS.iconst X307.here hx rfl (hb hby d17_262) ?_
    show Steps p.tables e below (T307.setTop (mkF m 263 #[.val (.int n), .val (.int c0), .val (.int c1), .val (.int c2), .val (.int c3), .val (.int c4), .val (.int c5), .val (.int c6), .val (.int c7), .val (.int mn), .val (.int mx), .val (.int (own_bit (own_all n c0 c1 c2 c3 c4 c5 c6 c7))), .val (.int (own_bit (own_adj n c0 c1 c2 c3 c4 c5 c6 c7))), .val (.int ([c0, c1, c2, c3, c4, c5, c6, c7].getD (k - 1) 0)), .val (.int (own_bit (own_edge c0 ([c0, c1, c2, c3, c4, c5, c6, c7].getD (k - 1) 0)))), .unset] [(.int (5 : Int32)), (.int c5), (.int ((((((1 : Int32) + (own_bit (own_dotAt c0 0 n))) + (own_bit (own_dotAt c1 1 n))) + (own_bit (own_dotAt c2 2 n))) + (own_bit (own_dotAt c3 3 n))) + (own_bit (own_dotAt c4 4 n))))])) _
    refine XS.iloadN X307.here hx rfl (hb hby d17_263) rfl ?_
    exact kk_)
  obtain ⟨_, T310, h310, L310, X310, e310, hQ310, st310⟩ := own_callS X307 hx hZ (y := (⟨"com/example/tallyhook/tallyhook/core/EventTypeIsSegmentsPinLaw", "dotAt", "(CII)I"⟩ : MethodName)) hown (hw _ (List.mem_of_getElem? (i := 93) rfl)) (hw _ (List.mem_of_getElem? (i := 94) rfl)) (hw _ (List.mem_of_getElem? (i := 3) rfl)) (hw _ (List.mem_of_getElem? (i := 95) rfl)) (by decide) 1 (g := (mkF m 264 #[.val (.int n), .val (.int c0), .val (.int c1), .val (.int c2), .val (.int c3), .val (.int c4), .val (.int c5), .val (.int c6), .val (.int c7), .val (.int mn), .val (.int mx), .val (.int (own_bit (own_all n c0 c1 c2 c3 c4 c5 c6 c7))), .val (.int (own_bit (own_adj n c0 c1 c2 c3 c4 c5 c6 c7))), .val (.int ([c0, c1, c2, c3, c4, c5, c6, c7].getD (k - 1) 0)), .val (.int (own_bit (own_edge c0 ([c0, c1, c2, c3, c4, c5, c6, c7].getD (k - 1) 0)))), .unset] [(.int n), (.int (5 : Int32)), (.int c5), (.int ((((((1 : Int32) + (own_bit (own_dotAt c0 0 n))) + (own_bit (own_dotAt c1 1 n))) + (own_bit (own_dotAt c2 2 n))) + (own_bit (own_dotAt c3 3 n))) + (own_bit (own_dotAt c4 4 n))))])) rfl (by rw [hml]; rfl) [(.int c5), (.int (5 : Int32)), (.int n)] [(.int ((((((1 : Int32) + (own_bit (own_dotAt c0 0 n))) + (own_bit (own_dotAt c1 1 n))) + (own_bit (own_dotAt c2 2 n))) + (own_bit (own_dotAt c3 3 n))) + (own_bit (own_dotAt c4 4 n))))] (rm23 l Z a0 hw [] c5 5 n h0 n0 Z0) (lenOf pd23 rfl) rfl (by show 2 * 0 + _ ≤ _; exact Nat.le_of_eq rfl) (hb hby d17_264) (by decide) (by decide) e307 (by decide) (by decide)
  obtain ⟨rfl, N310, rfl⟩ := hQ310
  have S311 : own_Go p e below s₁ G T310 (mkF m 267 #[.val (.int n), .val (.int c0), .val (.int c1), .val (.int c2), .val (.int c3), .val (.int c4), .val (.int c5), .val (.int c6), .val (.int c7), .val (.int mn), .val (.int mx), .val (.int (own_bit (own_all n c0 c1 c2 c3 c4 c5 c6 c7))), .val (.int (own_bit (own_adj n c0 c1 c2 c3 c4 c5 c6 c7))), .val (.int ([c0, c1, c2, c3, c4, c5, c6, c7].getD (k - 1) 0)), .val (.int (own_bit (own_edge c0 ([c0, c1, c2, c3, c4, c5, c6, c7].getD (k - 1) 0)))), .unset] [(.int (own_bit (own_dotAt c5 5 n))), (.int ((((((1 : Int32) + (own_bit (own_dotAt c0 0 n))) + (own_bit (own_dotAt c1 1 n))) + (own_bit (own_dotAt c2 2 n))) + (own_bit (own_dotAt c3 3 n))) + (own_bit (own_dotAt c4 4 n))))]) := fun tg_ kk_ => S309 tg_ (st310 tg_ kk_)
  have M310 := Fr.app M307 N310
  have S312 : own_Go p e below s₁ G T310 (mkF m 273 #[.val (.int n), .val (.int c0), .val (.int c1), .val (.int c2), .val (.int c3), .val (.int c4), .val (.int c5), .val (.int c6), .val (.int c7), .val (.int mn), .val (.int mx), .val (.int (own_bit (own_all n c0 c1 c2 c3 c4 c5 c6 c7))), .val (.int (own_bit (own_adj n c0 c1 c2 c3 c4 c5 c6 c7))), .val (.int ([c0, c1, c2, c3, c4, c5, c6, c7].getD (k - 1) 0)), .val (.int (own_bit (own_edge c0 ([c0, c1, c2, c3, c4, c5, c6, c7].getD (k - 1) 0)))), .unset] [(.int n), (.int (6 : Int32)), (.int c6), (.int (((((((1 : Int32) + (own_bit (own_dotAt c0 0 n))) + (own_bit (own_dotAt c1 1 n))) + (own_bit (own_dotAt c2 2 n))) + (own_bit (own_dotAt c3 3 n))) + (own_bit (own_dotAt c4 4 n))) + (own_bit (own_dotAt c5 5 n))))]) := fun tg_ kk_ => S311 tg_ (by
    refine XS.iadd X310.here hx rfl (hb hby d17_267) rfl ?_
    show Steps p.tables e below (T310.setTop (mkF m 268 #[.val (.int n), .val (.int c0), .val (.int c1), .val (.int c2), .val (.int c3), .val (.int c4), .val (.int c5), .val (.int c6), .val (.int c7), .val (.int mn), .val (.int mx), .val (.int (own_bit (own_all n c0 c1 c2 c3 c4 c5 c6 c7))), .val (.int (own_bit (own_adj n c0 c1 c2 c3 c4 c5 c6 c7))), .val (.int ([c0, c1, c2, c3, c4, c5, c6, c7].getD (k - 1) 0)), .val (.int (own_bit (own_edge c0 ([c0, c1, c2, c3, c4, c5, c6, c7].getD (k - 1) 0)))), .unset] [(.int (((((((1 : Int32) + (own_bit (own_dotAt c0 0 n))) + (own_bit (own_dotAt c1 1 n))) + (own_bit (own_dotAt c2 2 n))) + (own_bit (own_dotAt c3 3 n))) + (own_bit (own_dotAt c4 4 n))) + (own_bit (own_dotAt c5 5 n))))])) _
    refine XS.iload X310.here hx rfl (hb hby d17_268) rfl ?_
    show Steps p.tables e below (T310.setTop (mkF m 270 #[.val (.int n), .val (.int c0), .val (.int c1), .val (.int c2), .val (.int c3), .val (.int c4), .val (.int c5), .val (.int c6), .val (.int c7), .val (.int mn), .val (.int mx), .val (.int (own_bit (own_all n c0 c1 c2 c3 c4 c5 c6 c7))), .val (.int (own_bit (own_adj n c0 c1 c2 c3 c4 c5 c6 c7))), .val (.int ([c0, c1, c2, c3, c4, c5, c6, c7].getD (k - 1) 0)), .val (.int (own_bit (own_edge c0 ([c0, c1, c2, c3, c4, c5, c6, c7].getD (k - 1) 0)))), .unset] [(.int c6), (.int (((((((1 : Int32) + (own_bit (own_dotAt c0 0 n))) + (own_bit (own_dotAt c1 1 n))) + (own_bit (own_dotAt c2 2 n))) + (own_bit (own_dotAt c3 3 n))) + (own_bit (own_dotAt c4 4 n))) + (own_bit (own_dotAt c5 5 n))))])) _
    refine XS.bipush X310.here hx rfl (hb hby d17_270) ?_
    show Steps p.tables e below (T310.setTop (mkF m 272 #[.val (.int n), .val (.int c0), .val (.int c1), .val (.int c2), .val (.int c3), .val (.int c4), .val (.int c5), .val (.int c6), .val (.int c7), .val (.int mn), .val (.int mx), .val (.int (own_bit (own_all n c0 c1 c2 c3 c4 c5 c6 c7))), .val (.int (own_bit (own_adj n c0 c1 c2 c3 c4 c5 c6 c7))), .val (.int ([c0, c1, c2, c3, c4, c5, c6, c7].getD (k - 1) 0)), .val (.int (own_bit (own_edge c0 ([c0, c1, c2, c3, c4, c5, c6, c7].getD (k - 1) 0)))), .unset] [(.int (6 : Int32)), (.int c6), (.int (((((((1 : Int32) + (own_bit (own_dotAt c0 0 n))) + (own_bit (own_dotAt c1 1 n))) + (own_bit (own_dotAt c2 2 n))) + (own_bit (own_dotAt c3 3 n))) + (own_bit (own_dotAt c4 4 n))) + (own_bit (own_dotAt c5 5 n))))])) _
    refine XS.iloadN X310.here hx rfl (hb hby d17_272) rfl ?_
    exact kk_)
  obtain ⟨_, T313, h313, L313, X313, e313, hQ313, st313⟩ := own_callS X310 hx hZ (y := (⟨"com/example/tallyhook/tallyhook/core/EventTypeIsSegmentsPinLaw", "dotAt", "(CII)I"⟩ : MethodName)) hown (hw _ (List.mem_of_getElem? (i := 93) rfl)) (hw _ (List.mem_of_getElem? (i := 94) rfl)) (hw _ (List.mem_of_getElem? (i := 3) rfl)) (hw _ (List.mem_of_getElem? (i := 95) rfl)) (by decide) 1 (g := (mkF m 273 #[.val (.int n), .val (.int c0), .val (.int c1), .val (.int c2), .val (.int c3), .val (.int c4), .val (.int c5), .val (.int c6), .val (.int c7), .val (.int mn), .val (.int mx), .val (.int (own_bit (own_all n c0 c1 c2 c3 c4 c5 c6 c7))), .val (.int (own_bit (own_adj n c0 c1 c2 c3 c4 c5 c6 c7))), .val (.int ([c0, c1, c2, c3, c4, c5, c6, c7].getD (k - 1) 0)), .val (.int (own_bit (own_edge c0 ([c0, c1, c2, c3, c4, c5, c6, c7].getD (k - 1) 0)))), .unset] [(.int n), (.int (6 : Int32)), (.int c6), (.int (((((((1 : Int32) + (own_bit (own_dotAt c0 0 n))) + (own_bit (own_dotAt c1 1 n))) + (own_bit (own_dotAt c2 2 n))) + (own_bit (own_dotAt c3 3 n))) + (own_bit (own_dotAt c4 4 n))) + (own_bit (own_dotAt c5 5 n))))])) rfl (by rw [hml]; rfl) [(.int c6), (.int (6 : Int32)), (.int n)] [(.int (((((((1 : Int32) + (own_bit (own_dotAt c0 0 n))) + (own_bit (own_dotAt c1 1 n))) + (own_bit (own_dotAt c2 2 n))) + (own_bit (own_dotAt c3 3 n))) + (own_bit (own_dotAt c4 4 n))) + (own_bit (own_dotAt c5 5 n))))] (rm23 l Z a0 hw [] c6 6 n h0 n0 Z0) (lenOf pd23 rfl) rfl (by show 2 * 0 + _ ≤ _; exact Nat.le_of_eq rfl) (hb hby d17_273) (by decide) (by decide) e310 (by decide) (by decide)
  obtain ⟨rfl, N313, rfl⟩ := hQ313
  have S314 : own_Go p e below s₁ G T313 (mkF m 276 #[.val (.int n), .val (.int c0), .val (.int c1), .val (.int c2), .val (.int c3), .val (.int c4), .val (.int c5), .val (.int c6), .val (.int c7), .val (.int mn), .val (.int mx), .val (.int (own_bit (own_all n c0 c1 c2 c3 c4 c5 c6 c7))), .val (.int (own_bit (own_adj n c0 c1 c2 c3 c4 c5 c6 c7))), .val (.int ([c0, c1, c2, c3, c4, c5, c6, c7].getD (k - 1) 0)), .val (.int (own_bit (own_edge c0 ([c0, c1, c2, c3, c4, c5, c6, c7].getD (k - 1) 0)))), .unset] [(.int (own_bit (own_dotAt c6 6 n))), (.int (((((((1 : Int32) + (own_bit (own_dotAt c0 0 n))) + (own_bit (own_dotAt c1 1 n))) + (own_bit (own_dotAt c2 2 n))) + (own_bit (own_dotAt c3 3 n))) + (own_bit (own_dotAt c4 4 n))) + (own_bit (own_dotAt c5 5 n))))]) := fun tg_ kk_ => S312 tg_ (st313 tg_ kk_)
  have M313 := Fr.app M310 N313
  have S315 : own_Go p e below s₁ G T313 (mkF m 282 #[.val (.int n), .val (.int c0), .val (.int c1), .val (.int c2), .val (.int c3), .val (.int c4), .val (.int c5), .val (.int c6), .val (.int c7), .val (.int mn), .val (.int mx), .val (.int (own_bit (own_all n c0 c1 c2 c3 c4 c5 c6 c7))), .val (.int (own_bit (own_adj n c0 c1 c2 c3 c4 c5 c6 c7))), .val (.int ([c0, c1, c2, c3, c4, c5, c6, c7].getD (k - 1) 0)), .val (.int (own_bit (own_edge c0 ([c0, c1, c2, c3, c4, c5, c6, c7].getD (k - 1) 0)))), .unset] [(.int n), (.int (7 : Int32)), (.int c7), (.int ((((((((1 : Int32) + (own_bit (own_dotAt c0 0 n))) + (own_bit (own_dotAt c1 1 n))) + (own_bit (own_dotAt c2 2 n))) + (own_bit (own_dotAt c3 3 n))) + (own_bit (own_dotAt c4 4 n))) + (own_bit (own_dotAt c5 5 n))) + (own_bit (own_dotAt c6 6 n))))]) := fun tg_ kk_ => S314 tg_ (by
    refine XS.iadd X313.here hx rfl (hb hby d17_276) rfl ?_
    show Steps p.tables e below (T313.setTop (mkF m 277 #[.val (.int n), .val (.int c0), .val (.int c1), .val (.int c2), .val (.int c3), .val (.int c4), .val (.int c5), .val (.int c6), .val (.int c7), .val (.int mn), .val (.int mx), .val (.int (own_bit (own_all n c0 c1 c2 c3 c4 c5 c6 c7))), .val (.int (own_bit (own_adj n c0 c1 c2 c3 c4 c5 c6 c7))), .val (.int ([c0, c1, c2, c3, c4, c5, c6, c7].getD (k - 1) 0)), .val (.int (own_bit (own_edge c0 ([c0, c1, c2, c3, c4, c5, c6, c7].getD (k - 1) 0)))), .unset] [(.int ((((((((1 : Int32) + (own_bit (own_dotAt c0 0 n))) + (own_bit (own_dotAt c1 1 n))) + (own_bit (own_dotAt c2 2 n))) + (own_bit (own_dotAt c3 3 n))) + (own_bit (own_dotAt c4 4 n))) + (own_bit (own_dotAt c5 5 n))) + (own_bit (own_dotAt c6 6 n))))])) _
    refine XS.iload X313.here hx rfl (hb hby d17_277) rfl ?_
    show Steps p.tables e below (T313.setTop (mkF m 279 #[.val (.int n), .val (.int c0), .val (.int c1), .val (.int c2), .val (.int c3), .val (.int c4), .val (.int c5), .val (.int c6), .val (.int c7), .val (.int mn), .val (.int mx), .val (.int (own_bit (own_all n c0 c1 c2 c3 c4 c5 c6 c7))), .val (.int (own_bit (own_adj n c0 c1 c2 c3 c4 c5 c6 c7))), .val (.int ([c0, c1, c2, c3, c4, c5, c6, c7].getD (k - 1) 0)), .val (.int (own_bit (own_edge c0 ([c0, c1, c2, c3, c4, c5, c6, c7].getD (k - 1) 0)))), .unset] [(.int c7), (.int ((((((((1 : Int32) + (own_bit (own_dotAt c0 0 n))) + (own_bit (own_dotAt c1 1 n))) + (own_bit (own_dotAt c2 2 n))) + (own_bit (own_dotAt c3 3 n))) + (own_bit (own_dotAt c4 4 n))) + (own_bit (own_dotAt c5 5 n))) + (own_bit (own_dotAt c6 6 n))))])) _
    refine XS.bipush X313.here hx rfl (hb hby d17_279) ?_
    show Steps p.tables e below (T313.setTop (mkF m 281 #[.val (.int n), .val (.int c0), .val (.int c1), .val (.int c2), .val (.int c3), .val (.int c4), .val (.int c5), .val (.int c6), .val (.int c7), .val (.int mn), .val (.int mx), .val (.int (own_bit (own_all n c0 c1 c2 c3 c4 c5 c6 c7))), .val (.int (own_bit (own_adj n c0 c1 c2 c3 c4 c5 c6 c7))), .val (.int ([c0, c1, c2, c3, c4, c5, c6, c7].getD (k - 1) 0)), .val (.int (own_bit (own_edge c0 ([c0, c1, c2, c3, c4, c5, c6, c7].getD (k - 1) 0)))), .unset] [(.int (7 : Int32)), (.int c7), (.int ((((((((1 : Int32) + (own_bit (own_dotAt c0 0 n))) + (own_bit (own_dotAt c1 1 n))) + (own_bit (own_dotAt c2 2 n))) + (own_bit (own_dotAt c3 3 n))) + (own_bit (own_dotAt c4 4 n))) + (own_bit (own_dotAt c5 5 n))) + (own_bit (own_dotAt c6 6 n))))])) _
    refine XS.iloadN X313.here hx rfl (hb hby d17_281) rfl ?_
    exact kk_)
  obtain ⟨_, T316, h316, L316, X316, e316, hQ316, st316⟩ := own_callS X313 hx hZ (y := (⟨"com/example/tallyhook/tallyhook/core/EventTypeIsSegmentsPinLaw", "dotAt", "(CII)I"⟩ : MethodName)) hown (hw _ (List.mem_of_getElem? (i := 93) rfl)) (hw _ (List.mem_of_getElem? (i := 94) rfl)) (hw _ (List.mem_of_getElem? (i := 3) rfl)) (hw _ (List.mem_of_getElem? (i := 95) rfl)) (by decide) 1 (g := (mkF m 282 #[.val (.int n), .val (.int c0), .val (.int c1), .val (.int c2), .val (.int c3), .val (.int c4), .val (.int c5), .val (.int c6), .val (.int c7), .val (.int mn), .val (.int mx), .val (.int (own_bit (own_all n c0 c1 c2 c3 c4 c5 c6 c7))), .val (.int (own_bit (own_adj n c0 c1 c2 c3 c4 c5 c6 c7))), .val (.int ([c0, c1, c2, c3, c4, c5, c6, c7].getD (k - 1) 0)), .val (.int (own_bit (own_edge c0 ([c0, c1, c2, c3, c4, c5, c6, c7].getD (k - 1) 0)))), .unset] [(.int n), (.int (7 : Int32)), (.int c7), (.int ((((((((1 : Int32) + (own_bit (own_dotAt c0 0 n))) + (own_bit (own_dotAt c1 1 n))) + (own_bit (own_dotAt c2 2 n))) + (own_bit (own_dotAt c3 3 n))) + (own_bit (own_dotAt c4 4 n))) + (own_bit (own_dotAt c5 5 n))) + (own_bit (own_dotAt c6 6 n))))])) rfl (by rw [hml]; rfl) [(.int c7), (.int (7 : Int32)), (.int n)] [(.int ((((((((1 : Int32) + (own_bit (own_dotAt c0 0 n))) + (own_bit (own_dotAt c1 1 n))) + (own_bit (own_dotAt c2 2 n))) + (own_bit (own_dotAt c3 3 n))) + (own_bit (own_dotAt c4 4 n))) + (own_bit (own_dotAt c5 5 n))) + (own_bit (own_dotAt c6 6 n))))] (rm23 l Z a0 hw [] c7 7 n h0 n0 Z0) (lenOf pd23 rfl) rfl (by show 2 * 0 + _ ≤ _; exact Nat.le_of_eq rfl) (hb hby d17_282) (by decide) (by decide) e313 (by decide) (by decide)
  obtain ⟨rfl, N316, rfl⟩ := hQ316
  have S317 : own_Go p e below s₁ G T316 (mkF m 285 #[.val (.int n), .val (.int c0), .val (.int c1), .val (.int c2), .val (.int c3), .val (.int c4), .val (.int c5), .val (.int c6), .val (.int c7), .val (.int mn), .val (.int mx), .val (.int (own_bit (own_all n c0 c1 c2 c3 c4 c5 c6 c7))), .val (.int (own_bit (own_adj n c0 c1 c2 c3 c4 c5 c6 c7))), .val (.int ([c0, c1, c2, c3, c4, c5, c6, c7].getD (k - 1) 0)), .val (.int (own_bit (own_edge c0 ([c0, c1, c2, c3, c4, c5, c6, c7].getD (k - 1) 0)))), .unset] [(.int (own_bit (own_dotAt c7 7 n))), (.int ((((((((1 : Int32) + (own_bit (own_dotAt c0 0 n))) + (own_bit (own_dotAt c1 1 n))) + (own_bit (own_dotAt c2 2 n))) + (own_bit (own_dotAt c3 3 n))) + (own_bit (own_dotAt c4 4 n))) + (own_bit (own_dotAt c5 5 n))) + (own_bit (own_dotAt c6 6 n))))]) := fun tg_ kk_ => S315 tg_ (st316 tg_ kk_)
  have M316 := Fr.app M313 N316
  have S318 : own_Go p e below s₁ G T316 (mkF m 288 #[.val (.int n), .val (.int c0), .val (.int c1), .val (.int c2), .val (.int c3), .val (.int c4), .val (.int c5), .val (.int c6), .val (.int c7), .val (.int mn), .val (.int mx), .val (.int (own_bit (own_all n c0 c1 c2 c3 c4 c5 c6 c7))), .val (.int (own_bit (own_adj n c0 c1 c2 c3 c4 c5 c6 c7))), .val (.int ([c0, c1, c2, c3, c4, c5, c6, c7].getD (k - 1) 0)), .val (.int (own_bit (own_edge c0 ([c0, c1, c2, c3, c4, c5, c6, c7].getD (k - 1) 0)))), .val (.int (((((((((1 : Int32) + (own_bit (own_dotAt c0 0 n))) + (own_bit (own_dotAt c1 1 n))) + (own_bit (own_dotAt c2 2 n))) + (own_bit (own_dotAt c3 3 n))) + (own_bit (own_dotAt c4 4 n))) + (own_bit (own_dotAt c5 5 n))) + (own_bit (own_dotAt c6 6 n))) + (own_bit (own_dotAt c7 7 n))))] []) := fun tg_ kk_ => S317 tg_ (by
    refine XS.iadd X316.here hx rfl (hb hby d17_285) rfl ?_
    show Steps p.tables e below (T316.setTop (mkF m 286 #[.val (.int n), .val (.int c0), .val (.int c1), .val (.int c2), .val (.int c3), .val (.int c4), .val (.int c5), .val (.int c6), .val (.int c7), .val (.int mn), .val (.int mx), .val (.int (own_bit (own_all n c0 c1 c2 c3 c4 c5 c6 c7))), .val (.int (own_bit (own_adj n c0 c1 c2 c3 c4 c5 c6 c7))), .val (.int ([c0, c1, c2, c3, c4, c5, c6, c7].getD (k - 1) 0)), .val (.int (own_bit (own_edge c0 ([c0, c1, c2, c3, c4, c5, c6, c7].getD (k - 1) 0)))), .unset] [(.int (((((((((1 : Int32) + (own_bit (own_dotAt c0 0 n))) + (own_bit (own_dotAt c1 1 n))) + (own_bit (own_dotAt c2 2 n))) + (own_bit (own_dotAt c3 3 n))) + (own_bit (own_dotAt c4 4 n))) + (own_bit (own_dotAt c5 5 n))) + (own_bit (own_dotAt c6 6 n))) + (own_bit (own_dotAt c7 7 n))))])) _
    refine XS.istore X316.here hx rfl (hb hby d17_286) rfl (l' := #[.val (.int n), .val (.int c0), .val (.int c1), .val (.int c2), .val (.int c3), .val (.int c4), .val (.int c5), .val (.int c6), .val (.int c7), .val (.int mn), .val (.int mx), .val (.int (own_bit (own_all n c0 c1 c2 c3 c4 c5 c6 c7))), .val (.int (own_bit (own_adj n c0 c1 c2 c3 c4 c5 c6 c7))), .val (.int ([c0, c1, c2, c3, c4, c5, c6, c7].getD (k - 1) 0)), .val (.int (own_bit (own_edge c0 ([c0, c1, c2, c3, c4, c5, c6, c7].getD (k - 1) 0)))), .val (.int (((((((((1 : Int32) + (own_bit (own_dotAt c0 0 n))) + (own_bit (own_dotAt c1 1 n))) + (own_bit (own_dotAt c2 2 n))) + (own_bit (own_dotAt c3 3 n))) + (own_bit (own_dotAt c4 4 n))) + (own_bit (own_dotAt c5 5 n))) + (own_bit (own_dotAt c6 6 n))) + (own_bit (own_dotAt c7 7 n))))]) rfl ?_
    exact kk_)
  obtain ⟨sg, hsg⟩ : ∃ z, z = (own_segs n c0 c1 c2 c3 c4 c5 c6 c7) := ⟨_, rfl⟩
  have hsg2 : (((((((((1 : Int32) + (own_bit (own_dotAt c0 0 n))) + (own_bit (own_dotAt c1 1 n))) + (own_bit (own_dotAt c2 2 n))) + (own_bit (own_dotAt c3 3 n))) + (own_bit (own_dotAt c4 4 n))) + (own_bit (own_dotAt c5 5 n))) + (own_bit (own_dotAt c6 6 n))) + (own_bit (own_dotAt c7 7 n))) = sg := by rw [hsg]; rfl
  rw [hsg2] at S318
  obtain ⟨bal, hbal⟩ : ∃ z, z = (own_all n c0 c1 c2 c3 c4 c5 c6 c7) := ⟨_, rfl⟩
  rw [← hbal] at S318
  obtain ⟨bad, hbad⟩ : ∃ z, z = (own_adj n c0 c1 c2 c3 c4 c5 c6 c7) := ⟨_, rfl⟩
  rw [← hbad] at S318
  obtain ⟨bed, hbed⟩ : ∃ z, z = (own_edge c0 ([c0, c1, c2, c3, c4, c5, c6, c7].getD (k - 1) 0)) := ⟨_, rfl⟩
  rw [← hbed] at S318
  have href : own_ref k c0 c1 c2 c3 c4 c5 c6 c7 mn mx = own_fin bal bad bed sg mn mx := by unfold own_ref; rw [← hn, ← hbal, ← hbad, ← hbed, ← hsg]
  have S319 : own_Go p e below s₁ G T316 (mkF m 290 #[.val (.int n), .val (.int c0), .val (.int c1), .val (.int c2), .val (.int c3), .val (.int c4), .val (.int c5), .val (.int c6), .val (.int c7), .val (.int mn), .val (.int mx), .val (.int (own_bit bal)), .val (.int (own_bit bad)), .val (.int ([c0, c1, c2, c3, c4, c5, c6, c7].getD (k - 1) 0)), .val (.int (own_bit bed)), .val (.int sg)] [(.int (own_bit bal))]) := fun tg_ kk_ => S318 tg_ (by
    refine XS.iload X316.here hx rfl (hb hby d17_288) rfl ?_
    exact kk_)
  cases bal
  · have _ := N0
    have S320 : own_Go p e below s₁ G T316 (mkF m 322 #[.val (.int n), .val (.int c0), .val (.int c1), .val (.int c2), .val (.int c3), .val (.int c4), .val (.int c5), .val (.int c6), .val (.int c7), .val (.int mn), .val (.int mx), .val (.int (0 : Int32)), .val (.int (own_bit bad)), .val (.int ([c0, c1, c2, c3, c4, c5, c6, c7].getD (k - 1) 0)), .val (.int (own_bit bed)), .val (.int sg)] [(.int (0 : Int32))]) := fun tg_ kk_ => S319 tg_ (by
      refine XS.ifYes X316.here hx rfl (pc0 := 290) (pc' := 321) rfl (hb hby d17_290) rfl (XT.i0_eq_t (by decide)) (by decide) (by decide) ?_
      show Steps p.tables e below (T316.setTop (mkF m 321 #[.val (.int n), .val (.int c0), .val (.int c1), .val (.int c2), .val (.int c3), .val (.int c4), .val (.int c5), .val (.int c6), .val (.int c7), .val (.int mn), .val (.int mx), .val (.int (0 : Int32)), .val (.int (own_bit bad)), .val (.int ([c0, c1, c2, c3, c4, c5, c6, c7].getD (k - 1) 0)), .val (.int (own_bit bed)), .val (.int sg)] [])) _
      refine XS.iconst X316.here hx rfl (hb hby d17_321) ?_
      exact kk_)
    obtain ⟨fs, hr, hrun, hended, hW, hsame⟩ := X316.leave (v := some (.int (0 : Int32))) (fun h => by rw [Bd.returns] at h; cases h)
    refine ⟨_, _, ?_, hrun, hended, _, _, rfl, ?_, ⟨_, rfl⟩, hW, hsame.mono (by decide) (by decide)⟩
    · rw [← hG]; exact S320 _ (retN X316 hx (t := .boolean) Bd.returns (by simp) (hb hby d17_322) hr)
    · show Q17 Z k c0 c1 c2 c3 c4 c5 c6 c7 mn mx h0 n0 _ T316.heap _
      rw [e316]
      exact ⟨Or.inr ⟨by rw [href]; simp [own_fin], rfl⟩, M316, rfl⟩
  · have _ := N0
    have S321 : own_Go p e below s₁ G T316 (mkF m 295 #[.val (.int n), .val (.int c0), .val (.int c1), .val (.int c2), .val (.int c3), .val (.int c4), .val (.int c5), .val (.int c6), .val (.int c7), .val (.int mn), .val (.int mx), .val (.int (1 : Int32)), .val (.int (own_bit bad)), .val (.int ([c0, c1, c2, c3, c4, c5, c6, c7].getD (k - 1) 0)), .val (.int (own_bit bed)), .val (.int sg)] [(.int (own_bit bad))]) := fun tg_ kk_ => S319 tg_ (by
      refine XS.ifNo X316.here hx rfl (hb hby d17_290) rfl (XT.i0_eq_f (by decide)) ?_
      show Steps p.tables e below (T316.setTop (mkF m 293 #[.val (.int n), .val (.int c0), .val (.int c1), .val (.int c2), .val (.int c3), .val (.int c4), .val (.int c5), .val (.int c6), .val (.int c7), .val (.int mn), .val (.int mx), .val (.int (1 : Int32)), .val (.int (own_bit bad)), .val (.int ([c0, c1, c2, c3, c4, c5, c6, c7].getD (k - 1) 0)), .val (.int (own_bit bed)), .val (.int sg)] [])) _
      refine XS.iload X316.here hx rfl (hb hby d17_293) rfl ?_
      exact kk_)
    cases bad
    · have _ := N0
      have S322 : own_Go p e below s₁ G T316 (mkF m 300 #[.val (.int n), .val (.int c0), .val (.int c1), .val (.int c2), .val (.int c3), .val (.int c4), .val (.int c5), .val (.int c6), .val (.int c7), .val (.int mn), .val (.int mx), .val (.int (1 : Int32)), .val (.int (0 : Int32)), .val (.int ([c0, c1, c2, c3, c4, c5, c6, c7].getD (k - 1) 0)), .val (.int (own_bit bed)), .val (.int sg)] [(.int (own_bit bed))]) := fun tg_ kk_ => S321 tg_ (by
        refine XS.ifNo X316.here hx rfl (hb hby d17_295) rfl (XT.i0_ne_f (by decide)) ?_
        show Steps p.tables e below (T316.setTop (mkF m 298 #[.val (.int n), .val (.int c0), .val (.int c1), .val (.int c2), .val (.int c3), .val (.int c4), .val (.int c5), .val (.int c6), .val (.int c7), .val (.int mn), .val (.int mx), .val (.int (1 : Int32)), .val (.int (0 : Int32)), .val (.int ([c0, c1, c2, c3, c4, c5, c6, c7].getD (k - 1) 0)), .val (.int (own_bit bed)), .val (.int sg)] [])) _
        refine XS.iload X316.here hx rfl (hb hby d17_298) rfl ?_
        exact kk_)
      cases bed
      · have _ := N0
        have S323 : own_Go p e below s₁ G T316 (mkF m 307 #[.val (.int n), .val (.int c0), .val (.int c1), .val (.int c2), .val (.int c3), .val (.int c4), .val (.int c5), .val (.int c6), .val (.int c7), .val (.int mn), .val (.int mx), .val (.int (1 : Int32)), .val (.int (0 : Int32)), .val (.int ([c0, c1, c2, c3, c4, c5, c6, c7].getD (k - 1) 0)), .val (.int (0 : Int32)), .val (.int sg)] [(.int mn), (.int sg)]) := fun tg_ kk_ => S322 tg_ (by
          refine XS.ifNo X316.here hx rfl (hb hby d17_300) rfl (XT.i0_ne_f (by decide)) ?_
          show Steps p.tables e below (T316.setTop (mkF m 303 #[.val (.int n), .val (.int c0), .val (.int c1), .val (.int c2), .val (.int c3), .val (.int c4), .val (.int c5), .val (.int c6), .val (.int c7), .val (.int mn), .val (.int mx), .val (.int (1 : Int32)), .val (.int (0 : Int32)), .val (.int ([c0, c1, c2, c3, c4, c5, c6, c7].getD (k - 1) 0)), .val (.int (0 : Int32)), .val (.int sg)] [])) _
          refine XS.iload X316.here hx rfl (hb hby d17_303) rfl ?_
          show Steps p.tables e below (T316.setTop (mkF m 305 #[.val (.int n), .val (.int c0), .val (.int c1), .val (.int c2), .val (.int c3), .val (.int c4), .val (.int c5), .val (.int c6), .val (.int c7), .val (.int mn), .val (.int mx), .val (.int (1 : Int32)), .val (.int (0 : Int32)), .val (.int ([c0, c1, c2, c3, c4, c5, c6, c7].getD (k - 1) 0)), .val (.int (0 : Int32)), .val (.int sg)] [(.int sg)])) _
          refine XS.iload X316.here hx rfl (hb hby d17_305) rfl ?_
          exact kk_)
        by_cases hf3 : sg < mn
        · have _ := N0
          have S324 : own_Go p e below s₁ G T316 (mkF m 322 #[.val (.int n), .val (.int c0), .val (.int c1), .val (.int c2), .val (.int c3), .val (.int c4), .val (.int c5), .val (.int c6), .val (.int c7), .val (.int mn), .val (.int mx), .val (.int (1 : Int32)), .val (.int (0 : Int32)), .val (.int ([c0, c1, c2, c3, c4, c5, c6, c7].getD (k - 1) 0)), .val (.int (0 : Int32)), .val (.int sg)] [(.int (0 : Int32))]) := fun tg_ kk_ => S323 tg_ (by
            refine XS.icmpYes X316.here hx rfl (pc0 := 307) (pc' := 321) rfl (hb hby d17_307) rfl (XT.ii_lt_t hf3) (by decide) (by decide) ?_
            show Steps p.tables e below (T316.setTop (mkF m 321 #[.val (.int n), .val (.int c0), .val (.int c1), .val (.int c2), .val (.int c3), .val (.int c4), .val (.int c5), .val (.int c6), .val (.int c7), .val (.int mn), .val (.int mx), .val (.int (1 : Int32)), .val (.int (0 : Int32)), .val (.int ([c0, c1, c2, c3, c4, c5, c6, c7].getD (k - 1) 0)), .val (.int (0 : Int32)), .val (.int sg)] [])) _
            refine XS.iconst X316.here hx rfl (hb hby d17_321) ?_
            exact kk_)
          obtain ⟨fs, hr, hrun, hended, hW, hsame⟩ := X316.leave (v := some (.int (0 : Int32))) (fun h => by rw [Bd.returns] at h; cases h)
          refine ⟨_, _, ?_, hrun, hended, _, _, rfl, ?_, ⟨_, rfl⟩, hW, hsame.mono (by decide) (by decide)⟩
          · rw [← hG]; exact S324 _ (retN X316 hx (t := .boolean) Bd.returns (by simp) (hb hby d17_322) hr)
          · show Q17 Z k c0 c1 c2 c3 c4 c5 c6 c7 mn mx h0 n0 _ T316.heap _
            rw [e316]
            exact ⟨Or.inr ⟨by rw [href]; simp [own_fin, hf3], rfl⟩, M316, rfl⟩
        · have _ := N0
          have S325 : own_Go p e below s₁ G T316 (mkF m 314 #[.val (.int n), .val (.int c0), .val (.int c1), .val (.int c2), .val (.int c3), .val (.int c4), .val (.int c5), .val (.int c6), .val (.int c7), .val (.int mn), .val (.int mx), .val (.int (1 : Int32)), .val (.int (0 : Int32)), .val (.int ([c0, c1, c2, c3, c4, c5, c6, c7].getD (k - 1) 0)), .val (.int (0 : Int32)), .val (.int sg)] [(.int mx), (.int sg)]) := fun tg_ kk_ => S323 tg_ (by
            refine XS.icmpNo X316.here hx rfl (hb hby d17_307) rfl (XT.ii_lt_f hf3) ?_
            show Steps p.tables e below (T316.setTop (mkF m 310 #[.val (.int n), .val (.int c0), .val (.int c1), .val (.int c2), .val (.int c3), .val (.int c4), .val (.int c5), .val (.int c6), .val (.int c7), .val (.int mn), .val (.int mx), .val (.int (1 : Int32)), .val (.int (0 : Int32)), .val (.int ([c0, c1, c2, c3, c4, c5, c6, c7].getD (k - 1) 0)), .val (.int (0 : Int32)), .val (.int sg)] [])) _
            refine XS.iload X316.here hx rfl (hb hby d17_310) rfl ?_
            show Steps p.tables e below (T316.setTop (mkF m 312 #[.val (.int n), .val (.int c0), .val (.int c1), .val (.int c2), .val (.int c3), .val (.int c4), .val (.int c5), .val (.int c6), .val (.int c7), .val (.int mn), .val (.int mx), .val (.int (1 : Int32)), .val (.int (0 : Int32)), .val (.int ([c0, c1, c2, c3, c4, c5, c6, c7].getD (k - 1) 0)), .val (.int (0 : Int32)), .val (.int sg)] [(.int sg)])) _
            refine XS.iload X316.here hx rfl (hb hby d17_312) rfl ?_
            exact kk_)
          by_cases hf4 : mx < sg
          · have _ := N0
            have S326 : own_Go p e below s₁ G T316 (mkF m 322 #[.val (.int n), .val (.int c0), .val (.int c1), .val (.int c2), .val (.int c3), .val (.int c4), .val (.int c5), .val (.int c6), .val (.int c7), .val (.int mn), .val (.int mx), .val (.int (1 : Int32)), .val (.int (0 : Int32)), .val (.int ([c0, c1, c2, c3, c4, c5, c6, c7].getD (k - 1) 0)), .val (.int (0 : Int32)), .val (.int sg)] [(.int (0 : Int32))]) := fun tg_ kk_ => S325 tg_ (by
              refine XS.icmpYes X316.here hx rfl (pc0 := 314) (pc' := 321) rfl (hb hby d17_314) rfl (XT.ii_gt_t hf4) (by decide) (by decide) ?_
              show Steps p.tables e below (T316.setTop (mkF m 321 #[.val (.int n), .val (.int c0), .val (.int c1), .val (.int c2), .val (.int c3), .val (.int c4), .val (.int c5), .val (.int c6), .val (.int c7), .val (.int mn), .val (.int mx), .val (.int (1 : Int32)), .val (.int (0 : Int32)), .val (.int ([c0, c1, c2, c3, c4, c5, c6, c7].getD (k - 1) 0)), .val (.int (0 : Int32)), .val (.int sg)] [])) _
              refine XS.iconst X316.here hx rfl (hb hby d17_321) ?_
              exact kk_)
            obtain ⟨fs, hr, hrun, hended, hW, hsame⟩ := X316.leave (v := some (.int (0 : Int32))) (fun h => by rw [Bd.returns] at h; cases h)
            refine ⟨_, _, ?_, hrun, hended, _, _, rfl, ?_, ⟨_, rfl⟩, hW, hsame.mono (by decide) (by decide)⟩
            · rw [← hG]; exact S326 _ (retN X316 hx (t := .boolean) Bd.returns (by simp) (hb hby d17_322) hr)
            · show Q17 Z k c0 c1 c2 c3 c4 c5 c6 c7 mn mx h0 n0 _ T316.heap _
              rw [e316]
              exact ⟨Or.inr ⟨by rw [href]; simp [own_fin, hf3, hf4], rfl⟩, M316, rfl⟩
          · have _ := N0
            have S327 : own_Go p e below s₁ G T316 (mkF m 322 #[.val (.int n), .val (.int c0), .val (.int c1), .val (.int c2), .val (.int c3), .val (.int c4), .val (.int c5), .val (.int c6), .val (.int c7), .val (.int mn), .val (.int mx), .val (.int (1 : Int32)), .val (.int (0 : Int32)), .val (.int ([c0, c1, c2, c3, c4, c5, c6, c7].getD (k - 1) 0)), .val (.int (0 : Int32)), .val (.int sg)] [(.int (1 : Int32))]) := fun tg_ kk_ => S325 tg_ (by
              refine XS.icmpNo X316.here hx rfl (hb hby d17_314) rfl (XT.ii_gt_f hf4) ?_
              show Steps p.tables e below (T316.setTop (mkF m 317 #[.val (.int n), .val (.int c0), .val (.int c1), .val (.int c2), .val (.int c3), .val (.int c4), .val (.int c5), .val (.int c6), .val (.int c7), .val (.int mn), .val (.int mx), .val (.int (1 : Int32)), .val (.int (0 : Int32)), .val (.int ([c0, c1, c2, c3, c4, c5, c6, c7].getD (k - 1) 0)), .val (.int (0 : Int32)), .val (.int sg)] [])) _
              refine XS.iconst X316.here hx rfl (hb hby d17_317) ?_
              show Steps p.tables e below (T316.setTop (mkF m 318 #[.val (.int n), .val (.int c0), .val (.int c1), .val (.int c2), .val (.int c3), .val (.int c4), .val (.int c5), .val (.int c6), .val (.int c7), .val (.int mn), .val (.int mx), .val (.int (1 : Int32)), .val (.int (0 : Int32)), .val (.int ([c0, c1, c2, c3, c4, c5, c6, c7].getD (k - 1) 0)), .val (.int (0 : Int32)), .val (.int sg)] [(.int (1 : Int32))])) _
              refine XS.goto X316.here hx rfl (pc0 := 318) (pc' := 322) rfl (hb hby d17_318) (by decide) (by decide) ?_
              exact kk_)
            obtain ⟨fs, hr, hrun, hended, hW, hsame⟩ := X316.leave (v := some (.int (1 : Int32))) (fun h => by rw [Bd.returns] at h; cases h)
            refine ⟨_, _, ?_, hrun, hended, _, _, rfl, ?_, ⟨_, rfl⟩, hW, hsame.mono (by decide) (by decide)⟩
            · rw [← hG]; exact S327 _ (retN X316 hx (t := .boolean) Bd.returns (by simp) (hb hby d17_322) hr)
            · show Q17 Z k c0 c1 c2 c3 c4 c5 c6 c7 mn mx h0 n0 _ T316.heap _
              rw [e316]
              exact ⟨Or.inl ⟨by rw [href]; simp [own_fin, hf3, hf4], rfl⟩, M316, rfl⟩
      · have _ := N0
        have S328 : own_Go p e below s₁ G T316 (mkF m 322 #[.val (.int n), .val (.int c0), .val (.int c1), .val (.int c2), .val (.int c3), .val (.int c4), .val (.int c5), .val (.int c6), .val (.int c7), .val (.int mn), .val (.int mx), .val (.int (1 : Int32)), .val (.int (0 : Int32)), .val (.int ([c0, c1, c2, c3, c4, c5, c6, c7].getD (k - 1) 0)), .val (.int (1 : Int32)), .val (.int sg)] [(.int (0 : Int32))]) := fun tg_ kk_ => S322 tg_ (by
          refine XS.ifYes X316.here hx rfl (pc0 := 300) (pc' := 321) rfl (hb hby d17_300) rfl (XT.i0_ne_t (by decide)) (by decide) (by decide) ?_
          show Steps p.tables e below (T316.setTop (mkF m 321 #[.val (.int n), .val (.int c0), .val (.int c1), .val (.int c2), .val (.int c3), .val (.int c4), .val (.int c5), .val (.int c6), .val (.int c7), .val (.int mn), .val (.int mx), .val (.int (1 : Int32)), .val (.int (0 : Int32)), .val (.int ([c0, c1, c2, c3, c4, c5, c6, c7].getD (k - 1) 0)), .val (.int (1 : Int32)), .val (.int sg)] [])) _
          refine XS.iconst X316.here hx rfl (hb hby d17_321) ?_
          exact kk_)
        obtain ⟨fs, hr, hrun, hended, hW, hsame⟩ := X316.leave (v := some (.int (0 : Int32))) (fun h => by rw [Bd.returns] at h; cases h)
        refine ⟨_, _, ?_, hrun, hended, _, _, rfl, ?_, ⟨_, rfl⟩, hW, hsame.mono (by decide) (by decide)⟩
        · rw [← hG]; exact S328 _ (retN X316 hx (t := .boolean) Bd.returns (by simp) (hb hby d17_322) hr)
        · show Q17 Z k c0 c1 c2 c3 c4 c5 c6 c7 mn mx h0 n0 _ T316.heap _
          rw [e316]
          exact ⟨Or.inr ⟨by rw [href]; simp [own_fin], rfl⟩, M316, rfl⟩
    · have _ := N0
      have S329 : own_Go p e below s₁ G T316 (mkF m 322 #[.val (.int n), .val (.int c0), .val (.int c1), .val (.int c2), .val (.int c3), .val (.int c4), .val (.int c5), .val (.int c6), .val (.int c7), .val (.int mn), .val (.int mx), .val (.int (1 : Int32)), .val (.int (1 : Int32)), .val (.int ([c0, c1, c2, c3, c4, c5, c6, c7].getD (k - 1) 0)), .val (.int (own_bit bed)), .val (.int sg)] [(.int (0 : Int32))]) := fun tg_ kk_ => S321 tg_ (by
        refine XS.ifYes X316.here hx rfl (pc0 := 295) (pc' := 321) rfl (hb hby d17_295) rfl (XT.i0_ne_t (by decide)) (by decide) (by decide) ?_
        show Steps p.tables e below (T316.setTop (mkF m 321 #[.val (.int n), .val (.int c0), .val (.int c1), .val (.int c2), .val (.int c3), .val (.int c4), .val (.int c5), .val (.int c6), .val (.int c7), .val (.int mn), .val (.int mx), .val (.int (1 : Int32)), .val (.int (1 : Int32)), .val (.int ([c0, c1, c2, c3, c4, c5, c6, c7].getD (k - 1) 0)), .val (.int (own_bit bed)), .val (.int sg)] [])) _
        refine XS.iconst X316.here hx rfl (hb hby d17_321) ?_
        exact kk_)
      obtain ⟨fs, hr, hrun, hended, hW, hsame⟩ := X316.leave (v := some (.int (0 : Int32))) (fun h => by rw [Bd.returns] at h; cases h)
      refine ⟨_, _, ?_, hrun, hended, _, _, rfl, ?_, ⟨_, rfl⟩, hW, hsame.mono (by decide) (by decide)⟩
      · rw [← hG]; exact S329 _ (retN X316 hx (t := .boolean) Bd.returns (by simp) (hb hby d17_322) hr)
      · show Q17 Z k c0 c1 c2 c3 c4 c5 c6 c7 mn mx h0 n0 _ T316.heap _
        rw [e316]
        exact ⟨Or.inr ⟨by rw [href]; simp [own_fin], rfl⟩, M316, rfl⟩
def Q17z (Z : State) (c0 : Int32) (c1 : Int32) (c2 : Int32) (c3 : Int32) (c4 : Int32) (c5 : Int32) (c6 : Int32) (c7 : Int32) (mn : Int32) (mx : Int32) (h0 : Heap) (n0 : Nat) (v : Option Value) (h : Heap) (L : List Loc) : Prop := v = some (.int 0) ∧ Fr n0 L ∧ h0 = h
set_option maxRecDepth 65536 in
set_option maxHeartbeats 40000000 in
theorem rm17z (l : Launch) (Z : State) (a0 : Array Value) (hw : ∀ d ∈ tables_1, d.before a0 Z = true) (ws : List Jvm.Cond) (c0 : Int32) (c1 : Int32) (c2 : Int32) (c3 : Int32) (c4 : Int32) (c5 : Int32) (c6 : Int32) (c7 : Int32) (mn : Int32) (mx : Int32) (h0 : Heap) (n0 : Nat) (Z0 : n0 ≤ h0.size)  :
    MetFree l (⟨"com/example/tallyhook/tallyhook/core/EventTypeIsSegmentsPinLaw", "ref", "(ICCCCCCCCII)Z"⟩ : MethodName) (head1 (Jvm.Cond.code (⟨"com/example/tallyhook/tallyhook/core/EventTypeIsSegmentsPinLaw", "ref", "(ICCCCCCCCII)Z"⟩ : MethodName) method_11_code 16 (some .boolean) :: ws) ({ frames := 0, cells := 0, slots := 0, locals := 0 } : Room)) (fun aa_ U => aa_ = #[(.int (0 : Int32)), (.int c0), (.int c1), (.int c2), (.int c3), (.int c4), (.int c5), (.int c6), (.int c7), (.int mn), (.int mx)] ∧ Z.Warmed39 U.vm ∧ U.heap = h0) (fun _ _ _ _ _ => True) (fun _ U o U' => ∃ v L, o = .returned v ∧ Q17z Z c0 c1 c2 c3 c4 c5 c6 c7 mn mx h0 n0 v U'.heap L ∧ FrameEnd U o U' L ({ frames := 0, cells := 0, slots := 0, locals := 0 } : Room).cells ({ frames := 0, cells := 0, slots := 0, locals := 0 } : Room).slots) := by
  refine MetFree.of_bodySF (plainFor_of_name pn3) hisR ?_
  intro p e s m args below meth c s₁ Bd hml0 hP hK
  obtain ⟨rfl, hZ, hh⟩ := hP
  have hx := Bd.exec
  have hby := Bd.bytes
  have hml : c.maxLocals = 16 := hml0
  have hown : s.vm.findClass "com/example/tallyhook/tallyhook/core/EventTypeIsSegmentsPinLaw" = some m.cls := findClass_of_methodNamed Bd.named
  have hnm := (name_of_methodNamed Bd.named Bd.method).1
  have X0 : Stand p l e ({ frames := 0, cells := 0, slots := 0, locals := 0 } : Room) s m #[(.int (0 : Int32)), (.int c0), (.int c1), (.int c2), (.int c3), (.int c4), (.int c5), (.int c6), (.int c7), (.int mn), (.int mx)] below meth c s₁ [] 0 0 := Stand.of_body Bd
  have e0 : s₁.heap = h0 := by rw [← hh, Bd.state]; rfl
  have N0 := Fr.nil n0
  obtain ⟨G, hG⟩ : ∃ G, G = entryFrame m #[(.int (0 : Int32)), (.int c0), (.int c1), (.int c2), (.int c3), (.int c4), (.int c5), (.int c6), (.int c7), (.int mn), (.int mx)] 16 := ⟨_, rfl⟩
  have S0 : own_Go p e below s₁ G s₁ (mkF m 0 #[.val (.int (0 : Int32)), .val (.int c0), .val (.int c1), .val (.int c2), .val (.int c3), .val (.int c4), .val (.int c5), .val (.int c6), .val (.int c7), .val (.int mn), .val (.int mx), .unset, .unset, .unset, .unset, .unset] []) := fun tg_ kk_ => castTop (by rw [hG]; first | (simp [entryFrame, mkF, argsToLocals, Value.category, maxLocals]; done) | rfl) kk_
  have S330 : own_Go p e below s₁ G s₁ (mkF m 5 #[.val (.int (0 : Int32)), .val (.int c0), .val (.int c1), .val (.int c2), .val (.int c3), .val (.int c4), .val (.int c5), .val (.int c6), .val (.int c7), .val (.int mn), .val (.int mx), .unset, .unset, .unset, .unset, .unset] [(.int (0 : Int32))]) := fun tg_ kk_ => S0 tg_ (by
    refine XS.iloadN X0.here hx rfl (hb hby d17_0) rfl ?_
    show Steps p.tables e below (s₁.setTop (mkF m 1 #[.val (.int (0 : Int32)), .val (.int c0), .val (.int c1), .val (.int c2), .val (.int c3), .val (.int c4), .val (.int c5), .val (.int c6), .val (.int c7), .val (.int mn), .val (.int mx), .unset, .unset, .unset, .unset, .unset] [(.int (0 : Int32))])) _
    refine XS.ifNo X0.here hx rfl (hb hby d17_1) rfl (XT.i0_ne_f (by decide)) ?_
    show Steps p.tables e below (s₁.setTop (mkF m 4 #[.val (.int (0 : Int32)), .val (.int c0), .val (.int c1), .val (.int c2), .val (.int c3), .val (.int c4), .val (.int c5), .val (.int c6), .val (.int c7), .val (.int mn), .val (.int mx), .unset, .unset, .unset, .unset, .unset] [])) _
    refine XS.iconst X0.here hx rfl (hb hby d17_4) ?_
    exact kk_)
  obtain ⟨fs, hr, hrun, hended, hW, hsame⟩ := X0.leave (v := some (.int (0 : Int32))) (fun h => by rw [Bd.returns] at h; cases h)
  refine ⟨_, _, ?_, hrun, hended, _, _, rfl, ?_, ⟨_, rfl⟩, hW, hsame.mono (by decide) (by decide)⟩
  · rw [← hG]; exact S330 _ (retN X0 hx (t := .boolean) Bd.returns (by simp) (hb hby d17_5) hr)
  · show Q17z Z c0 c1 c2 c3 c4 c5 c6 c7 mn mx h0 n0 _ s₁.heap _
    rw [e0]
    exact ⟨rfl, N0, rfl⟩
theorem pn4 : plainName "jdk/internal/util/Preconditions" = true := by first | (simp [plainName, overriddenIn]; done) | decide +kernel
def Q16n (Z : State) (i : Int32) (n : Int32) (h0 : Heap) (n0 : Nat) (v : Option Value) (h : Heap) (L : List Loc) : Prop := v = some (.int i) ∧ Fr n0 L ∧ h0 = h
set_option maxRecDepth 65536 in
set_option maxHeartbeats 40000000 in
theorem rm16n (l : Launch) (Z : State) (a0 : Array Value) (hw : ∀ d ∈ tables_1, d.before a0 Z = true) (ws : List Jvm.Cond) (i : Int32) (n : Int32) (h0 : Heap) (n0 : Nat) (Z0 : n0 ≤ h0.size) (h1 : ¬ i < 0) (h2 : i < n) :
    MetFree l (⟨"jdk/internal/util/Preconditions", "checkIndex", "(IILjava/util/function/BiFunction;)I"⟩ : MethodName) (head1 (Jvm.Cond.code (⟨"jdk/internal/util/Preconditions", "checkIndex", "(IILjava/util/function/BiFunction;)I"⟩ : MethodName) jdk_41_method_11_code 3 (some .int) :: ws) ({ frames := 0, cells := 0, slots := 0, locals := 0 } : Room)) (fun aa_ U => aa_ = #[(.int i), (.int n), .null] ∧ Z.Warmed39 U.vm ∧ U.heap = h0) (fun _ _ _ _ _ => True) (fun _ U o U' => ∃ v L, o = .returned v ∧ Q16n Z i n h0 n0 v U'.heap L ∧ FrameEnd U o U' L ({ frames := 0, cells := 0, slots := 0, locals := 0 } : Room).cells ({ frames := 0, cells := 0, slots := 0, locals := 0 } : Room).slots) := by
  refine MetFree.of_bodySF (plainFor_of_name pn4) hisR ?_
  intro p e s m args below meth c s₁ Bd hml0 hP hK
  obtain ⟨rfl, hZ, hh⟩ := hP
  have hx := Bd.exec
  have hby := Bd.bytes
  have hml : c.maxLocals = 3 := hml0
  have hown : s.vm.findClass "jdk/internal/util/Preconditions" = some m.cls := findClass_of_methodNamed Bd.named
  have hnm := (name_of_methodNamed Bd.named Bd.method).1
  have X0 : Stand p l e ({ frames := 0, cells := 0, slots := 0, locals := 0 } : Room) s m #[(.int i), (.int n), .null] below meth c s₁ [] 0 0 := Stand.of_body Bd
  have e0 : s₁.heap = h0 := by rw [← hh, Bd.state]; rfl
  have N0 := Fr.nil n0
  obtain ⟨G, hG⟩ : ∃ G, G = entryFrame m #[(.int i), (.int n), .null] 3 := ⟨_, rfl⟩
  have S0 : own_Go p e below s₁ G s₁ (mkF m 0 #[.val (.int i), .val (.int n), .val .null] []) := fun tg_ kk_ => castTop (by rw [hG]; first | rfl | simp [entryFrame, mkF, argsToLocals, Value.category, maxLocals]) kk_
  have S331 : own_Go p e below s₁ G s₁ (mkF m 17 #[.val (.int i), .val (.int n), .val .null] [(.int i)]) := fun tg_ kk_ => S0 tg_ (by
    refine XS.iloadN X0.here hx rfl (hb hby d16_0) rfl ?_
    show Steps p.tables e below (s₁.setTop (mkF m 1 #[.val (.int i), .val (.int n), .val .null] [(.int i)])) _
    refine XS.ifNo X0.here hx rfl (hb hby d16_1) rfl (XT.i0_lt_f h1) ?_
    show Steps p.tables e below (s₁.setTop (mkF m 4 #[.val (.int i), .val (.int n), .val .null] [])) _
    refine XS.iloadN X0.here hx rfl (hb hby d16_4) rfl ?_
    show Steps p.tables e below (s₁.setTop (mkF m 5 #[.val (.int i), .val (.int n), .val .null] [(.int i)])) _
    refine XS.iloadN X0.here hx rfl (hb hby d16_5) rfl ?_
    show Steps p.tables e below (s₁.setTop (mkF m 6 #[.val (.int i), .val (.int n), .val .null] [(.int n), (.int i)])) _
    refine XS.icmpYes X0.here hx rfl (pc0 := 6) (pc' := 16) rfl (hb hby d16_6) rfl (XT.ii_lt_t h2) (by decide) (by decide) ?_
    show Steps p.tables e below (s₁.setTop (mkF m 16 #[.val (.int i), .val (.int n), .val .null] [])) _
    refine XS.iloadN X0.here hx rfl (hb hby d16_16) rfl ?_
    exact kk_)
  obtain ⟨fs, hr, hrun, hended, hW, hsame⟩ := X0.leave (v := some (.int i)) (fun h => by rw [Bd.returns] at h; cases h)
  refine ⟨_, _, ?_, hrun, hended, _, _, rfl, ?_, ⟨_, rfl⟩, hW, hsame.mono (by decide) (by decide)⟩
  · rw [← hG]; exact S331 _ (retI X0 hx Bd.returns (hb hby d16_17) hr)
  · show Q16n Z i n h0 n0 _ s₁.heap _
    rw [e0]
    exact ⟨rfl, N0, rfl⟩
def Q16r (Z : State) (i : Int32) (n : Int32) (f : Addr) (h0 : Heap) (n0 : Nat) (v : Option Value) (h : Heap) (L : List Loc) : Prop := v = some (.int i) ∧ Fr n0 L ∧ h0 = h
set_option maxRecDepth 65536 in
set_option maxHeartbeats 40000000 in
theorem rm16r (l : Launch) (Z : State) (a0 : Array Value) (hw : ∀ d ∈ tables_1, d.before a0 Z = true) (ws : List Jvm.Cond) (i : Int32) (n : Int32) (f : Addr) (h0 : Heap) (n0 : Nat) (Z0 : n0 ≤ h0.size) (h1 : ¬ i < 0) (h2 : i < n) :
    MetFree l (⟨"jdk/internal/util/Preconditions", "checkIndex", "(IILjava/util/function/BiFunction;)I"⟩ : MethodName) (head1 (Jvm.Cond.code (⟨"jdk/internal/util/Preconditions", "checkIndex", "(IILjava/util/function/BiFunction;)I"⟩ : MethodName) jdk_41_method_11_code 3 (some .int) :: ws) ({ frames := 0, cells := 0, slots := 0, locals := 0 } : Room)) (fun aa_ U => aa_ = #[(.int i), (.int n), (.ref f)] ∧ Z.Warmed39 U.vm ∧ U.heap = h0) (fun _ _ _ _ _ => True) (fun _ U o U' => ∃ v L, o = .returned v ∧ Q16r Z i n f h0 n0 v U'.heap L ∧ FrameEnd U o U' L ({ frames := 0, cells := 0, slots := 0, locals := 0 } : Room).cells ({ frames := 0, cells := 0, slots := 0, locals := 0 } : Room).slots) := by
  refine MetFree.of_bodySF (plainFor_of_name pn4) hisR ?_
  intro p e s m args below meth c s₁ Bd hml0 hP hK
  obtain ⟨rfl, hZ, hh⟩ := hP
  have hx := Bd.exec
  have hby := Bd.bytes
  have hml : c.maxLocals = 3 := hml0
  have hown : s.vm.findClass "jdk/internal/util/Preconditions" = some m.cls := findClass_of_methodNamed Bd.named
  have hnm := (name_of_methodNamed Bd.named Bd.method).1
  have X0 : Stand p l e ({ frames := 0, cells := 0, slots := 0, locals := 0 } : Room) s m #[(.int i), (.int n), (.ref f)] below meth c s₁ [] 0 0 := Stand.of_body Bd
  have e0 : s₁.heap = h0 := by rw [← hh, Bd.state]; rfl
  have N0 := Fr.nil n0
  obtain ⟨G, hG⟩ : ∃ G, G = entryFrame m #[(.int i), (.int n), (.ref f)] 3 := ⟨_, rfl⟩
  have S0 : own_Go p e below s₁ G s₁ (mkF m 0 #[.val (.int i), .val (.int n), .val (.ref f)] []) := fun tg_ kk_ => castTop (by rw [hG]; first | rfl | simp [entryFrame, mkF, argsToLocals, Value.category, maxLocals]) kk_
  have S332 : own_Go p e below s₁ G s₁ (mkF m 17 #[.val (.int i), .val (.int n), .val (.ref f)] [(.int i)]) := fun tg_ kk_ => S0 tg_ (by
    refine XS.iloadN X0.here hx rfl (hb hby d16_0) rfl ?_
    show Steps p.tables e below (s₁.setTop (mkF m 1 #[.val (.int i), .val (.int n), .val (.ref f)] [(.int i)])) _
    refine XS.ifNo X0.here hx rfl (hb hby d16_1) rfl (XT.i0_lt_f h1) ?_
    show Steps p.tables e below (s₁.setTop (mkF m 4 #[.val (.int i), .val (.int n), .val (.ref f)] [])) _
    refine XS.iloadN X0.here hx rfl (hb hby d16_4) rfl ?_
    show Steps p.tables e below (s₁.setTop (mkF m 5 #[.val (.int i), .val (.int n), .val (.ref f)] [(.int i)])) _
    refine XS.iloadN X0.here hx rfl (hb hby d16_5) rfl ?_
    show Steps p.tables e below (s₁.setTop (mkF m 6 #[.val (.int i), .val (.int n), .val (.ref f)] [(.int n), (.int i)])) _
    refine XS.icmpYes X0.here hx rfl (pc0 := 6) (pc' := 16) rfl (hb hby d16_6) rfl (XT.ii_lt_t h2) (by decide) (by decide) ?_
    show Steps p.tables e below (s₁.setTop (mkF m 16 #[.val (.int i), .val (.int n), .val (.ref f)] [])) _
    refine XS.iloadN X0.here hx rfl (hb hby d16_16) rfl ?_
    exact kk_)
  obtain ⟨fs, hr, hrun, hended, hW, hsame⟩ := X0.leave (v := some (.int i)) (fun h => by rw [Bd.returns] at h; cases h)
  refine ⟨_, _, ?_, hrun, hended, _, _, rfl, ?_, ⟨_, rfl⟩, hW, hsame.mono (by decide) (by decide)⟩
  · rw [← hG]; exact S332 _ (retI X0 hx Bd.returns (hb hby d16_17) hr)
  · show Q16r Z i n f h0 n0 _ s₁.heap _
    rw [e0]
    exact ⟨rfl, N0, rfl⟩
def Q15 (Z : State) (i : Int32) (n : Int32) (h0 : Heap) (n0 : Nat) (v : Option Value) (h : Heap) (L : List Loc) : Prop := v = none ∧ Fr n0 L ∧ h0 = h
set_option maxRecDepth 65536 in
set_option maxHeartbeats 40000000 in
theorem rm15 (l : Launch) (Z : State) (a0 : Array Value) (hw : ∀ d ∈ tables_1, d.before a0 Z = true) (ws : List Jvm.Cond) (i : Int32) (n : Int32) (h0 : Heap) (n0 : Nat) (Z0 : n0 ≤ h0.size) (h1 : ¬ i < 0) (h2 : i < n) (fm : Value) (hfm : fm.isRef = true) (O : Old Z n0 h0) (SF : Sta Z Z.heap "jdk/internal/util/Preconditions" "SIOOBE_FORMATTER" "Ljava/util/function/BiFunction;" fm) :
    MetFree l (⟨"java/lang/String", "checkIndex", "(II)V"⟩ : MethodName) (head1 (Jvm.Cond.code (⟨"java/lang/String", "checkIndex", "(II)V"⟩ : MethodName) jdk_42_method_155_code 2 none :: ws) ({ frames := 1, cells := 0, slots := 0, locals := 14 } : Room)) (fun aa_ U => aa_ = #[(.int i), (.int n)] ∧ Z.Warmed39 U.vm ∧ U.heap = h0) (fun _ _ _ _ _ => True) (fun _ U o U' => ∃ v L, o = .returned v ∧ Q15 Z i n h0 n0 v U'.heap L ∧ FrameEnd U o U' L ({ frames := 1, cells := 0, slots := 0, locals := 14 } : Room).cells ({ frames := 1, cells := 0, slots := 0, locals := 14 } : Room).slots) := by
  refine MetFree.of_bodySF (plainFor_of_name pn2) hisR ?_
  intro p e s m args below meth c s₁ Bd hml0 hP hK
  obtain ⟨rfl, hZ, hh⟩ := hP
  have hx := Bd.exec
  have hby := Bd.bytes
  have hml : c.maxLocals = 2 := hml0
  have hown : s.vm.findClass "java/lang/String" = some m.cls := findClass_of_methodNamed Bd.named
  have hnm := (name_of_methodNamed Bd.named Bd.method).1
  have X0 : Stand p l e ({ frames := 1, cells := 0, slots := 0, locals := 14 } : Room) s m #[(.int i), (.int n)] below meth c s₁ [] 0 0 := Stand.of_body Bd
  have e0 : s₁.heap = h0 := by rw [← hh, Bd.state]; rfl
  have N0 := Fr.nil n0
  obtain ⟨G, hG⟩ : ∃ G, G = entryFrame m #[(.int i), (.int n)] 2 := ⟨_, rfl⟩
  have S0 : own_Go p e below s₁ G s₁ (mkF m 0 #[.val (.int i), .val (.int n)] []) := fun tg_ kk_ => castTop (by rw [hG]; first | rfl | simp [entryFrame, mkF, argsToLocals, Value.category, maxLocals]) kk_
  rcases ref_cases hfm with rfl | ⟨f, rfl⟩
  · have _ := N0
    have S333 : own_Go p e below s₁ G s₁ (mkF m 2 #[.val (.int i), .val (.int n)] [(.int n), (.int i)]) := fun tg_ kk_ => S0 tg_ (by
      refine XS.iloadN X0.here hx rfl (hb hby d15_0) rfl ?_
      show Steps p.tables e below (s₁.setTop (mkF m 1 #[.val (.int i), .val (.int n)] [(.int i)])) _
      refine XS.iloadN X0.here hx rfl (hb hby d15_1) rfl ?_
      exact kk_)
    obtain ⟨T334, X334, e334, st334⟩ := getS X0 hx hZ (host := "") hown (hw _ (List.mem_of_getElem? (i := 70) rfl)) Via.refl e0 (SF.ext O.2) (g := (mkF m 2 #[.val (.int i), .val (.int n)] [(.int n), (.int i)])) rfl (hb hby d15_2)
    have S335 : own_Go p e below s₁ G T334 (mkF m 5 #[.val (.int i), .val (.int n)] [.null, (.int n), (.int i)]) := fun tg_ kk_ => S333 tg_ (st334 tg_ kk_)
    obtain ⟨_, T336, h336, L336, X336, e336, hQ336, st336⟩ := own_callS X334 hx hZ (y := (⟨"jdk/internal/util/Preconditions", "checkIndex", "(IILjava/util/function/BiFunction;)I"⟩ : MethodName)) hown (hw _ (List.mem_of_getElem? (i := 72) rfl)) (hw _ (List.mem_of_getElem? (i := 73) rfl)) (hw _ (List.mem_of_getElem? (i := 71) rfl)) (hw _ (List.mem_of_getElem? (i := 74) rfl)) (by decide) 0 (g := (mkF m 5 #[.val (.int i), .val (.int n)] [.null, (.int n), (.int i)])) rfl (by rw [hml]; rfl) [(.int i), (.int n), .null] [] (rm16n l Z a0 hw [] i n h0 n0 Z0 h1 h2) (lenOf pd17 rfl) rfl (by show 2 * 0 + _ ≤ _; exact Nat.le_of_eq rfl) (hb hby d15_5) (by decide) (by decide) e334 (by decide) (by decide)
    obtain ⟨rfl, N336, rfl⟩ := hQ336
    have S337 : own_Go p e below s₁ G T336 (mkF m 8 #[.val (.int i), .val (.int n)] [(.int i)]) := fun tg_ kk_ => S335 tg_ (st336 tg_ kk_)
    have M336 := Fr.app N0 N336
    have S338 : own_Go p e below s₁ G T336 (mkF m 9 #[.val (.int i), .val (.int n)] []) := fun tg_ kk_ => S337 tg_ (by
      refine XT.pop X336.here hx rfl (hb hby d15_8) rfl rfl ?_
      exact kk_)
    obtain ⟨fs, hr, hrun, hended, hW, hsame⟩ := X336.leave (v := none) (fun _ => rfl)
    refine ⟨_, _, ?_, hrun, hended, _, _, rfl, ?_, ⟨_, rfl⟩, hW, hsame.mono (by decide) (by decide)⟩
    · rw [← hG]; exact S338 _ (X336.returnOut hx Bd.returns (hb hby d15_9) hr)
    · show Q15 Z i n h0 n0 _ T336.heap _
      rw [e336]
      exact ⟨rfl, M336, rfl⟩
  · have _ := N0
    have S339 : own_Go p e below s₁ G s₁ (mkF m 2 #[.val (.int i), .val (.int n)] [(.int n), (.int i)]) := fun tg_ kk_ => S0 tg_ (by
      refine XS.iloadN X0.here hx rfl (hb hby d15_0) rfl ?_
      show Steps p.tables e below (s₁.setTop (mkF m 1 #[.val (.int i), .val (.int n)] [(.int i)])) _
      refine XS.iloadN X0.here hx rfl (hb hby d15_1) rfl ?_
      exact kk_)
    obtain ⟨T340, X340, e340, st340⟩ := getS X0 hx hZ (host := "") hown (hw _ (List.mem_of_getElem? (i := 70) rfl)) Via.refl e0 (SF.ext O.2) (g := (mkF m 2 #[.val (.int i), .val (.int n)] [(.int n), (.int i)])) rfl (hb hby d15_2)
    have S341 : own_Go p e below s₁ G T340 (mkF m 5 #[.val (.int i), .val (.int n)] [(.ref f), (.int n), (.int i)]) := fun tg_ kk_ => S339 tg_ (st340 tg_ kk_)
    obtain ⟨_, T342, h342, L342, X342, e342, hQ342, st342⟩ := own_callS X340 hx hZ (y := (⟨"jdk/internal/util/Preconditions", "checkIndex", "(IILjava/util/function/BiFunction;)I"⟩ : MethodName)) hown (hw _ (List.mem_of_getElem? (i := 72) rfl)) (hw _ (List.mem_of_getElem? (i := 73) rfl)) (hw _ (List.mem_of_getElem? (i := 71) rfl)) (hw _ (List.mem_of_getElem? (i := 74) rfl)) (by decide) 0 (g := (mkF m 5 #[.val (.int i), .val (.int n)] [(.ref f), (.int n), (.int i)])) rfl (by rw [hml]; rfl) [(.int i), (.int n), (.ref f)] [] (rm16r l Z a0 hw [] i n f h0 n0 Z0 h1 h2) (lenOf pd17 rfl) rfl (by show 2 * 0 + _ ≤ _; exact Nat.le_of_eq rfl) (hb hby d15_5) (by decide) (by decide) e340 (by decide) (by decide)
    obtain ⟨rfl, N342, rfl⟩ := hQ342
    have S343 : own_Go p e below s₁ G T342 (mkF m 8 #[.val (.int i), .val (.int n)] [(.int i)]) := fun tg_ kk_ => S341 tg_ (st342 tg_ kk_)
    have M342 := Fr.app N0 N342
    have S344 : own_Go p e below s₁ G T342 (mkF m 9 #[.val (.int i), .val (.int n)] []) := fun tg_ kk_ => S343 tg_ (by
      refine XT.pop X342.here hx rfl (hb hby d15_8) rfl rfl ?_
      exact kk_)
    obtain ⟨fs, hr, hrun, hended, hW, hsame⟩ := X342.leave (v := none) (fun _ => rfl)
    refine ⟨_, _, ?_, hrun, hended, _, _, rfl, ?_, ⟨_, rfl⟩, hW, hsame.mono (by decide) (by decide)⟩
    · rw [← hG]; exact S344 _ (X342.returnOut hx Bd.returns (hb hby d15_9) hr)
    · show Q15 Z i n h0 n0 _ T342.heap _
      rw [e342]
      exact ⟨rfl, M342, rfl⟩
theorem pn5 : plainName "java/lang/StringLatin1" = true := by first | (simp [plainName, overriddenIn]; done) | decide +kernel
def Q14 (Z : State) (t : Addr) (i : Nat) (cs : List Int32) (h0 : Heap) (n0 : Nat) (v : Option Value) (h : Heap) (L : List Loc) : Prop := v = some (.int (cs.getD i 0)) ∧ Fr n0 L ∧ h0 = h
set_option maxRecDepth 65536 in
set_option maxHeartbeats 40000000 in
theorem rm14 (l : Launch) (Z : State) (a0 : Array Value) (hw : ∀ d ∈ tables_1, d.before a0 Z = true) (ws : List Jvm.Cond) (t : Addr) (i : Nat) (cs : List Int32) (h0 : Heap) (n0 : Nat) (Z0 : n0 ≤ h0.size) (kt : ClassId) (V : Arv Z h0 t kt .byte (Int32.ofNat cs.length) (cs.map own_vb) (.int 0)) (hi : i < cs.length) (hn : cs.length ≤ 1000) (hc : own_B (cs.getD i 0)) (fm : Value) (hfm : fm.isRef = true) (O : Old Z n0 h0) (SF : Sta Z Z.heap "jdk/internal/util/Preconditions" "SIOOBE_FORMATTER" "Ljava/util/function/BiFunction;" fm) :
    MetFree l (⟨"java/lang/StringLatin1", "charAt", "([BI)C"⟩ : MethodName) (head1 (Jvm.Cond.code (⟨"java/lang/StringLatin1", "charAt", "([BI)C"⟩ : MethodName) jdk_43_method_2_code 2 (some .char) :: ws) ({ frames := 2, cells := 0, slots := 0, locals := 28 } : Room)) (fun aa_ U => aa_ = #[(.ref t), (.int (Int32.ofNat i))] ∧ Z.Warmed39 U.vm ∧ U.heap = h0) (fun _ _ _ _ _ => True) (fun _ U o U' => ∃ v L, o = .returned v ∧ Q14 Z t i cs h0 n0 v U'.heap L ∧ FrameEnd U o U' L ({ frames := 2, cells := 0, slots := 0, locals := 28 } : Room).cells ({ frames := 2, cells := 0, slots := 0, locals := 28 } : Room).slots) := by
  refine MetFree.of_bodySF (plainFor_of_name pn5) hisR ?_
  intro p e s m args below meth c s₁ Bd hml0 hP hK
  obtain ⟨rfl, hZ, hh⟩ := hP
  have hx := Bd.exec
  have hby := Bd.bytes
  have hml : c.maxLocals = 2 := hml0
  have hown : s.vm.findClass "java/lang/StringLatin1" = some m.cls := findClass_of_methodNamed Bd.named
  have hnm := (name_of_methodNamed Bd.named Bd.method).1
  have X0 : Stand p l e ({ frames := 2, cells := 0, slots := 0, locals := 28 } : Room) s m #[(.ref t), (.int (Int32.ofNat i))] below meth c s₁ [] 0 0 := Stand.of_body Bd
  have e0 : s₁.heap = h0 := by rw [← hh, Bd.state]; rfl
  have N0 := Fr.nil n0
  obtain ⟨G, hG⟩ : ∃ G, G = entryFrame m #[(.ref t), (.int (Int32.ofNat i))] 2 := ⟨_, rfl⟩
  have S0 : own_Go p e below s₁ G s₁ (mkF m 0 #[.val (.ref t), .val (.int (Int32.ofNat i))] []) := fun tg_ kk_ => castTop (by rw [hG]; first | rfl | simp [entryFrame, mkF, argsToLocals, Value.category, maxLocals]) kk_
  obtain ⟨cl, Ar, -, Sz, Mn, H, -⟩ := V
  have at1 : cl.slots[(Int32.ofNat i).toNatClampNeg]? = some (.int (own_lo (cs.getD i 0))) := H.at (own_in32 Sz hi (by omega)) (by rw [own_n32 (by omega)]; exact own_getB cs i hi _)
  have S345 : own_Go p e below s₁ G s₁ (mkF m 3 #[.val (.ref t), .val (.int (Int32.ofNat i))] [(.int (Int32.ofNat cs.length)), (.int (Int32.ofNat i))]) := fun tg_ kk_ => S0 tg_ (by
    refine XS.iloadN X0.here hx rfl (hb hby d14_0) rfl ?_
    show Steps p.tables e below (s₁.setTop (mkF m 1 #[.val (.ref t), .val (.int (Int32.ofNat i))] [(.int (Int32.ofNat i))])) _
    refine XS.aloadN X0.here hx rfl (hb hby d14_1) rfl rfl ?_
    show Steps p.tables e below (s₁.setTop (mkF m 2 #[.val (.ref t), .val (.int (Int32.ofNat i))] [(.ref t), (.int (Int32.ofNat i))])) _
    refine X0.arraylength hx (cell := cl) (by rw [e0]; exact Ar.1) (State.isArrayOf_alike hZ.alike Ar.2.1) (g := (mkF m 2 #[.val (.ref t), .val (.int (Int32.ofNat i))] [(.ref t), (.int (Int32.ofNat i))])) rfl (rest := [(.int (Int32.ofNat i))]) rfl (hb hby d14_2) _ ?_
    rw [len_of Sz Mn]
    exact kk_)
  obtain ⟨_, T346, h346, L346, X346, e346, hQ346, st346⟩ := own_callS X0 hx hZ (y := (⟨"java/lang/String", "checkIndex", "(II)V"⟩ : MethodName)) hown (hw _ (List.mem_of_getElem? (i := 67) rfl)) (hw _ (List.mem_of_getElem? (i := 68) rfl)) (hw _ (List.mem_of_getElem? (i := 11) rfl)) (hw _ (List.mem_of_getElem? (i := 69) rfl)) (by decide) 0 (g := (mkF m 3 #[.val (.ref t), .val (.int (Int32.ofNat i))] [(.int (Int32.ofNat cs.length)), (.int (Int32.ofNat i))])) rfl (by rw [hml]; rfl) [(.int (Int32.ofNat i)), (.int (Int32.ofNat cs.length))] [] (rm15 l Z a0 hw [] (Int32.ofNat i) (Int32.ofNat cs.length) h0 n0 Z0 (own_nn32 (by omega)) (own_lt32 hi (by omega)) fm hfm O SF) (lenOf pd16 rfl) rfl (by show 2 * 0 + _ ≤ _; exact Nat.le_of_eq rfl) (hb hby d14_3) (by decide) (by decide) e0 (by decide) (by decide)
  obtain ⟨rfl, N346, rfl⟩ := hQ346
  have S347 : own_Go p e below s₁ G T346 (mkF m 6 #[.val (.ref t), .val (.int (Int32.ofNat i))] []) := fun tg_ kk_ => S345 tg_ (st346 tg_ kk_)
  have M346 := Fr.app N0 N346
  have S348 : own_Go p e below s₁ G T346 (mkF m 14 #[.val (.ref t), .val (.int (Int32.ofNat i))] [(.int (((own_lo (cs.getD i 0)) &&& (255 : Int32)).toUInt32.toUInt16.toUInt32.toInt32))]) := fun tg_ kk_ => S347 tg_ (by
    refine XS.aloadN X346.here hx rfl (hb hby d14_6) rfl rfl ?_
    show Steps p.tables e below (T346.setTop (mkF m 7 #[.val (.ref t), .val (.int (Int32.ofNat i))] [(.ref t)])) _
    refine XS.iloadN X346.here hx rfl (hb hby d14_7) rfl ?_
    show Steps p.tables e below (T346.setTop (mkF m 8 #[.val (.ref t), .val (.int (Int32.ofNat i))] [(.int (Int32.ofNat i)), (.ref t)])) _
    refine X346.baloadBytes hx (j := (Int32.ofNat i)) (v := (.int (own_lo (cs.getD i 0)))) (cell := cl) (by rw [e346]; exact Ar.1) (State.isArrayOf_alike hZ.alike Ar.2.1) Ar.2.2 (own_in32 Sz hi (by omega)) at1 (g := (mkF m 8 #[.val (.ref t), .val (.int (Int32.ofNat i))] [(.int (Int32.ofNat i)), (.ref t)])) rfl rfl (hb hby d14_8) _ ?_
    show Steps p.tables e below (T346.setTop (mkF m 9 #[.val (.ref t), .val (.int (Int32.ofNat i))] [(.int (own_lo (cs.getD i 0)))])) _
    refine XS.sipush X346.here hx rfl (hb hby d14_9) ?_
    show Steps p.tables e below (T346.setTop (mkF m 12 #[.val (.ref t), .val (.int (Int32.ofNat i))] [(.int (255 : Int32)), (.int (own_lo (cs.getD i 0)))])) _
    refine XS.iand X346.here hx rfl (hb hby d14_12) rfl ?_
    show Steps p.tables e below (T346.setTop (mkF m 13 #[.val (.ref t), .val (.int (Int32.ofNat i))] [(.int ((own_lo (cs.getD i 0)) &&& (255 : Int32)))])) _
    refine XT.i2c X346.here hx rfl (hb hby d14_13) rfl ?_
    exact kk_)
  have hq : (((own_lo (cs.getD i 0)) &&& (255 : Int32)).toUInt32.toUInt16.toUInt32.toInt32) = cs.getD i 0 := by rw [own_lo_mask hc.1 hc.2]; exact own_nar_char hc.ch
  rw [hq] at S348
  obtain ⟨fs, hr, hrun, hended, hW, hsame⟩ := X346.leave (v := some (.int (nar .char (cs.getD i 0)))) (fun h => by rw [Bd.returns] at h; cases h)
  refine ⟨_, _, ?_, hrun, hended, _, _, rfl, ?_, ⟨_, rfl⟩, hW, hsame.mono (by decide) (by decide)⟩
  · rw [← hG]; exact S348 _ (retN X346 hx (t := .char) Bd.returns (by simp) (hb hby d14_14) hr)
  · show Q14 Z t i cs h0 n0 _ T346.heap _
    rw [e346]
    exact ⟨by rw [own_nar_char hc.ch], M346, rfl⟩
/-- a String of chars below 256 is of the one form -/
theorem own_Str.lat {Z : State} {h : Heap} {x t : Addr} {cs : List Int32} (S : own_Str Z h x t cs) (hc : ∀ j, j < cs.length → own_B (cs.getD j 0)) : Fld Z h x "java/lang/String" "coder" "B" (.int 0) ∧ ∃ kt, Arv Z h t kt .byte (Int32.ofNat cs.length) (cs.map own_vb) (.int 0) := by
  rcases S.2.2 with ⟨q1, q2, -⟩ | ⟨-, -, j, hj, q⟩
  · exact ⟨q1, q2⟩
  · exact absurd q (hc j hj).2
def Q12 (Z : State) (x : Addr) (t : Addr) (i : Nat) (cs : List Int32) (h0 : Heap) (n0 : Nat) (v : Option Value) (h : Heap) (L : List Loc) : Prop := v = some (.int (cs.getD i 0)) ∧ Fr n0 L ∧ h0 = h
set_option maxRecDepth 65536 in
set_option maxHeartbeats 40000000 in
theorem rm12 (l : Launch) (Z : State) (a0 : Array Value) (hw : ∀ d ∈ tables_1, d.before a0 Z = true) (ws : List Jvm.Cond) (x : Addr) (t : Addr) (i : Nat) (cs : List Int32) (h0 : Heap) (n0 : Nat) (Z0 : n0 ≤ h0.size) (z : Int32) (O : Old Z n0 h0) (O2 : Sta Z Z.heap "java/lang/String" "COMPACT_STRINGS" "Z" (.int z)) (P5 : ¬ z = 0) (S : own_Str Z h0 x t cs) (hi : i < cs.length) (hn : cs.length ≤ 1000) (hc : ∀ j, j < cs.length → own_B (cs.getD j 0)) (fm : Value) (hfm : fm.isRef = true) (SF : Sta Z Z.heap "jdk/internal/util/Preconditions" "SIOOBE_FORMATTER" "Ljava/util/function/BiFunction;" fm) :
    MetFree l (⟨"java/lang/String", "charAt", "(I)C"⟩ : MethodName) (head1 (Jvm.Cond.code (⟨"java/lang/String", "charAt", "(I)C"⟩ : MethodName) jdk_42_method_56_code 2 (some .char) :: ws) ({ frames := 3, cells := 0, slots := 0, locals := 42 } : Room)) (fun aa_ U => aa_ = #[(.ref x), (.int (Int32.ofNat i))] ∧ Z.Warmed39 U.vm ∧ U.heap = h0) (fun _ _ _ _ _ => True) (fun _ U o U' => ∃ v L, o = .returned v ∧ Q12 Z x t i cs h0 n0 v U'.heap L ∧ FrameEnd U o U' L ({ frames := 3, cells := 0, slots := 0, locals := 42 } : Room).cells ({ frames := 3, cells := 0, slots := 0, locals := 42 } : Room).slots) := by
  refine MetFree.of_bodySF (plainFor_of_name pn2) hisR ?_
  intro p e s m args below meth c s₁ Bd hml0 hP hK
  obtain ⟨rfl, hZ, hh⟩ := hP
  have hx := Bd.exec
  have hby := Bd.bytes
  have hml : c.maxLocals = 2 := hml0
  have hown : s.vm.findClass "java/lang/String" = some m.cls := findClass_of_methodNamed Bd.named
  have hnm := (name_of_methodNamed Bd.named Bd.method).1
  have X0 : Stand p l e ({ frames := 3, cells := 0, slots := 0, locals := 42 } : Room) s m #[(.ref x), (.int (Int32.ofNat i))] below meth c s₁ [] 0 0 := Stand.of_body Bd
  have e0 : s₁.heap = h0 := by rw [← hh, Bd.state]; rfl
  have N0 := Fr.nil n0
  obtain ⟨G, hG⟩ : ∃ G, G = entryFrame m #[(.ref x), (.int (Int32.ofNat i))] 2 := ⟨_, rfl⟩
  have S0 : own_Go p e below s₁ G s₁ (mkF m 0 #[.val (.ref x), .val (.int (Int32.ofNat i))] []) := fun tg_ kk_ => castTop (by rw [hG]; first | rfl | simp [entryFrame, mkF, argsToLocals, Value.category, maxLocals]) kk_
  obtain ⟨Fc, kt, V⟩ := S.lat hc
  have S349 : own_Go p e below s₁ G s₁ (mkF m 1 #[.val (.ref x), .val (.int (Int32.ofNat i))] [(.ref x)]) := fun tg_ kk_ => S0 tg_ (by
    refine XS.aloadN X0.here hx rfl (hb hby d12_0) rfl rfl ?_
    exact kk_)
  obtain ⟨_, T350, h350, L350, X350, e350, hQ350, st350⟩ := own_callV X0 hx hZ (y := (⟨"java/lang/String", "isLatin1", "()Z"⟩ : MethodName)) hown (hw _ (List.mem_of_getElem? (i := 58) rfl)) (hw _ (List.mem_of_getElem? (i := 59) rfl)) (hw _ (List.mem_of_getElem? (i := 61) rfl)) (hw _ (List.mem_of_getElem? (i := 60) rfl)) (hw _ (List.mem_of_getElem? (i := 11) rfl)) (hw _ (List.mem_of_getElem? (i := 62) rfl)) (by decide) 0 (g := (mkF m 1 #[.val (.ref x), .val (.int (Int32.ofNat i))] [(.ref x)])) rfl (by rw [hml]; rfl) x S.1 [] [] (rm13 l Z a0 hw [] x 0 h0 n0 Z0 z O O2 P5 Fc (Or.inl rfl)) (lenOf pd14 rfl) rfl (by show 2 * 0 + _ ≤ _; exact Nat.le_of_eq rfl) (hb hby d12_1) (by decide) (by decide) e0 (by decide) (by decide)
  obtain ⟨rfl, N350, rfl⟩ := hQ350
  have S351 : own_Go p e below s₁ G T350 (mkF m 4 #[.val (.ref x), .val (.int (Int32.ofNat i))] [(.int (1 : Int32))]) := fun tg_ kk_ => S349 tg_ (st350 tg_ kk_)
  have M350 := Fr.app N0 N350
  have S352 : own_Go p e below s₁ G T350 (mkF m 8 #[.val (.ref x), .val (.int (Int32.ofNat i))] [(.ref x)]) := fun tg_ kk_ => S351 tg_ (by
    refine XS.ifNo X350.here hx rfl (hb hby d12_4) rfl (XT.i0_eq_f (by decide)) ?_
    show Steps p.tables e below (T350.setTop (mkF m 7 #[.val (.ref x), .val (.int (Int32.ofNat i))] [])) _
    refine XS.aloadN X350.here hx rfl (hb hby d12_7) rfl rfl ?_
    exact kk_)
  obtain ⟨T353, X353, e353, st353⟩ := getF X350 hx hZ hown (host := "") (Or.inl (hw _ (List.mem_of_getElem? (i := 37) rfl))) Via.refl e350 S.2.1 (g := (mkF m 8 #[.val (.ref x), .val (.int (Int32.ofNat i))] [(.ref x)])) rfl rfl (hb hby d12_8)
  have S354 : own_Go p e below s₁ G T353 (mkF m 11 #[.val (.ref x), .val (.int (Int32.ofNat i))] [(.ref t)]) := fun tg_ kk_ => S352 tg_ (st353 tg_ kk_)
  have S355 : own_Go p e below s₁ G T353 (mkF m 12 #[.val (.ref x), .val (.int (Int32.ofNat i))] [(.int (Int32.ofNat i)), (.ref t)]) := fun tg_ kk_ => S354 tg_ (by
    refine XS.iloadN X353.here hx rfl (hb hby d12_11) rfl ?_
    exact kk_)
  obtain ⟨_, T356, h356, L356, X356, e356, hQ356, st356⟩ := own_callS X353 hx hZ (y := (⟨"java/lang/StringLatin1", "charAt", "([BI)C"⟩ : MethodName)) hown (hw _ (List.mem_of_getElem? (i := 63) rfl)) (hw _ (List.mem_of_getElem? (i := 64) rfl)) (hw _ (List.mem_of_getElem? (i := 65) rfl)) (hw _ (List.mem_of_getElem? (i := 66) rfl)) (by decide) 0 (g := (mkF m 12 #[.val (.ref x), .val (.int (Int32.ofNat i))] [(.int (Int32.ofNat i)), (.ref t)])) rfl (by rw [hml]; rfl) [(.ref t), (.int (Int32.ofNat i))] [] (rm14 l Z a0 hw [] t i cs h0 n0 Z0 kt V hi hn (hc i hi) fm hfm O SF) (lenOf pd15 rfl) rfl (by show 2 * 0 + _ ≤ _; exact Nat.le_of_eq rfl) (hb hby d12_12) (by decide) (by decide) e353 (by decide) (by decide)
  obtain ⟨rfl, N356, rfl⟩ := hQ356
  have S357 : own_Go p e below s₁ G T356 (mkF m 15 #[.val (.ref x), .val (.int (Int32.ofNat i))] [(.int (cs.getD i 0))]) := fun tg_ kk_ => S355 tg_ (st356 tg_ kk_)
  have M356 := Fr.app M350 N356
  obtain ⟨fs, hr, hrun, hended, hW, hsame⟩ := X356.leave (v := some (.int (nar .char (cs.getD i 0)))) (fun h => by rw [Bd.returns] at h; cases h)
  refine ⟨_, _, ?_, hrun, hended, _, _, rfl, ?_, ⟨_, rfl⟩, hW, hsame.mono (by decide) (by decide)⟩
  · rw [← hG]; exact S357 _ (retN X356 hx (t := .char) Bd.returns (by simp) (hb hby d12_15) hr)
  · show Q12 Z x t i cs h0 n0 _ T356.heap _
    rw [e356]
    exact ⟨by rw [own_nar_char (hc i hi).ch], M356, rfl⟩
/-- the loop of isSegments on the chars left: (segments, length of the last, still valid) -/
def own_run : List Int32 → Nat → Nat → Nat × Nat × Bool
  | [], s, n => (s, n, true)
  | c :: r, s, n => if own_dot c then (if 0 < n then own_run r (s + 1) 0 else (s + 1, 0, false)) else (if own_word c then own_run r s (n + 1) else (s, n + 1, false))
def own_isSeg (cs : List Int32) (mn mx : Int32) : Bool := (own_run cs 1 0).2.2 && decide (0 < (own_run cs 1 0).2.1) && !decide (Int32.ofNat (own_run cs 1 0).1 < mn) && !decide (mx < Int32.ofNat (own_run cs 1 0).1)
theorem own_run_le : ∀ (cs : List Int32) (s n : Nat), (own_run cs s n).1 ≤ s + cs.length ∧ (own_run cs s n).2.1 ≤ n + cs.length
  | [], _, _ => ⟨Nat.le_refl _, Nat.le_refl _⟩
  | c :: r, s, n => by
    have h1 := own_run_le r (s + 1) 0; have h2 := own_run_le r s (n + 1)
    unfold own_run
    simp only [List.length_cons]
    split
    · split
      · exact ⟨by omega, by omega⟩
      · exact ⟨by simp <;> omega, by simp⟩
    · split
      · exact ⟨by omega, by omega⟩
      · exact ⟨by simp <;> omega, by simp⟩
theorem own_drop {cs : List Int32} {i : Nat} (h : i < cs.length) : cs.drop i = cs.getD i 0 :: cs.drop (i + 1) := by
  rw [List.drop_eq_getElem_cons h]; simp [List.getD, h]
theorem own_pos32 {n : Nat} (h : n ≤ 2000) : (0 : Int32) < Int32.ofNat n ↔ 0 < n := by
  rw [Int32.lt_iff_toInt_lt, Int32.toInt_ofNat_of_lt (by omega)]; have e : (0 : Int32).toInt = 0 := rfl; omega
theorem own_le32 {i n : Nat} (h : i ≤ n) (hn : n < 2 ^ 31) : ¬ Int32.ofNat n < Int32.ofNat i := by
  rw [Int32.lt_iff_toInt_lt, Int32.toInt_ofNat_of_lt hn, Int32.toInt_ofNat_of_lt (by omega)]; omega
set_option maxRecDepth 65536 in
set_option maxHeartbeats 40000000 in
theorem own_isg {p : Program} {l : Launch} {e : Env} {s : State} {m : MethodId} {args : Array Value} {below : List Frame} {meth : Method} {c : Code} {Z : State} {a0 : Array Value} {h0 : Heap} {n0 : Nat} (Z0 : n0 ≤ h0.size) (x t : Addr) (cs : List Int32) (mn mx : Int32) (z : Int32) (O : Old Z n0 h0) (O2 : Sta Z Z.heap "java/lang/String" "COMPACT_STRINGS" "Z" (.int z)) (P5 : ¬ z = 0) (S : own_Str Z h0 x t cs) (hn : cs.length ≤ 900) (hc : ∀ j, j < cs.length → own_B (cs.getD j 0)) (fm : Value) (hfm : fm.isRef = true) (SF : Sta Z Z.heap "jdk/internal/util/Preconditions" "SIOOBE_FORMATTER" "Ljava/util/function/BiFunction;" fm) (hx : p.tables.exec = Jvm.exec) (hZ : Z.Warmed39 s.vm) (hw : ∀ q ∈ tables_1, q.before a0 Z = true) (hby : c.code = prog_8_method_3_code) (hml : c.maxLocals = 8) (hown : s.vm.findClass "com/example/tallyhook/tallyhook/core/EventType" = some m.cls) :
    ∀ (f i sg ln : Nat) (s7 : Slot) (hs : One s7) (T0 : State) (locs : List Loc), i + f = cs.length → sg ≤ i + 1 → ln ≤ i → Stand p l e ({ frames := 4, cells := 0, slots := 0, locals := 60 } : Room) s m args below meth c T0 locs 0 0 → T0.heap = h0 → Fr n0 locs →
      ∃ (T' : State) (locs' : List Loc) (i' : Nat) (s7' : Slot), One s7' ∧ Stand p l e ({ frames := 4, cells := 0, slots := 0, locals := 60 } : Room) s m args below meth c T' locs' 0 0 ∧ T'.heap = h0 ∧ Fr n0 locs' ∧ own_Go p e below T0 (mkF m 11 #[.val (.ref x), .val (.int mn), .val (.int mx), .val (.int (Int32.ofNat sg)), .val (.int (Int32.ofNat ln)), .val (.int (1 : Int32)), .val (.int (Int32.ofNat i)), s7] []) T' (mkF m 126 #[.val (.ref x), .val (.int mn), .val (.int mx), .val (.int (Int32.ofNat (own_run (cs.drop i) sg ln).1)), .val (.int (Int32.ofNat (own_run (cs.drop i) sg ln).2.1)), .val (.int (own_bit (own_run (cs.drop i) sg ln).2.2)), .val (.int (Int32.ofNat i')), s7'] []) := by
  intro f
  induction f with
  | zero =>
    intro i sg ln s7 hs T0 locs hf hsg hln X0 e0 N
    have hi : i = cs.length := by omega
    have S358 : own_Go p e below T0 (mkF m 11 #[.val (.ref x), .val (.int mn), .val (.int mx), .val (.int (Int32.ofNat sg)), .val (.int (Int32.ofNat ln)), .val (.int (1 : Int32)), .val (.int (Int32.ofNat i)), s7] []) T0 (mkF m 14 #[.val (.ref x), .val (.int mn), .val (.int mx), .val (.int (Int32.ofNat sg)), .val (.int (Int32.ofNat ln)), .val (.int (1 : Int32)), .val (.int (Int32.ofNat i)), s7] [(.ref x), (.int (Int32.ofNat i))]) := fun tg_ kk_ => (own_Go.refl T0 _) tg_ (by
      refine XS.iload X0.here hx rfl (hb hby d9_11) rfl ?_
      show Steps p.tables e below (T0.setTop (mkF m 13 #[.val (.ref x), .val (.int mn), .val (.int mx), .val (.int (Int32.ofNat sg)), .val (.int (Int32.ofNat ln)), .val (.int (1 : Int32)), .val (.int (Int32.ofNat i)), s7] [(.int (Int32.ofNat i))])) _
      refine XS.aloadN X0.here hx rfl (hb hby d9_13) rfl rfl ?_
      exact kk_)
    obtain ⟨_, T359, h359, L359, X359, e359, hQ359, st359⟩ := own_callV X0 hx hZ (y := (⟨"java/lang/String", "length", "()I"⟩ : MethodName)) hown (hw _ (List.mem_of_getElem? (i := 43) rfl)) (hw _ (List.mem_of_getElem? (i := 44) rfl)) (hw _ (List.mem_of_getElem? (i := 46) rfl)) (hw _ (List.mem_of_getElem? (i := 45) rfl)) (hw _ (List.mem_of_getElem? (i := 11) rfl)) (hw _ (List.mem_of_getElem? (i := 47) rfl)) (by decide) 1 (g := (mkF m 14 #[.val (.ref x), .val (.int mn), .val (.int mx), .val (.int (Int32.ofNat sg)), .val (.int (Int32.ofNat ln)), .val (.int (1 : Int32)), .val (.int (Int32.ofNat i)), s7] [(.ref x), (.int (Int32.ofNat i))])) rfl (by rw [hml]; rfl) x S.1 [] [(.int (Int32.ofNat i))] (rm10 l Z a0 hw [] x t cs h0 n0 Z0 z O O2 P5 S (by omega)) (lenOf pd11 rfl) rfl (by show 2 * 0 + _ ≤ _; exact Nat.le_of_eq rfl) (hb hby d9_14) (by decide) (by decide) e0 (by decide) (by decide)
    obtain ⟨rfl, N359, rfl⟩ := hQ359
    have S360 : own_Go p e below T0 (mkF m 11 #[.val (.ref x), .val (.int mn), .val (.int mx), .val (.int (Int32.ofNat sg)), .val (.int (Int32.ofNat ln)), .val (.int (1 : Int32)), .val (.int (Int32.ofNat i)), s7] []) T359 (mkF m 17 #[.val (.ref x), .val (.int mn), .val (.int mx), .val (.int (Int32.ofNat sg)), .val (.int (Int32.ofNat ln)), .val (.int (1 : Int32)), .val (.int (Int32.ofNat i)), s7] [(.int (Int32.ofNat cs.length)), (.int (Int32.ofNat i))]) := fun tg_ kk_ => S358 tg_ (st359 tg_ kk_)
    have M359 := Fr.app N N359
    have S361 : own_Go p e below T0 (mkF m 11 #[.val (.ref x), .val (.int mn), .val (.int mx), .val (.int (Int32.ofNat sg)), .val (.int (Int32.ofNat ln)), .val (.int (1 : Int32)), .val (.int (Int32.ofNat i)), s7] []) T359 (mkF m 126 #[.val (.ref x), .val (.int mn), .val (.int mx), .val (.int (Int32.ofNat sg)), .val (.int (Int32.ofNat ln)), .val (.int (1 : Int32)), .val (.int (Int32.ofNat i)), s7] []) := fun tg_ kk_ => S360 tg_ (by
      refine XS.icmpYes X359.here hx rfl (pc0 := 17) (pc' := 126) rfl (hb hby d9_17) rfl (XT.ii_ge_t (by rw [hi]; exact Int32.lt_irrefl)) (by decide) (by decide) ?_
      exact kk_)
    have hr : own_run (cs.drop i) sg ln = (sg, ln, true) := by rw [hi, List.drop_length]; rfl
    rw [hr]
    exact ⟨T359, _, i, s7, hs, X359, e359, M359, S361⟩
  | succ f ih =>
    intro i sg ln s7 hs T0 locs hf hsg hln X0 e0 N
    have hi : i < cs.length := by omega
    have S362 : own_Go p e below T0 (mkF m 11 #[.val (.ref x), .val (.int mn), .val (.int mx), .val (.int (Int32.ofNat sg)), .val (.int (Int32.ofNat ln)), .val (.int (1 : Int32)), .val (.int (Int32.ofNat i)), s7] []) T0 (mkF m 14 #[.val (.ref x), .val (.int mn), .val (.int mx), .val (.int (Int32.ofNat sg)), .val (.int (Int32.ofNat ln)), .val (.int (1 : Int32)), .val (.int (Int32.ofNat i)), s7] [(.ref x), (.int (Int32.ofNat i))]) := fun tg_ kk_ => (own_Go.refl T0 _) tg_ (by
      refine XS.iload X0.here hx rfl (hb hby d9_11) rfl ?_
      show Steps p.tables e below (T0.setTop (mkF m 13 #[.val (.ref x), .val (.int mn), .val (.int mx), .val (.int (Int32.ofNat sg)), .val (.int (Int32.ofNat ln)), .val (.int (1 : Int32)), .val (.int (Int32.ofNat i)), s7] [(.int (Int32.ofNat i))])) _
      refine XS.aloadN X0.here hx rfl (hb hby d9_13) rfl rfl ?_
      exact kk_)
    obtain ⟨_, T363, h363, L363, X363, e363, hQ363, st363⟩ := own_callV X0 hx hZ (y := (⟨"java/lang/String", "length", "()I"⟩ : MethodName)) hown (hw _ (List.mem_of_getElem? (i := 43) rfl)) (hw _ (List.mem_of_getElem? (i := 44) rfl)) (hw _ (List.mem_of_getElem? (i := 46) rfl)) (hw _ (List.mem_of_getElem? (i := 45) rfl)) (hw _ (List.mem_of_getElem? (i := 11) rfl)) (hw _ (List.mem_of_getElem? (i := 47) rfl)) (by decide) 1 (g := (mkF m 14 #[.val (.ref x), .val (.int mn), .val (.int mx), .val (.int (Int32.ofNat sg)), .val (.int (Int32.ofNat ln)), .val (.int (1 : Int32)), .val (.int (Int32.ofNat i)), s7] [(.ref x), (.int (Int32.ofNat i))])) rfl (by rw [hml]; rfl) x S.1 [] [(.int (Int32.ofNat i))] (rm10 l Z a0 hw [] x t cs h0 n0 Z0 z O O2 P5 S (by omega)) (lenOf pd11 rfl) rfl (by show 2 * 0 + _ ≤ _; exact Nat.le_of_eq rfl) (hb hby d9_14) (by decide) (by decide) e0 (by decide) (by decide)
    obtain ⟨rfl, N363, rfl⟩ := hQ363
    have S364 : own_Go p e below T0 (mkF m 11 #[.val (.ref x), .val (.int mn), .val (.int mx), .val (.int (Int32.ofNat sg)), .val (.int (Int32.ofNat ln)), .val (.int (1 : Int32)), .val (.int (Int32.ofNat i)), s7] []) T363 (mkF m 17 #[.val (.ref x), .val (.int mn), .val (.int mx), .val (.int (Int32.ofNat sg)), .val (.int (Int32.ofNat ln)), .val (.int (1 : Int32)), .val (.int (Int32.ofNat i)), s7] [(.int (Int32.ofNat cs.length)), (.int (Int32.ofNat i))]) := fun tg_ kk_ => S362 tg_ (st363 tg_ kk_)
    have M363 := Fr.app N N363
    have S365 : own_Go p e below T0 (mkF m 11 #[.val (.ref x), .val (.int mn), .val (.int mx), .val (.int (Int32.ofNat sg)), .val (.int (Int32.ofNat ln)), .val (.int (1 : Int32)), .val (.int (Int32.ofNat i)), s7] []) T363 (mkF m 28 #[.val (.ref x), .val (.int mn), .val (.int mx), .val (.int (Int32.ofNat sg)), .val (.int (Int32.ofNat ln)), .val (.int (1 : Int32)), .val (.int (Int32.ofNat i)), s7] [(.int (Int32.ofNat i)), (.ref x)]) := fun tg_ kk_ => S364 tg_ (by
      refine XS.icmpNo X363.here hx rfl (hb hby d9_17) rfl (XT.ii_ge_f (own_lt32 hi (by omega))) ?_
      show Steps p.tables e below (T363.setTop (mkF m 20 #[.val (.ref x), .val (.int mn), .val (.int mx), .val (.int (Int32.ofNat sg)), .val (.int (Int32.ofNat ln)), .val (.int (1 : Int32)), .val (.int (Int32.ofNat i)), s7] [])) _
      refine XS.iload X363.here hx rfl (hb hby d9_20) rfl ?_
      show Steps p.tables e below (T363.setTop (mkF m 22 #[.val (.ref x), .val (.int mn), .val (.int mx), .val (.int (Int32.ofNat sg)), .val (.int (Int32.ofNat ln)), .val (.int (1 : Int32)), .val (.int (Int32.ofNat i)), s7] [(.int (1 : Int32))])) _
      refine XS.ifNo X363.here hx rfl (hb hby d9_22) rfl (XT.i0_eq_f (by decide)) ?_
      show Steps p.tables e below (T363.setTop (mkF m 25 #[.val (.ref x), .val (.int mn), .val (.int mx), .val (.int (Int32.ofNat sg)), .val (.int (Int32.ofNat ln)), .val (.int (1 : Int32)), .val (.int (Int32.ofNat i)), s7] [])) _
      refine XS.aloadN X363.here hx rfl (hb hby d9_25) rfl rfl ?_
      show Steps p.tables e below (T363.setTop (mkF m 26 #[.val (.ref x), .val (.int mn), .val (.int mx), .val (.int (Int32.ofNat sg)), .val (.int (Int32.ofNat ln)), .val (.int (1 : Int32)), .val (.int (Int32.ofNat i)), s7] [(.ref x)])) _
      refine XS.iload X363.here hx rfl (hb hby d9_26) rfl ?_
      exact kk_)
    obtain ⟨_, T366, h366, L366, X366, e366, hQ366, st366⟩ := own_callV X363 hx hZ (y := (⟨"java/lang/String", "charAt", "(I)C"⟩ : MethodName)) hown (hw _ (List.mem_of_getElem? (i := 53) rfl)) (hw _ (List.mem_of_getElem? (i := 54) rfl)) (hw _ (List.mem_of_getElem? (i := 56) rfl)) (hw _ (List.mem_of_getElem? (i := 55) rfl)) (hw _ (List.mem_of_getElem? (i := 11) rfl)) (hw _ (List.mem_of_getElem? (i := 57) rfl)) (by decide) 0 (g := (mkF m 28 #[.val (.ref x), .val (.int mn), .val (.int mx), .val (.int (Int32.ofNat sg)), .val (.int (Int32.ofNat ln)), .val (.int (1 : Int32)), .val (.int (Int32.ofNat i)), s7] [(.int (Int32.ofNat i)), (.ref x)])) rfl (by rw [hml]; rfl) x S.1 [(.int (Int32.ofNat i))] [] (rm12 l Z a0 hw [] x t i cs h0 n0 Z0 z O O2 P5 S hi (by omega) hc fm hfm SF) (lenOf pd13 rfl) rfl (by show 2 * 0 + _ ≤ _; exact Nat.le_of_eq rfl) (hb hby d9_28) (by decide) (by decide) e363 (by decide) (by decide)
    obtain ⟨rfl, N366, rfl⟩ := hQ366
    have S367 : own_Go p e below T0 (mkF m 11 #[.val (.ref x), .val (.int mn), .val (.int mx), .val (.int (Int32.ofNat sg)), .val (.int (Int32.ofNat ln)), .val (.int (1 : Int32)), .val (.int (Int32.ofNat i)), s7] []) T366 (mkF m 31 #[.val (.ref x), .val (.int mn), .val (.int mx), .val (.int (Int32.ofNat sg)), .val (.int (Int32.ofNat ln)), .val (.int (1 : Int32)), .val (.int (Int32.ofNat i)), s7] [(.int (cs.getD i 0))]) := fun tg_ kk_ => S365 tg_ (st366 tg_ kk_)
    have M366 := Fr.app M363 N366
    have hdr := own_drop hi
    obtain ⟨c0, hc0⟩ : ∃ z, z = cs.getD i 0 := ⟨_, rfl⟩
    rw [← hc0] at S367
    rw [← hc0] at hdr
    have S368 : own_Go p e below T0 (mkF m 11 #[.val (.ref x), .val (.int mn), .val (.int mx), .val (.int (Int32.ofNat sg)), .val (.int (Int32.ofNat ln)), .val (.int (1 : Int32)), .val (.int (Int32.ofNat i)), s7] []) T366 (mkF m 37 #[.val (.ref x), .val (.int mn), .val (.int mx), .val (.int (Int32.ofNat sg)), .val (.int (Int32.ofNat ln)), .val (.int (1 : Int32)), .val (.int (Int32.ofNat i)), .val (.int c0)] [(.int (46 : Int32)), (.int c0)]) := fun tg_ kk_ => S367 tg_ (by
      refine XS.istore X366.here hx rfl (hb hby d9_31) rfl (l' := #[.val (.ref x), .val (.int mn), .val (.int mx), .val (.int (Int32.ofNat sg)), .val (.int (Int32.ofNat ln)), .val (.int (1 : Int32)), .val (.int (Int32.ofNat i)), .val (.int c0)]) (XS.store1 rfl hs rfl) ?_
      show Steps p.tables e below (T366.setTop (mkF m 33 #[.val (.ref x), .val (.int mn), .val (.int mx), .val (.int (Int32.ofNat sg)), .val (.int (Int32.ofNat ln)), .val (.int (1 : Int32)), .val (.int (Int32.ofNat i)), .val (.int c0)] [])) _
      refine XS.iload X366.here hx rfl (hb hby d9_33) rfl ?_
      show Steps p.tables e below (T366.setTop (mkF m 35 #[.val (.ref x), .val (.int mn), .val (.int mx), .val (.int (Int32.ofNat sg)), .val (.int (Int32.ofNat ln)), .val (.int (1 : Int32)), .val (.int (Int32.ofNat i)), .val (.int c0)] [(.int c0)])) _
      refine XS.bipush X366.here hx rfl (hb hby d9_35) ?_
      exact kk_)
    by_cases hd : c0 = (46 : Int32)
    · have hdt : own_dot c0 = true := by simp [own_dot, hd]
      have S369 : own_Go p e below T0 (mkF m 11 #[.val (.ref x), .val (.int mn), .val (.int mx), .val (.int (Int32.ofNat sg)), .val (.int (Int32.ofNat ln)), .val (.int (1 : Int32)), .val (.int (Int32.ofNat i)), s7] []) T366 (mkF m 42 #[.val (.ref x), .val (.int mn), .val (.int mx), .val (.int (Int32.ofNat sg)), .val (.int (Int32.ofNat ln)), .val (.int (1 : Int32)), .val (.int (Int32.ofNat i)), .val (.int c0)] [(.int (Int32.ofNat ln))]) := fun tg_ kk_ => S368 tg_ (by
        refine XS.icmpNo X366.here hx rfl (hb hby d9_37) rfl (XT.ii_ne_f hd) ?_
        show Steps p.tables e below (T366.setTop (mkF m 40 #[.val (.ref x), .val (.int mn), .val (.int mx), .val (.int (Int32.ofNat sg)), .val (.int (Int32.ofNat ln)), .val (.int (1 : Int32)), .val (.int (Int32.ofNat i)), .val (.int c0)] [])) _
        refine XS.iload X366.here hx rfl (hb hby d9_40) rfl ?_
        exact kk_)
      by_cases hl : 0 < ln
      · have _ := e0
        have S370 : own_Go p e below T0 (mkF m 11 #[.val (.ref x), .val (.int mn), .val (.int mx), .val (.int (Int32.ofNat sg)), .val (.int (Int32.ofNat ln)), .val (.int (1 : Int32)), .val (.int (Int32.ofNat i)), s7] []) T366 (mkF m 120 #[.val (.ref x), .val (.int mn), .val (.int mx), .val (.int ((Int32.ofNat sg) + (1 : Int32))), .val (.int (0 : Int32)), .val (.int (1 : Int32)), .val (.int (Int32.ofNat i)), .val (.int c0)] []) := fun tg_ kk_ => S369 tg_ (by
          refine XS.ifNo X366.here hx rfl (hb hby d9_42) rfl (XT.i0_le_f ((own_pos32 (by omega)).mpr hl)) ?_
          show Steps p.tables e below (T366.setTop (mkF m 45 #[.val (.ref x), .val (.int mn), .val (.int mx), .val (.int (Int32.ofNat sg)), .val (.int (Int32.ofNat ln)), .val (.int (1 : Int32)), .val (.int (Int32.ofNat i)), .val (.int c0)] [])) _
          refine XS.iconst X366.here hx rfl (hb hby d9_45) ?_
          show Steps p.tables e below (T366.setTop (mkF m 46 #[.val (.ref x), .val (.int mn), .val (.int mx), .val (.int (Int32.ofNat sg)), .val (.int (Int32.ofNat ln)), .val (.int (1 : Int32)), .val (.int (Int32.ofNat i)), .val (.int c0)] [(.int (1 : Int32))])) _
          refine XS.goto X366.here hx rfl (pc0 := 46) (pc' := 50) rfl (hb hby d9_46) (by decide) (by decide) ?_
          show Steps p.tables e below (T366.setTop (mkF m 50 #[.val (.ref x), .val (.int mn), .val (.int mx), .val (.int (Int32.ofNat sg)), .val (.int (Int32.ofNat ln)), .val (.int (1 : Int32)), .val (.int (Int32.ofNat i)), .val (.int c0)] [(.int (1 : Int32))])) _
          refine XS.istore X366.here hx rfl (hb hby d9_50) rfl (l' := #[.val (.ref x), .val (.int mn), .val (.int mx), .val (.int (Int32.ofNat sg)), .val (.int (Int32.ofNat ln)), .val (.int (1 : Int32)), .val (.int (Int32.ofNat i)), .val (.int c0)]) rfl ?_
          show Steps p.tables e below (T366.setTop (mkF m 52 #[.val (.ref x), .val (.int mn), .val (.int mx), .val (.int (Int32.ofNat sg)), .val (.int (Int32.ofNat ln)), .val (.int (1 : Int32)), .val (.int (Int32.ofNat i)), .val (.int c0)] [])) _
          refine XS.iinc X366.here hx rfl (hb hby d9_52) rfl (l' := #[.val (.ref x), .val (.int mn), .val (.int mx), .val (.int ((Int32.ofNat sg) + (1 : Int32))), .val (.int (Int32.ofNat ln)), .val (.int (1 : Int32)), .val (.int (Int32.ofNat i)), .val (.int c0)]) rfl ?_
          show Steps p.tables e below (T366.setTop (mkF m 55 #[.val (.ref x), .val (.int mn), .val (.int mx), .val (.int ((Int32.ofNat sg) + (1 : Int32))), .val (.int (Int32.ofNat ln)), .val (.int (1 : Int32)), .val (.int (Int32.ofNat i)), .val (.int c0)] [])) _
          refine XS.iconst X366.here hx rfl (hb hby d9_55) ?_
          show Steps p.tables e below (T366.setTop (mkF m 56 #[.val (.ref x), .val (.int mn), .val (.int mx), .val (.int ((Int32.ofNat sg) + (1 : Int32))), .val (.int (Int32.ofNat ln)), .val (.int (1 : Int32)), .val (.int (Int32.ofNat i)), .val (.int c0)] [(.int (0 : Int32))])) _
          refine XS.istore X366.here hx rfl (hb hby d9_56) rfl (l' := #[.val (.ref x), .val (.int mn), .val (.int mx), .val (.int ((Int32.ofNat sg) + (1 : Int32))), .val (.int (0 : Int32)), .val (.int (1 : Int32)), .val (.int (Int32.ofNat i)), .val (.int c0)]) rfl ?_
          show Steps p.tables e below (T366.setTop (mkF m 58 #[.val (.ref x), .val (.int mn), .val (.int mx), .val (.int ((Int32.ofNat sg) + (1 : Int32))), .val (.int (0 : Int32)), .val (.int (1 : Int32)), .val (.int (Int32.ofNat i)), .val (.int c0)] [])) _
          refine XS.goto X366.here hx rfl (pc0 := 58) (pc' := 120) rfl (hb hby d9_58) (by decide) (by decide) ?_
          exact kk_)
        rw [own_suc] at S370
        have S371 : own_Go p e below T0 (mkF m 11 #[.val (.ref x), .val (.int mn), .val (.int mx), .val (.int (Int32.ofNat sg)), .val (.int (Int32.ofNat ln)), .val (.int (1 : Int32)), .val (.int (Int32.ofNat i)), s7] []) T366 (mkF m 11 #[.val (.ref x), .val (.int mn), .val (.int mx), .val (.int (Int32.ofNat (sg + 1))), .val (.int (0 : Int32)), .val (.int (1 : Int32)), .val (.int ((Int32.ofNat i) + (1 : Int32))), .val (.int c0)] []) := fun tg_ kk_ => S370 tg_ (by
          refine XS.iinc X366.here hx rfl (hb hby d9_120) rfl (l' := #[.val (.ref x), .val (.int mn), .val (.int mx), .val (.int (Int32.ofNat (sg + 1))), .val (.int (0 : Int32)), .val (.int (1 : Int32)), .val (.int ((Int32.ofNat i) + (1 : Int32))), .val (.int c0)]) rfl ?_
          show Steps p.tables e below (T366.setTop (mkF m 123 #[.val (.ref x), .val (.int mn), .val (.int mx), .val (.int (Int32.ofNat (sg + 1))), .val (.int (0 : Int32)), .val (.int (1 : Int32)), .val (.int ((Int32.ofNat i) + (1 : Int32))), .val (.int c0)] [])) _
          refine XS.goto X366.here hx rfl (pc0 := 123) (pc' := 11) rfl (hb hby d9_123) (by decide) (by decide) ?_
          exact kk_)
        rw [own_suc] at S371
        obtain ⟨T9, L9, i9, s9, hs9, X9, e9, N9, g9⟩ := ih (i + 1) (sg + 1) 0 (.val (.int c0)) (One.val rfl) T366 _ (by omega) (by omega) (by omega) X366 e366 M366
        have hr : own_run (cs.drop i) sg ln = own_run (cs.drop (i + 1)) (sg + 1) 0 := by rw [hdr]; simp [own_run, hdt, hl]
        rw [hr]
        exact ⟨T9, L9, i9, s9, hs9, X9, e9, N9, own_Go.trans S371 g9⟩
      · have _ := e0
        have S372 : own_Go p e below T0 (mkF m 11 #[.val (.ref x), .val (.int mn), .val (.int mx), .val (.int (Int32.ofNat sg)), .val (.int (Int32.ofNat ln)), .val (.int (1 : Int32)), .val (.int (Int32.ofNat i)), s7] []) T366 (mkF m 120 #[.val (.ref x), .val (.int mn), .val (.int mx), .val (.int ((Int32.ofNat sg) + (1 : Int32))), .val (.int (0 : Int32)), .val (.int (0 : Int32)), .val (.int (Int32.ofNat i)), .val (.int c0)] []) := fun tg_ kk_ => S369 tg_ (by
          refine XS.ifYes X366.here hx rfl (pc0 := 42) (pc' := 49) rfl (hb hby d9_42) rfl (XT.i0_le_t (fun q => hl ((own_pos32 (by omega)).mp q))) (by decide) (by decide) ?_
          show Steps p.tables e below (T366.setTop (mkF m 49 #[.val (.ref x), .val (.int mn), .val (.int mx), .val (.int (Int32.ofNat sg)), .val (.int (Int32.ofNat ln)), .val (.int (1 : Int32)), .val (.int (Int32.ofNat i)), .val (.int c0)] [])) _
          refine XS.iconst X366.here hx rfl (hb hby d9_49) ?_
          show Steps p.tables e below (T366.setTop (mkF m 50 #[.val (.ref x), .val (.int mn), .val (.int mx), .val (.int (Int32.ofNat sg)), .val (.int (Int32.ofNat ln)), .val (.int (1 : Int32)), .val (.int (Int32.ofNat i)), .val (.int c0)] [(.int (0 : Int32))])) _
          refine XS.istore X366.here hx rfl (hb hby d9_50) rfl (l' := #[.val (.ref x), .val (.int mn), .val (.int mx), .val (.int (Int32.ofNat sg)), .val (.int (Int32.ofNat ln)), .val (.int (0 : Int32)), .val (.int (Int32.ofNat i)), .val (.int c0)]) rfl ?_
          show Steps p.tables e below (T366.setTop (mkF m 52 #[.val (.ref x), .val (.int mn), .val (.int mx), .val (.int (Int32.ofNat sg)), .val (.int (Int32.ofNat ln)), .val (.int (0 : Int32)), .val (.int (Int32.ofNat i)), .val (.int c0)] [])) _
          refine XS.iinc X366.here hx rfl (hb hby d9_52) rfl (l' := #[.val (.ref x), .val (.int mn), .val (.int mx), .val (.int ((Int32.ofNat sg) + (1 : Int32))), .val (.int (Int32.ofNat ln)), .val (.int (0 : Int32)), .val (.int (Int32.ofNat i)), .val (.int c0)]) rfl ?_
          show Steps p.tables e below (T366.setTop (mkF m 55 #[.val (.ref x), .val (.int mn), .val (.int mx), .val (.int ((Int32.ofNat sg) + (1 : Int32))), .val (.int (Int32.ofNat ln)), .val (.int (0 : Int32)), .val (.int (Int32.ofNat i)), .val (.int c0)] [])) _
          refine XS.iconst X366.here hx rfl (hb hby d9_55) ?_
          show Steps p.tables e below (T366.setTop (mkF m 56 #[.val (.ref x), .val (.int mn), .val (.int mx), .val (.int ((Int32.ofNat sg) + (1 : Int32))), .val (.int (Int32.ofNat ln)), .val (.int (0 : Int32)), .val (.int (Int32.ofNat i)), .val (.int c0)] [(.int (0 : Int32))])) _
          refine XS.istore X366.here hx rfl (hb hby d9_56) rfl (l' := #[.val (.ref x), .val (.int mn), .val (.int mx), .val (.int ((Int32.ofNat sg) + (1 : Int32))), .val (.int (0 : Int32)), .val (.int (0 : Int32)), .val (.int (Int32.ofNat i)), .val (.int c0)]) rfl ?_
          show Steps p.tables e below (T366.setTop (mkF m 58 #[.val (.ref x), .val (.int mn), .val (.int mx), .val (.int ((Int32.ofNat sg) + (1 : Int32))), .val (.int (0 : Int32)), .val (.int (0 : Int32)), .val (.int (Int32.ofNat i)), .val (.int c0)] [])) _
          refine XS.goto X366.here hx rfl (pc0 := 58) (pc' := 120) rfl (hb hby d9_58) (by decide) (by decide) ?_
          exact kk_)
        rw [own_suc] at S372
        have S373 : own_Go p e below T0 (mkF m 11 #[.val (.ref x), .val (.int mn), .val (.int mx), .val (.int (Int32.ofNat sg)), .val (.int (Int32.ofNat ln)), .val (.int (1 : Int32)), .val (.int (Int32.ofNat i)), s7] []) T366 (mkF m 11 #[.val (.ref x), .val (.int mn), .val (.int mx), .val (.int (Int32.ofNat (sg + 1))), .val (.int (0 : Int32)), .val (.int (0 : Int32)), .val (.int ((Int32.ofNat i) + (1 : Int32))), .val (.int c0)] []) := fun tg_ kk_ => S372 tg_ (by
          refine XS.iinc X366.here hx rfl (hb hby d9_120) rfl (l' := #[.val (.ref x), .val (.int mn), .val (.int mx), .val (.int (Int32.ofNat (sg + 1))), .val (.int (0 : Int32)), .val (.int (0 : Int32)), .val (.int ((Int32.ofNat i) + (1 : Int32))), .val (.int c0)]) rfl ?_
          show Steps p.tables e below (T366.setTop (mkF m 123 #[.val (.ref x), .val (.int mn), .val (.int mx), .val (.int (Int32.ofNat (sg + 1))), .val (.int (0 : Int32)), .val (.int (0 : Int32)), .val (.int ((Int32.ofNat i) + (1 : Int32))), .val (.int c0)] [])) _
          refine XS.goto X366.here hx rfl (pc0 := 123) (pc' := 11) rfl (hb hby d9_123) (by decide) (by decide) ?_
          exact kk_)
        rw [own_suc] at S373
        have S374 : own_Go p e below T0 (mkF m 11 #[.val (.ref x), .val (.int mn), .val (.int mx), .val (.int (Int32.ofNat sg)), .val (.int (Int32.ofNat ln)), .val (.int (1 : Int32)), .val (.int (Int32.ofNat i)), s7] []) T366 (mkF m 14 #[.val (.ref x), .val (.int mn), .val (.int mx), .val (.int (Int32.ofNat (sg + 1))), .val (.int (0 : Int32)), .val (.int (0 : Int32)), .val (.int (Int32.ofNat (i + 1))), .val (.int c0)] [(.ref x), (.int (Int32.ofNat (i + 1)))]) := fun tg_ kk_ => S373 tg_ (by
          refine XS.iload X366.here hx rfl (hb hby d9_11) rfl ?_
          show Steps p.tables e below (T366.setTop (mkF m 13 #[.val (.ref x), .val (.int mn), .val (.int mx), .val (.int (Int32.ofNat (sg + 1))), .val (.int (0 : Int32)), .val (.int (0 : Int32)), .val (.int (Int32.ofNat (i + 1))), .val (.int c0)] [(.int (Int32.ofNat (i + 1)))])) _
          refine XS.aloadN X366.here hx rfl (hb hby d9_13) rfl rfl ?_
          exact kk_)
        by_cases hi2 : i + 1 < cs.length
        · have _ := e0
          obtain ⟨_, T375, h375, L375, X375, e375, hQ375, st375⟩ := own_callV X366 hx hZ (y := (⟨"java/lang/String", "length", "()I"⟩ : MethodName)) hown (hw _ (List.mem_of_getElem? (i := 43) rfl)) (hw _ (List.mem_of_getElem? (i := 44) rfl)) (hw _ (List.mem_of_getElem? (i := 46) rfl)) (hw _ (List.mem_of_getElem? (i := 45) rfl)) (hw _ (List.mem_of_getElem? (i := 11) rfl)) (hw _ (List.mem_of_getElem? (i := 47) rfl)) (by decide) 1 (g := (mkF m 14 #[.val (.ref x), .val (.int mn), .val (.int mx), .val (.int (Int32.ofNat (sg + 1))), .val (.int (0 : Int32)), .val (.int (0 : Int32)), .val (.int (Int32.ofNat (i + 1))), .val (.int c0)] [(.ref x), (.int (Int32.ofNat (i + 1)))])) rfl (by rw [hml]; rfl) x S.1 [] [(.int (Int32.ofNat (i + 1)))] (rm10 l Z a0 hw [] x t cs h0 n0 Z0 z O O2 P5 S (by omega)) (lenOf pd11 rfl) rfl (by show 2 * 0 + _ ≤ _; exact Nat.le_of_eq rfl) (hb hby d9_14) (by decide) (by decide) e366 (by decide) (by decide)
          obtain ⟨rfl, N375, rfl⟩ := hQ375
          have S376 : own_Go p e below T0 (mkF m 11 #[.val (.ref x), .val (.int mn), .val (.int mx), .val (.int (Int32.ofNat sg)), .val (.int (Int32.ofNat ln)), .val (.int (1 : Int32)), .val (.int (Int32.ofNat i)), s7] []) T375 (mkF m 17 #[.val (.ref x), .val (.int mn), .val (.int mx), .val (.int (Int32.ofNat (sg + 1))), .val (.int (0 : Int32)), .val (.int (0 : Int32)), .val (.int (Int32.ofNat (i + 1))), .val (.int c0)] [(.int (Int32.ofNat cs.length)), (.int (Int32.ofNat (i + 1)))]) := fun tg_ kk_ => S374 tg_ (st375 tg_ kk_)
          have M375 := Fr.app M366 N375
          have S377 : own_Go p e below T0 (mkF m 11 #[.val (.ref x), .val (.int mn), .val (.int mx), .val (.int (Int32.ofNat sg)), .val (.int (Int32.ofNat ln)), .val (.int (1 : Int32)), .val (.int (Int32.ofNat i)), s7] []) T375 (mkF m 126 #[.val (.ref x), .val (.int mn), .val (.int mx), .val (.int (Int32.ofNat (sg + 1))), .val (.int (0 : Int32)), .val (.int (0 : Int32)), .val (.int (Int32.ofNat (i + 1))), .val (.int c0)] []) := fun tg_ kk_ => S376 tg_ (by
            refine XS.icmpNo X375.here hx rfl (hb hby d9_17) rfl (XT.ii_ge_f (own_lt32 hi2 (by omega))) ?_
            show Steps p.tables e below (T375.setTop (mkF m 20 #[.val (.ref x), .val (.int mn), .val (.int mx), .val (.int (Int32.ofNat (sg + 1))), .val (.int (0 : Int32)), .val (.int (0 : Int32)), .val (.int (Int32.ofNat (i + 1))), .val (.int c0)] [])) _
            refine XS.iload X375.here hx rfl (hb hby d9_20) rfl ?_
            show Steps p.tables e below (T375.setTop (mkF m 22 #[.val (.ref x), .val (.int mn), .val (.int mx), .val (.int (Int32.ofNat (sg + 1))), .val (.int (0 : Int32)), .val (.int (0 : Int32)), .val (.int (Int32.ofNat (i + 1))), .val (.int c0)] [(.int (0 : Int32))])) _
            refine XS.ifYes X375.here hx rfl (pc0 := 22) (pc' := 126) rfl (hb hby d9_22) rfl (XT.i0_eq_t (by decide)) (by decide) (by decide) ?_
            exact kk_)
          have hr : own_run (cs.drop i) sg ln = (sg + 1, 0, false) := by rw [hdr]; simp [own_run, hdt, hl]
          rw [hr]
          exact ⟨T375, _, i + 1, .val (.int c0), One.val rfl, X375, e375, M375, S377⟩
        · have _ := e0
          obtain ⟨_, T378, h378, L378, X378, e378, hQ378, st378⟩ := own_callV X366 hx hZ (y := (⟨"java/lang/String", "length", "()I"⟩ : MethodName)) hown (hw _ (List.mem_of_getElem? (i := 43) rfl)) (hw _ (List.mem_of_getElem? (i := 44) rfl)) (hw _ (List.mem_of_getElem? (i := 46) rfl)) (hw _ (List.mem_of_getElem? (i := 45) rfl)) (hw _ (List.mem_of_getElem? (i := 11) rfl)) (hw _ (List.mem_of_getElem? (i := 47) rfl)) (by decide) 1 (g := (mkF m 14 #[.val (.ref x), .val (.int mn), .val (.int mx), .val (.int (Int32.ofNat (sg + 1))), .val (.int (0 : Int32)), .val (.int (0 : Int32)), .val (.int (Int32.ofNat (i + 1))), .val (.int c0)] [(.ref x), (.int (Int32.ofNat (i + 1)))])) rfl (by rw [hml]; rfl) x S.1 [] [(.int (Int32.ofNat (i + 1)))] (rm10 l Z a0 hw [] x t cs h0 n0 Z0 z O O2 P5 S (by omega)) (lenOf pd11 rfl) rfl (by show 2 * 0 + _ ≤ _; exact Nat.le_of_eq rfl) (hb hby d9_14) (by decide) (by decide) e366 (by decide) (by decide)
          obtain ⟨rfl, N378, rfl⟩ := hQ378
          have S379 : own_Go p e below T0 (mkF m 11 #[.val (.ref x), .val (.int mn), .val (.int mx), .val (.int (Int32.ofNat sg)), .val (.int (Int32.ofNat ln)), .val (.int (1 : Int32)), .val (.int (Int32.ofNat i)), s7] []) T378 (mkF m 17 #[.val (.ref x), .val (.int mn), .val (.int mx), .val (.int (Int32.ofNat (sg + 1))), .val (.int (0 : Int32)), .val (.int (0 : Int32)), .val (.int (Int32.ofNat (i + 1))), .val (.int c0)] [(.int (Int32.ofNat cs.length)), (.int (Int32.ofNat (i + 1)))]) := fun tg_ kk_ => S374 tg_ (st378 tg_ kk_)
          have M378 := Fr.app M366 N378
          have S380 : own_Go p e below T0 (mkF m 11 #[.val (.ref x), .val (.int mn), .val (.int mx), .val (.int (Int32.ofNat sg)), .val (.int (Int32.ofNat ln)), .val (.int (1 : Int32)), .val (.int (Int32.ofNat i)), s7] []) T378 (mkF m 126 #[.val (.ref x), .val (.int mn), .val (.int mx), .val (.int (Int32.ofNat (sg + 1))), .val (.int (0 : Int32)), .val (.int (0 : Int32)), .val (.int (Int32.ofNat (i + 1))), .val (.int c0)] []) := fun tg_ kk_ => S379 tg_ (by
            refine XS.icmpYes X378.here hx rfl (pc0 := 17) (pc' := 126) rfl (hb hby d9_17) rfl (XT.ii_ge_t (own_le32 (by omega) (by omega))) (by decide) (by decide) ?_
            exact kk_)
          have hr : own_run (cs.drop i) sg ln = (sg + 1, 0, false) := by rw [hdr]; simp [own_run, hdt, hl]
          rw [hr]
          exact ⟨T378, _, i + 1, .val (.int c0), One.val rfl, X378, e378, M378, S380⟩
    · have hdt : own_dot c0 = false := by simp [own_dot, hd]
      have S381 : own_Go p e below T0 (mkF m 11 #[.val (.ref x), .val (.int mn), .val (.int mx), .val (.int (Int32.ofNat sg)), .val (.int (Int32.ofNat ln)), .val (.int (1 : Int32)), .val (.int (Int32.ofNat i)), s7] []) T366 (mkF m 65 #[.val (.ref x), .val (.int mn), .val (.int mx), .val (.int (Int32.ofNat sg)), .val (.int (Int32.ofNat ln)), .val (.int (1 : Int32)), .val (.int (Int32.ofNat i)), .val (.int c0)] [(.int (97 : Int32)), (.int c0)]) := fun tg_ kk_ => S368 tg_ (by
        refine XS.icmpYes X366.here hx rfl (pc0 := 37) (pc' := 61) rfl (hb hby d9_37) rfl (XT.ii_ne_t hd) (by decide) (by decide) ?_
        show Steps p.tables e below (T366.setTop (mkF m 61 #[.val (.ref x), .val (.int mn), .val (.int mx), .val (.int (Int32.ofNat sg)), .val (.int (Int32.ofNat ln)), .val (.int (1 : Int32)), .val (.int (Int32.ofNat i)), .val (.int c0)] [])) _
        refine XS.iload X366.here hx rfl (hb hby d9_61) rfl ?_
        show Steps p.tables e below (T366.setTop (mkF m 63 #[.val (.ref x), .val (.int mn), .val (.int mx), .val (.int (Int32.ofNat sg)), .val (.int (Int32.ofNat ln)), .val (.int (1 : Int32)), .val (.int (Int32.ofNat i)), .val (.int c0)] [(.int c0)])) _
        refine XS.bipush X366.here hx rfl (hb hby d9_63) ?_
        exact kk_)
      have ph : own_Go p e below T0 (mkF m 11 #[.val (.ref x), .val (.int mn), .val (.int mx), .val (.int (Int32.ofNat sg)), .val (.int (Int32.ofNat ln)), .val (.int (1 : Int32)), .val (.int (Int32.ofNat i)), s7] []) T366 (mkF m 115 #[.val (.ref x), .val (.int mn), .val (.int mx), .val (.int (Int32.ofNat sg)), .val (.int (Int32.ofNat ln)), .val (.int (1 : Int32)), .val (.int (Int32.ofNat i)), .val (.int c0)] [(.int (own_bit (own_word c0)))]) := by
        by_cases hc383 : c0 < (97 : Int32)
        · have _ := e0
          have S385 : own_Go p e below T0 (mkF m 11 #[.val (.ref x), .val (.int mn), .val (.int mx), .val (.int (Int32.ofNat sg)), .val (.int (Int32.ofNat ln)), .val (.int (1 : Int32)), .val (.int (Int32.ofNat i)), s7] []) T366 (mkF m 79 #[.val (.ref x), .val (.int mn), .val (.int mx), .val (.int (Int32.ofNat sg)), .val (.int (Int32.ofNat ln)), .val (.int (1 : Int32)), .val (.int (Int32.ofNat i)), .val (.int c0)] [(.int (65 : Int32)), (.int c0)]) := fun tg_ kk_ => S381 tg_ (by
            refine XS.icmpYes X366.here hx rfl (pc0 := 65) (pc' := 75) rfl (hb hby d9_65) rfl (XT.ii_lt_t hc383) (by decide) (by decide) ?_
            show Steps p.tables e below (T366.setTop (mkF m 75 #[.val (.ref x), .val (.int mn), .val (.int mx), .val (.int (Int32.ofNat sg)), .val (.int (Int32.ofNat ln)), .val (.int (1 : Int32)), .val (.int (Int32.ofNat i)), .val (.int c0)] [])) _
            refine XS.iload X366.here hx rfl (hb hby d9_75) rfl ?_
            show Steps p.tables e below (T366.setTop (mkF m 77 #[.val (.ref x), .val (.int mn), .val (.int mx), .val (.int (Int32.ofNat sg)), .val (.int (Int32.ofNat ln)), .val (.int (1 : Int32)), .val (.int (Int32.ofNat i)), .val (.int c0)] [(.int c0)])) _
            refine XS.bipush X366.here hx rfl (hb hby d9_77) ?_
            exact kk_)
          by_cases hc384 : c0 < (65 : Int32)
          · have _ := e0
            have S387 : own_Go p e below T0 (mkF m 11 #[.val (.ref x), .val (.int mn), .val (.int mx), .val (.int (Int32.ofNat sg)), .val (.int (Int32.ofNat ln)), .val (.int (1 : Int32)), .val (.int (Int32.ofNat i)), s7] []) T366 (mkF m 93 #[.val (.ref x), .val (.int mn), .val (.int mx), .val (.int (Int32.ofNat sg)), .val (.int (Int32.ofNat ln)), .val (.int (1 : Int32)), .val (.int (Int32.ofNat i)), .val (.int c0)] [(.int (48 : Int32)), (.int c0)]) := fun tg_ kk_ => S385 tg_ (by
              refine XS.icmpYes X366.here hx rfl (pc0 := 79) (pc' := 89) rfl (hb hby d9_79) rfl (XT.ii_lt_t hc384) (by decide) (by decide) ?_
              show Steps p.tables e below (T366.setTop (mkF m 89 #[.val (.ref x), .val (.int mn), .val (.int mx), .val (.int (Int32.ofNat sg)), .val (.int (Int32.ofNat ln)), .val (.int (1 : Int32)), .val (.int (Int32.ofNat i)), .val (.int c0)] [])) _
              refine XS.iload X366.here hx rfl (hb hby d9_89) rfl ?_
              show Steps p.tables e below (T366.setTop (mkF m 91 #[.val (.ref x), .val (.int mn), .val (.int mx), .val (.int (Int32.ofNat sg)), .val (.int (Int32.ofNat ln)), .val (.int (1 : Int32)), .val (.int (Int32.ofNat i)), .val (.int c0)] [(.int c0)])) _
              refine XS.bipush X366.here hx rfl (hb hby d9_91) ?_
              exact kk_)
            by_cases hc386 : c0 < (48 : Int32)
            · have _ := e0
              have S389 : own_Go p e below T0 (mkF m 11 #[.val (.ref x), .val (.int mn), .val (.int mx), .val (.int (Int32.ofNat sg)), .val (.int (Int32.ofNat ln)), .val (.int (1 : Int32)), .val (.int (Int32.ofNat i)), s7] []) T366 (mkF m 107 #[.val (.ref x), .val (.int mn), .val (.int mx), .val (.int (Int32.ofNat sg)), .val (.int (Int32.ofNat ln)), .val (.int (1 : Int32)), .val (.int (Int32.ofNat i)), .val (.int c0)] [(.int (95 : Int32)), (.int c0)]) := fun tg_ kk_ => S387 tg_ (by
                refine XS.icmpYes X366.here hx rfl (pc0 := 93) (pc' := 103) rfl (hb hby d9_93) rfl (XT.ii_lt_t hc386) (by decide) (by decide) ?_
                show Steps p.tables e below (T366.setTop (mkF m 103 #[.val (.ref x), .val (.int mn), .val (.int mx), .val (.int (Int32.ofNat sg)), .val (.int (Int32.ofNat ln)), .val (.int (1 : Int32)), .val (.int (Int32.ofNat i)), .val (.int c0)] [])) _
                refine XS.iload X366.here hx rfl (hb hby d9_103) rfl ?_
                show Steps p.tables e below (T366.setTop (mkF m 105 #[.val (.ref x), .val (.int mn), .val (.int mx), .val (.int (Int32.ofNat sg)), .val (.int (Int32.ofNat ln)), .val (.int (1 : Int32)), .val (.int (Int32.ofNat i)), .val (.int c0)] [(.int c0)])) _
                refine XS.bipush X366.here hx rfl (hb hby d9_105) ?_
                exact kk_)
              by_cases hc388 : c0 = (95 : Int32)
              · have _ := e0
                have S390 : own_Go p e below T0 (mkF m 11 #[.val (.ref x), .val (.int mn), .val (.int mx), .val (.int (Int32.ofNat sg)), .val (.int (Int32.ofNat ln)), .val (.int (1 : Int32)), .val (.int (Int32.ofNat i)), s7] []) T366 (mkF m 115 #[.val (.ref x), .val (.int mn), .val (.int mx), .val (.int (Int32.ofNat sg)), .val (.int (Int32.ofNat ln)), .val (.int (1 : Int32)), .val (.int (Int32.ofNat i)), .val (.int c0)] [(.int (1 : Int32))]) := fun tg_ kk_ => S389 tg_ (by
                  refine XS.icmpNo X366.here hx rfl (hb hby d9_107) rfl (XT.ii_ne_f hc388) ?_
                  show Steps p.tables e below (T366.setTop (mkF m 110 #[.val (.ref x), .val (.int mn), .val (.int mx), .val (.int (Int32.ofNat sg)), .val (.int (Int32.ofNat ln)), .val (.int (1 : Int32)), .val (.int (Int32.ofNat i)), .val (.int c0)] [])) _
                  refine XS.iconst X366.here hx rfl (hb hby d9_110) ?_
                  show Steps p.tables e below (T366.setTop (mkF m 111 #[.val (.ref x), .val (.int mn), .val (.int mx), .val (.int (Int32.ofNat sg)), .val (.int (Int32.ofNat ln)), .val (.int (1 : Int32)), .val (.int (Int32.ofNat i)), .val (.int c0)] [(.int (1 : Int32))])) _
                  refine XS.goto X366.here hx rfl (pc0 := 111) (pc' := 115) rfl (hb hby d9_111) (by decide) (by decide) ?_
                  exact kk_)
                have hv : own_word c0 = true := by simp [own_word, hc383, hc384, hc386, hc388]
                rw [hv]
                exact S390
              · have _ := e0
                have S391 : own_Go p e below T0 (mkF m 11 #[.val (.ref x), .val (.int mn), .val (.int mx), .val (.int (Int32.ofNat sg)), .val (.int (Int32.ofNat ln)), .val (.int (1 : Int32)), .val (.int (Int32.ofNat i)), s7] []) T366 (mkF m 115 #[.val (.ref x), .val (.int mn), .val (.int mx), .val (.int (Int32.ofNat sg)), .val (.int (Int32.ofNat ln)), .val (.int (1 : Int32)), .val (.int (Int32.ofNat i)), .val (.int c0)] [(.int (0 : Int32))]) := fun tg_ kk_ => S389 tg_ (by
                  refine XS.icmpYes X366.here hx rfl (pc0 := 107) (pc' := 114) rfl (hb hby d9_107) rfl (XT.ii_ne_t hc388) (by decide) (by decide) ?_
                  show Steps p.tables e below (T366.setTop (mkF m 114 #[.val (.ref x), .val (.int mn), .val (.int mx), .val (.int (Int32.ofNat sg)), .val (.int (Int32.ofNat ln)), .val (.int (1 : Int32)), .val (.int (Int32.ofNat i)), .val (.int c0)] [])) _
                  refine XS.iconst X366.here hx rfl (hb hby d9_114) ?_
                  exact kk_)
                have hv : own_word c0 = false := by simp [own_word, hc383, hc384, hc386, hc388]
                rw [hv]
                exact S391
            · have _ := e0
              have S393 : own_Go p e below T0 (mkF m 11 #[.val (.ref x), .val (.int mn), .val (.int mx), .val (.int (Int32.ofNat sg)), .val (.int (Int32.ofNat ln)), .val (.int (1 : Int32)), .val (.int (Int32.ofNat i)), s7] []) T366 (mkF m 100 #[.val (.ref x), .val (.int mn), .val (.int mx), .val (.int (Int32.ofNat sg)), .val (.int (Int32.ofNat ln)), .val (.int (1 : Int32)), .val (.int (Int32.ofNat i)), .val (.int c0)] [(.int (57 : Int32)), (.int c0)]) := fun tg_ kk_ => S387 tg_ (by
                refine XS.icmpNo X366.here hx rfl (hb hby d9_93) rfl (XT.ii_lt_f hc386) ?_
                show Steps p.tables e below (T366.setTop (mkF m 96 #[.val (.ref x), .val (.int mn), .val (.int mx), .val (.int (Int32.ofNat sg)), .val (.int (Int32.ofNat ln)), .val (.int (1 : Int32)), .val (.int (Int32.ofNat i)), .val (.int c0)] [])) _
                refine XS.iload X366.here hx rfl (hb hby d9_96) rfl ?_
                show Steps p.tables e below (T366.setTop (mkF m 98 #[.val (.ref x), .val (.int mn), .val (.int mx), .val (.int (Int32.ofNat sg)), .val (.int (Int32.ofNat ln)), .val (.int (1 : Int32)), .val (.int (Int32.ofNat i)), .val (.int c0)] [(.int c0)])) _
                refine XS.bipush X366.here hx rfl (hb hby d9_98) ?_
                exact kk_)
              by_cases hc392 : (57 : Int32) < c0
              · have _ := e0
                have S395 : own_Go p e below T0 (mkF m 11 #[.val (.ref x), .val (.int mn), .val (.int mx), .val (.int (Int32.ofNat sg)), .val (.int (Int32.ofNat ln)), .val (.int (1 : Int32)), .val (.int (Int32.ofNat i)), s7] []) T366 (mkF m 107 #[.val (.ref x), .val (.int mn), .val (.int mx), .val (.int (Int32.ofNat sg)), .val (.int (Int32.ofNat ln)), .val (.int (1 : Int32)), .val (.int (Int32.ofNat i)), .val (.int c0)] [(.int (95 : Int32)), (.int c0)]) := fun tg_ kk_ => S393 tg_ (by
                  refine XS.icmpNo X366.here hx rfl (hb hby d9_100) rfl (XT.ii_le_f hc392) ?_
                  show Steps p.tables e below (T366.setTop (mkF m 103 #[.val (.ref x), .val (.int mn), .val (.int mx), .val (.int (Int32.ofNat sg)), .val (.int (Int32.ofNat ln)), .val (.int (1 : Int32)), .val (.int (Int32.ofNat i)), .val (.int c0)] [])) _
                  refine XS.iload X366.here hx rfl (hb hby d9_103) rfl ?_
                  show Steps p.tables e below (T366.setTop (mkF m 105 #[.val (.ref x), .val (.int mn), .val (.int mx), .val (.int (Int32.ofNat sg)), .val (.int (Int32.ofNat ln)), .val (.int (1 : Int32)), .val (.int (Int32.ofNat i)), .val (.int c0)] [(.int c0)])) _
                  refine XS.bipush X366.here hx rfl (hb hby d9_105) ?_
                  exact kk_)
                by_cases hc394 : c0 = (95 : Int32)
                · have _ := e0
                  have S396 : own_Go p e below T0 (mkF m 11 #[.val (.ref x), .val (.int mn), .val (.int mx), .val (.int (Int32.ofNat sg)), .val (.int (Int32.ofNat ln)), .val (.int (1 : Int32)), .val (.int (Int32.ofNat i)), s7] []) T366 (mkF m 115 #[.val (.ref x), .val (.int mn), .val (.int mx), .val (.int (Int32.ofNat sg)), .val (.int (Int32.ofNat ln)), .val (.int (1 : Int32)), .val (.int (Int32.ofNat i)), .val (.int c0)] [(.int (1 : Int32))]) := fun tg_ kk_ => S395 tg_ (by
                    refine XS.icmpNo X366.here hx rfl (hb hby d9_107) rfl (XT.ii_ne_f hc394) ?_
                    show Steps p.tables e below (T366.setTop (mkF m 110 #[.val (.ref x), .val (.int mn), .val (.int mx), .val (.int (Int32.ofNat sg)), .val (.int (Int32.ofNat ln)), .val (.int (1 : Int32)), .val (.int (Int32.ofNat i)), .val (.int c0)] [])) _
                    refine XS.iconst X366.here hx rfl (hb hby d9_110) ?_
                    show Steps p.tables e below (T366.setTop (mkF m 111 #[.val (.ref x), .val (.int mn), .val (.int mx), .val (.int (Int32.ofNat sg)), .val (.int (Int32.ofNat ln)), .val (.int (1 : Int32)), .val (.int (Int32.ofNat i)), .val (.int c0)] [(.int (1 : Int32))])) _
                    refine XS.goto X366.here hx rfl (pc0 := 111) (pc' := 115) rfl (hb hby d9_111) (by decide) (by decide) ?_
                    exact kk_)
                  have hv : own_word c0 = true := by simp [own_word, hc383, hc384, hc386, hc392, hc394]
                  rw [hv]
                  exact S396
                · have _ := e0
                  have S397 : own_Go p e below T0 (mkF m 11 #[.val (.ref x), .val (.int mn), .val (.int mx), .val (.int (Int32.ofNat sg)), .val (.int (Int32.ofNat ln)), .val (.int (1 : Int32)), .val (.int (Int32.ofNat i)), s7] []) T366 (mkF m 115 #[.val (.ref x), .val (.int mn), .val (.int mx), .val (.int (Int32.ofNat sg)), .val (.int (Int32.ofNat ln)), .val (.int (1 : Int32)), .val (.int (Int32.ofNat i)), .val (.int c0)] [(.int (0 : Int32))]) := fun tg_ kk_ => S395 tg_ (by
                    refine XS.icmpYes X366.here hx rfl (pc0 := 107) (pc' := 114) rfl (hb hby d9_107) rfl (XT.ii_ne_t hc394) (by decide) (by decide) ?_
                    show Steps p.tables e below (T366.setTop (mkF m 114 #[.val (.ref x), .val (.int mn), .val (.int mx), .val (.int (Int32.ofNat sg)), .val (.int (Int32.ofNat ln)), .val (.int (1 : Int32)), .val (.int (Int32.ofNat i)), .val (.int c0)] [])) _
                    refine XS.iconst X366.here hx rfl (hb hby d9_114) ?_
                    exact kk_)
                  have hv : own_word c0 = false := by simp [own_word, hc383, hc384, hc386, hc392, hc394]
                  rw [hv]
                  exact S397
              · have _ := e0
                have S398 : own_Go p e below T0 (mkF m 11 #[.val (.ref x), .val (.int mn), .val (.int mx), .val (.int (Int32.ofNat sg)), .val (.int (Int32.ofNat ln)), .val (.int (1 : Int32)), .val (.int (Int32.ofNat i)), s7] []) T366 (mkF m 115 #[.val (.ref x), .val (.int mn), .val (.int mx), .val (.int (Int32.ofNat sg)), .val (.int (Int32.ofNat ln)), .val (.int (1 : Int32)), .val (.int (Int32.ofNat i)), .val (.int c0)] [(.int (1 : Int32))]) := fun tg_ kk_ => S393 tg_ (by
                  refine XS.icmpYes X366.here hx rfl (pc0 := 100) (pc' := 110) rfl (hb hby d9_100) rfl (XT.ii_le_t hc392) (by decide) (by decide) ?_
                  show Steps p.tables e below (T366.setTop (mkF m 110 #[.val (.ref x), .val (.int mn), .val (.int mx), .val (.int (Int32.ofNat sg)), .val (.int (Int32.ofNat ln)), .val (.int (1 : Int32)), .val (.int (Int32.ofNat i)), .val (.int c0)] [])) _
                  refine XS.iconst X366.here hx rfl (hb hby d9_110) ?_
                  show Steps p.tables e below (T366.setTop (mkF m 111 #[.val (.ref x), .val (.int mn), .val (.int mx), .val (.int (Int32.ofNat sg)), .val (.int (Int32.ofNat ln)), .val (.int (1 : Int32)), .val (.int (Int32.ofNat i)), .val (.int c0)] [(.int (1 : Int32))])) _
                  refine XS.goto X366.here hx rfl (pc0 := 111) (pc' := 115) rfl (hb hby d9_111) (by decide) (by decide) ?_
                  exact kk_)
                have hv : own_word c0 = true := by simp [own_word, hc383, hc384, hc386, hc392]
                rw [hv]
                exact S398
          · have _ := e0
            have S400 : own_Go p e below T0 (mkF m 11 #[.val (.ref x), .val (.int mn), .val (.int mx), .val (.int (Int32.ofNat sg)), .val (.int (Int32.ofNat ln)), .val (.int (1 : Int32)), .val (.int (Int32.ofNat i)), s7] []) T366 (mkF m 86 #[.val (.ref x), .val (.int mn), .val (.int mx), .val (.int (Int32.ofNat sg)), .val (.int (Int32.ofNat ln)), .val (.int (1 : Int32)), .val (.int (Int32.ofNat i)), .val (.int c0)] [(.int (90 : Int32)), (.int c0)]) := fun tg_ kk_ => S385 tg_ (by
              refine XS.icmpNo X366.here hx rfl (hb hby d9_79) rfl (XT.ii_lt_f hc384) ?_
              show Steps p.tables e below (T366.setTop (mkF m 82 #[.val (.ref x), .val (.int mn), .val (.int mx), .val (.int (Int32.ofNat sg)), .val (.int (Int32.ofNat ln)), .val (.int (1 : Int32)), .val (.int (Int32.ofNat i)), .val (.int c0)] [])) _
              refine XS.iload X366.here hx rfl (hb hby d9_82) rfl ?_
              show Steps p.tables e below (T366.setTop (mkF m 84 #[.val (.ref x), .val (.int mn), .val (.int mx), .val (.int (Int32.ofNat sg)), .val (.int (Int32.ofNat ln)), .val (.int (1 : Int32)), .val (.int (Int32.ofNat i)), .val (.int c0)] [(.int c0)])) _
              refine XS.bipush X366.here hx rfl (hb hby d9_84) ?_
              exact kk_)
            by_cases hc399 : (90 : Int32) < c0
            · have _ := e0
              have S402 : own_Go p e below T0 (mkF m 11 #[.val (.ref x), .val (.int mn), .val (.int mx), .val (.int (Int32.ofNat sg)), .val (.int (Int32.ofNat ln)), .val (.int (1 : Int32)), .val (.int (Int32.ofNat i)), s7] []) T366 (mkF m 93 #[.val (.ref x), .val (.int mn), .val (.int mx), .val (.int (Int32.ofNat sg)), .val (.int (Int32.ofNat ln)), .val (.int (1 : Int32)), .val (.int (Int32.ofNat i)), .val (.int c0)] [(.int (48 : Int32)), (.int c0)]) := fun tg_ kk_ => S400 tg_ (by
                refine XS.icmpNo X366.here hx rfl (hb hby d9_86) rfl (XT.ii_le_f hc399) ?_
                show Steps p.tables e below (T366.setTop (mkF m 89 #[.val (.ref x), .val (.int mn), .val (.int mx), .val (.int (Int32.ofNat sg)), .val (.int (Int32.ofNat ln)), .val (.int (1 : Int32)), .val (.int (Int32.ofNat i)), .val (.int c0)] [])) _
                refine XS.iload X366.here hx rfl (hb hby d9_89) rfl ?_
                show Steps p.tables e below (T366.setTop (mkF m 91 #[.val (.ref x), .val (.int mn), .val (.int mx), .val (.int (Int32.ofNat sg)), .val (.int (Int32.ofNat ln)), .val (.int (1 : Int32)), .val (.int (Int32.ofNat i)), .val (.int c0)] [(.int c0)])) _
                refine XS.bipush X366.here hx rfl (hb hby d9_91) ?_
                exact kk_)
              by_cases hc401 : c0 < (48 : Int32)
              · have _ := e0
                have S404 : own_Go p e below T0 (mkF m 11 #[.val (.ref x), .val (.int mn), .val (.int mx), .val (.int (Int32.ofNat sg)), .val (.int (Int32.ofNat ln)), .val (.int (1 : Int32)), .val (.int (Int32.ofNat i)), s7] []) T366 (mkF m 107 #[.val (.ref x), .val (.int mn), .val (.int mx), .val (.int (Int32.ofNat sg)), .val (.int (Int32.ofNat ln)), .val (.int (1 : Int32)), .val (.int (Int32.ofNat i)), .val (.int c0)] [(.int (95 : Int32)), (.int c0)]) := fun tg_ kk_ => S402 tg_ (by
                  refine XS.icmpYes X366.here hx rfl (pc0 := 93) (pc' := 103) rfl (hb hby d9_93) rfl (XT.ii_lt_t hc401) (by decide) (by decide) ?_
                  show Steps p.tables e below (T366.setTop (mkF m 103 #[.val (.ref x), .val (.int mn), .val (.int mx), .val (.int (Int32.ofNat sg)), .val (.int (Int32.ofNat ln)), .val (.int (1 : Int32)), .val (.int (Int32.ofNat i)), .val (.int c0)] [])) _
                  refine XS.iload X366.here hx rfl (hb hby d9_103) rfl ?_
                  show Steps p.tables e below (T366.setTop (mkF m 105 #[.val (.ref x), .val (.int mn), .val (.int mx), .val (.int (Int32.ofNat sg)), .val (.int (Int32.ofNat ln)), .val (.int (1 : Int32)), .val (.int (Int32.ofNat i)), .val (.int c0)] [(.int c0)])) _
                  refine XS.bipush X366.here hx rfl (hb hby d9_105) ?_
                  exact kk_)
                by_cases hc403 : c0 = (95 : Int32)
                · have _ := e0
                  have S405 : own_Go p e below T0 (mkF m 11 #[.val (.ref x), .val (.int mn), .val (.int mx), .val (.int (Int32.ofNat sg)), .val (.int (Int32.ofNat ln)), .val (.int (1 : Int32)), .val (.int (Int32.ofNat i)), s7] []) T366 (mkF m 115 #[.val (.ref x), .val (.int mn), .val (.int mx), .val (.int (Int32.ofNat sg)), .val (.int (Int32.ofNat ln)), .val (.int (1 : Int32)), .val (.int (Int32.ofNat i)), .val (.int c0)] [(.int (1 : Int32))]) := fun tg_ kk_ => S404 tg_ (by
                    refine XS.icmpNo X366.here hx rfl (hb hby d9_107) rfl (XT.ii_ne_f hc403) ?_
                    show Steps p.tables e below (T366.setTop (mkF m 110 #[.val (.ref x), .val (.int mn), .val (.int mx), .val (.int (Int32.ofNat sg)), .val (.int (Int32.ofNat ln)), .val (.int (1 : Int32)), .val (.int (Int32.ofNat i)), .val (.int c0)] [])) _
                    refine XS.iconst X366.here hx rfl (hb hby d9_110) ?_
                    show Steps p.tables e below (T366.setTop (mkF m 111 #[.val (.ref x), .val (.int mn), .val (.int mx), .val (.int (Int32.ofNat sg)), .val (.int (Int32.ofNat ln)), .val (.int (1 : Int32)), .val (.int (Int32.ofNat i)), .val (.int c0)] [(.int (1 : Int32))])) _
                    refine XS.goto X366.here hx rfl (pc0 := 111) (pc' := 115) rfl (hb hby d9_111) (by decide) (by decide) ?_
                    exact kk_)
                  have hv : own_word c0 = true := by simp [own_word, hc383, hc384, hc399, hc401, hc403]
                  rw [hv]
                  exact S405
                · have _ := e0
                  have S406 : own_Go p e below T0 (mkF m 11 #[.val (.ref x), .val (.int mn), .val (.int mx), .val (.int (Int32.ofNat sg)), .val (.int (Int32.ofNat ln)), .val (.int (1 : Int32)), .val (.int (Int32.ofNat i)), s7] []) T366 (mkF m 115 #[.val (.ref x), .val (.int mn), .val (.int mx), .val (.int (Int32.ofNat sg)), .val (.int (Int32.ofNat ln)), .val (.int (1 : Int32)), .val (.int (Int32.ofNat i)), .val (.int c0)] [(.int (0 : Int32))]) := fun tg_ kk_ => S404 tg_ (by
                    refine XS.icmpYes X366.here hx rfl (pc0 := 107) (pc' := 114) rfl (hb hby d9_107) rfl (XT.ii_ne_t hc403) (by decide) (by decide) ?_
                    show Steps p.tables e below (T366.setTop (mkF m 114 #[.val (.ref x), .val (.int mn), .val (.int mx), .val (.int (Int32.ofNat sg)), .val (.int (Int32.ofNat ln)), .val (.int (1 : Int32)), .val (.int (Int32.ofNat i)), .val (.int c0)] [])) _
                    refine XS.iconst X366.here hx rfl (hb hby d9_114) ?_
                    exact kk_)
                  have hv : own_word c0 = false := by simp [own_word, hc383, hc384, hc399, hc401, hc403]
                  rw [hv]
                  exact S406
              · have _ := e0
                have S408 : own_Go p e below T0 (mkF m 11 #[.val (.ref x), .val (.int mn), .val (.int mx), .val (.int (Int32.ofNat sg)), .val (.int (Int32.ofNat ln)), .val (.int (1 : Int32)), .val (.int (Int32.ofNat i)), s7] []) T366 (mkF m 100 #[.val (.ref x), .val (.int mn), .val (.int mx), .val (.int (Int32.ofNat sg)), .val (.int (Int32.ofNat ln)), .val (.int (1 : Int32)), .val (.int (Int32.ofNat i)), .val (.int c0)] [(.int (57 : Int32)), (.int c0)]) := fun tg_ kk_ => S402 tg_ (by
                  refine XS.icmpNo X366.here hx rfl (hb hby d9_93) rfl (XT.ii_lt_f hc401) ?_
                  show Steps p.tables e below (T366.setTop (mkF m 96 #[.val (.ref x), .val (.int mn), .val (.int mx), .val (.int (Int32.ofNat sg)), .val (.int (Int32.ofNat ln)), .val (.int (1 : Int32)), .val (.int (Int32.ofNat i)), .val (.int c0)] [])) _
                  refine XS.iload X366.here hx rfl (hb hby d9_96) rfl ?_
                  show Steps p.tables e below (T366.setTop (mkF m 98 #[.val (.ref x), .val (.int mn), .val (.int mx), .val (.int (Int32.ofNat sg)), .val (.int (Int32.ofNat ln)), .val (.int (1 : Int32)), .val (.int (Int32.ofNat i)), .val (.int c0)] [(.int c0)])) _
                  refine XS.bipush X366.here hx rfl (hb hby d9_98) ?_
                  exact kk_)
                by_cases hc407 : (57 : Int32) < c0
                · have _ := e0
                  have S410 : own_Go p e below T0 (mkF m 11 #[.val (.ref x), .val (.int mn), .val (.int mx), .val (.int (Int32.ofNat sg)), .val (.int (Int32.ofNat ln)), .val (.int (1 : Int32)), .val (.int (Int32.ofNat i)), s7] []) T366 (mkF m 107 #[.val (.ref x), .val (.int mn), .val (.int mx), .val (.int (Int32.ofNat sg)), .val (.int (Int32.ofNat ln)), .val (.int (1 : Int32)), .val (.int (Int32.ofNat i)), .val (.int c0)] [(.int (95 : Int32)), (.int c0)]) := fun tg_ kk_ => S408 tg_ (by
                    refine XS.icmpNo X366.here hx rfl (hb hby d9_100) rfl (XT.ii_le_f hc407) ?_
                    show Steps p.tables e below (T366.setTop (mkF m 103 #[.val (.ref x), .val (.int mn), .val (.int mx), .val (.int (Int32.ofNat sg)), .val (.int (Int32.ofNat ln)), .val (.int (1 : Int32)), .val (.int (Int32.ofNat i)), .val (.int c0)] [])) _
                    refine XS.iload X366.here hx rfl (hb hby d9_103) rfl ?_
                    show Steps p.tables e below (T366.setTop (mkF m 105 #[.val (.ref x), .val (.int mn), .val (.int mx), .val (.int (Int32.ofNat sg)), .val (.int (Int32.ofNat ln)), .val (.int (1 : Int32)), .val (.int (Int32.ofNat i)), .val (.int c0)] [(.int c0)])) _
                    refine XS.bipush X366.here hx rfl (hb hby d9_105) ?_
                    exact kk_)
                  by_cases hc409 : c0 = (95 : Int32)
                  · have _ := e0
                    have S411 : own_Go p e below T0 (mkF m 11 #[.val (.ref x), .val (.int mn), .val (.int mx), .val (.int (Int32.ofNat sg)), .val (.int (Int32.ofNat ln)), .val (.int (1 : Int32)), .val (.int (Int32.ofNat i)), s7] []) T366 (mkF m 115 #[.val (.ref x), .val (.int mn), .val (.int mx), .val (.int (Int32.ofNat sg)), .val (.int (Int32.ofNat ln)), .val (.int (1 : Int32)), .val (.int (Int32.ofNat i)), .val (.int c0)] [(.int (1 : Int32))]) := fun tg_ kk_ => S410 tg_ (by
                      refine XS.icmpNo X366.here hx rfl (hb hby d9_107) rfl (XT.ii_ne_f hc409) ?_
                      show Steps p.tables e below (T366.setTop (mkF m 110 #[.val (.ref x), .val (.int mn), .val (.int mx), .val (.int (Int32.ofNat sg)), .val (.int (Int32.ofNat ln)), .val (.int (1 : Int32)), .val (.int (Int32.ofNat i)), .val (.int c0)] [])) _
                      refine XS.iconst X366.here hx rfl (hb hby d9_110) ?_
                      show Steps p.tables e below (T366.setTop (mkF m 111 #[.val (.ref x), .val (.int mn), .val (.int mx), .val (.int (Int32.ofNat sg)), .val (.int (Int32.ofNat ln)), .val (.int (1 : Int32)), .val (.int (Int32.ofNat i)), .val (.int c0)] [(.int (1 : Int32))])) _
                      refine XS.goto X366.here hx rfl (pc0 := 111) (pc' := 115) rfl (hb hby d9_111) (by decide) (by decide) ?_
                      exact kk_)
                    have hv : own_word c0 = true := by simp [own_word, hc383, hc384, hc399, hc401, hc407, hc409]
                    rw [hv]
                    exact S411
                  · have _ := e0
                    have S412 : own_Go p e below T0 (mkF m 11 #[.val (.ref x), .val (.int mn), .val (.int mx), .val (.int (Int32.ofNat sg)), .val (.int (Int32.ofNat ln)), .val (.int (1 : Int32)), .val (.int (Int32.ofNat i)), s7] []) T366 (mkF m 115 #[.val (.ref x), .val (.int mn), .val (.int mx), .val (.int (Int32.ofNat sg)), .val (.int (Int32.ofNat ln)), .val (.int (1 : Int32)), .val (.int (Int32.ofNat i)), .val (.int c0)] [(.int (0 : Int32))]) := fun tg_ kk_ => S410 tg_ (by
                      refine XS.icmpYes X366.here hx rfl (pc0 := 107) (pc' := 114) rfl (hb hby d9_107) rfl (XT.ii_ne_t hc409) (by decide) (by decide) ?_
                      show Steps p.tables e below (T366.setTop (mkF m 114 #[.val (.ref x), .val (.int mn), .val (.int mx), .val (.int (Int32.ofNat sg)), .val (.int (Int32.ofNat ln)), .val (.int (1 : Int32)), .val (.int (Int32.ofNat i)), .val (.int c0)] [])) _
                      refine XS.iconst X366.here hx rfl (hb hby d9_114) ?_
                      exact kk_)
                    have hv : own_word c0 = false := by simp [own_word, hc383, hc384, hc399, hc401, hc407, hc409]
                    rw [hv]
                    exact S412
                · have _ := e0
                  have S413 : own_Go p e below T0 (mkF m 11 #[.val (.ref x), .val (.int mn), .val (.int mx), .val (.int (Int32.ofNat sg)), .val (.int (Int32.ofNat ln)), .val (.int (1 : Int32)), .val (.int (Int32.ofNat i)), s7] []) T366 (mkF m 115 #[.val (.ref x), .val (.int mn), .val (.int mx), .val (.int (Int32.ofNat sg)), .val (.int (Int32.ofNat ln)), .val (.int (1 : Int32)), .val (.int (Int32.ofNat i)), .val (.int c0)] [(.int (1 : Int32))]) := fun tg_ kk_ => S408 tg_ (by
                    refine XS.icmpYes X366.here hx rfl (pc0 := 100) (pc' := 110) rfl (hb hby d9_100) rfl (XT.ii_le_t hc407) (by decide) (by decide) ?_
                    show Steps p.tables e below (T366.setTop (mkF m 110 #[.val (.ref x), .val (.int mn), .val (.int mx), .val (.int (Int32.ofNat sg)), .val (.int (Int32.ofNat ln)), .val (.int (1 : Int32)), .val (.int (Int32.ofNat i)), .val (.int c0)] [])) _
                    refine XS.iconst X366.here hx rfl (hb hby d9_110) ?_
                    show Steps p.tables e below (T366.setTop (mkF m 111 #[.val (.ref x), .val (.int mn), .val (.int mx), .val (.int (Int32.ofNat sg)), .val (.int (Int32.ofNat ln)), .val (.int (1 : Int32)), .val (.int (Int32.ofNat i)), .val (.int c0)] [(.int (1 : Int32))])) _
                    refine XS.goto X366.here hx rfl (pc0 := 111) (pc' := 115) rfl (hb hby d9_111) (by decide) (by decide) ?_
                    exact kk_)
                  have hv : own_word c0 = true := by simp [own_word, hc383, hc384, hc399, hc401, hc407]
                  rw [hv]
                  exact S413
            · have _ := e0
              have S414 : own_Go p e below T0 (mkF m 11 #[.val (.ref x), .val (.int mn), .val (.int mx), .val (.int (Int32.ofNat sg)), .val (.int (Int32.ofNat ln)), .val (.int (1 : Int32)), .val (.int (Int32.ofNat i)), s7] []) T366 (mkF m 115 #[.val (.ref x), .val (.int mn), .val (.int mx), .val (.int (Int32.ofNat sg)), .val (.int (Int32.ofNat ln)), .val (.int (1 : Int32)), .val (.int (Int32.ofNat i)), .val (.int c0)] [(.int (1 : Int32))]) := fun tg_ kk_ => S400 tg_ (by
                refine XS.icmpYes X366.here hx rfl (pc0 := 86) (pc' := 110) rfl (hb hby d9_86) rfl (XT.ii_le_t hc399) (by decide) (by decide) ?_
                show Steps p.tables e below (T366.setTop (mkF m 110 #[.val (.ref x), .val (.int mn), .val (.int mx), .val (.int (Int32.ofNat sg)), .val (.int (Int32.ofNat ln)), .val (.int (1 : Int32)), .val (.int (Int32.ofNat i)), .val (.int c0)] [])) _
                refine XS.iconst X366.here hx rfl (hb hby d9_110) ?_
                show Steps p.tables e below (T366.setTop (mkF m 111 #[.val (.ref x), .val (.int mn), .val (.int mx), .val (.int (Int32.ofNat sg)), .val (.int (Int32.ofNat ln)), .val (.int (1 : Int32)), .val (.int (Int32.ofNat i)), .val (.int c0)] [(.int (1 : Int32))])) _
                refine XS.goto X366.here hx rfl (pc0 := 111) (pc' := 115) rfl (hb hby d9_111) (by decide) (by decide) ?_
                exact kk_)
              have hv : own_word c0 = true := by simp [own_word, hc383, hc384, hc399]
              rw [hv]
              exact S414
        · have _ := e0
          have S416 : own_Go p e below T0 (mkF m 11 #[.val (.ref x), .val (.int mn), .val (.int mx), .val (.int (Int32.ofNat sg)), .val (.int (Int32.ofNat ln)), .val (.int (1 : Int32)), .val (.int (Int32.ofNat i)), s7] []) T366 (mkF m 72 #[.val (.ref x), .val (.int mn), .val (.int mx), .val (.int (Int32.ofNat sg)), .val (.int (Int32.ofNat ln)), .val (.int (1 : Int32)), .val (.int (Int32.ofNat i)), .val (.int c0)] [(.int (122 : Int32)), (.int c0)]) := fun tg_ kk_ => S381 tg_ (by
            refine XS.icmpNo X366.here hx rfl (hb hby d9_65) rfl (XT.ii_lt_f hc383) ?_
            show Steps p.tables e below (T366.setTop (mkF m 68 #[.val (.ref x), .val (.int mn), .val (.int mx), .val (.int (Int32.ofNat sg)), .val (.int (Int32.ofNat ln)), .val (.int (1 : Int32)), .val (.int (Int32.ofNat i)), .val (.int c0)] [])) _
            refine XS.iload X366.here hx rfl (hb hby d9_68) rfl ?_
            show Steps p.tables e below (T366.setTop (mkF m 70 #[.val (.ref x), .val (.int mn), .val (.int mx), .val (.int (Int32.ofNat sg)), .val (.int (Int32.ofNat ln)), .val (.int (1 : Int32)), .val (.int (Int32.ofNat i)), .val (.int c0)] [(.int c0)])) _
            refine XS.bipush X366.here hx rfl (hb hby d9_70) ?_
            exact kk_)
          by_cases hc415 : (122 : Int32) < c0
          · have _ := e0
            have S418 : own_Go p e below T0 (mkF m 11 #[.val (.ref x), .val (.int mn), .val (.int mx), .val (.int (Int32.ofNat sg)), .val (.int (Int32.ofNat ln)), .val (.int (1 : Int32)), .val (.int (Int32.ofNat i)), s7] []) T366 (mkF m 79 #[.val (.ref x), .val (.int mn), .val (.int mx), .val (.int (Int32.ofNat sg)), .val (.int (Int32.ofNat ln)), .val (.int (1 : Int32)), .val (.int (Int32.ofNat i)), .val (.int c0)] [(.int (65 : Int32)), (.int c0)]) := fun tg_ kk_ => S416 tg_ (by
              refine XS.icmpNo X366.here hx rfl (hb hby d9_72) rfl (XT.ii_le_f hc415) ?_
              show Steps p.tables e below (T366.setTop (mkF m 75 #[.val (.ref x), .val (.int mn), .val (.int mx), .val (.int (Int32.ofNat sg)), .val (.int (Int32.ofNat ln)), .val (.int (1 : Int32)), .val (.int (Int32.ofNat i)), .val (.int c0)] [])) _
              refine XS.iload X366.here hx rfl (hb hby d9_75) rfl ?_
              show Steps p.tables e below (T366.setTop (mkF m 77 #[.val (.ref x), .val (.int mn), .val (.int mx), .val (.int (Int32.ofNat sg)), .val (.int (Int32.ofNat ln)), .val (.int (1 : Int32)), .val (.int (Int32.ofNat i)), .val (.int c0)] [(.int c0)])) _
              refine XS.bipush X366.here hx rfl (hb hby d9_77) ?_
              exact kk_)
            by_cases hc417 : c0 < (65 : Int32)
            · have _ := e0
              have S420 : own_Go p e below T0 (mkF m 11 #[.val (.ref x), .val (.int mn), .val (.int mx), .val (.int (Int32.ofNat sg)), .val (.int (Int32.ofNat ln)), .val (.int (1 : Int32)), .val (.int (Int32.ofNat i)), s7] []) T366 (mkF m 93 #[.val (.ref x), .val (.int mn), .val (.int mx), .val (.int (Int32.ofNat sg)), .val (.int (Int32.ofNat ln)), .val (.int (1 : Int32)), .val (.int (Int32.ofNat i)), .val (.int c0)] [(.int (48 : Int32)), (.int c0)]) := fun tg_ kk_ => S418 tg_ (by
                refine XS.icmpYes X366.here hx rfl (pc0 := 79) (pc' := 89) rfl (hb hby d9_79) rfl (XT.ii_lt_t hc417) (by decide) (by decide) ?_
                show Steps p.tables e below (T366.setTop (mkF m 89 #[.val (.ref x), .val (.int mn), .val (.int mx), .val (.int (Int32.ofNat sg)), .val (.int (Int32.ofNat ln)), .val (.int (1 : Int32)), .val (.int (Int32.ofNat i)), .val (.int c0)] [])) _
                refine XS.iload X366.here hx rfl (hb hby d9_89) rfl ?_
                show Steps p.tables e below (T366.setTop (mkF m 91 #[.val (.ref x), .val (.int mn), .val (.int mx), .val (.int (Int32.ofNat sg)), .val (.int (Int32.ofNat ln)), .val (.int (1 : Int32)), .val (.int (Int32.ofNat i)), .val (.int c0)] [(.int c0)])) _
                refine XS.bipush X366.here hx rfl (hb hby d9_91) ?_
                exact kk_)
              by_cases hc419 : c0 < (48 : Int32)
              · have _ := e0
                have S422 : own_Go p e below T0 (mkF m 11 #[.val (.ref x), .val (.int mn), .val (.int mx), .val (.int (Int32.ofNat sg)), .val (.int (Int32.ofNat ln)), .val (.int (1 : Int32)), .val (.int (Int32.ofNat i)), s7] []) T366 (mkF m 107 #[.val (.ref x), .val (.int mn), .val (.int mx), .val (.int (Int32.ofNat sg)), .val (.int (Int32.ofNat ln)), .val (.int (1 : Int32)), .val (.int (Int32.ofNat i)), .val (.int c0)] [(.int (95 : Int32)), (.int c0)]) := fun tg_ kk_ => S420 tg_ (by
                  refine XS.icmpYes X366.here hx rfl (pc0 := 93) (pc' := 103) rfl (hb hby d9_93) rfl (XT.ii_lt_t hc419) (by decide) (by decide) ?_
                  show Steps p.tables e below (T366.setTop (mkF m 103 #[.val (.ref x), .val (.int mn), .val (.int mx), .val (.int (Int32.ofNat sg)), .val (.int (Int32.ofNat ln)), .val (.int (1 : Int32)), .val (.int (Int32.ofNat i)), .val (.int c0)] [])) _
                  refine XS.iload X366.here hx rfl (hb hby d9_103) rfl ?_
                  show Steps p.tables e below (T366.setTop (mkF m 105 #[.val (.ref x), .val (.int mn), .val (.int mx), .val (.int (Int32.ofNat sg)), .val (.int (Int32.ofNat ln)), .val (.int (1 : Int32)), .val (.int (Int32.ofNat i)), .val (.int c0)] [(.int c0)])) _
                  refine XS.bipush X366.here hx rfl (hb hby d9_105) ?_
                  exact kk_)
                by_cases hc421 : c0 = (95 : Int32)
                · have _ := e0
                  have S423 : own_Go p e below T0 (mkF m 11 #[.val (.ref x), .val (.int mn), .val (.int mx), .val (.int (Int32.ofNat sg)), .val (.int (Int32.ofNat ln)), .val (.int (1 : Int32)), .val (.int (Int32.ofNat i)), s7] []) T366 (mkF m 115 #[.val (.ref x), .val (.int mn), .val (.int mx), .val (.int (Int32.ofNat sg)), .val (.int (Int32.ofNat ln)), .val (.int (1 : Int32)), .val (.int (Int32.ofNat i)), .val (.int c0)] [(.int (1 : Int32))]) := fun tg_ kk_ => S422 tg_ (by
                    refine XS.icmpNo X366.here hx rfl (hb hby d9_107) rfl (XT.ii_ne_f hc421) ?_
                    show Steps p.tables e below (T366.setTop (mkF m 110 #[.val (.ref x), .val (.int mn), .val (.int mx), .val (.int (Int32.ofNat sg)), .val (.int (Int32.ofNat ln)), .val (.int (1 : Int32)), .val (.int (Int32.ofNat i)), .val (.int c0)] [])) _
                    refine XS.iconst X366.here hx rfl (hb hby d9_110) ?_
                    show Steps p.tables e below (T366.setTop (mkF m 111 #[.val (.ref x), .val (.int mn), .val (.int mx), .val (.int (Int32.ofNat sg)), .val (.int (Int32.ofNat ln)), .val (.int (1 : Int32)), .val (.int (Int32.ofNat i)), .val (.int c0)] [(.int (1 : Int32))])) _
                    refine XS.goto X366.here hx rfl (pc0 := 111) (pc' := 115) rfl (hb hby d9_111) (by decide) (by decide) ?_
                    exact kk_)
                  have hv : own_word c0 = true := by simp [own_word, hc383, hc415, hc417, hc419, hc421]
                  rw [hv]
                  exact S423
                · have _ := e0
                  have S424 : own_Go p e below T0 (mkF m 11 #[.val (.ref x), .val (.int mn), .val (.int mx), .val (.int (Int32.ofNat sg)), .val (.int (Int32.ofNat ln)), .val (.int (1 : Int32)), .val (.int (Int32.ofNat i)), s7] []) T366 (mkF m 115 #[.val (.ref x), .val (.int mn), .val (.int mx), .val (.int (Int32.ofNat sg)), .val (.int (Int32.ofNat ln)), .val (.int (1 : Int32)), .val (.int (Int32.ofNat i)), .val (.int c0)] [(.int (0 : Int32))]) := fun tg_ kk_ => S422 tg_ (by
                    refine XS.icmpYes X366.here hx rfl (pc0 := 107) (pc' := 114) rfl (hb hby d9_107) rfl (XT.ii_ne_t hc421) (by decide) (by decide) ?_
                    show Steps p.tables e below (T366.setTop (mkF m 114 #[.val (.ref x), .val (.int mn), .val (.int mx), .val (.int (Int32.ofNat sg)), .val (.int (Int32.ofNat ln)), .val (.int (1 : Int32)), .val (.int (Int32.ofNat i)), .val (.int c0)] [])) _
                    refine XS.iconst X366.here hx rfl (hb hby d9_114) ?_
                    exact kk_)
                  have hv : own_word c0 = false := by simp [own_word, hc383, hc415, hc417, hc419, hc421]
                  rw [hv]
                  exact S424
              · have _ := e0
                have S426 : own_Go p e below T0 (mkF m 11 #[.val (.ref x), .val (.int mn), .val (.int mx), .val (.int (Int32.ofNat sg)), .val (.int (Int32.ofNat ln)), .val (.int (1 : Int32)), .val (.int (Int32.ofNat i)), s7] []) T366 (mkF m 100 #[.val (.ref x), .val (.int mn), .val (.int mx), .val (.int (Int32.ofNat sg)), .val (.int (Int32.ofNat ln)), .val (.int (1 : Int32)), .val (.int (Int32.ofNat i)), .val (.int c0)] [(.int (57 : Int32)), (.int c0)]) := fun tg_ kk_ => S420 tg_ (by
                  refine XS.icmpNo X366.here hx rfl (hb hby d9_93) rfl (XT.ii_lt_f hc419) ?_
                  show Steps p.tables e below (T366.setTop (mkF m 96 #[.val (.ref x), .val (.int mn), .val (.int mx), .val (.int (Int32.ofNat sg)), .val (.int (Int32.ofNat ln)), .val (.int (1 : Int32)), .val (.int (Int32.ofNat i)), .val (.int c0)] [])) _
                  refine XS.iload X366.here hx rfl (hb hby d9_96) rfl ?_
                  show Steps p.tables e below (T366.setTop (mkF m 98 #[.val (.ref x), .val (.int mn), .val (.int mx), .val (.int (Int32.ofNat sg)), .val (.int (Int32.ofNat ln)), .val (.int (1 : Int32)), .val (.int (Int32.ofNat i)), .val (.int c0)] [(.int c0)])) _
                  refine XS.bipush X366.here hx rfl (hb hby d9_98) ?_
                  exact kk_)
                by_cases hc425 : (57 : Int32) < c0
                · have _ := e0
                  have S428 : own_Go p e below T0 (mkF m 11 #[.val (.ref x), .val (.int mn), .val (.int mx), .val (.int (Int32.ofNat sg)), .val (.int (Int32.ofNat ln)), .val (.int (1 : Int32)), .val (.int (Int32.ofNat i)), s7] []) T366 (mkF m 107 #[.val (.ref x), .val (.int mn), .val (.int mx), .val (.int (Int32.ofNat sg)), .val (.int (Int32.ofNat ln)), .val (.int (1 : Int32)), .val (.int (Int32.ofNat i)), .val (.int c0)] [(.int (95 : Int32)), (.int c0)]) := fun tg_ kk_ => S426 tg_ (by
                    refine XS.icmpNo X366.here hx rfl (hb hby d9_100) rfl (XT.ii_le_f hc425) ?_
                    show Steps p.tables e below (T366.setTop (mkF m 103 #[.val (.ref x), .val (.int mn), .val (.int mx), .val (.int (Int32.ofNat sg)), .val (.int (Int32.ofNat ln)), .val (.int (1 : Int32)), .val (.int (Int32.ofNat i)), .val (.int c0)] [])) _
                    refine XS.iload X366.here hx rfl (hb hby d9_103) rfl ?_
                    show Steps p.tables e below (T366.setTop (mkF m 105 #[.val (.ref x), .val (.int mn), .val (.int mx), .val (.int (Int32.ofNat sg)), .val (.int (Int32.ofNat ln)), .val (.int (1 : Int32)), .val (.int (Int32.ofNat i)), .val (.int c0)] [(.int c0)])) _
                    refine XS.bipush X366.here hx rfl (hb hby d9_105) ?_
                    exact kk_)
                  by_cases hc427 : c0 = (95 : Int32)
                  · have _ := e0
                    have S429 : own_Go p e below T0 (mkF m 11 #[.val (.ref x), .val (.int mn), .val (.int mx), .val (.int (Int32.ofNat sg)), .val (.int (Int32.ofNat ln)), .val (.int (1 : Int32)), .val (.int (Int32.ofNat i)), s7] []) T366 (mkF m 115 #[.val (.ref x), .val (.int mn), .val (.int mx), .val (.int (Int32.ofNat sg)), .val (.int (Int32.ofNat ln)), .val (.int (1 : Int32)), .val (.int (Int32.ofNat i)), .val (.int c0)] [(.int (1 : Int32))]) := fun tg_ kk_ => S428 tg_ (by
                      refine XS.icmpNo X366.here hx rfl (hb hby d9_107) rfl (XT.ii_ne_f hc427) ?_
                      show Steps p.tables e below (T366.setTop (mkF m 110 #[.val (.ref x), .val (.int mn), .val (.int mx), .val (.int (Int32.ofNat sg)), .val (.int (Int32.ofNat ln)), .val (.int (1 : Int32)), .val (.int (Int32.ofNat i)), .val (.int c0)] [])) _
                      refine XS.iconst X366.here hx rfl (hb hby d9_110) ?_
                      show Steps p.tables e below (T366.setTop (mkF m 111 #[.val (.ref x), .val (.int mn), .val (.int mx), .val (.int (Int32.ofNat sg)), .val (.int (Int32.ofNat ln)), .val (.int (1 : Int32)), .val (.int (Int32.ofNat i)), .val (.int c0)] [(.int (1 : Int32))])) _
                      refine XS.goto X366.here hx rfl (pc0 := 111) (pc' := 115) rfl (hb hby d9_111) (by decide) (by decide) ?_
                      exact kk_)
                    have hv : own_word c0 = true := by simp [own_word, hc383, hc415, hc417, hc419, hc425, hc427]
                    rw [hv]
                    exact S429
                  · have _ := e0
                    have S430 : own_Go p e below T0 (mkF m 11 #[.val (.ref x), .val (.int mn), .val (.int mx), .val (.int (Int32.ofNat sg)), .val (.int (Int32.ofNat ln)), .val (.int (1 : Int32)), .val (.int (Int32.ofNat i)), s7] []) T366 (mkF m 115 #[.val (.ref x), .val (.int mn), .val (.int mx), .val (.int (Int32.ofNat sg)), .val (.int (Int32.ofNat ln)), .val (.int (1 : Int32)), .val (.int (Int32.ofNat i)), .val (.int c0)] [(.int (0 : Int32))]) := fun tg_ kk_ => S428 tg_ (by
                      refine XS.icmpYes X366.here hx rfl (pc0 := 107) (pc' := 114) rfl (hb hby d9_107) rfl (XT.ii_ne_t hc427) (by decide) (by decide) ?_
                      show Steps p.tables e below (T366.setTop (mkF m 114 #[.val (.ref x), .val (.int mn), .val (.int mx), .val (.int (Int32.ofNat sg)), .val (.int (Int32.ofNat ln)), .val (.int (1 : Int32)), .val (.int (Int32.ofNat i)), .val (.int c0)] [])) _
                      refine XS.iconst X366.here hx rfl (hb hby d9_114) ?_
                      exact kk_)
                    have hv : own_word c0 = false := by simp [own_word, hc383, hc415, hc417, hc419, hc425, hc427]
                    rw [hv]
                    exact S430
                · have _ := e0
                  have S431 : own_Go p e below T0 (mkF m 11 #[.val (.ref x), .val (.int mn), .val (.int mx), .val (.int (Int32.ofNat sg)), .val (.int (Int32.ofNat ln)), .val (.int (1 : Int32)), .val (.int (Int32.ofNat i)), s7] []) T366 (mkF m 115 #[.val (.ref x), .val (.int mn), .val (.int mx), .val (.int (Int32.ofNat sg)), .val (.int (Int32.ofNat ln)), .val (.int (1 : Int32)), .val (.int (Int32.ofNat i)), .val (.int c0)] [(.int (1 : Int32))]) := fun tg_ kk_ => S426 tg_ (by
                    refine XS.icmpYes X366.here hx rfl (pc0 := 100) (pc' := 110) rfl (hb hby d9_100) rfl (XT.ii_le_t hc425) (by decide) (by decide) ?_
                    show Steps p.tables e below (T366.setTop (mkF m 110 #[.val (.ref x), .val (.int mn), .val (.int mx), .val (.int (Int32.ofNat sg)), .val (.int (Int32.ofNat ln)), .val (.int (1 : Int32)), .val (.int (Int32.ofNat i)), .val (.int c0)] [])) _
                    refine XS.iconst X366.here hx rfl (hb hby d9_110) ?_
                    show Steps p.tables e below (T366.setTop (mkF m 111 #[.val (.ref x), .val (.int mn), .val (.int mx), .val (.int (Int32.ofNat sg)), .val (.int (Int32.ofNat ln)), .val (.int (1 : Int32)), .val (.int (Int32.ofNat i)), .val (.int c0)] [(.int (1 : Int32))])) _
                    refine XS.goto X366.here hx rfl (pc0 := 111) (pc' := 115) rfl (hb hby d9_111) (by decide) (by decide) ?_
                    exact kk_)
                  have hv : own_word c0 = true := by simp [own_word, hc383, hc415, hc417, hc419, hc425]
                  rw [hv]
                  exact S431
            · have _ := e0
              have S433 : own_Go p e below T0 (mkF m 11 #[.val (.ref x), .val (.int mn), .val (.int mx), .val (.int (Int32.ofNat sg)), .val (.int (Int32.ofNat ln)), .val (.int (1 : Int32)), .val (.int (Int32.ofNat i)), s7] []) T366 (mkF m 86 #[.val (.ref x), .val (.int mn), .val (.int mx), .val (.int (Int32.ofNat sg)), .val (.int (Int32.ofNat ln)), .val (.int (1 : Int32)), .val (.int (Int32.ofNat i)), .val (.int c0)] [(.int (90 : Int32)), (.int c0)]) := fun tg_ kk_ => S418 tg_ (by
                refine XS.icmpNo X366.here hx rfl (hb hby d9_79) rfl (XT.ii_lt_f hc417) ?_
                show Steps p.tables e below (T366.setTop (mkF m 82 #[.val (.ref x), .val (.int mn), .val (.int mx), .val (.int (Int32.ofNat sg)), .val (.int (Int32.ofNat ln)), .val (.int (1 : Int32)), .val (.int (Int32.ofNat i)), .val (.int c0)] [])) _
                refine XS.iload X366.here hx rfl (hb hby d9_82) rfl ?_
                show Steps p.tables e below (T366.setTop (mkF m 84 #[.val (.ref x), .val (.int mn), .val (.int mx), .val (.int (Int32.ofNat sg)), .val (.int (Int32.ofNat ln)), .val (.int (1 : Int32)), .val (.int (Int32.ofNat i)), .val (.int c0)] [(.int c0)])) _
                refine XS.bipush X366.here hx rfl (hb hby d9_84) ?_
                exact kk_)
              by_cases hc432 : (90 : Int32) < c0
              · have _ := e0
                have S435 : own_Go p e below T0 (mkF m 11 #[.val (.ref x), .val (.int mn), .val (.int mx), .val (.int (Int32.ofNat sg)), .val (.int (Int32.ofNat ln)), .val (.int (1 : Int32)), .val (.int (Int32.ofNat i)), s7] []) T366 (mkF m 93 #[.val (.ref x), .val (.int mn), .val (.int mx), .val (.int (Int32.ofNat sg)), .val (.int (Int32.ofNat ln)), .val (.int (1 : Int32)), .val (.int (Int32.ofNat i)), .val (.int c0)] [(.int (48 : Int32)), (.int c0)]) := fun tg_ kk_ => S433 tg_ (by
                  refine XS.icmpNo X366.here hx rfl (hb hby d9_86) rfl (XT.ii_le_f hc432) ?_
                  show Steps p.tables e below (T366.setTop (mkF m 89 #[.val (.ref x), .val (.int mn), .val (.int mx), .val (.int (Int32.ofNat sg)), .val (.int (Int32.ofNat ln)), .val (.int (1 : Int32)), .val (.int (Int32.ofNat i)), .val (.int c0)] [])) _
                  refine XS.iload X366.here hx rfl (hb hby d9_89) rfl ?_
                  show Steps p.tables e below (T366.setTop (mkF m 91 #[.val (.ref x), .val (.int mn), .val (.int mx), .val (.int (Int32.ofNat sg)), .val (.int (Int32.ofNat ln)), .val (.int (1 : Int32)), .val (.int (Int32.ofNat i)), .val (.int c0)] [(.int c0)])) _
                  refine XS.bipush X366.here hx rfl (hb hby d9_91) ?_
                  exact kk_)
                by_cases hc434 : c0 < (48 : Int32)
                · have _ := e0
                  have S437 : own_Go p e below T0 (mkF m 11 #[.val (.ref x), .val (.int mn), .val (.int mx), .val (.int (Int32.ofNat sg)), .val (.int (Int32.ofNat ln)), .val (.int (1 : Int32)), .val (.int (Int32.ofNat i)), s7] []) T366 (mkF m 107 #[.val (.ref x), .val (.int mn), .val (.int mx), .val (.int (Int32.ofNat sg)), .val (.int (Int32.ofNat ln)), .val (.int (1 : Int32)), .val (.int (Int32.ofNat i)), .val (.int c0)] [(.int (95 : Int32)), (.int c0)]) := fun tg_ kk_ => S435 tg_ (by
                    refine XS.icmpYes X366.here hx rfl (pc0 := 93) (pc' := 103) rfl (hb hby d9_93) rfl (XT.ii_lt_t hc434) (by decide) (by decide) ?_
                    show Steps p.tables e below (T366.setTop (mkF m 103 #[.val (.ref x), .val (.int mn), .val (.int mx), .val (.int (Int32.ofNat sg)), .val (.int (Int32.ofNat ln)), .val (.int (1 : Int32)), .val (.int (Int32.ofNat i)), .val (.int c0)] [])) _
                    refine XS.iload X366.here hx rfl (hb hby d9_103) rfl ?_
                    show Steps p.tables e below (T366.setTop (mkF m 105 #[.val (.ref x), .val (.int mn), .val (.int mx), .val (.int (Int32.ofNat sg)), .val (.int (Int32.ofNat ln)), .val (.int (1 : Int32)), .val (.int (Int32.ofNat i)), .val (.int c0)] [(.int c0)])) _
                    refine XS.bipush X366.here hx rfl (hb hby d9_105) ?_
                    exact kk_)
                  by_cases hc436 : c0 = (95 : Int32)
                  · have _ := e0
                    have S438 : own_Go p e below T0 (mkF m 11 #[.val (.ref x), .val (.int mn), .val (.int mx), .val (.int (Int32.ofNat sg)), .val (.int (Int32.ofNat ln)), .val (.int (1 : Int32)), .val (.int (Int32.ofNat i)), s7] []) T366 (mkF m 115 #[.val (.ref x), .val (.int mn), .val (.int mx), .val (.int (Int32.ofNat sg)), .val (.int (Int32.ofNat ln)), .val (.int (1 : Int32)), .val (.int (Int32.ofNat i)), .val (.int c0)] [(.int (1 : Int32))]) := fun tg_ kk_ => S437 tg_ (by
                      refine XS.icmpNo X366.here hx rfl (hb hby d9_107) rfl (XT.ii_ne_f hc436) ?_
                      show Steps p.tables e below (T366.setTop (mkF m 110 #[.val (.ref x), .val (.int mn), .val (.int mx), .val (.int (Int32.ofNat sg)), .val (.int (Int32.ofNat ln)), .val (.int (1 : Int32)), .val (.int (Int32.ofNat i)), .val (.int c0)] [])) _
                      refine XS.iconst X366.here hx rfl (hb hby d9_110) ?_
                      show Steps p.tables e below (T366.setTop (mkF m 111 #[.val (.ref x), .val (.int mn), .val (.int mx), .val (.int (Int32.ofNat sg)), .val (.int (Int32.ofNat ln)), .val (.int (1 : Int32)), .val (.int (Int32.ofNat i)), .val (.int c0)] [(.int (1 : Int32))])) _
                      refine XS.goto X366.here hx rfl (pc0 := 111) (pc' := 115) rfl (hb hby d9_111) (by decide) (by decide) ?_
                      exact kk_)
                    have hv : own_word c0 = true := by simp [own_word, hc383, hc415, hc417, hc432, hc434, hc436]
                    rw [hv]
                    exact S438
                  · have _ := e0
                    have S439 : own_Go p e below T0 (mkF m 11 #[.val (.ref x), .val (.int mn), .val (.int mx), .val (.int (Int32.ofNat sg)), .val (.int (Int32.ofNat ln)), .val (.int (1 : Int32)), .val (.int (Int32.ofNat i)), s7] []) T366 (mkF m 115 #[.val (.ref x), .val (.int mn), .val (.int mx), .val (.int (Int32.ofNat sg)), .val (.int (Int32.ofNat ln)), .val (.int (1 : Int32)), .val (.int (Int32.ofNat i)), .val (.int c0)] [(.int (0 : Int32))]) := fun tg_ kk_ => S437 tg_ (by
                      refine XS.icmpYes X366.here hx rfl (pc0 := 107) (pc' := 114) rfl (hb hby d9_107) rfl (XT.ii_ne_t hc436) (by decide) (by decide) ?_
                      show Steps p.tables e below (T366.setTop (mkF m 114 #[.val (.ref x), .val (.int mn), .val (.int mx), .val (.int (Int32.ofNat sg)), .val (.int (Int32.ofNat ln)), .val (.int (1 : Int32)), .val (.int (Int32.ofNat i)), .val (.int c0)] [])) _
                      refine XS.iconst X366.here hx rfl (hb hby d9_114) ?_
                      exact kk_)
                    have hv : own_word c0 = false := by simp [own_word, hc383, hc415, hc417, hc432, hc434, hc436]
                    rw [hv]
                    exact S439
                · have _ := e0
                  have S441 : own_Go p e below T0 (mkF m 11 #[.val (.ref x), .val (.int mn), .val (.int mx), .val (.int (Int32.ofNat sg)), .val (.int (Int32.ofNat ln)), .val (.int (1 : Int32)), .val (.int (Int32.ofNat i)), s7] []) T366 (mkF m 100 #[.val (.ref x), .val (.int mn), .val (.int mx), .val (.int (Int32.ofNat sg)), .val (.int (Int32.ofNat ln)), .val (.int (1 : Int32)), .val (.int (Int32.ofNat i)), .val (.int c0)] [(.int (57 : Int32)), (.int c0)]) := fun tg_ kk_ => S435 tg_ (by
                    refine XS.icmpNo X366.here hx rfl (hb hby d9_93) rfl (XT.ii_lt_f hc434) ?_
                    show Steps p.tables e below (T366.setTop (mkF m 96 #[.val (.ref x), .val (.int mn), .val (.int mx), .val (.int (Int32.ofNat sg)), .val (.int (Int32.ofNat ln)), .val (.int (1 : Int32)), .val (.int (Int32.ofNat i)), .val (.int c0)] [])) _
                    refine XS.iload X366.here hx rfl (hb hby d9_96) rfl ?_
                    show Steps p.tables e below (T366.setTop (mkF m 98 #[.val (.ref x), .val (.int mn), .val (.int mx), .val (.int (Int32.ofNat sg)), .val (.int (Int32.ofNat ln)), .val (.int (1 : Int32)), .val (.int (Int32.ofNat i)), .val (.int c0)] [(.int c0)])) _
                    refine XS.bipush X366.here hx rfl (hb hby d9_98) ?_
                    exact kk_)
                  by_cases hc440 : (57 : Int32) < c0
                  · have _ := e0
                    have S443 : own_Go p e below T0 (mkF m 11 #[.val (.ref x), .val (.int mn), .val (.int mx), .val (.int (Int32.ofNat sg)), .val (.int (Int32.ofNat ln)), .val (.int (1 : Int32)), .val (.int (Int32.ofNat i)), s7] []) T366 (mkF m 107 #[.val (.ref x), .val (.int mn), .val (.int mx), .val (.int (Int32.ofNat sg)), .val (.int (Int32.ofNat ln)), .val (.int (1 : Int32)), .val (.int (Int32.ofNat i)), .val (.int c0)] [(.int (95 : Int32)), (.int c0)]) := fun tg_ kk_ => S441 tg_ (by
                      refine XS.icmpNo X366.here hx rfl (hb hby d9_100) rfl (XT.ii_le_f hc440) ?_
                      show Steps p.tables e below (T366.setTop (mkF m 103 #[.val (.ref x), .val (.int mn), .val (.int mx), .val (.int (Int32.ofNat sg)), .val (.int (Int32.ofNat ln)), .val (.int (1 : Int32)), .val (.int (Int32.ofNat i)), .val (.int c0)] [])) _
                      refine XS.iload X366.here hx rfl (hb hby d9_103) rfl ?_
                      show Steps p.tables e below (T366.setTop (mkF m 105 #[.val (.ref x), .val (.int mn), .val (.int mx), .val (.int (Int32.ofNat sg)), .val (.int (Int32.ofNat ln)), .val (.int (1 : Int32)), .val (.int (Int32.ofNat i)), .val (.int c0)] [(.int c0)])) _
                      refine XS.bipush X366.here hx rfl (hb hby d9_105) ?_
                      exact kk_)
                    by_cases hc442 : c0 = (95 : Int32)
                    · have _ := e0
                      have S444 : own_Go p e below T0 (mkF m 11 #[.val (.ref x), .val (.int mn), .val (.int mx), .val (.int (Int32.ofNat sg)), .val (.int (Int32.ofNat ln)), .val (.int (1 : Int32)), .val (.int (Int32.ofNat i)), s7] []) T366 (mkF m 115 #[.val (.ref x), .val (.int mn), .val (.int mx), .val (.int (Int32.ofNat sg)), .val (.int (Int32.ofNat ln)), .val (.int (1 : Int32)), .val (.int (Int32.ofNat i)), .val (.int c0)] [(.int (1 : Int32))]) := fun tg_ kk_ => S443 tg_ (by
                        refine XS.icmpNo X366.here hx rfl (hb hby d9_107) rfl (XT.ii_ne_f hc442) ?_
                        show Steps p.tables e below (T366.setTop (mkF m 110 #[.val (.ref x), .val (.int mn), .val (.int mx), .val (.int (Int32.ofNat sg)), .val (.int (Int32.ofNat ln)), .val (.int (1 : Int32)), .val (.int (Int32.ofNat i)), .val (.int c0)] [])) _
                        refine XS.iconst X366.here hx rfl (hb hby d9_110) ?_
                        show Steps p.tables e below (T366.setTop (mkF m 111 #[.val (.ref x), .val (.int mn), .val (.int mx), .val (.int (Int32.ofNat sg)), .val (.int (Int32.ofNat ln)), .val (.int (1 : Int32)), .val (.int (Int32.ofNat i)), .val (.int c0)] [(.int (1 : Int32))])) _
                        refine XS.goto X366.here hx rfl (pc0 := 111) (pc' := 115) rfl (hb hby d9_111) (by decide) (by decide) ?_
                        exact kk_)
                      have hv : own_word c0 = true := by simp [own_word, hc383, hc415, hc417, hc432, hc434, hc440, hc442]
                      rw [hv]
                      exact S444
                    · have _ := e0
                      have S445 : own_Go p e below T0 (mkF m 11 #[.val (.ref x), .val (.int mn), .val (.int mx), .val (.int (Int32.ofNat sg)), .val (.int (Int32.ofNat ln)), .val (.int (1 : Int32)), .val (.int (Int32.ofNat i)), s7] []) T366 (mkF m 115 #[.val (.ref x), .val (.int mn), .val (.int mx), .val (.int (Int32.ofNat sg)), .val (.int (Int32.ofNat ln)), .val (.int (1 : Int32)), .val (.int (Int32.ofNat i)), .val (.int c0)] [(.int (0 : Int32))]) := fun tg_ kk_ => S443 tg_ (by
                        refine XS.icmpYes X366.here hx rfl (pc0 := 107) (pc' := 114) rfl (hb hby d9_107) rfl (XT.ii_ne_t hc442) (by decide) (by decide) ?_
                        show Steps p.tables e below (T366.setTop (mkF m 114 #[.val (.ref x), .val (.int mn), .val (.int mx), .val (.int (Int32.ofNat sg)), .val (.int (Int32.ofNat ln)), .val (.int (1 : Int32)), .val (.int (Int32.ofNat i)), .val (.int c0)] [])) _
                        refine XS.iconst X366.here hx rfl (hb hby d9_114) ?_
                        exact kk_)
                      have hv : own_word c0 = false := by simp [own_word, hc383, hc415, hc417, hc432, hc434, hc440, hc442]
                      rw [hv]
                      exact S445
                  · have _ := e0
                    have S446 : own_Go p e below T0 (mkF m 11 #[.val (.ref x), .val (.int mn), .val (.int mx), .val (.int (Int32.ofNat sg)), .val (.int (Int32.ofNat ln)), .val (.int (1 : Int32)), .val (.int (Int32.ofNat i)), s7] []) T366 (mkF m 115 #[.val (.ref x), .val (.int mn), .val (.int mx), .val (.int (Int32.ofNat sg)), .val (.int (Int32.ofNat ln)), .val (.int (1 : Int32)), .val (.int (Int32.ofNat i)), .val (.int c0)] [(.int (1 : Int32))]) := fun tg_ kk_ => S441 tg_ (by
                      refine XS.icmpYes X366.here hx rfl (pc0 := 100) (pc' := 110) rfl (hb hby d9_100) rfl (XT.ii_le_t hc440) (by decide) (by decide) ?_
                      show Steps p.tables e below (T366.setTop (mkF m 110 #[.val (.ref x), .val (.int mn), .val (.int mx), .val (.int (Int32.ofNat sg)), .val (.int (Int32.ofNat ln)), .val (.int (1 : Int32)), .val (.int (Int32.ofNat i)), .val (.int c0)] [])) _
                      refine XS.iconst X366.here hx rfl (hb hby d9_110) ?_
                      show Steps p.tables e below (T366.setTop (mkF m 111 #[.val (.ref x), .val (.int mn), .val (.int mx), .val (.int (Int32.ofNat sg)), .val (.int (Int32.ofNat ln)), .val (.int (1 : Int32)), .val (.int (Int32.ofNat i)), .val (.int c0)] [(.int (1 : Int32))])) _
                      refine XS.goto X366.here hx rfl (pc0 := 111) (pc' := 115) rfl (hb hby d9_111) (by decide) (by decide) ?_
                      exact kk_)
                    have hv : own_word c0 = true := by simp [own_word, hc383, hc415, hc417, hc432, hc434, hc440]
                    rw [hv]
                    exact S446
              · have _ := e0
                have S447 : own_Go p e below T0 (mkF m 11 #[.val (.ref x), .val (.int mn), .val (.int mx), .val (.int (Int32.ofNat sg)), .val (.int (Int32.ofNat ln)), .val (.int (1 : Int32)), .val (.int (Int32.ofNat i)), s7] []) T366 (mkF m 115 #[.val (.ref x), .val (.int mn), .val (.int mx), .val (.int (Int32.ofNat sg)), .val (.int (Int32.ofNat ln)), .val (.int (1 : Int32)), .val (.int (Int32.ofNat i)), .val (.int c0)] [(.int (1 : Int32))]) := fun tg_ kk_ => S433 tg_ (by
                  refine XS.icmpYes X366.here hx rfl (pc0 := 86) (pc' := 110) rfl (hb hby d9_86) rfl (XT.ii_le_t hc432) (by decide) (by decide) ?_
                  show Steps p.tables e below (T366.setTop (mkF m 110 #[.val (.ref x), .val (.int mn), .val (.int mx), .val (.int (Int32.ofNat sg)), .val (.int (Int32.ofNat ln)), .val (.int (1 : Int32)), .val (.int (Int32.ofNat i)), .val (.int c0)] [])) _
                  refine XS.iconst X366.here hx rfl (hb hby d9_110) ?_
                  show Steps p.tables e below (T366.setTop (mkF m 111 #[.val (.ref x), .val (.int mn), .val (.int mx), .val (.int (Int32.ofNat sg)), .val (.int (Int32.ofNat ln)), .val (.int (1 : Int32)), .val (.int (Int32.ofNat i)), .val (.int c0)] [(.int (1 : Int32))])) _
                  refine XS.goto X366.here hx rfl (pc0 := 111) (pc' := 115) rfl (hb hby d9_111) (by decide) (by decide) ?_
                  exact kk_)
                have hv : own_word c0 = true := by simp [own_word, hc383, hc415, hc417, hc432]
                rw [hv]
                exact S447
          · have _ := e0
            have S448 : own_Go p e below T0 (mkF m 11 #[.val (.ref x), .val (.int mn), .val (.int mx), .val (.int (Int32.ofNat sg)), .val (.int (Int32.ofNat ln)), .val (.int (1 : Int32)), .val (.int (Int32.ofNat i)), s7] []) T366 (mkF m 115 #[.val (.ref x), .val (.int mn), .val (.int mx), .val (.int (Int32.ofNat sg)), .val (.int (Int32.ofNat ln)), .val (.int (1 : Int32)), .val (.int (Int32.ofNat i)), .val (.int c0)] [(.int (1 : Int32))]) := fun tg_ kk_ => S416 tg_ (by
              refine XS.icmpYes X366.here hx rfl (pc0 := 72) (pc' := 110) rfl (hb hby d9_72) rfl (XT.ii_le_t hc415) (by decide) (by decide) ?_
              show Steps p.tables e below (T366.setTop (mkF m 110 #[.val (.ref x), .val (.int mn), .val (.int mx), .val (.int (Int32.ofNat sg)), .val (.int (Int32.ofNat ln)), .val (.int (1 : Int32)), .val (.int (Int32.ofNat i)), .val (.int c0)] [])) _
              refine XS.iconst X366.here hx rfl (hb hby d9_110) ?_
              show Steps p.tables e below (T366.setTop (mkF m 111 #[.val (.ref x), .val (.int mn), .val (.int mx), .val (.int (Int32.ofNat sg)), .val (.int (Int32.ofNat ln)), .val (.int (1 : Int32)), .val (.int (Int32.ofNat i)), .val (.int c0)] [(.int (1 : Int32))])) _
              refine XS.goto X366.here hx rfl (pc0 := 111) (pc' := 115) rfl (hb hby d9_111) (by decide) (by decide) ?_
              exact kk_)
            have hv : own_word c0 = true := by simp [own_word, hc383, hc415]
            rw [hv]
            exact S448
      cases hwd : own_word c0
      · rw [hwd] at ph
        have S449 : own_Go p e below T0 (mkF m 11 #[.val (.ref x), .val (.int mn), .val (.int mx), .val (.int (Int32.ofNat sg)), .val (.int (Int32.ofNat ln)), .val (.int (1 : Int32)), .val (.int (Int32.ofNat i)), s7] []) T366 (mkF m 120 #[.val (.ref x), .val (.int mn), .val (.int mx), .val (.int (Int32.ofNat sg)), .val (.int ((Int32.ofNat ln) + (1 : Int32))), .val (.int (0 : Int32)), .val (.int (Int32.ofNat i)), .val (.int c0)] []) := fun tg_ kk_ => ph tg_ (by
          refine XS.istore X366.here hx rfl (hb hby d9_115) rfl (l' := #[.val (.ref x), .val (.int mn), .val (.int mx), .val (.int (Int32.ofNat sg)), .val (.int (Int32.ofNat ln)), .val (.int (0 : Int32)), .val (.int (Int32.ofNat i)), .val (.int c0)]) rfl ?_
          show Steps p.tables e below (T366.setTop (mkF m 117 #[.val (.ref x), .val (.int mn), .val (.int mx), .val (.int (Int32.ofNat sg)), .val (.int (Int32.ofNat ln)), .val (.int (0 : Int32)), .val (.int (Int32.ofNat i)), .val (.int c0)] [])) _
          refine XS.iinc X366.here hx rfl (hb hby d9_117) rfl (l' := #[.val (.ref x), .val (.int mn), .val (.int mx), .val (.int (Int32.ofNat sg)), .val (.int ((Int32.ofNat ln) + (1 : Int32))), .val (.int (0 : Int32)), .val (.int (Int32.ofNat i)), .val (.int c0)]) rfl ?_
          exact kk_)
        rw [own_suc] at S449
        have S450 : own_Go p e below T0 (mkF m 11 #[.val (.ref x), .val (.int mn), .val (.int mx), .val (.int (Int32.ofNat sg)), .val (.int (Int32.ofNat ln)), .val (.int (1 : Int32)), .val (.int (Int32.ofNat i)), s7] []) T366 (mkF m 11 #[.val (.ref x), .val (.int mn), .val (.int mx), .val (.int (Int32.ofNat sg)), .val (.int (Int32.ofNat (ln + 1))), .val (.int (0 : Int32)), .val (.int ((Int32.ofNat i) + (1 : Int32))), .val (.int c0)] []) := fun tg_ kk_ => S449 tg_ (by
          refine XS.iinc X366.here hx rfl (hb hby d9_120) rfl (l' := #[.val (.ref x), .val (.int mn), .val (.int mx), .val (.int (Int32.ofNat sg)), .val (.int (Int32.ofNat (ln + 1))), .val (.int (0 : Int32)), .val (.int ((Int32.ofNat i) + (1 : Int32))), .val (.int c0)]) rfl ?_
          show Steps p.tables e below (T366.setTop (mkF m 123 #[.val (.ref x), .val (.int mn), .val (.int mx), .val (.int (Int32.ofNat sg)), .val (.int (Int32.ofNat (ln + 1))), .val (.int (0 : Int32)), .val (.int ((Int32.ofNat i) + (1 : Int32))), .val (.int c0)] [])) _
          refine XS.goto X366.here hx rfl (pc0 := 123) (pc' := 11) rfl (hb hby d9_123) (by decide) (by decide) ?_
          exact kk_)
        rw [own_suc] at S450
        have S451 : own_Go p e below T0 (mkF m 11 #[.val (.ref x), .val (.int mn), .val (.int mx), .val (.int (Int32.ofNat sg)), .val (.int (Int32.ofNat ln)), .val (.int (1 : Int32)), .val (.int (Int32.ofNat i)), s7] []) T366 (mkF m 14 #[.val (.ref x), .val (.int mn), .val (.int mx), .val (.int (Int32.ofNat sg)), .val (.int (Int32.ofNat (ln + 1))), .val (.int (0 : Int32)), .val (.int (Int32.ofNat (i + 1))), .val (.int c0)] [(.ref x), (.int (Int32.ofNat (i + 1)))]) := fun tg_ kk_ => S450 tg_ (by
          refine XS.iload X366.here hx rfl (hb hby d9_11) rfl ?_
          show Steps p.tables e below (T366.setTop (mkF m 13 #[.val (.ref x), .val (.int mn), .val (.int mx), .val (.int (Int32.ofNat sg)), .val (.int (Int32.ofNat (ln + 1))), .val (.int (0 : Int32)), .val (.int (Int32.ofNat (i + 1))), .val (.int c0)] [(.int (Int32.ofNat (i + 1)))])) _
          refine XS.aloadN X366.here hx rfl (hb hby d9_13) rfl rfl ?_
          exact kk_)
        by_cases hi2 : i + 1 < cs.length
        · have _ := e0
          obtain ⟨_, T452, h452, L452, X452, e452, hQ452, st452⟩ := own_callV X366 hx hZ (y := (⟨"java/lang/String", "length", "()I"⟩ : MethodName)) hown (hw _ (List.mem_of_getElem? (i := 43) rfl)) (hw _ (List.mem_of_getElem? (i := 44) rfl)) (hw _ (List.mem_of_getElem? (i := 46) rfl)) (hw _ (List.mem_of_getElem? (i := 45) rfl)) (hw _ (List.mem_of_getElem? (i := 11) rfl)) (hw _ (List.mem_of_getElem? (i := 47) rfl)) (by decide) 1 (g := (mkF m 14 #[.val (.ref x), .val (.int mn), .val (.int mx), .val (.int (Int32.ofNat sg)), .val (.int (Int32.ofNat (ln + 1))), .val (.int (0 : Int32)), .val (.int (Int32.ofNat (i + 1))), .val (.int c0)] [(.ref x), (.int (Int32.ofNat (i + 1)))])) rfl (by rw [hml]; rfl) x S.1 [] [(.int (Int32.ofNat (i + 1)))] (rm10 l Z a0 hw [] x t cs h0 n0 Z0 z O O2 P5 S (by omega)) (lenOf pd11 rfl) rfl (by show 2 * 0 + _ ≤ _; exact Nat.le_of_eq rfl) (hb hby d9_14) (by decide) (by decide) e366 (by decide) (by decide)
          obtain ⟨rfl, N452, rfl⟩ := hQ452
          have S453 : own_Go p e below T0 (mkF m 11 #[.val (.ref x), .val (.int mn), .val (.int mx), .val (.int (Int32.ofNat sg)), .val (.int (Int32.ofNat ln)), .val (.int (1 : Int32)), .val (.int (Int32.ofNat i)), s7] []) T452 (mkF m 17 #[.val (.ref x), .val (.int mn), .val (.int mx), .val (.int (Int32.ofNat sg)), .val (.int (Int32.ofNat (ln + 1))), .val (.int (0 : Int32)), .val (.int (Int32.ofNat (i + 1))), .val (.int c0)] [(.int (Int32.ofNat cs.length)), (.int (Int32.ofNat (i + 1)))]) := fun tg_ kk_ => S451 tg_ (st452 tg_ kk_)
          have M452 := Fr.app M366 N452
          have S454 : own_Go p e below T0 (mkF m 11 #[.val (.ref x), .val (.int mn), .val (.int mx), .val (.int (Int32.ofNat sg)), .val (.int (Int32.ofNat ln)), .val (.int (1 : Int32)), .val (.int (Int32.ofNat i)), s7] []) T452 (mkF m 126 #[.val (.ref x), .val (.int mn), .val (.int mx), .val (.int (Int32.ofNat sg)), .val (.int (Int32.ofNat (ln + 1))), .val (.int (0 : Int32)), .val (.int (Int32.ofNat (i + 1))), .val (.int c0)] []) := fun tg_ kk_ => S453 tg_ (by
            refine XS.icmpNo X452.here hx rfl (hb hby d9_17) rfl (XT.ii_ge_f (own_lt32 hi2 (by omega))) ?_
            show Steps p.tables e below (T452.setTop (mkF m 20 #[.val (.ref x), .val (.int mn), .val (.int mx), .val (.int (Int32.ofNat sg)), .val (.int (Int32.ofNat (ln + 1))), .val (.int (0 : Int32)), .val (.int (Int32.ofNat (i + 1))), .val (.int c0)] [])) _
            refine XS.iload X452.here hx rfl (hb hby d9_20) rfl ?_
            show Steps p.tables e below (T452.setTop (mkF m 22 #[.val (.ref x), .val (.int mn), .val (.int mx), .val (.int (Int32.ofNat sg)), .val (.int (Int32.ofNat (ln + 1))), .val (.int (0 : Int32)), .val (.int (Int32.ofNat (i + 1))), .val (.int c0)] [(.int (0 : Int32))])) _
            refine XS.ifYes X452.here hx rfl (pc0 := 22) (pc' := 126) rfl (hb hby d9_22) rfl (XT.i0_eq_t (by decide)) (by decide) (by decide) ?_
            exact kk_)
          have hr : own_run (cs.drop i) sg ln = (sg, ln + 1, false) := by rw [hdr]; simp [own_run, hdt, hwd]
          rw [hr]
          exact ⟨T452, _, i + 1, .val (.int c0), One.val rfl, X452, e452, M452, S454⟩
        · have _ := e0
          obtain ⟨_, T455, h455, L455, X455, e455, hQ455, st455⟩ := own_callV X366 hx hZ (y := (⟨"java/lang/String", "length", "()I"⟩ : MethodName)) hown (hw _ (List.mem_of_getElem? (i := 43) rfl)) (hw _ (List.mem_of_getElem? (i := 44) rfl)) (hw _ (List.mem_of_getElem? (i := 46) rfl)) (hw _ (List.mem_of_getElem? (i := 45) rfl)) (hw _ (List.mem_of_getElem? (i := 11) rfl)) (hw _ (List.mem_of_getElem? (i := 47) rfl)) (by decide) 1 (g := (mkF m 14 #[.val (.ref x), .val (.int mn), .val (.int mx), .val (.int (Int32.ofNat sg)), .val (.int (Int32.ofNat (ln + 1))), .val (.int (0 : Int32)), .val (.int (Int32.ofNat (i + 1))), .val (.int c0)] [(.ref x), (.int (Int32.ofNat (i + 1)))])) rfl (by rw [hml]; rfl) x S.1 [] [(.int (Int32.ofNat (i + 1)))] (rm10 l Z a0 hw [] x t cs h0 n0 Z0 z O O2 P5 S (by omega)) (lenOf pd11 rfl) rfl (by show 2 * 0 + _ ≤ _; exact Nat.le_of_eq rfl) (hb hby d9_14) (by decide) (by decide) e366 (by decide) (by decide)
          obtain ⟨rfl, N455, rfl⟩ := hQ455
          have S456 : own_Go p e below T0 (mkF m 11 #[.val (.ref x), .val (.int mn), .val (.int mx), .val (.int (Int32.ofNat sg)), .val (.int (Int32.ofNat ln)), .val (.int (1 : Int32)), .val (.int (Int32.ofNat i)), s7] []) T455 (mkF m 17 #[.val (.ref x), .val (.int mn), .val (.int mx), .val (.int (Int32.ofNat sg)), .val (.int (Int32.ofNat (ln + 1))), .val (.int (0 : Int32)), .val (.int (Int32.ofNat (i + 1))), .val (.int c0)] [(.int (Int32.ofNat cs.length)), (.int (Int32.ofNat (i + 1)))]) := fun tg_ kk_ => S451 tg_ (st455 tg_ kk_)
          have M455 := Fr.app M366 N455
          have S457 : own_Go p e below T0 (mkF m 11 #[.val (.ref x), .val (.int mn), .val (.int mx), .val (.int (Int32.ofNat sg)), .val (.int (Int32.ofNat ln)), .val (.int (1 : Int32)), .val (.int (Int32.ofNat i)), s7] []) T455 (mkF m 126 #[.val (.ref x), .val (.int mn), .val (.int mx), .val (.int (Int32.ofNat sg)), .val (.int (Int32.ofNat (ln + 1))), .val (.int (0 : Int32)), .val (.int (Int32.ofNat (i + 1))), .val (.int c0)] []) := fun tg_ kk_ => S456 tg_ (by
            refine XS.icmpYes X455.here hx rfl (pc0 := 17) (pc' := 126) rfl (hb hby d9_17) rfl (XT.ii_ge_t (own_le32 (by omega) (by omega))) (by decide) (by decide) ?_
            exact kk_)
          have hr : own_run (cs.drop i) sg ln = (sg, ln + 1, false) := by rw [hdr]; simp [own_run, hdt, hwd]
          rw [hr]
          exact ⟨T455, _, i + 1, .val (.int c0), One.val rfl, X455, e455, M455, S457⟩
      · rw [hwd] at ph
        have S458 : own_Go p e below T0 (mkF m 11 #[.val (.ref x), .val (.int mn), .val (.int mx), .val (.int (Int32.ofNat sg)), .val (.int (Int32.ofNat ln)), .val (.int (1 : Int32)), .val (.int (Int32.ofNat i)), s7] []) T366 (mkF m 120 #[.val (.ref x), .val (.int mn), .val (.int mx), .val (.int (Int32.ofNat sg)), .val (.int ((Int32.ofNat ln) + (1 : Int32))), .val (.int (1 : Int32)), .val (.int (Int32.ofNat i)), .val (.int c0)] []) := fun tg_ kk_ => ph tg_ (by
          refine XS.istore X366.here hx rfl (hb hby d9_115) rfl (l' := #[.val (.ref x), .val (.int mn), .val (.int mx), .val (.int (Int32.ofNat sg)), .val (.int (Int32.ofNat ln)), .val (.int (1 : Int32)), .val (.int (Int32.ofNat i)), .val (.int c0)]) rfl ?_
          show Steps p.tables e below (T366.setTop (mkF m 117 #[.val (.ref x), .val (.int mn), .val (.int mx), .val (.int (Int32.ofNat sg)), .val (.int (Int32.ofNat ln)), .val (.int (1 : Int32)), .val (.int (Int32.ofNat i)), .val (.int c0)] [])) _
          refine XS.iinc X366.here hx rfl (hb hby d9_117) rfl (l' := #[.val (.ref x), .val (.int mn), .val (.int mx), .val (.int (Int32.ofNat sg)), .val (.int ((Int32.ofNat ln) + (1 : Int32))), .val (.int (1 : Int32)), .val (.int (Int32.ofNat i)), .val (.int c0)]) rfl ?_
          exact kk_)
        rw [own_suc] at S458
        have S459 : own_Go p e below T0 (mkF m 11 #[.val (.ref x), .val (.int mn), .val (.int mx), .val (.int (Int32.ofNat sg)), .val (.int (Int32.ofNat ln)), .val (.int (1 : Int32)), .val (.int (Int32.ofNat i)), s7] []) T366 (mkF m 11 #[.val (.ref x), .val (.int mn), .val (.int mx), .val (.int (Int32.ofNat sg)), .val (.int (Int32.ofNat (ln + 1))), .val (.int (1 : Int32)), .val (.int ((Int32.ofNat i) + (1 : Int32))), .val (.int c0)] []) := fun tg_ kk_ => S458 tg_ (by
          refine XS.iinc X366.here hx rfl (hb hby d9_120) rfl (l' := #[.val (.ref x), .val (.int mn), .val (.int mx), .val (.int (Int32.ofNat sg)), .val (.int (Int32.ofNat (ln + 1))), .val (.int (1 : Int32)), .val (.int ((Int32.ofNat i) + (1 : Int32))), .val (.int c0)]) rfl ?_
          show Steps p.tables e below (T366.setTop (mkF m 123 #[.val (.ref x), .val (.int mn), .val (.int mx), .val (.int (Int32.ofNat sg)), .val (.int (Int32.ofNat (ln + 1))), .val (.int (1 : Int32)), .val (.int ((Int32.ofNat i) + (1 : Int32))), .val (.int c0)] [])) _
          refine XS.goto X366.here hx rfl (pc0 := 123) (pc' := 11) rfl (hb hby d9_123) (by decide) (by decide) ?_
          exact kk_)
        rw [own_suc] at S459
        obtain ⟨T9, L9, i9, s9, hs9, X9, e9, N9, g9⟩ := ih (i + 1) sg (ln + 1) (.val (.int c0)) (One.val rfl) T366 _ (by omega) (by omega) (by omega) X366 e366 M366
        have hr : own_run (cs.drop i) sg ln = own_run (cs.drop (i + 1)) sg (ln + 1) := by rw [hdr]; simp [own_run, hdt, hwd]
        rw [hr]
        exact ⟨T9, L9, i9, s9, hs9, X9, e9, N9, own_Go.trans S459 g9⟩
theorem pn6 : plainName "com/example/tallyhook/tallyhook/core/EventType" = true := by first | (simp [plainName, overriddenIn]; done) | decide +kernel
def Q9 (Z : State) (x : Addr) (t : Addr) (cs : List Int32) (mn : Int32) (mx : Int32) (h0 : Heap) (n0 : Nat) (v : Option Value) (h : Heap) (L : List Loc) : Prop := ((own_isSeg cs mn mx = true ∧ v = some (.int 1)) ∨ (own_isSeg cs mn mx = false ∧ v = some (.int 0))) ∧ Fr n0 L ∧ h0 = h
set_option maxRecDepth 65536 in
set_option maxHeartbeats 40000000 in
theorem rm9 (l : Launch) (Z : State) (a0 : Array Value) (hw : ∀ d ∈ tables_1, d.before a0 Z = true) (ws : List Jvm.Cond) (x : Addr) (t : Addr) (cs : List Int32) (mn : Int32) (mx : Int32) (h0 : Heap) (n0 : Nat) (Z0 : n0 ≤ h0.size) (z : Int32) (O : Old Z n0 h0) (O2 : Sta Z Z.heap "java/lang/String" "COMPACT_STRINGS" "Z" (.int z)) (P5 : ¬ z = 0) (S : own_Str Z h0 x t cs) (hn : cs.length ≤ 900) (hc : ∀ j, j < cs.length → own_B (cs.getD j 0)) (fm : Value) (hfm : fm.isRef = true) (SF : Sta Z Z.heap "jdk/internal/util/Preconditions" "SIOOBE_FORMATTER" "Ljava/util/function/BiFunction;" fm) :
    MetFree l (⟨"com/example/tallyhook/tallyhook/core/EventType", "isSegments", "(Ljava/lang/String;II)Z"⟩ : MethodName) (head1 (Jvm.Cond.code (⟨"com/example/tallyhook/tallyhook/core/EventType", "isSegments", "(Ljava/lang/String;II)Z"⟩ : MethodName) prog_8_method_3_code 8 (some .boolean) :: ws) ({ frames := 4, cells := 0, slots := 0, locals := 60 } : Room)) (fun aa_ U => aa_ = #[(.ref x), (.int mn), (.int mx)] ∧ Z.Warmed39 U.vm ∧ U.heap = h0) (fun _ _ _ _ _ => True) (fun _ U o U' => ∃ v L, o = .returned v ∧ Q9 Z x t cs mn mx h0 n0 v U'.heap L ∧ FrameEnd U o U' L ({ frames := 4, cells := 0, slots := 0, locals := 60 } : Room).cells ({ frames := 4, cells := 0, slots := 0, locals := 60 } : Room).slots) := by
  refine MetFree.of_bodySF (plainFor_of_name pn6) hisR ?_
  intro p e s m args below meth c s₁ Bd hml0 hP hK
  obtain ⟨rfl, hZ, hh⟩ := hP
  have hx := Bd.exec
  have hby := Bd.bytes
  have hml : c.maxLocals = 8 := hml0
  have hown : s.vm.findClass "com/example/tallyhook/tallyhook/core/EventType" = some m.cls := findClass_of_methodNamed Bd.named
  have hnm := (name_of_methodNamed Bd.named Bd.method).1
  have X0 : Stand p l e ({ frames := 4, cells := 0, slots := 0, locals := 60 } : Room) s m #[(.ref x), (.int mn), (.int mx)] below meth c s₁ [] 0 0 := Stand.of_body Bd
  have e0 : s₁.heap = h0 := by rw [← hh, Bd.state]; rfl
  have N0 := Fr.nil n0
  obtain ⟨G, hG⟩ : ∃ G, G = entryFrame m #[(.ref x), (.int mn), (.int mx)] 8 := ⟨_, rfl⟩
  have S0 : own_Go p e below s₁ G s₁ (mkF m 0 #[.val (.ref x), .val (.int mn), .val (.int mx), .unset, .unset, .unset, .unset, .unset] []) := fun tg_ kk_ => castTop (by rw [hG]; first | rfl | simp [entryFrame, mkF, argsToLocals, Value.category, maxLocals]) kk_
  have S460 : own_Go p e below s₁ G s₁ (mkF m 11 #[.val (.ref x), .val (.int mn), .val (.int mx), .val (.int (1 : Int32)), .val (.int (0 : Int32)), .val (.int (1 : Int32)), .val (.int (0 : Int32)), .unset] []) := fun tg_ kk_ => S0 tg_ (by
    refine XS.iconst X0.here hx rfl (hb hby d9_0) ?_
    show Steps p.tables e below (s₁.setTop (mkF m 1 #[.val (.ref x), .val (.int mn), .val (.int mx), .unset, .unset, .unset, .unset, .unset] [(.int (1 : Int32))])) _
    refine XS.istoreN X0.here hx rfl (hb hby d9_1) rfl (l' := #[.val (.ref x), .val (.int mn), .val (.int mx), .val (.int (1 : Int32)), .unset, .unset, .unset, .unset]) rfl ?_
    show Steps p.tables e below (s₁.setTop (mkF m 2 #[.val (.ref x), .val (.int mn), .val (.int mx), .val (.int (1 : Int32)), .unset, .unset, .unset, .unset] [])) _
    refine XS.iconst X0.here hx rfl (hb hby d9_2) ?_
    show Steps p.tables e below (s₁.setTop (mkF m 3 #[.val (.ref x), .val (.int mn), .val (.int mx), .val (.int (1 : Int32)), .unset, .unset, .unset, .unset] [(.int (0 : Int32))])) _
    refine XS.istore X0.here hx rfl (hb hby d9_3) rfl (l' := #[.val (.ref x), .val (.int mn), .val (.int mx), .val (.int (1 : Int32)), .val (.int (0 : Int32)), .unset, .unset, .unset]) rfl ?_
    show Steps p.tables e below (s₁.setTop (mkF m 5 #[.val (.ref x), .val (.int mn), .val (.int mx), .val (.int (1 : Int32)), .val (.int (0 : Int32)), .unset, .unset, .unset] [])) _
    refine XS.iconst X0.here hx rfl (hb hby d9_5) ?_
    show Steps p.tables e below (s₁.setTop (mkF m 6 #[.val (.ref x), .val (.int mn), .val (.int mx), .val (.int (1 : Int32)), .val (.int (0 : Int32)), .unset, .unset, .unset] [(.int (1 : Int32))])) _
    refine XS.istore X0.here hx rfl (hb hby d9_6) rfl (l' := #[.val (.ref x), .val (.int mn), .val (.int mx), .val (.int (1 : Int32)), .val (.int (0 : Int32)), .val (.int (1 : Int32)), .unset, .unset]) rfl ?_
    show Steps p.tables e below (s₁.setTop (mkF m 8 #[.val (.ref x), .val (.int mn), .val (.int mx), .val (.int (1 : Int32)), .val (.int (0 : Int32)), .val (.int (1 : Int32)), .unset, .unset] [])) _
    refine XS.iconst X0.here hx rfl (hb hby d9_8) ?_
    show Steps p.tables e below (s₁.setTop (mkF m 9 #[.val (.ref x), .val (.int mn), .val (.int mx), .val (.int (1 : Int32)), .val (.int (0 : Int32)), .val (.int (1 : Int32)), .unset, .unset] [(.int (0 : Int32))])) _
    refine XS.istore X0.here hx rfl (hb hby d9_9) rfl (l' := #[.val (.ref x), .val (.int mn), .val (.int mx), .val (.int (1 : Int32)), .val (.int (0 : Int32)), .val (.int (1 : Int32)), .val (.int (0 : Int32)), .unset]) rfl ?_
    exact kk_)
  obtain ⟨T', locs', i', s7', hs', X9, e9, N9, g9⟩ := own_isg Z0 x t cs mn mx z O O2 P5 S hn hc fm hfm SF hx hZ hw hby hml hown cs.length 0 1 0 _ One.u s₁ _ (by omega) (by omega) (by omega) X0 e0 N0
  rw [List.drop_zero] at g9
  have SL := own_Go.trans S460 g9
  have hle := own_run_le cs 1 0
  obtain ⟨⟨sg, ln, vd⟩, hr⟩ : ∃ z, z = own_run cs 1 0 := ⟨_, rfl⟩
  rw [← hr] at SL hle
  dsimp only at SL hle
  have hseg : own_isSeg cs mn mx = (vd && decide (0 < ln) && !decide (Int32.ofNat sg < mn) && !decide (mx < Int32.ofNat sg)) := by unfold own_isSeg; rw [← hr]
  have S461 : own_Go p e below s₁ G T' (mkF m 128 #[.val (.ref x), .val (.int mn), .val (.int mx), .val (.int (Int32.ofNat sg)), .val (.int (Int32.ofNat ln)), .val (.int (own_bit vd)), .val (.int (Int32.ofNat i')), s7'] [(.int (own_bit vd))]) := fun tg_ kk_ => SL tg_ (by
    refine XS.iload X9.here hx rfl (hb hby d9_126) rfl ?_
    exact kk_)
  cases vd
  · have _ := N0
    have S462 : own_Go p e below s₁ G T' (mkF m 151 #[.val (.ref x), .val (.int mn), .val (.int mx), .val (.int (Int32.ofNat sg)), .val (.int (Int32.ofNat ln)), .val (.int (0 : Int32)), .val (.int (Int32.ofNat i')), s7'] [(.int (0 : Int32))]) := fun tg_ kk_ => S461 tg_ (by
      refine XS.ifYes X9.here hx rfl (pc0 := 128) (pc' := 150) rfl (hb hby d9_128) rfl (XT.i0_eq_t (by decide)) (by decide) (by decide) ?_
      show Steps p.tables e below (T'.setTop (mkF m 150 #[.val (.ref x), .val (.int mn), .val (.int mx), .val (.int (Int32.ofNat sg)), .val (.int (Int32.ofNat ln)), .val (.int (0 : Int32)), .val (.int (Int32.ofNat i')), s7'] [])) _
      refine XS.iconst X9.here hx rfl (hb hby d9_150) ?_
      exact kk_)
    obtain ⟨fs, hr, hrun, hended, hW, hsame⟩ := X9.leave (v := some (.int (0 : Int32))) (fun h => by rw [Bd.returns] at h; cases h)
    refine ⟨_, _, ?_, hrun, hended, _, _, rfl, ?_, ⟨_, rfl⟩, hW, hsame.mono (by decide) (by decide)⟩
    · rw [← hG]; exact S462 _ (retN X9 hx (t := .boolean) Bd.returns (by simp) (hb hby d9_151) hr)
    · show Q9 Z x t cs mn mx h0 n0 _ T'.heap _
      rw [e9]
      exact ⟨Or.inr ⟨by rw [hseg]; simp [], rfl⟩, N9, rfl⟩
  · have _ := N0
    have S463 : own_Go p e below s₁ G T' (mkF m 133 #[.val (.ref x), .val (.int mn), .val (.int mx), .val (.int (Int32.ofNat sg)), .val (.int (Int32.ofNat ln)), .val (.int (1 : Int32)), .val (.int (Int32.ofNat i')), s7'] [(.int (Int32.ofNat ln))]) := fun tg_ kk_ => S461 tg_ (by
      refine XS.ifNo X9.here hx rfl (hb hby d9_128) rfl (XT.i0_eq_f (by decide)) ?_
      show Steps p.tables e below (T'.setTop (mkF m 131 #[.val (.ref x), .val (.int mn), .val (.int mx), .val (.int (Int32.ofNat sg)), .val (.int (Int32.ofNat ln)), .val (.int (1 : Int32)), .val (.int (Int32.ofNat i')), s7'] [])) _
      refine XS.iload X9.here hx rfl (hb hby d9_131) rfl ?_
      exact kk_)
    by_cases hl : 0 < ln
    · have _ := N0
      have S464 : own_Go p e below s₁ G T' (mkF m 138 #[.val (.ref x), .val (.int mn), .val (.int mx), .val (.int (Int32.ofNat sg)), .val (.int (Int32.ofNat ln)), .val (.int (1 : Int32)), .val (.int (Int32.ofNat i')), s7'] [(.int mn), (.int (Int32.ofNat sg))]) := fun tg_ kk_ => S463 tg_ (by
        refine XS.ifNo X9.here hx rfl (hb hby d9_133) rfl (XT.i0_le_f ((own_pos32 (by omega)).mpr hl)) ?_
        show Steps p.tables e below (T'.setTop (mkF m 136 #[.val (.ref x), .val (.int mn), .val (.int mx), .val (.int (Int32.ofNat sg)), .val (.int (Int32.ofNat ln)), .val (.int (1 : Int32)), .val (.int (Int32.ofNat i')), s7'] [])) _
        refine XS.iloadN X9.here hx rfl (hb hby d9_136) rfl ?_
        show Steps p.tables e below (T'.setTop (mkF m 137 #[.val (.ref x), .val (.int mn), .val (.int mx), .val (.int (Int32.ofNat sg)), .val (.int (Int32.ofNat ln)), .val (.int (1 : Int32)), .val (.int (Int32.ofNat i')), s7'] [(.int (Int32.ofNat sg))])) _
        refine XS.iloadN X9.here hx rfl (hb hby d9_137) rfl ?_
        exact kk_)
      by_cases hf2 : (Int32.ofNat sg) < mn
      · have _ := N0
        have S465 : own_Go p e below s₁ G T' (mkF m 151 #[.val (.ref x), .val (.int mn), .val (.int mx), .val (.int (Int32.ofNat sg)), .val (.int (Int32.ofNat ln)), .val (.int (1 : Int32)), .val (.int (Int32.ofNat i')), s7'] [(.int (0 : Int32))]) := fun tg_ kk_ => S464 tg_ (by
          refine XS.icmpYes X9.here hx rfl (pc0 := 138) (pc' := 150) rfl (hb hby d9_138) rfl (XT.ii_lt_t hf2) (by decide) (by decide) ?_
          show Steps p.tables e below (T'.setTop (mkF m 150 #[.val (.ref x), .val (.int mn), .val (.int mx), .val (.int (Int32.ofNat sg)), .val (.int (Int32.ofNat ln)), .val (.int (1 : Int32)), .val (.int (Int32.ofNat i')), s7'] [])) _
          refine XS.iconst X9.here hx rfl (hb hby d9_150) ?_
          exact kk_)
        obtain ⟨fs, hr, hrun, hended, hW, hsame⟩ := X9.leave (v := some (.int (0 : Int32))) (fun h => by rw [Bd.returns] at h; cases h)
        refine ⟨_, _, ?_, hrun, hended, _, _, rfl, ?_, ⟨_, rfl⟩, hW, hsame.mono (by decide) (by decide)⟩
        · rw [← hG]; exact S465 _ (retN X9 hx (t := .boolean) Bd.returns (by simp) (hb hby d9_151) hr)
        · show Q9 Z x t cs mn mx h0 n0 _ T'.heap _
          rw [e9]
          exact ⟨Or.inr ⟨by rw [hseg]; simp [hl, hf2], rfl⟩, N9, rfl⟩
      · have _ := N0
        have S466 : own_Go p e below s₁ G T' (mkF m 143 #[.val (.ref x), .val (.int mn), .val (.int mx), .val (.int (Int32.ofNat sg)), .val (.int (Int32.ofNat ln)), .val (.int (1 : Int32)), .val (.int (Int32.ofNat i')), s7'] [(.int mx), (.int (Int32.ofNat sg))]) := fun tg_ kk_ => S464 tg_ (by
          refine XS.icmpNo X9.here hx rfl (hb hby d9_138) rfl (XT.ii_lt_f hf2) ?_
          show Steps p.tables e below (T'.setTop (mkF m 141 #[.val (.ref x), .val (.int mn), .val (.int mx), .val (.int (Int32.ofNat sg)), .val (.int (Int32.ofNat ln)), .val (.int (1 : Int32)), .val (.int (Int32.ofNat i')), s7'] [])) _
          refine XS.iloadN X9.here hx rfl (hb hby d9_141) rfl ?_
          show Steps p.tables e below (T'.setTop (mkF m 142 #[.val (.ref x), .val (.int mn), .val (.int mx), .val (.int (Int32.ofNat sg)), .val (.int (Int32.ofNat ln)), .val (.int (1 : Int32)), .val (.int (Int32.ofNat i')), s7'] [(.int (Int32.ofNat sg))])) _
          refine XS.iloadN X9.here hx rfl (hb hby d9_142) rfl ?_
          exact kk_)
        by_cases hf3 : mx < (Int32.ofNat sg)
        · have _ := N0
          have S467 : own_Go p e below s₁ G T' (mkF m 151 #[.val (.ref x), .val (.int mn), .val (.int mx), .val (.int (Int32.ofNat sg)), .val (.int (Int32.ofNat ln)), .val (.int (1 : Int32)), .val (.int (Int32.ofNat i')), s7'] [(.int (0 : Int32))]) := fun tg_ kk_ => S466 tg_ (by
            refine XS.icmpYes X9.here hx rfl (pc0 := 143) (pc' := 150) rfl (hb hby d9_143) rfl (XT.ii_gt_t hf3) (by decide) (by decide) ?_
            show Steps p.tables e below (T'.setTop (mkF m 150 #[.val (.ref x), .val (.int mn), .val (.int mx), .val (.int (Int32.ofNat sg)), .val (.int (Int32.ofNat ln)), .val (.int (1 : Int32)), .val (.int (Int32.ofNat i')), s7'] [])) _
            refine XS.iconst X9.here hx rfl (hb hby d9_150) ?_
            exact kk_)
          obtain ⟨fs, hr, hrun, hended, hW, hsame⟩ := X9.leave (v := some (.int (0 : Int32))) (fun h => by rw [Bd.returns] at h; cases h)
          refine ⟨_, _, ?_, hrun, hended, _, _, rfl, ?_, ⟨_, rfl⟩, hW, hsame.mono (by decide) (by decide)⟩
          · rw [← hG]; exact S467 _ (retN X9 hx (t := .boolean) Bd.returns (by simp) (hb hby d9_151) hr)
          · show Q9 Z x t cs mn mx h0 n0 _ T'.heap _
            rw [e9]
            exact ⟨Or.inr ⟨by rw [hseg]; simp [hl, hf2, hf3], rfl⟩, N9, rfl⟩
        · have _ := N0
          have S468 : own_Go p e below s₁ G T' (mkF m 151 #[.val (.ref x), .val (.int mn), .val (.int mx), .val (.int (Int32.ofNat sg)), .val (.int (Int32.ofNat ln)), .val (.int (1 : Int32)), .val (.int (Int32.ofNat i')), s7'] [(.int (1 : Int32))]) := fun tg_ kk_ => S466 tg_ (by
            refine XS.icmpNo X9.here hx rfl (hb hby d9_143) rfl (XT.ii_gt_f hf3) ?_
            show Steps p.tables e below (T'.setTop (mkF m 146 #[.val (.ref x), .val (.int mn), .val (.int mx), .val (.int (Int32.ofNat sg)), .val (.int (Int32.ofNat ln)), .val (.int (1 : Int32)), .val (.int (Int32.ofNat i')), s7'] [])) _
            refine XS.iconst X9.here hx rfl (hb hby d9_146) ?_
            show Steps p.tables e below (T'.setTop (mkF m 147 #[.val (.ref x), .val (.int mn), .val (.int mx), .val (.int (Int32.ofNat sg)), .val (.int (Int32.ofNat ln)), .val (.int (1 : Int32)), .val (.int (Int32.ofNat i')), s7'] [(.int (1 : Int32))])) _
            refine XS.goto X9.here hx rfl (pc0 := 147) (pc' := 151) rfl (hb hby d9_147) (by decide) (by decide) ?_
            exact kk_)
          obtain ⟨fs, hr, hrun, hended, hW, hsame⟩ := X9.leave (v := some (.int (1 : Int32))) (fun h => by rw [Bd.returns] at h; cases h)
          refine ⟨_, _, ?_, hrun, hended, _, _, rfl, ?_, ⟨_, rfl⟩, hW, hsame.mono (by decide) (by decide)⟩
          · rw [← hG]; exact S468 _ (retN X9 hx (t := .boolean) Bd.returns (by simp) (hb hby d9_151) hr)
          · show Q9 Z x t cs mn mx h0 n0 _ T'.heap _
            rw [e9]
            exact ⟨Or.inl ⟨by rw [hseg]; simp [hl, hf2, hf3], rfl⟩, N9, rfl⟩
    · have _ := N0
      have S469 : own_Go p e below s₁ G T' (mkF m 151 #[.val (.ref x), .val (.int mn), .val (.int mx), .val (.int (Int32.ofNat sg)), .val (.int (Int32.ofNat ln)), .val (.int (1 : Int32)), .val (.int (Int32.ofNat i')), s7'] [(.int (0 : Int32))]) := fun tg_ kk_ => S463 tg_ (by
        refine XS.ifYes X9.here hx rfl (pc0 := 133) (pc' := 150) rfl (hb hby d9_133) rfl (XT.i0_le_t (fun q => hl ((own_pos32 (by omega)).mp q))) (by decide) (by decide) ?_
        show Steps p.tables e below (T'.setTop (mkF m 150 #[.val (.ref x), .val (.int mn), .val (.int mx), .val (.int (Int32.ofNat sg)), .val (.int (Int32.ofNat ln)), .val (.int (1 : Int32)), .val (.int (Int32.ofNat i')), s7'] [])) _
        refine XS.iconst X9.here hx rfl (hb hby d9_150) ?_
        exact kk_)
      obtain ⟨fs, hr, hrun, hended, hW, hsame⟩ := X9.leave (v := some (.int (0 : Int32))) (fun h => by rw [Bd.returns] at h; cases h)
      refine ⟨_, _, ?_, hrun, hended, _, _, rfl, ?_, ⟨_, rfl⟩, hW, hsame.mono (by decide) (by decide)⟩
      · rw [← hG]; exact S469 _ (retN X9 hx (t := .boolean) Bd.returns (by simp) (hb hby d9_151) hr)
      · show Q9 Z x t cs mn mx h0 n0 _ T'.heap _
        rw [e9]
        exact ⟨Or.inr ⟨by rw [hseg]; simp [hl], rfl⟩, N9, rfl⟩
theorem own_fit_ch {c : Int32} (h : own_Ch c) : fits .char (.int c) = true := by rw [← own_nar_char h]; exact fits_nar_char c
theorem own_Bs {cs : List Int32} (h : ∀ c ∈ cs, own_B c) : ∀ j, j < cs.length → own_B (cs.getD j 0) := fun j hj => h _ (by simp [List.getD, hj])
theorem own_nlat {cs : List Int32} (h : ∀ c ∈ cs, own_B c) : ∀ j, j < cs.length → ¬ (255 : Int32) < cs.getD j 0 := fun j hj => (own_Bs h j hj).2
def Q2 (Z : State) (k : Nat) (c0 : Int32) (c1 : Int32) (c2 : Int32) (c3 : Int32) (c4 : Int32) (c5 : Int32) (c6 : Int32) (c7 : Int32) (h0 : Heap) (n0 : Nat) (v : Option Value) (h : Heap) (L : List Loc) : Prop := ∃ x t, v = some (.ref x) ∧ Fr n0 L ∧ Old Z n0 h ∧ n0 ≤ h.size ∧ own_Str Z h x t ([c0, c1, c2, c3, c4, c5, c6, c7].take k)
set_option maxRecDepth 65536 in
set_option maxHeartbeats 40000000 in
theorem rm2 (l : Launch) (Z : State) (a0 : Array Value) (hw : ∀ d ∈ tables_1, d.before a0 Z = true) (ws : List Jvm.Cond) (k : Nat) (c0 : Int32) (c1 : Int32) (c2 : Int32) (c3 : Int32) (c4 : Int32) (c5 : Int32) (c6 : Int32) (c7 : Int32) (h0 : Heap) (n0 : Nat) (Z0 : n0 ≤ h0.size) (z : Int32) (O : Old Z n0 h0) (O2 : Sta Z Z.heap "java/lang/String" "COMPACT_STRINGS" "Z" (.int z)) (P5 : ¬ z = 0) (hk : k ≤ 8) (hc : ∀ c ∈ [c0, c1, c2, c3, c4, c5, c6, c7], own_B c) :
    MetFree l (⟨"com/example/tallyhook/tallyhook/core/EventTypeIsSegmentsPinLaw", "make", "(ICCCCCCCC)Ljava/lang/String;"⟩ : MethodName) (head1 (Jvm.Cond.code (⟨"com/example/tallyhook/tallyhook/core/EventTypeIsSegmentsPinLaw", "make", "(ICCCCCCCC)Ljava/lang/String;"⟩ : MethodName) method_4_code 9 (some (.object "java/lang/String")) :: ws) ({ frames := 5, cells := 4, slots := 32, locals := 80 } : Room)) (fun aa_ U => aa_ = #[(.int (Int32.ofNat k)), (.int c0), (.int c1), (.int c2), (.int c3), (.int c4), (.int c5), (.int c6), (.int c7)] ∧ Z.Warmed39 U.vm ∧ U.heap = h0 ∧ CHv Z own_EL U.vm h0) (fun _ _ _ _ _ => True) (fun _ U o U' => ∃ v L, o = .returned v ∧ Q2 Z k c0 c1 c2 c3 c4 c5 c6 c7 h0 n0 v U'.heap L ∧ ReturnedEndW U o U' L ({ frames := 5, cells := 4, slots := 32, locals := 80 } : Room).cells ({ frames := 5, cells := 4, slots := 32, locals := 80 } : Room).slots) := by
  refine MetFree.of_bodySF (plainFor_of_name pn3) hisR ?_
  intro p e s m args below meth c s₁ Bd hml0 hP hK
  obtain ⟨rfl, hZ, hh, hCH⟩ := hP
  have hx := Bd.exec
  have hby := Bd.bytes
  have hml : c.maxLocals = 9 := hml0
  have hown : s.vm.findClass "com/example/tallyhook/tallyhook/core/EventTypeIsSegmentsPinLaw" = some m.cls := findClass_of_methodNamed Bd.named
  have hnm := (name_of_methodNamed Bd.named Bd.method).1
  have X0 : Stand p l e ({ frames := 5, cells := 4, slots := 32, locals := 80 } : Room) s m #[(.int (Int32.ofNat k)), (.int c0), (.int c1), (.int c2), (.int c3), (.int c4), (.int c5), (.int c6), (.int c7)] below meth c s₁ [] 0 0 := Stand.of_body Bd
  have e0 : s₁.heap = h0 := by rw [← hh, Bd.state]; rfl
  have N0 := Fr.nil n0
  obtain ⟨G, hG⟩ : ∃ G, G = entryFrame m #[(.int (Int32.ofNat k)), (.int c0), (.int c1), (.int c2), (.int c3), (.int c4), (.int c5), (.int c6), (.int c7)] 9 := ⟨_, rfl⟩
  have S0 : own_Go p e below s₁ G s₁ (mkF m 0 #[.val (.int (Int32.ofNat k)), .val (.int c0), .val (.int c1), .val (.int c2), .val (.int c3), .val (.int c4), .val (.int c5), .val (.int c6), .val (.int c7)] []) := fun tg_ kk_ => castTop (by rw [hG]; first | (simp [entryFrame, mkF, argsToLocals, Value.category, maxLocals]; done) | rfl) kk_
  have hEL := own_EW hw
  have hk8 : k = 0 ∨ k = 1 ∨ k = 2 ∨ k = 3 ∨ k = 4 ∨ k = 5 ∨ k = 6 ∨ k = 7 ∨ k = 8 := by omega
  rcases hk8 with rfl | rfl | rfl | rfl | rfl | rfl | rfl | rfl | rfl
  · have _ := N0
    have S470 : own_Go p e below s₁ G s₁ (mkF m 4 #[.val (.int (0 : Int32)), .val (.int c0), .val (.int c1), .val (.int c2), .val (.int c3), .val (.int c4), .val (.int c5), .val (.int c6), .val (.int c7)] []) := fun tg_ kk_ => S0 tg_ (by
      refine XS.iloadN X0.here hx rfl (hb hby d2_0) rfl ?_
      show Steps p.tables e below (s₁.setTop (mkF m 1 #[.val (.int (0 : Int32)), .val (.int c0), .val (.int c1), .val (.int c2), .val (.int c3), .val (.int c4), .val (.int c5), .val (.int c6), .val (.int c7)] [(.int (0 : Int32))])) _
      refine XS.ifNo X0.here hx rfl (hb hby d2_1) rfl (XT.i0_ne_f (by decide)) ?_
      exact kk_)
    obtain ⟨T471, h471, X471, e471, E471, A471, D471, -, st471⟩ := newO X0 hx hZ hown (hw _ (List.mem_of_getElem? (i := 9) rfl)) (hw _ (List.mem_of_getElem? (i := 10) rfl)) (hw _ (List.mem_of_getElem? (i := 11) rfl)) e0 (g := (mkF m 4 #[.val (.int (0 : Int32)), .val (.int c0), .val (.int c1), .val (.int c2), .val (.int c3), .val (.int c4), .val (.int c5), .val (.int c6), .val (.int c7)] [])) rfl (hb hby d2_4) (by decide) (by decide)
    obtain ⟨a471, g471⟩ : ∃ z, z = h0.size := ⟨_, rfl⟩
    rw [← g471] at A471 D471 st471
    have S472 : own_Go p e below s₁ G T471 (mkF m 7 #[.val (.int (0 : Int32)), .val (.int c0), .val (.int c1), .val (.int c2), .val (.int c3), .val (.int c4), .val (.int c5), .val (.int c6), .val (.int c7)] [(.ref a471)]) := fun tg_ kk_ => S470 tg_ (st471 tg_ kk_)
    have Fv : Fld Z h471 a471 "java/lang/String" "value" "[B" .null := D471 (Or.inr (hw _ (List.mem_of_getElem? (i := 38) rfl))) (ty := .array .byte) (by decide)
    have Fc : Fld Z h471 a471 "java/lang/String" "coder" "B" (.int 0) := D471 (Or.inr (hw _ (List.mem_of_getElem? (i := 36) rfl))) (ty := .byte) (by decide)
    have hx0 : n0 ≤ a471 := Nat.le_trans Z0 (Nat.le_of_eq g471.symm)
    have Oa := O.ext E471
    have Za := own_sub Z0 E471
    have S473 : own_Go p e below s₁ G T471 (mkF m 9 #[.val (.int (0 : Int32)), .val (.int c0), .val (.int c1), .val (.int c2), .val (.int c3), .val (.int c4), .val (.int c5), .val (.int c6), .val (.int c7)] [(.int (0 : Int32)), (.ref a471), (.ref a471)]) := fun tg_ kk_ => S472 tg_ (by
      refine XS.dup X471.here hx rfl (hb hby d2_7) rfl rfl ?_
      show Steps p.tables e below (T471.setTop (mkF m 8 #[.val (.int (0 : Int32)), .val (.int c0), .val (.int c1), .val (.int c2), .val (.int c3), .val (.int c4), .val (.int c5), .val (.int c6), .val (.int c7)] [(.ref a471), (.ref a471)])) _
      refine XS.iconst X471.here hx rfl (hb hby d2_8) ?_
      exact kk_)
    obtain ⟨Tp1, hp1, kp1, Xp1, ep1, Ep1, Ap1, stp1⟩ := newP X471 hx hZ (hw _ (List.mem_of_getElem? (i := 12) rfl)) e471 (g := (mkF m 9 #[.val (.int (0 : Int32)), .val (.int c0), .val (.int c1), .val (.int c2), .val (.int c3), .val (.int c4), .val (.int c5), .val (.int c6), .val (.int c7)] [(.int (0 : Int32)), (.ref a471), (.ref a471)])) rfl (hb hby d2_9) rfl (by decide) (cap := 8) (by decide) (by decide) (by decide) (by decide)
    have S474 : own_Go p e below s₁ G Tp1 (mkF m 11 #[.val (.int (0 : Int32)), .val (.int c0), .val (.int c1), .val (.int c2), .val (.int c3), .val (.int c4), .val (.int c5), .val (.int c6), .val (.int c7)] [(.ref h471.size), (.ref a471), (.ref a471)]) := fun tg_ kk_ => S473 tg_ (stp1 tg_ kk_)
    obtain ⟨b, gb⟩ : ∃ z, z = h471.size := ⟨_, rfl⟩
    rw [← gb] at S474
    rw [← gb] at Ap1
    have hb0 : n0 ≤ b := Nat.le_trans Za (Nat.le_of_eq gb.symm)
    have V0 : Arv Z hp1 b kp1 .char (0 : Int32) [] (.int 0) := Arv.new Ap1 (by decide)
    have Oq := Oa.ext Ep1
    have Zq := own_sub Za Ep1
    have Exq := A471.ext Ep1
    have Fvq := Fv.ext Ep1
    have Fcq := Fc.ext Ep1
    have hbx : b ≠ a471 := Nat.ne_of_gt (Nat.lt_of_lt_of_le A471.lt (Nat.le_of_eq gb.symm))
    have XW : Stand p l e ({ frames := 5, cells := 4, slots := 32, locals := 80 } : Room) (s.setVm s.vm) m #[(.int (Int32.ofNat 0)), (.int c0), (.int c1), (.int c2), (.int c3), (.int c4), (.int c5), (.int c6), (.int c7)] below meth c Tp1 _ _ _ := Xp1
    have hSW := (State.WarmedH.refl s).since 0
    obtain ⟨_, T475, h475, L475, X475, e475, hS475, hZ475, hown475, hQ475, st475⟩ := own_callISH XW hx hZ (y := (⟨"java/lang/String", "<init>", "([C)V"⟩ : MethodName)) rfl hown (hw _ (List.mem_of_getElem? (i := 13) rfl)) (hw _ (List.mem_of_getElem? (i := 14) rfl)) (hw _ (List.mem_of_getElem? (i := 11) rfl)) (hw _ (List.mem_of_getElem? (i := 15) rfl)) (by decide) 1 (g := (mkF m 11 #[.val (.int (0 : Int32)), .val (.int c0), .val (.int c1), .val (.int c2), .val (.int c3), .val (.int c4), .val (.int c5), .val (.int c6), .val (.int c7)] [(.ref b), (.ref a471), (.ref a471)])) rfl (by rw [hml]; rfl) a471 [(.ref b)] [(.ref a471)] (rm3e l Z a0 hw [] a471 b hp1 n0 Zq kp1 V0 Exq Fvq Fcq hx0) (lenOf pd4 rfl) rfl (by show 2 * 0 + _ ≤ _; exact Nat.le_of_eq rfl) (hb hby d2_11) (by decide) (by decide) ep1 (by decide) (by decide) hSW (Nat.zero_le _) hEL ((hCH.ext E471).ext Ep1)
    obtain ⟨rfl, N475, K475, t, SS⟩ := hQ475
    have S476 : own_Go p e below s₁ G T475 (mkF m 14 #[.val (.int (0 : Int32)), .val (.int c0), .val (.int c1), .val (.int c2), .val (.int c3), .val (.int c4), .val (.int c5), .val (.int c6), .val (.int c7)] [(.ref a471)]) := fun tg_ kk_ => S474 tg_ (st475 tg_ kk_)
    have NC := Fr.app N0 N475
    obtain ⟨fs, hr, hrun, hended, hend⟩ := X475.leaveW hS475 (by rw [e475]; exact (Nat.le_refl _)) (v := some (.ref a471)) (fun h => by rw [Bd.returns] at h; cases h)
    refine ⟨_, _, ?_, hrun, hended, _, _, rfl, ?_, hend.1, hend.2.1, hend.2.2.1, hend.2.2.2.mono (by decide) (by decide)⟩
    · rw [← hG]; exact S476 _ (retOut X475 hx Bd.returns (by first | rfl | cases (.ref a471) <;> rfl) (Or.inr (Or.inr (Or.inr (Or.inr ⟨rfl, rfl, rfl⟩)))) (hb hby d2_14) hr)
    · show Q2 Z 0 c0 c1 c2 c3 c4 c5 c6 c7 h0 n0 _ T475.heap _
      rw [e475]
      exact ⟨a471, t, rfl, NC, Oq.keep K475 (allS hx0 all0), Nat.le_trans Zq K475.1, SS⟩
  · have _ := N0
    have S477 : own_Go p e below s₁ G s₁ (mkF m 20 #[.val (.int (1 : Int32)), .val (.int c0), .val (.int c1), .val (.int c2), .val (.int c3), .val (.int c4), .val (.int c5), .val (.int c6), .val (.int c7)] []) := fun tg_ kk_ => S0 tg_ (by
      refine XS.iloadN X0.here hx rfl (hb hby d2_0) rfl ?_
      show Steps p.tables e below (s₁.setTop (mkF m 1 #[.val (.int (1 : Int32)), .val (.int c0), .val (.int c1), .val (.int c2), .val (.int c3), .val (.int c4), .val (.int c5), .val (.int c6), .val (.int c7)] [(.int (1 : Int32))])) _
      refine XS.ifYes X0.here hx rfl (pc0 := 1) (pc' := 15) rfl (hb hby d2_1) rfl (XT.i0_ne_t (by decide)) (by decide) (by decide) ?_
      show Steps p.tables e below (s₁.setTop (mkF m 15 #[.val (.int (1 : Int32)), .val (.int c0), .val (.int c1), .val (.int c2), .val (.int c3), .val (.int c4), .val (.int c5), .val (.int c6), .val (.int c7)] [])) _
      refine XS.iloadN X0.here hx rfl (hb hby d2_15) rfl ?_
      show Steps p.tables e below (s₁.setTop (mkF m 16 #[.val (.int (1 : Int32)), .val (.int c0), .val (.int c1), .val (.int c2), .val (.int c3), .val (.int c4), .val (.int c5), .val (.int c6), .val (.int c7)] [(.int (1 : Int32))])) _
      refine XS.iconst X0.here hx rfl (hb hby d2_16) ?_
      show Steps p.tables e below (s₁.setTop (mkF m 17 #[.val (.int (1 : Int32)), .val (.int c0), .val (.int c1), .val (.int c2), .val (.int c3), .val (.int c4), .val (.int c5), .val (.int c6), .val (.int c7)] [(.int (1 : Int32)), (.int (1 : Int32))])) _
      refine XS.icmpNo X0.here hx rfl (hb hby d2_17) rfl (XT.ii_ne_f (by decide)) ?_
      exact kk_)
    obtain ⟨T478, h478, X478, e478, E478, A478, D478, -, st478⟩ := newO X0 hx hZ hown (hw _ (List.mem_of_getElem? (i := 9) rfl)) (hw _ (List.mem_of_getElem? (i := 10) rfl)) (hw _ (List.mem_of_getElem? (i := 11) rfl)) e0 (g := (mkF m 20 #[.val (.int (1 : Int32)), .val (.int c0), .val (.int c1), .val (.int c2), .val (.int c3), .val (.int c4), .val (.int c5), .val (.int c6), .val (.int c7)] [])) rfl (hb hby d2_20) (by decide) (by decide)
    obtain ⟨a478, g478⟩ : ∃ z, z = h0.size := ⟨_, rfl⟩
    rw [← g478] at A478 D478 st478
    have S479 : own_Go p e below s₁ G T478 (mkF m 23 #[.val (.int (1 : Int32)), .val (.int c0), .val (.int c1), .val (.int c2), .val (.int c3), .val (.int c4), .val (.int c5), .val (.int c6), .val (.int c7)] [(.ref a478)]) := fun tg_ kk_ => S477 tg_ (st478 tg_ kk_)
    have Fv : Fld Z h478 a478 "java/lang/String" "value" "[B" .null := D478 (Or.inr (hw _ (List.mem_of_getElem? (i := 38) rfl))) (ty := .array .byte) (by decide)
    have Fc : Fld Z h478 a478 "java/lang/String" "coder" "B" (.int 0) := D478 (Or.inr (hw _ (List.mem_of_getElem? (i := 36) rfl))) (ty := .byte) (by decide)
    have hx0 : n0 ≤ a478 := Nat.le_trans Z0 (Nat.le_of_eq g478.symm)
    have Oa := O.ext E478
    have Za := own_sub Z0 E478
    have S480 : own_Go p e below s₁ G T478 (mkF m 25 #[.val (.int (1 : Int32)), .val (.int c0), .val (.int c1), .val (.int c2), .val (.int c3), .val (.int c4), .val (.int c5), .val (.int c6), .val (.int c7)] [(.int (1 : Int32)), (.ref a478), (.ref a478)]) := fun tg_ kk_ => S479 tg_ (by
      refine XS.dup X478.here hx rfl (hb hby d2_23) rfl rfl ?_
      show Steps p.tables e below (T478.setTop (mkF m 24 #[.val (.int (1 : Int32)), .val (.int c0), .val (.int c1), .val (.int c2), .val (.int c3), .val (.int c4), .val (.int c5), .val (.int c6), .val (.int c7)] [(.ref a478), (.ref a478)])) _
      refine XS.iconst X478.here hx rfl (hb hby d2_24) ?_
      exact kk_)
    obtain ⟨Tp1, hp1, kp1, Xp1, ep1, Ep1, Ap1, stp1⟩ := newP X478 hx hZ (hw _ (List.mem_of_getElem? (i := 12) rfl)) e478 (g := (mkF m 25 #[.val (.int (1 : Int32)), .val (.int c0), .val (.int c1), .val (.int c2), .val (.int c3), .val (.int c4), .val (.int c5), .val (.int c6), .val (.int c7)] [(.int (1 : Int32)), (.ref a478), (.ref a478)])) rfl (hb hby d2_25) rfl (by decide) (cap := 8) (by decide) (by decide) (by decide) (by decide)
    have S481 : own_Go p e below s₁ G Tp1 (mkF m 27 #[.val (.int (1 : Int32)), .val (.int c0), .val (.int c1), .val (.int c2), .val (.int c3), .val (.int c4), .val (.int c5), .val (.int c6), .val (.int c7)] [(.ref h478.size), (.ref a478), (.ref a478)]) := fun tg_ kk_ => S480 tg_ (stp1 tg_ kk_)
    obtain ⟨b, gb⟩ : ∃ z, z = h478.size := ⟨_, rfl⟩
    rw [← gb] at S481
    rw [← gb] at Ap1
    have hb0 : n0 ≤ b := Nat.le_trans Za (Nat.le_of_eq gb.symm)
    have V0 : Arv Z hp1 b kp1 .char (1 : Int32) [] (.int 0) := Arv.new Ap1 (by decide)
    have Oq := Oa.ext Ep1
    have Zq := own_sub Za Ep1
    have Exq := A478.ext Ep1
    have Fvq := Fv.ext Ep1
    have Fcq := Fc.ext Ep1
    have hbx : b ≠ a478 := Nat.ne_of_gt (Nat.lt_of_lt_of_le A478.lt (Nat.le_of_eq gb.symm))
    have S482 : own_Go p e below s₁ G Tp1 (mkF m 30 #[.val (.int (1 : Int32)), .val (.int c0), .val (.int c1), .val (.int c2), .val (.int c3), .val (.int c4), .val (.int c5), .val (.int c6), .val (.int c7)] [(.int c0), (.int (0 : Int32)), (.ref b), (.ref b), (.ref a478), (.ref a478)]) := fun tg_ kk_ => S481 tg_ (by
      refine XS.dup Xp1.here hx rfl (hb hby d2_27) rfl rfl ?_
      show Steps p.tables e below (Tp1.setTop (mkF m 28 #[.val (.int (1 : Int32)), .val (.int c0), .val (.int c1), .val (.int c2), .val (.int c3), .val (.int c4), .val (.int c5), .val (.int c6), .val (.int c7)] [(.ref b), (.ref b), (.ref a478), (.ref a478)])) _
      refine XS.iconst Xp1.here hx rfl (hb hby d2_28) ?_
      show Steps p.tables e below (Tp1.setTop (mkF m 29 #[.val (.int (1 : Int32)), .val (.int c0), .val (.int c1), .val (.int c2), .val (.int c3), .val (.int c4), .val (.int c5), .val (.int c6), .val (.int c7)] [(.int (0 : Int32)), (.ref b), (.ref b), (.ref a478), (.ref a478)])) _
      refine XS.iloadN Xp1.here hx rfl (hb hby d2_29) rfl ?_
      exact kk_)
    obtain ⟨cl0, B0, b0, z0, y0, H0, F0⟩ := id V0
    obtain ⟨U0, u0, Y0, f0, W0, su0⟩ := stC Xp1 hx hZ ep1 B0 (j := (0 : Int32)) (inb_of z0 (by decide)) (g := (mkF m 30 #[.val (.int (1 : Int32)), .val (.int c0), .val (.int c1), .val (.int c2), .val (.int c3), .val (.int c4), .val (.int c5), .val (.int c6), .val (.int c7)] [(.int c0), (.int (0 : Int32)), (.ref b), (.ref b), (.ref a478), (.ref a478)])) rfl rfl (hb hby d2_30)
    have S483 : own_Go p e below s₁ G U0 (mkF m 31 #[.val (.int (1 : Int32)), .val (.int c0), .val (.int c1), .val (.int c2), .val (.int c3), .val (.int c4), .val (.int c5), .val (.int c6), .val (.int c7)] [(.ref b), (.ref a478), (.ref a478)]) := fun tg_ kk_ => S482 tg_ (su0 tg_ kk_)
    have hB0 : own_B c0 := hc c0 (by simp)
    rw [own_nar_char hB0.ch] at W0
    have V1 : Arv Z u0 b kp1 .char (1 : Int32) [.int c0] (.int 0) := own_push V0 (own_fit_ch hB0.ch) W0 rfl
    have NB0 := Fr.snoc Y0 N0 hb0
    have O0a := Oq.wr W0 hb0
    have Z0a : n0 ≤ u0.size := by rw [W0.size]; exact Zq
    have Ex0 := Exq.wr W0
    have Fv0 := Fvq.other W0 (Or.inl hbx.symm)
    have Fc0 := Fcq.other W0 (Or.inl hbx.symm)
    have hck : ∀ c ∈ [c0], own_B c := fun c hq => hc c (List.mem_of_mem_take (i := 1) hq)
    obtain ⟨_, T484, h484, L484, X484, e484, hQ484, st484⟩ := own_callI Y0 hx hZ (y := (⟨"java/lang/String", "<init>", "([C)V"⟩ : MethodName)) rfl hown (hw _ (List.mem_of_getElem? (i := 13) rfl)) (hw _ (List.mem_of_getElem? (i := 14) rfl)) (hw _ (List.mem_of_getElem? (i := 11) rfl)) (hw _ (List.mem_of_getElem? (i := 15) rfl)) (by decide) 1 (g := (mkF m 31 #[.val (.int (1 : Int32)), .val (.int c0), .val (.int c1), .val (.int c2), .val (.int c3), .val (.int c4), .val (.int c5), .val (.int c6), .val (.int c7)] [(.ref b), (.ref a478), (.ref a478)])) rfl (by rw [hml]; rfl) a478 [(.ref b)] [(.ref a478)] (rm3 l Z a0 hw [] a478 b [c0] u0 n0 Z0a z kp1 (by simp) Ex0 Fv0 Fc0 hx0 V1 O0a O2 P5 (own_nlat hck)) (lenOf pd4 rfl) rfl (by show 2 * 0 + _ ≤ _; exact Nat.le_of_eq rfl) (hb hby d2_31) (by decide) (by decide) f0 (by decide) (by decide)
    obtain ⟨rfl, N484, K484, t, ht, SS⟩ := hQ484
    have S485 : own_Go p e below s₁ G T484 (mkF m 34 #[.val (.int (1 : Int32)), .val (.int c0), .val (.int c1), .val (.int c2), .val (.int c3), .val (.int c4), .val (.int c5), .val (.int c6), .val (.int c7)] [(.ref a478)]) := fun tg_ kk_ => S483 tg_ (st484 tg_ kk_)
    have NC := Fr.app NB0 N484
    obtain ⟨fs, hr, hrun, hended, hW, hsame⟩ := X484.leave (v := some (.ref a478)) (fun h => by rw [Bd.returns] at h; cases h)
    refine ⟨_, _, ?_, hrun, hended, _, _, rfl, ?_, ReturnedEndW.of_narrow ⟨_, rfl⟩ hW (hsame.mono (by decide) (by decide))⟩
    · rw [← hG]; exact S485 _ (retOut X484 hx Bd.returns (by first | rfl | cases (.ref a478) <;> rfl) (Or.inr (Or.inr (Or.inr (Or.inr ⟨rfl, rfl, rfl⟩)))) (hb hby d2_34) hr)
    · show Q2 Z 1 c0 c1 c2 c3 c4 c5 c6 c7 h0 n0 _ T484.heap _
      rw [e484]
      exact ⟨a478, t, rfl, NC, O0a.keep K484 (allS hx0 all0), Nat.le_trans Z0a K484.1, SS⟩
  · have _ := N0
    have S486 : own_Go p e below s₁ G s₁ (mkF m 40 #[.val (.int (2 : Int32)), .val (.int c0), .val (.int c1), .val (.int c2), .val (.int c3), .val (.int c4), .val (.int c5), .val (.int c6), .val (.int c7)] []) := fun tg_ kk_ => S0 tg_ (by
      refine XS.iloadN X0.here hx rfl (hb hby d2_0) rfl ?_
      show Steps p.tables e below (s₁.setTop (mkF m 1 #[.val (.int (2 : Int32)), .val (.int c0), .val (.int c1), .val (.int c2), .val (.int c3), .val (.int c4), .val (.int c5), .val (.int c6), .val (.int c7)] [(.int (2 : Int32))])) _
      refine XS.ifYes X0.here hx rfl (pc0 := 1) (pc' := 15) rfl (hb hby d2_1) rfl (XT.i0_ne_t (by decide)) (by decide) (by decide) ?_
      show Steps p.tables e below (s₁.setTop (mkF m 15 #[.val (.int (2 : Int32)), .val (.int c0), .val (.int c1), .val (.int c2), .val (.int c3), .val (.int c4), .val (.int c5), .val (.int c6), .val (.int c7)] [])) _
      refine XS.iloadN X0.here hx rfl (hb hby d2_15) rfl ?_
      show Steps p.tables e below (s₁.setTop (mkF m 16 #[.val (.int (2 : Int32)), .val (.int c0), .val (.int c1), .val (.int c2), .val (.int c3), .val (.int c4), .val (.int c5), .val (.int c6), .val (.int c7)] [(.int (2 : Int32))])) _
      refine XS.iconst X0.here hx rfl (hb hby d2_16) ?_
      show Steps p.tables e below (s₁.setTop (mkF m 17 #[.val (.int (2 : Int32)), .val (.int c0), .val (.int c1), .val (.int c2), .val (.int c3), .val (.int c4), .val (.int c5), .val (.int c6), .val (.int c7)] [(.int (1 : Int32)), (.int (2 : Int32))])) _
      refine XS.icmpYes X0.here hx rfl (pc0 := 17) (pc' := 35) rfl (hb hby d2_17) rfl (XT.ii_ne_t (by decide)) (by decide) (by decide) ?_
      show Steps p.tables e below (s₁.setTop (mkF m 35 #[.val (.int (2 : Int32)), .val (.int c0), .val (.int c1), .val (.int c2), .val (.int c3), .val (.int c4), .val (.int c5), .val (.int c6), .val (.int c7)] [])) _
      refine XS.iloadN X0.here hx rfl (hb hby d2_35) rfl ?_
      show Steps p.tables e below (s₁.setTop (mkF m 36 #[.val (.int (2 : Int32)), .val (.int c0), .val (.int c1), .val (.int c2), .val (.int c3), .val (.int c4), .val (.int c5), .val (.int c6), .val (.int c7)] [(.int (2 : Int32))])) _
      refine XS.iconst X0.here hx rfl (hb hby d2_36) ?_
      show Steps p.tables e below (s₁.setTop (mkF m 37 #[.val (.int (2 : Int32)), .val (.int c0), .val (.int c1), .val (.int c2), .val (.int c3), .val (.int c4), .val (.int c5), .val (.int c6), .val (.int c7)] [(.int (2 : Int32)), (.int (2 : Int32))])) _
      refine XS.icmpNo X0.here hx rfl (hb hby d2_37) rfl (XT.ii_ne_f (by decide)) ?_
      exact kk_)
    obtain ⟨T487, h487, X487, e487, E487, A487, D487, -, st487⟩ := newO X0 hx hZ hown (hw _ (List.mem_of_getElem? (i := 9) rfl)) (hw _ (List.mem_of_getElem? (i := 10) rfl)) (hw _ (List.mem_of_getElem? (i := 11) rfl)) e0 (g := (mkF m 40 #[.val (.int (2 : Int32)), .val (.int c0), .val (.int c1), .val (.int c2), .val (.int c3), .val (.int c4), .val (.int c5), .val (.int c6), .val (.int c7)] [])) rfl (hb hby d2_40) (by decide) (by decide)
    obtain ⟨a487, g487⟩ : ∃ z, z = h0.size := ⟨_, rfl⟩
    rw [← g487] at A487 D487 st487
    have S488 : own_Go p e below s₁ G T487 (mkF m 43 #[.val (.int (2 : Int32)), .val (.int c0), .val (.int c1), .val (.int c2), .val (.int c3), .val (.int c4), .val (.int c5), .val (.int c6), .val (.int c7)] [(.ref a487)]) := fun tg_ kk_ => S486 tg_ (st487 tg_ kk_)
    have Fv : Fld Z h487 a487 "java/lang/String" "value" "[B" .null := D487 (Or.inr (hw _ (List.mem_of_getElem? (i := 38) rfl))) (ty := .array .byte) (by decide)
    have Fc : Fld Z h487 a487 "java/lang/String" "coder" "B" (.int 0) := D487 (Or.inr (hw _ (List.mem_of_getElem? (i := 36) rfl))) (ty := .byte) (by decide)
    have hx0 : n0 ≤ a487 := Nat.le_trans Z0 (Nat.le_of_eq g487.symm)
    have Oa := O.ext E487
    have Za := own_sub Z0 E487
    have S489 : own_Go p e below s₁ G T487 (mkF m 45 #[.val (.int (2 : Int32)), .val (.int c0), .val (.int c1), .val (.int c2), .val (.int c3), .val (.int c4), .val (.int c5), .val (.int c6), .val (.int c7)] [(.int (2 : Int32)), (.ref a487), (.ref a487)]) := fun tg_ kk_ => S488 tg_ (by
      refine XS.dup X487.here hx rfl (hb hby d2_43) rfl rfl ?_
      show Steps p.tables e below (T487.setTop (mkF m 44 #[.val (.int (2 : Int32)), .val (.int c0), .val (.int c1), .val (.int c2), .val (.int c3), .val (.int c4), .val (.int c5), .val (.int c6), .val (.int c7)] [(.ref a487), (.ref a487)])) _
      refine XS.iconst X487.here hx rfl (hb hby d2_44) ?_
      exact kk_)
    obtain ⟨Tp1, hp1, kp1, Xp1, ep1, Ep1, Ap1, stp1⟩ := newP X487 hx hZ (hw _ (List.mem_of_getElem? (i := 12) rfl)) e487 (g := (mkF m 45 #[.val (.int (2 : Int32)), .val (.int c0), .val (.int c1), .val (.int c2), .val (.int c3), .val (.int c4), .val (.int c5), .val (.int c6), .val (.int c7)] [(.int (2 : Int32)), (.ref a487), (.ref a487)])) rfl (hb hby d2_45) rfl (by decide) (cap := 8) (by decide) (by decide) (by decide) (by decide)
    have S490 : own_Go p e below s₁ G Tp1 (mkF m 47 #[.val (.int (2 : Int32)), .val (.int c0), .val (.int c1), .val (.int c2), .val (.int c3), .val (.int c4), .val (.int c5), .val (.int c6), .val (.int c7)] [(.ref h487.size), (.ref a487), (.ref a487)]) := fun tg_ kk_ => S489 tg_ (stp1 tg_ kk_)
    obtain ⟨b, gb⟩ : ∃ z, z = h487.size := ⟨_, rfl⟩
    rw [← gb] at S490
    rw [← gb] at Ap1
    have hb0 : n0 ≤ b := Nat.le_trans Za (Nat.le_of_eq gb.symm)
    have V0 : Arv Z hp1 b kp1 .char (2 : Int32) [] (.int 0) := Arv.new Ap1 (by decide)
    have Oq := Oa.ext Ep1
    have Zq := own_sub Za Ep1
    have Exq := A487.ext Ep1
    have Fvq := Fv.ext Ep1
    have Fcq := Fc.ext Ep1
    have hbx : b ≠ a487 := Nat.ne_of_gt (Nat.lt_of_lt_of_le A487.lt (Nat.le_of_eq gb.symm))
    have S491 : own_Go p e below s₁ G Tp1 (mkF m 50 #[.val (.int (2 : Int32)), .val (.int c0), .val (.int c1), .val (.int c2), .val (.int c3), .val (.int c4), .val (.int c5), .val (.int c6), .val (.int c7)] [(.int c0), (.int (0 : Int32)), (.ref b), (.ref b), (.ref a487), (.ref a487)]) := fun tg_ kk_ => S490 tg_ (by
      refine XS.dup Xp1.here hx rfl (hb hby d2_47) rfl rfl ?_
      show Steps p.tables e below (Tp1.setTop (mkF m 48 #[.val (.int (2 : Int32)), .val (.int c0), .val (.int c1), .val (.int c2), .val (.int c3), .val (.int c4), .val (.int c5), .val (.int c6), .val (.int c7)] [(.ref b), (.ref b), (.ref a487), (.ref a487)])) _
      refine XS.iconst Xp1.here hx rfl (hb hby d2_48) ?_
      show Steps p.tables e below (Tp1.setTop (mkF m 49 #[.val (.int (2 : Int32)), .val (.int c0), .val (.int c1), .val (.int c2), .val (.int c3), .val (.int c4), .val (.int c5), .val (.int c6), .val (.int c7)] [(.int (0 : Int32)), (.ref b), (.ref b), (.ref a487), (.ref a487)])) _
      refine XS.iloadN Xp1.here hx rfl (hb hby d2_49) rfl ?_
      exact kk_)
    obtain ⟨cl0, B0, b0, z0, y0, H0, F0⟩ := id V0
    obtain ⟨U0, u0, Y0, f0, W0, su0⟩ := stC Xp1 hx hZ ep1 B0 (j := (0 : Int32)) (inb_of z0 (by decide)) (g := (mkF m 50 #[.val (.int (2 : Int32)), .val (.int c0), .val (.int c1), .val (.int c2), .val (.int c3), .val (.int c4), .val (.int c5), .val (.int c6), .val (.int c7)] [(.int c0), (.int (0 : Int32)), (.ref b), (.ref b), (.ref a487), (.ref a487)])) rfl rfl (hb hby d2_50)
    have S492 : own_Go p e below s₁ G U0 (mkF m 51 #[.val (.int (2 : Int32)), .val (.int c0), .val (.int c1), .val (.int c2), .val (.int c3), .val (.int c4), .val (.int c5), .val (.int c6), .val (.int c7)] [(.ref b), (.ref a487), (.ref a487)]) := fun tg_ kk_ => S491 tg_ (su0 tg_ kk_)
    have hB0 : own_B c0 := hc c0 (by simp)
    rw [own_nar_char hB0.ch] at W0
    have V1 : Arv Z u0 b kp1 .char (2 : Int32) [.int c0] (.int 0) := own_push V0 (own_fit_ch hB0.ch) W0 rfl
    have NB0 := Fr.snoc Y0 N0 hb0
    have O0a := Oq.wr W0 hb0
    have Z0a : n0 ≤ u0.size := by rw [W0.size]; exact Zq
    have Ex0 := Exq.wr W0
    have Fv0 := Fvq.other W0 (Or.inl hbx.symm)
    have Fc0 := Fcq.other W0 (Or.inl hbx.symm)
    have S493 : own_Go p e below s₁ G U0 (mkF m 54 #[.val (.int (2 : Int32)), .val (.int c0), .val (.int c1), .val (.int c2), .val (.int c3), .val (.int c4), .val (.int c5), .val (.int c6), .val (.int c7)] [(.int c1), (.int (1 : Int32)), (.ref b), (.ref b), (.ref a487), (.ref a487)]) := fun tg_ kk_ => S492 tg_ (by
      refine XS.dup Y0.here hx rfl (hb hby d2_51) rfl rfl ?_
      show Steps p.tables e below (U0.setTop (mkF m 52 #[.val (.int (2 : Int32)), .val (.int c0), .val (.int c1), .val (.int c2), .val (.int c3), .val (.int c4), .val (.int c5), .val (.int c6), .val (.int c7)] [(.ref b), (.ref b), (.ref a487), (.ref a487)])) _
      refine XS.iconst Y0.here hx rfl (hb hby d2_52) ?_
      show Steps p.tables e below (U0.setTop (mkF m 53 #[.val (.int (2 : Int32)), .val (.int c0), .val (.int c1), .val (.int c2), .val (.int c3), .val (.int c4), .val (.int c5), .val (.int c6), .val (.int c7)] [(.int (1 : Int32)), (.ref b), (.ref b), (.ref a487), (.ref a487)])) _
      refine XS.iloadN Y0.here hx rfl (hb hby d2_53) rfl ?_
      exact kk_)
    obtain ⟨cl1, B1, b1, z1, y1, H1, F1⟩ := id V1
    obtain ⟨U1, u1, Y1, f1, W1, su1⟩ := stC Y0 hx hZ f0 B1 (j := (1 : Int32)) (inb_of z1 (by decide)) (g := (mkF m 54 #[.val (.int (2 : Int32)), .val (.int c0), .val (.int c1), .val (.int c2), .val (.int c3), .val (.int c4), .val (.int c5), .val (.int c6), .val (.int c7)] [(.int c1), (.int (1 : Int32)), (.ref b), (.ref b), (.ref a487), (.ref a487)])) rfl rfl (hb hby d2_54)
    have S494 : own_Go p e below s₁ G U1 (mkF m 55 #[.val (.int (2 : Int32)), .val (.int c0), .val (.int c1), .val (.int c2), .val (.int c3), .val (.int c4), .val (.int c5), .val (.int c6), .val (.int c7)] [(.ref b), (.ref a487), (.ref a487)]) := fun tg_ kk_ => S493 tg_ (su1 tg_ kk_)
    have hB1 : own_B c1 := hc c1 (by simp)
    rw [own_nar_char hB1.ch] at W1
    have V2 : Arv Z u1 b kp1 .char (2 : Int32) [.int c0, .int c1] (.int 0) := own_push V1 (own_fit_ch hB1.ch) W1 rfl
    have NB1 := Fr.snoc Y1 NB0 hb0
    have O1a := O0a.wr W1 hb0
    have Z1a : n0 ≤ u1.size := by rw [W1.size]; exact Z0a
    have Ex1 := Ex0.wr W1
    have Fv1 := Fv0.other W1 (Or.inl hbx.symm)
    have Fc1 := Fc0.other W1 (Or.inl hbx.symm)
    have hck : ∀ c ∈ [c0, c1], own_B c := fun c hq => hc c (List.mem_of_mem_take (i := 2) hq)
    obtain ⟨_, T495, h495, L495, X495, e495, hQ495, st495⟩ := own_callI Y1 hx hZ (y := (⟨"java/lang/String", "<init>", "([C)V"⟩ : MethodName)) rfl hown (hw _ (List.mem_of_getElem? (i := 13) rfl)) (hw _ (List.mem_of_getElem? (i := 14) rfl)) (hw _ (List.mem_of_getElem? (i := 11) rfl)) (hw _ (List.mem_of_getElem? (i := 15) rfl)) (by decide) 1 (g := (mkF m 55 #[.val (.int (2 : Int32)), .val (.int c0), .val (.int c1), .val (.int c2), .val (.int c3), .val (.int c4), .val (.int c5), .val (.int c6), .val (.int c7)] [(.ref b), (.ref a487), (.ref a487)])) rfl (by rw [hml]; rfl) a487 [(.ref b)] [(.ref a487)] (rm3 l Z a0 hw [] a487 b [c0, c1] u1 n0 Z1a z kp1 (by simp) Ex1 Fv1 Fc1 hx0 V2 O1a O2 P5 (own_nlat hck)) (lenOf pd4 rfl) rfl (by show 2 * 0 + _ ≤ _; exact Nat.le_of_eq rfl) (hb hby d2_55) (by decide) (by decide) f1 (by decide) (by decide)
    obtain ⟨rfl, N495, K495, t, ht, SS⟩ := hQ495
    have S496 : own_Go p e below s₁ G T495 (mkF m 58 #[.val (.int (2 : Int32)), .val (.int c0), .val (.int c1), .val (.int c2), .val (.int c3), .val (.int c4), .val (.int c5), .val (.int c6), .val (.int c7)] [(.ref a487)]) := fun tg_ kk_ => S494 tg_ (st495 tg_ kk_)
    have NC := Fr.app NB1 N495
    obtain ⟨fs, hr, hrun, hended, hW, hsame⟩ := X495.leave (v := some (.ref a487)) (fun h => by rw [Bd.returns] at h; cases h)
    refine ⟨_, _, ?_, hrun, hended, _, _, rfl, ?_, ReturnedEndW.of_narrow ⟨_, rfl⟩ hW (hsame.mono (by decide) (by decide))⟩
    · rw [← hG]; exact S496 _ (retOut X495 hx Bd.returns (by first | rfl | cases (.ref a487) <;> rfl) (Or.inr (Or.inr (Or.inr (Or.inr ⟨rfl, rfl, rfl⟩)))) (hb hby d2_58) hr)
    · show Q2 Z 2 c0 c1 c2 c3 c4 c5 c6 c7 h0 n0 _ T495.heap _
      rw [e495]
      exact ⟨a487, t, rfl, NC, O1a.keep K495 (allS hx0 all0), Nat.le_trans Z1a K495.1, SS⟩
  · have _ := N0
    have S497 : own_Go p e below s₁ G s₁ (mkF m 64 #[.val (.int (3 : Int32)), .val (.int c0), .val (.int c1), .val (.int c2), .val (.int c3), .val (.int c4), .val (.int c5), .val (.int c6), .val (.int c7)] []) := fun tg_ kk_ => S0 tg_ (by
      refine XS.iloadN X0.here hx rfl (hb hby d2_0) rfl ?_
      show Steps p.tables e below (s₁.setTop (mkF m 1 #[.val (.int (3 : Int32)), .val (.int c0), .val (.int c1), .val (.int c2), .val (.int c3), .val (.int c4), .val (.int c5), .val (.int c6), .val (.int c7)] [(.int (3 : Int32))])) _
      refine XS.ifYes X0.here hx rfl (pc0 := 1) (pc' := 15) rfl (hb hby d2_1) rfl (XT.i0_ne_t (by decide)) (by decide) (by decide) ?_
      show Steps p.tables e below (s₁.setTop (mkF m 15 #[.val (.int (3 : Int32)), .val (.int c0), .val (.int c1), .val (.int c2), .val (.int c3), .val (.int c4), .val (.int c5), .val (.int c6), .val (.int c7)] [])) _
      refine XS.iloadN X0.here hx rfl (hb hby d2_15) rfl ?_
      show Steps p.tables e below (s₁.setTop (mkF m 16 #[.val (.int (3 : Int32)), .val (.int c0), .val (.int c1), .val (.int c2), .val (.int c3), .val (.int c4), .val (.int c5), .val (.int c6), .val (.int c7)] [(.int (3 : Int32))])) _
      refine XS.iconst X0.here hx rfl (hb hby d2_16) ?_
      show Steps p.tables e below (s₁.setTop (mkF m 17 #[.val (.int (3 : Int32)), .val (.int c0), .val (.int c1), .val (.int c2), .val (.int c3), .val (.int c4), .val (.int c5), .val (.int c6), .val (.int c7)] [(.int (1 : Int32)), (.int (3 : Int32))])) _
      refine XS.icmpYes X0.here hx rfl (pc0 := 17) (pc' := 35) rfl (hb hby d2_17) rfl (XT.ii_ne_t (by decide)) (by decide) (by decide) ?_
      show Steps p.tables e below (s₁.setTop (mkF m 35 #[.val (.int (3 : Int32)), .val (.int c0), .val (.int c1), .val (.int c2), .val (.int c3), .val (.int c4), .val (.int c5), .val (.int c6), .val (.int c7)] [])) _
      refine XS.iloadN X0.here hx rfl (hb hby d2_35) rfl ?_
      show Steps p.tables e below (s₁.setTop (mkF m 36 #[.val (.int (3 : Int32)), .val (.int c0), .val (.int c1), .val (.int c2), .val (.int c3), .val (.int c4), .val (.int c5), .val (.int c6), .val (.int c7)] [(.int (3 : Int32))])) _
      refine XS.iconst X0.here hx rfl (hb hby d2_36) ?_
      show Steps p.tables e below (s₁.setTop (mkF m 37 #[.val (.int (3 : Int32)), .val (.int c0), .val (.int c1), .val (.int c2), .val (.int c3), .val (.int c4), .val (.int c5), .val (.int c6), .val (.int c7)] [(.int (2 : Int32)), (.int (3 : Int32))])) _
      refine XS.icmpYes X0.here hx rfl (pc0 := 37) (pc' := 59) rfl (hb hby d2_37) rfl (XT.ii_ne_t (by decide)) (by decide) (by decide) ?_
      show Steps p.tables e below (s₁.setTop (mkF m 59 #[.val (.int (3 : Int32)), .val (.int c0), .val (.int c1), .val (.int c2), .val (.int c3), .val (.int c4), .val (.int c5), .val (.int c6), .val (.int c7)] [])) _
      refine XS.iloadN X0.here hx rfl (hb hby d2_59) rfl ?_
      show Steps p.tables e below (s₁.setTop (mkF m 60 #[.val (.int (3 : Int32)), .val (.int c0), .val (.int c1), .val (.int c2), .val (.int c3), .val (.int c4), .val (.int c5), .val (.int c6), .val (.int c7)] [(.int (3 : Int32))])) _
      refine XS.iconst X0.here hx rfl (hb hby d2_60) ?_
      show Steps p.tables e below (s₁.setTop (mkF m 61 #[.val (.int (3 : Int32)), .val (.int c0), .val (.int c1), .val (.int c2), .val (.int c3), .val (.int c4), .val (.int c5), .val (.int c6), .val (.int c7)] [(.int (3 : Int32)), (.int (3 : Int32))])) _
      refine XS.icmpNo X0.here hx rfl (hb hby d2_61) rfl (XT.ii_ne_f (by decide)) ?_
      exact kk_)
    obtain ⟨T498, h498, X498, e498, E498, A498, D498, -, st498⟩ := newO X0 hx hZ hown (hw _ (List.mem_of_getElem? (i := 9) rfl)) (hw _ (List.mem_of_getElem? (i := 10) rfl)) (hw _ (List.mem_of_getElem? (i := 11) rfl)) e0 (g := (mkF m 64 #[.val (.int (3 : Int32)), .val (.int c0), .val (.int c1), .val (.int c2), .val (.int c3), .val (.int c4), .val (.int c5), .val (.int c6), .val (.int c7)] [])) rfl (hb hby d2_64) (by decide) (by decide)
    obtain ⟨a498, g498⟩ : ∃ z, z = h0.size := ⟨_, rfl⟩
    rw [← g498] at A498 D498 st498
    have S499 : own_Go p e below s₁ G T498 (mkF m 67 #[.val (.int (3 : Int32)), .val (.int c0), .val (.int c1), .val (.int c2), .val (.int c3), .val (.int c4), .val (.int c5), .val (.int c6), .val (.int c7)] [(.ref a498)]) := fun tg_ kk_ => S497 tg_ (st498 tg_ kk_)
    have Fv : Fld Z h498 a498 "java/lang/String" "value" "[B" .null := D498 (Or.inr (hw _ (List.mem_of_getElem? (i := 38) rfl))) (ty := .array .byte) (by decide)
    have Fc : Fld Z h498 a498 "java/lang/String" "coder" "B" (.int 0) := D498 (Or.inr (hw _ (List.mem_of_getElem? (i := 36) rfl))) (ty := .byte) (by decide)
    have hx0 : n0 ≤ a498 := Nat.le_trans Z0 (Nat.le_of_eq g498.symm)
    have Oa := O.ext E498
    have Za := own_sub Z0 E498
    have S500 : own_Go p e below s₁ G T498 (mkF m 69 #[.val (.int (3 : Int32)), .val (.int c0), .val (.int c1), .val (.int c2), .val (.int c3), .val (.int c4), .val (.int c5), .val (.int c6), .val (.int c7)] [(.int (3 : Int32)), (.ref a498), (.ref a498)]) := fun tg_ kk_ => S499 tg_ (by
      refine XS.dup X498.here hx rfl (hb hby d2_67) rfl rfl ?_
      show Steps p.tables e below (T498.setTop (mkF m 68 #[.val (.int (3 : Int32)), .val (.int c0), .val (.int c1), .val (.int c2), .val (.int c3), .val (.int c4), .val (.int c5), .val (.int c6), .val (.int c7)] [(.ref a498), (.ref a498)])) _
      refine XS.iconst X498.here hx rfl (hb hby d2_68) ?_
      exact kk_)
    obtain ⟨Tp1, hp1, kp1, Xp1, ep1, Ep1, Ap1, stp1⟩ := newP X498 hx hZ (hw _ (List.mem_of_getElem? (i := 12) rfl)) e498 (g := (mkF m 69 #[.val (.int (3 : Int32)), .val (.int c0), .val (.int c1), .val (.int c2), .val (.int c3), .val (.int c4), .val (.int c5), .val (.int c6), .val (.int c7)] [(.int (3 : Int32)), (.ref a498), (.ref a498)])) rfl (hb hby d2_69) rfl (by decide) (cap := 8) (by decide) (by decide) (by decide) (by decide)
    have S501 : own_Go p e below s₁ G Tp1 (mkF m 71 #[.val (.int (3 : Int32)), .val (.int c0), .val (.int c1), .val (.int c2), .val (.int c3), .val (.int c4), .val (.int c5), .val (.int c6), .val (.int c7)] [(.ref h498.size), (.ref a498), (.ref a498)]) := fun tg_ kk_ => S500 tg_ (stp1 tg_ kk_)
    obtain ⟨b, gb⟩ : ∃ z, z = h498.size := ⟨_, rfl⟩
    rw [← gb] at S501
    rw [← gb] at Ap1
    have hb0 : n0 ≤ b := Nat.le_trans Za (Nat.le_of_eq gb.symm)
    have V0 : Arv Z hp1 b kp1 .char (3 : Int32) [] (.int 0) := Arv.new Ap1 (by decide)
    have Oq := Oa.ext Ep1
    have Zq := own_sub Za Ep1
    have Exq := A498.ext Ep1
    have Fvq := Fv.ext Ep1
    have Fcq := Fc.ext Ep1
    have hbx : b ≠ a498 := Nat.ne_of_gt (Nat.lt_of_lt_of_le A498.lt (Nat.le_of_eq gb.symm))
    have S502 : own_Go p e below s₁ G Tp1 (mkF m 74 #[.val (.int (3 : Int32)), .val (.int c0), .val (.int c1), .val (.int c2), .val (.int c3), .val (.int c4), .val (.int c5), .val (.int c6), .val (.int c7)] [(.int c0), (.int (0 : Int32)), (.ref b), (.ref b), (.ref a498), (.ref a498)]) := fun tg_ kk_ => S501 tg_ (by
      refine XS.dup Xp1.here hx rfl (hb hby d2_71) rfl rfl ?_
      show Steps p.tables e below (Tp1.setTop (mkF m 72 #[.val (.int (3 : Int32)), .val (.int c0), .val (.int c1), .val (.int c2), .val (.int c3), .val (.int c4), .val (.int c5), .val (.int c6), .val (.int c7)] [(.ref b), (.ref b), (.ref a498), (.ref a498)])) _
      refine XS.iconst Xp1.here hx rfl (hb hby d2_72) ?_
      show Steps p.tables e below (Tp1.setTop (mkF m 73 #[.val (.int (3 : Int32)), .val (.int c0), .val (.int c1), .val (.int c2), .val (.int c3), .val (.int c4), .val (.int c5), .val (.int c6), .val (.int c7)] [(.int (0 : Int32)), (.ref b), (.ref b), (.ref a498), (.ref a498)])) _
      refine XS.iloadN Xp1.here hx rfl (hb hby d2_73) rfl ?_
      exact kk_)
    obtain ⟨cl0, B0, b0, z0, y0, H0, F0⟩ := id V0
    obtain ⟨U0, u0, Y0, f0, W0, su0⟩ := stC Xp1 hx hZ ep1 B0 (j := (0 : Int32)) (inb_of z0 (by decide)) (g := (mkF m 74 #[.val (.int (3 : Int32)), .val (.int c0), .val (.int c1), .val (.int c2), .val (.int c3), .val (.int c4), .val (.int c5), .val (.int c6), .val (.int c7)] [(.int c0), (.int (0 : Int32)), (.ref b), (.ref b), (.ref a498), (.ref a498)])) rfl rfl (hb hby d2_74)
    have S503 : own_Go p e below s₁ G U0 (mkF m 75 #[.val (.int (3 : Int32)), .val (.int c0), .val (.int c1), .val (.int c2), .val (.int c3), .val (.int c4), .val (.int c5), .val (.int c6), .val (.int c7)] [(.ref b), (.ref a498), (.ref a498)]) := fun tg_ kk_ => S502 tg_ (su0 tg_ kk_)
    have hB0 : own_B c0 := hc c0 (by simp)
    rw [own_nar_char hB0.ch] at W0
    have V1 : Arv Z u0 b kp1 .char (3 : Int32) [.int c0] (.int 0) := own_push V0 (own_fit_ch hB0.ch) W0 rfl
    have NB0 := Fr.snoc Y0 N0 hb0
    have O0a := Oq.wr W0 hb0
    have Z0a : n0 ≤ u0.size := by rw [W0.size]; exact Zq
    have Ex0 := Exq.wr W0
    have Fv0 := Fvq.other W0 (Or.inl hbx.symm)
    have Fc0 := Fcq.other W0 (Or.inl hbx.symm)
    have S504 : own_Go p e below s₁ G U0 (mkF m 78 #[.val (.int (3 : Int32)), .val (.int c0), .val (.int c1), .val (.int c2), .val (.int c3), .val (.int c4), .val (.int c5), .val (.int c6), .val (.int c7)] [(.int c1), (.int (1 : Int32)), (.ref b), (.ref b), (.ref a498), (.ref a498)]) := fun tg_ kk_ => S503 tg_ (by
      refine XS.dup Y0.here hx rfl (hb hby d2_75) rfl rfl ?_
      show Steps p.tables e below (U0.setTop (mkF m 76 #[.val (.int (3 : Int32)), .val (.int c0), .val (.int c1), .val (.int c2), .val (.int c3), .val (.int c4), .val (.int c5), .val (.int c6), .val (.int c7)] [(.ref b), (.ref b), (.ref a498), (.ref a498)])) _
      refine XS.iconst Y0.here hx rfl (hb hby d2_76) ?_
      show Steps p.tables e below (U0.setTop (mkF m 77 #[.val (.int (3 : Int32)), .val (.int c0), .val (.int c1), .val (.int c2), .val (.int c3), .val (.int c4), .val (.int c5), .val (.int c6), .val (.int c7)] [(.int (1 : Int32)), (.ref b), (.ref b), (.ref a498), (.ref a498)])) _
      refine XS.iloadN Y0.here hx rfl (hb hby d2_77) rfl ?_
      exact kk_)
    obtain ⟨cl1, B1, b1, z1, y1, H1, F1⟩ := id V1
    obtain ⟨U1, u1, Y1, f1, W1, su1⟩ := stC Y0 hx hZ f0 B1 (j := (1 : Int32)) (inb_of z1 (by decide)) (g := (mkF m 78 #[.val (.int (3 : Int32)), .val (.int c0), .val (.int c1), .val (.int c2), .val (.int c3), .val (.int c4), .val (.int c5), .val (.int c6), .val (.int c7)] [(.int c1), (.int (1 : Int32)), (.ref b), (.ref b), (.ref a498), (.ref a498)])) rfl rfl (hb hby d2_78)
    have S505 : own_Go p e below s₁ G U1 (mkF m 79 #[.val (.int (3 : Int32)), .val (.int c0), .val (.int c1), .val (.int c2), .val (.int c3), .val (.int c4), .val (.int c5), .val (.int c6), .val (.int c7)] [(.ref b), (.ref a498), (.ref a498)]) := fun tg_ kk_ => S504 tg_ (su1 tg_ kk_)
    have hB1 : own_B c1 := hc c1 (by simp)
    rw [own_nar_char hB1.ch] at W1
    have V2 : Arv Z u1 b kp1 .char (3 : Int32) [.int c0, .int c1] (.int 0) := own_push V1 (own_fit_ch hB1.ch) W1 rfl
    have NB1 := Fr.snoc Y1 NB0 hb0
    have O1a := O0a.wr W1 hb0
    have Z1a : n0 ≤ u1.size := by rw [W1.size]; exact Z0a
    have Ex1 := Ex0.wr W1
    have Fv1 := Fv0.other W1 (Or.inl hbx.symm)
    have Fc1 := Fc0.other W1 (Or.inl hbx.symm)
    have S506 : own_Go p e below s₁ G U1 (mkF m 82 #[.val (.int (3 : Int32)), .val (.int c0), .val (.int c1), .val (.int c2), .val (.int c3), .val (.int c4), .val (.int c5), .val (.int c6), .val (.int c7)] [(.int c2), (.int (2 : Int32)), (.ref b), (.ref b), (.ref a498), (.ref a498)]) := fun tg_ kk_ => S505 tg_ (by
      refine XS.dup Y1.here hx rfl (hb hby d2_79) rfl rfl ?_
      show Steps p.tables e below (U1.setTop (mkF m 80 #[.val (.int (3 : Int32)), .val (.int c0), .val (.int c1), .val (.int c2), .val (.int c3), .val (.int c4), .val (.int c5), .val (.int c6), .val (.int c7)] [(.ref b), (.ref b), (.ref a498), (.ref a498)])) _
      refine XS.iconst Y1.here hx rfl (hb hby d2_80) ?_
      show Steps p.tables e below (U1.setTop (mkF m 81 #[.val (.int (3 : Int32)), .val (.int c0), .val (.int c1), .val (.int c2), .val (.int c3), .val (.int c4), .val (.int c5), .val (.int c6), .val (.int c7)] [(.int (2 : Int32)), (.ref b), (.ref b), (.ref a498), (.ref a498)])) _
      refine XS.iloadN Y1.here hx rfl (hb hby d2_81) rfl ?_
      exact kk_)
    obtain ⟨cl2, B2, b2, z2, y2, H2, F2⟩ := id V2
    obtain ⟨U2, u2, Y2, f2, W2, su2⟩ := stC Y1 hx hZ f1 B2 (j := (2 : Int32)) (inb_of z2 (by decide)) (g := (mkF m 82 #[.val (.int (3 : Int32)), .val (.int c0), .val (.int c1), .val (.int c2), .val (.int c3), .val (.int c4), .val (.int c5), .val (.int c6), .val (.int c7)] [(.int c2), (.int (2 : Int32)), (.ref b), (.ref b), (.ref a498), (.ref a498)])) rfl rfl (hb hby d2_82)
    have S507 : own_Go p e below s₁ G U2 (mkF m 83 #[.val (.int (3 : Int32)), .val (.int c0), .val (.int c1), .val (.int c2), .val (.int c3), .val (.int c4), .val (.int c5), .val (.int c6), .val (.int c7)] [(.ref b), (.ref a498), (.ref a498)]) := fun tg_ kk_ => S506 tg_ (su2 tg_ kk_)
    have hB2 : own_B c2 := hc c2 (by simp)
    rw [own_nar_char hB2.ch] at W2
    have V3 : Arv Z u2 b kp1 .char (3 : Int32) [.int c0, .int c1, .int c2] (.int 0) := own_push V2 (own_fit_ch hB2.ch) W2 rfl
    have NB2 := Fr.snoc Y2 NB1 hb0
    have O2a := O1a.wr W2 hb0
    have Z2a : n0 ≤ u2.size := by rw [W2.size]; exact Z1a
    have Ex2 := Ex1.wr W2
    have Fv2 := Fv1.other W2 (Or.inl hbx.symm)
    have Fc2 := Fc1.other W2 (Or.inl hbx.symm)
    have hck : ∀ c ∈ [c0, c1, c2], own_B c := fun c hq => hc c (List.mem_of_mem_take (i := 3) hq)
    obtain ⟨_, T508, h508, L508, X508, e508, hQ508, st508⟩ := own_callI Y2 hx hZ (y := (⟨"java/lang/String", "<init>", "([C)V"⟩ : MethodName)) rfl hown (hw _ (List.mem_of_getElem? (i := 13) rfl)) (hw _ (List.mem_of_getElem? (i := 14) rfl)) (hw _ (List.mem_of_getElem? (i := 11) rfl)) (hw _ (List.mem_of_getElem? (i := 15) rfl)) (by decide) 1 (g := (mkF m 83 #[.val (.int (3 : Int32)), .val (.int c0), .val (.int c1), .val (.int c2), .val (.int c3), .val (.int c4), .val (.int c5), .val (.int c6), .val (.int c7)] [(.ref b), (.ref a498), (.ref a498)])) rfl (by rw [hml]; rfl) a498 [(.ref b)] [(.ref a498)] (rm3 l Z a0 hw [] a498 b [c0, c1, c2] u2 n0 Z2a z kp1 (by simp) Ex2 Fv2 Fc2 hx0 V3 O2a O2 P5 (own_nlat hck)) (lenOf pd4 rfl) rfl (by show 2 * 0 + _ ≤ _; exact Nat.le_of_eq rfl) (hb hby d2_83) (by decide) (by decide) f2 (by decide) (by decide)
    obtain ⟨rfl, N508, K508, t, ht, SS⟩ := hQ508
    have S509 : own_Go p e below s₁ G T508 (mkF m 86 #[.val (.int (3 : Int32)), .val (.int c0), .val (.int c1), .val (.int c2), .val (.int c3), .val (.int c4), .val (.int c5), .val (.int c6), .val (.int c7)] [(.ref a498)]) := fun tg_ kk_ => S507 tg_ (st508 tg_ kk_)
    have NC := Fr.app NB2 N508
    obtain ⟨fs, hr, hrun, hended, hW, hsame⟩ := X508.leave (v := some (.ref a498)) (fun h => by rw [Bd.returns] at h; cases h)
    refine ⟨_, _, ?_, hrun, hended, _, _, rfl, ?_, ReturnedEndW.of_narrow ⟨_, rfl⟩ hW (hsame.mono (by decide) (by decide))⟩
    · rw [← hG]; exact S509 _ (retOut X508 hx Bd.returns (by first | rfl | cases (.ref a498) <;> rfl) (Or.inr (Or.inr (Or.inr (Or.inr ⟨rfl, rfl, rfl⟩)))) (hb hby d2_86) hr)
    · show Q2 Z 3 c0 c1 c2 c3 c4 c5 c6 c7 h0 n0 _ T508.heap _
      rw [e508]
      exact ⟨a498, t, rfl, NC, O2a.keep K508 (allS hx0 all0), Nat.le_trans Z2a K508.1, SS⟩
  · have _ := N0
    have S510 : own_Go p e below s₁ G s₁ (mkF m 92 #[.val (.int (4 : Int32)), .val (.int c0), .val (.int c1), .val (.int c2), .val (.int c3), .val (.int c4), .val (.int c5), .val (.int c6), .val (.int c7)] []) := fun tg_ kk_ => S0 tg_ (by
      refine XS.iloadN X0.here hx rfl (hb hby d2_0) rfl ?_
      show Steps p.tables e below (s₁.setTop (mkF m 1 #[.val (.int (4 : Int32)), .val (.int c0), .val (.int c1), .val (.int c2), .val (.int c3), .val (.int c4), .val (.int c5), .val (.int c6), .val (.int c7)] [(.int (4 : Int32))])) _
      refine XS.ifYes X0.here hx rfl (pc0 := 1) (pc' := 15) rfl (hb hby d2_1) rfl (XT.i0_ne_t (by decide)) (by decide) (by decide) ?_
      show Steps p.tables e below (s₁.setTop (mkF m 15 #[.val (.int (4 : Int32)), .val (.int c0), .val (.int c1), .val (.int c2), .val (.int c3), .val (.int c4), .val (.int c5), .val (.int c6), .val (.int c7)] [])) _
      refine XS.iloadN X0.here hx rfl (hb hby d2_15) rfl ?_
      show Steps p.tables e below (s₁.setTop (mkF m 16 #[.val (.int (4 : Int32)), .val (.int c0), .val (.int c1), .val (.int c2), .val (.int c3), .val (.int c4), .val (.int c5), .val (.int c6), .val (.int c7)] [(.int (4 : Int32))])) _
      refine XS.iconst X0.here hx rfl (hb hby d2_16) ?_
      show Steps p.tables e below (s₁.setTop (mkF m 17 #[.val (.int (4 : Int32)), .val (.int c0), .val (.int c1), .val (.int c2), .val (.int c3), .val (.int c4), .val (.int c5), .val (.int c6), .val (.int c7)] [(.int (1 : Int32)), (.int (4 : Int32))])) _
      refine XS.icmpYes X0.here hx rfl (pc0 := 17) (pc' := 35) rfl (hb hby d2_17) rfl (XT.ii_ne_t (by decide)) (by decide) (by decide) ?_
      show Steps p.tables e below (s₁.setTop (mkF m 35 #[.val (.int (4 : Int32)), .val (.int c0), .val (.int c1), .val (.int c2), .val (.int c3), .val (.int c4), .val (.int c5), .val (.int c6), .val (.int c7)] [])) _
      refine XS.iloadN X0.here hx rfl (hb hby d2_35) rfl ?_
      show Steps p.tables e below (s₁.setTop (mkF m 36 #[.val (.int (4 : Int32)), .val (.int c0), .val (.int c1), .val (.int c2), .val (.int c3), .val (.int c4), .val (.int c5), .val (.int c6), .val (.int c7)] [(.int (4 : Int32))])) _
      refine XS.iconst X0.here hx rfl (hb hby d2_36) ?_
      show Steps p.tables e below (s₁.setTop (mkF m 37 #[.val (.int (4 : Int32)), .val (.int c0), .val (.int c1), .val (.int c2), .val (.int c3), .val (.int c4), .val (.int c5), .val (.int c6), .val (.int c7)] [(.int (2 : Int32)), (.int (4 : Int32))])) _
      refine XS.icmpYes X0.here hx rfl (pc0 := 37) (pc' := 59) rfl (hb hby d2_37) rfl (XT.ii_ne_t (by decide)) (by decide) (by decide) ?_
      show Steps p.tables e below (s₁.setTop (mkF m 59 #[.val (.int (4 : Int32)), .val (.int c0), .val (.int c1), .val (.int c2), .val (.int c3), .val (.int c4), .val (.int c5), .val (.int c6), .val (.int c7)] [])) _
      refine XS.iloadN X0.here hx rfl (hb hby d2_59) rfl ?_
      show Steps p.tables e below (s₁.setTop (mkF m 60 #[.val (.int (4 : Int32)), .val (.int c0), .val (.int c1), .val (.int c2), .val (.int c3), .val (.int c4), .val (.int c5), .val (.int c6), .val (.int c7)] [(.int (4 : Int32))])) _
      refine XS.iconst X0.here hx rfl (hb hby d2_60) ?_
      show Steps p.tables e below (s₁.setTop (mkF m 61 #[.val (.int (4 : Int32)), .val (.int c0), .val (.int c1), .val (.int c2), .val (.int c3), .val (.int c4), .val (.int c5), .val (.int c6), .val (.int c7)] [(.int (3 : Int32)), (.int (4 : Int32))])) _
      refine XS.icmpYes X0.here hx rfl (pc0 := 61) (pc' := 87) rfl (hb hby d2_61) rfl (XT.ii_ne_t (by decide)) (by decide) (by decide) ?_
      show Steps p.tables e below (s₁.setTop (mkF m 87 #[.val (.int (4 : Int32)), .val (.int c0), .val (.int c1), .val (.int c2), .val (.int c3), .val (.int c4), .val (.int c5), .val (.int c6), .val (.int c7)] [])) _
      refine XS.iloadN X0.here hx rfl (hb hby d2_87) rfl ?_
      show Steps p.tables e below (s₁.setTop (mkF m 88 #[.val (.int (4 : Int32)), .val (.int c0), .val (.int c1), .val (.int c2), .val (.int c3), .val (.int c4), .val (.int c5), .val (.int c6), .val (.int c7)] [(.int (4 : Int32))])) _
      refine XS.iconst X0.here hx rfl (hb hby d2_88) ?_
      show Steps p.tables e below (s₁.setTop (mkF m 89 #[.val (.int (4 : Int32)), .val (.int c0), .val (.int c1), .val (.int c2), .val (.int c3), .val (.int c4), .val (.int c5), .val (.int c6), .val (.int c7)] [(.int (4 : Int32)), (.int (4 : Int32))])) _
      refine XS.icmpNo X0.here hx rfl (hb hby d2_89) rfl (XT.ii_ne_f (by decide)) ?_
      exact kk_)
    obtain ⟨T511, h511, X511, e511, E511, A511, D511, -, st511⟩ := newO X0 hx hZ hown (hw _ (List.mem_of_getElem? (i := 9) rfl)) (hw _ (List.mem_of_getElem? (i := 10) rfl)) (hw _ (List.mem_of_getElem? (i := 11) rfl)) e0 (g := (mkF m 92 #[.val (.int (4 : Int32)), .val (.int c0), .val (.int c1), .val (.int c2), .val (.int c3), .val (.int c4), .val (.int c5), .val (.int c6), .val (.int c7)] [])) rfl (hb hby d2_92) (by decide) (by decide)
    obtain ⟨a511, g511⟩ : ∃ z, z = h0.size := ⟨_, rfl⟩
    rw [← g511] at A511 D511 st511
    have S512 : own_Go p e below s₁ G T511 (mkF m 95 #[.val (.int (4 : Int32)), .val (.int c0), .val (.int c1), .val (.int c2), .val (.int c3), .val (.int c4), .val (.int c5), .val (.int c6), .val (.int c7)] [(.ref a511)]) := fun tg_ kk_ => S510 tg_ (st511 tg_ kk_)
    have Fv : Fld Z h511 a511 "java/lang/String" "value" "[B" .null := D511 (Or.inr (hw _ (List.mem_of_getElem? (i := 38) rfl))) (ty := .array .byte) (by decide)
    have Fc : Fld Z h511 a511 "java/lang/String" "coder" "B" (.int 0) := D511 (Or.inr (hw _ (List.mem_of_getElem? (i := 36) rfl))) (ty := .byte) (by decide)
    have hx0 : n0 ≤ a511 := Nat.le_trans Z0 (Nat.le_of_eq g511.symm)
    have Oa := O.ext E511
    have Za := own_sub Z0 E511
    have S513 : own_Go p e below s₁ G T511 (mkF m 97 #[.val (.int (4 : Int32)), .val (.int c0), .val (.int c1), .val (.int c2), .val (.int c3), .val (.int c4), .val (.int c5), .val (.int c6), .val (.int c7)] [(.int (4 : Int32)), (.ref a511), (.ref a511)]) := fun tg_ kk_ => S512 tg_ (by
      refine XS.dup X511.here hx rfl (hb hby d2_95) rfl rfl ?_
      show Steps p.tables e below (T511.setTop (mkF m 96 #[.val (.int (4 : Int32)), .val (.int c0), .val (.int c1), .val (.int c2), .val (.int c3), .val (.int c4), .val (.int c5), .val (.int c6), .val (.int c7)] [(.ref a511), (.ref a511)])) _
      refine XS.iconst X511.here hx rfl (hb hby d2_96) ?_
      exact kk_)
    obtain ⟨Tp1, hp1, kp1, Xp1, ep1, Ep1, Ap1, stp1⟩ := newP X511 hx hZ (hw _ (List.mem_of_getElem? (i := 12) rfl)) e511 (g := (mkF m 97 #[.val (.int (4 : Int32)), .val (.int c0), .val (.int c1), .val (.int c2), .val (.int c3), .val (.int c4), .val (.int c5), .val (.int c6), .val (.int c7)] [(.int (4 : Int32)), (.ref a511), (.ref a511)])) rfl (hb hby d2_97) rfl (by decide) (cap := 8) (by decide) (by decide) (by decide) (by decide)
    have S514 : own_Go p e below s₁ G Tp1 (mkF m 99 #[.val (.int (4 : Int32)), .val (.int c0), .val (.int c1), .val (.int c2), .val (.int c3), .val (.int c4), .val (.int c5), .val (.int c6), .val (.int c7)] [(.ref h511.size), (.ref a511), (.ref a511)]) := fun tg_ kk_ => S513 tg_ (stp1 tg_ kk_)
    obtain ⟨b, gb⟩ : ∃ z, z = h511.size := ⟨_, rfl⟩
    rw [← gb] at S514
    rw [← gb] at Ap1
    have hb0 : n0 ≤ b := Nat.le_trans Za (Nat.le_of_eq gb.symm)
    have V0 : Arv Z hp1 b kp1 .char (4 : Int32) [] (.int 0) := Arv.new Ap1 (by decide)
    have Oq := Oa.ext Ep1
    have Zq := own_sub Za Ep1
    have Exq := A511.ext Ep1
    have Fvq := Fv.ext Ep1
    have Fcq := Fc.ext Ep1
    have hbx : b ≠ a511 := Nat.ne_of_gt (Nat.lt_of_lt_of_le A511.lt (Nat.le_of_eq gb.symm))
    have S515 : own_Go p e below s₁ G Tp1 (mkF m 102 #[.val (.int (4 : Int32)), .val (.int c0), .val (.int c1), .val (.int c2), .val (.int c3), .val (.int c4), .val (.int c5), .val (.int c6), .val (.int c7)] [(.int c0), (.int (0 : Int32)), (.ref b), (.ref b), (.ref a511), (.ref a511)]) := fun tg_ kk_ => S514 tg_ (by
      refine XS.dup Xp1.here hx rfl (hb hby d2_99) rfl rfl ?_
      show Steps p.tables e below (Tp1.setTop (mkF m 100 #[.val (.int (4 : Int32)), .val (.int c0), .val (.int c1), .val (.int c2), .val (.int c3), .val (.int c4), .val (.int c5), .val (.int c6), .val (.int c7)] [(.ref b), (.ref b), (.ref a511), (.ref a511)])) _
      refine XS.iconst Xp1.here hx rfl (hb hby d2_100) ?_
      show Steps p.tables e below (Tp1.setTop (mkF m 101 #[.val (.int (4 : Int32)), .val (.int c0), .val (.int c1), .val (.int c2), .val (.int c3), .val (.int c4), .val (.int c5), .val (.int c6), .val (.int c7)] [(.int (0 : Int32)), (.ref b), (.ref b), (.ref a511), (.ref a511)])) _
      refine XS.iloadN Xp1.here hx rfl (hb hby d2_101) rfl ?_
      exact kk_)
    obtain ⟨cl0, B0, b0, z0, y0, H0, F0⟩ := id V0
    obtain ⟨U0, u0, Y0, f0, W0, su0⟩ := stC Xp1 hx hZ ep1 B0 (j := (0 : Int32)) (inb_of z0 (by decide)) (g := (mkF m 102 #[.val (.int (4 : Int32)), .val (.int c0), .val (.int c1), .val (.int c2), .val (.int c3), .val (.int c4), .val (.int c5), .val (.int c6), .val (.int c7)] [(.int c0), (.int (0 : Int32)), (.ref b), (.ref b), (.ref a511), (.ref a511)])) rfl rfl (hb hby d2_102)
    have S516 : own_Go p e below s₁ G U0 (mkF m 103 #[.val (.int (4 : Int32)), .val (.int c0), .val (.int c1), .val (.int c2), .val (.int c3), .val (.int c4), .val (.int c5), .val (.int c6), .val (.int c7)] [(.ref b), (.ref a511), (.ref a511)]) := fun tg_ kk_ => S515 tg_ (su0 tg_ kk_)
    have hB0 : own_B c0 := hc c0 (by simp)
    rw [own_nar_char hB0.ch] at W0
    have V1 : Arv Z u0 b kp1 .char (4 : Int32) [.int c0] (.int 0) := own_push V0 (own_fit_ch hB0.ch) W0 rfl
    have NB0 := Fr.snoc Y0 N0 hb0
    have O0a := Oq.wr W0 hb0
    have Z0a : n0 ≤ u0.size := by rw [W0.size]; exact Zq
    have Ex0 := Exq.wr W0
    have Fv0 := Fvq.other W0 (Or.inl hbx.symm)
    have Fc0 := Fcq.other W0 (Or.inl hbx.symm)
    have S517 : own_Go p e below s₁ G U0 (mkF m 106 #[.val (.int (4 : Int32)), .val (.int c0), .val (.int c1), .val (.int c2), .val (.int c3), .val (.int c4), .val (.int c5), .val (.int c6), .val (.int c7)] [(.int c1), (.int (1 : Int32)), (.ref b), (.ref b), (.ref a511), (.ref a511)]) := fun tg_ kk_ => S516 tg_ (by
      refine XS.dup Y0.here hx rfl (hb hby d2_103) rfl rfl ?_
      show Steps p.tables e below (U0.setTop (mkF m 104 #[.val (.int (4 : Int32)), .val (.int c0), .val (.int c1), .val (.int c2), .val (.int c3), .val (.int c4), .val (.int c5), .val (.int c6), .val (.int c7)] [(.ref b), (.ref b), (.ref a511), (.ref a511)])) _
      refine XS.iconst Y0.here hx rfl (hb hby d2_104) ?_
      show Steps p.tables e below (U0.setTop (mkF m 105 #[.val (.int (4 : Int32)), .val (.int c0), .val (.int c1), .val (.int c2), .val (.int c3), .val (.int c4), .val (.int c5), .val (.int c6), .val (.int c7)] [(.int (1 : Int32)), (.ref b), (.ref b), (.ref a511), (.ref a511)])) _
      refine XS.iloadN Y0.here hx rfl (hb hby d2_105) rfl ?_
      exact kk_)
    obtain ⟨cl1, B1, b1, z1, y1, H1, F1⟩ := id V1
    obtain ⟨U1, u1, Y1, f1, W1, su1⟩ := stC Y0 hx hZ f0 B1 (j := (1 : Int32)) (inb_of z1 (by decide)) (g := (mkF m 106 #[.val (.int (4 : Int32)), .val (.int c0), .val (.int c1), .val (.int c2), .val (.int c3), .val (.int c4), .val (.int c5), .val (.int c6), .val (.int c7)] [(.int c1), (.int (1 : Int32)), (.ref b), (.ref b), (.ref a511), (.ref a511)])) rfl rfl (hb hby d2_106)
    have S518 : own_Go p e below s₁ G U1 (mkF m 107 #[.val (.int (4 : Int32)), .val (.int c0), .val (.int c1), .val (.int c2), .val (.int c3), .val (.int c4), .val (.int c5), .val (.int c6), .val (.int c7)] [(.ref b), (.ref a511), (.ref a511)]) := fun tg_ kk_ => S517 tg_ (su1 tg_ kk_)
    have hB1 : own_B c1 := hc c1 (by simp)
    rw [own_nar_char hB1.ch] at W1
    have V2 : Arv Z u1 b kp1 .char (4 : Int32) [.int c0, .int c1] (.int 0) := own_push V1 (own_fit_ch hB1.ch) W1 rfl
    have NB1 := Fr.snoc Y1 NB0 hb0
    have O1a := O0a.wr W1 hb0
    have Z1a : n0 ≤ u1.size := by rw [W1.size]; exact Z0a
    have Ex1 := Ex0.wr W1
    have Fv1 := Fv0.other W1 (Or.inl hbx.symm)
    have Fc1 := Fc0.other W1 (Or.inl hbx.symm)
    have S519 : own_Go p e below s₁ G U1 (mkF m 110 #[.val (.int (4 : Int32)), .val (.int c0), .val (.int c1), .val (.int c2), .val (.int c3), .val (.int c4), .val (.int c5), .val (.int c6), .val (.int c7)] [(.int c2), (.int (2 : Int32)), (.ref b), (.ref b), (.ref a511), (.ref a511)]) := fun tg_ kk_ => S518 tg_ (by
      refine XS.dup Y1.here hx rfl (hb hby d2_107) rfl rfl ?_
      show Steps p.tables e below (U1.setTop (mkF m 108 #[.val (.int (4 : Int32)), .val (.int c0), .val (.int c1), .val (.int c2), .val (.int c3), .val (.int c4), .val (.int c5), .val (.int c6), .val (.int c7)] [(.ref b), (.ref b), (.ref a511), (.ref a511)])) _
      refine XS.iconst Y1.here hx rfl (hb hby d2_108) ?_
      show Steps p.tables e below (U1.setTop (mkF m 109 #[.val (.int (4 : Int32)), .val (.int c0), .val (.int c1), .val (.int c2), .val (.int c3), .val (.int c4), .val (.int c5), .val (.int c6), .val (.int c7)] [(.int (2 : Int32)), (.ref b), (.ref b), (.ref a511), (.ref a511)])) _
      refine XS.iloadN Y1.here hx rfl (hb hby d2_109) rfl ?_
      exact kk_)
    obtain ⟨cl2, B2, b2, z2, y2, H2, F2⟩ := id V2
    obtain ⟨U2, u2, Y2, f2, W2, su2⟩ := stC Y1 hx hZ f1 B2 (j := (2 : Int32)) (inb_of z2 (by decide)) (g := (mkF m 110 #[.val (.int (4 : Int32)), .val (.int c0), .val (.int c1), .val (.int c2), .val (.int c3), .val (.int c4), .val (.int c5), .val (.int c6), .val (.int c7)] [(.int c2), (.int (2 : Int32)), (.ref b), (.ref b), (.ref a511), (.ref a511)])) rfl rfl (hb hby d2_110)
    have S520 : own_Go p e below s₁ G U2 (mkF m 111 #[.val (.int (4 : Int32)), .val (.int c0), .val (.int c1), .val (.int c2), .val (.int c3), .val (.int c4), .val (.int c5), .val (.int c6), .val (.int c7)] [(.ref b), (.ref a511), (.ref a511)]) := fun tg_ kk_ => S519 tg_ (su2 tg_ kk_)
    have hB2 : own_B c2 := hc c2 (by simp)
    rw [own_nar_char hB2.ch] at W2
    have V3 : Arv Z u2 b kp1 .char (4 : Int32) [.int c0, .int c1, .int c2] (.int 0) := own_push V2 (own_fit_ch hB2.ch) W2 rfl
    have NB2 := Fr.snoc Y2 NB1 hb0
    have O2a := O1a.wr W2 hb0
    have Z2a : n0 ≤ u2.size := by rw [W2.size]; exact Z1a
    have Ex2 := Ex1.wr W2
    have Fv2 := Fv1.other W2 (Or.inl hbx.symm)
    have Fc2 := Fc1.other W2 (Or.inl hbx.symm)
    have S521 : own_Go p e below s₁ G U2 (mkF m 115 #[.val (.int (4 : Int32)), .val (.int c0), .val (.int c1), .val (.int c2), .val (.int c3), .val (.int c4), .val (.int c5), .val (.int c6), .val (.int c7)] [(.int c3), (.int (3 : Int32)), (.ref b), (.ref b), (.ref a511), (.ref a511)]) := fun tg_ kk_ => S520 tg_ (by
      refine XS.dup Y2.here hx rfl (hb hby d2_111) rfl rfl ?_
      show Steps p.tables e below (U2.setTop (mkF m 112 #[.val (.int (4 : Int32)), .val (.int c0), .val (.int c1), .val (.int c2), .val (.int c3), .val (.int c4), .val (.int c5), .val (.int c6), .val (.int c7)] [(.ref b), (.ref b), (.ref a511), (.ref a511)])) _
      refine XS.iconst Y2.here hx rfl (hb hby d2_112) ?_
      show Steps p.tables e below (U2.setTop (mkF m 113 #[.val (.int (4 : Int32)), .val (.int c0), .val (.int c1), .val (.int c2), .val (.int c3), .val (.int c4), .val (.int c5), .val (.int c6), .val (.int c7)] [(.int (3 : Int32)), (.ref b), (.ref b), (.ref a511), (.ref a511)])) _
      refine XS.iload Y2.here hx rfl (hb hby d2_113) rfl ?_
      exact kk_)
    obtain ⟨cl3, B3, b3, z3, y3, H3, F3⟩ := id V3
    obtain ⟨U3, u3, Y3, f3, W3, su3⟩ := stC Y2 hx hZ f2 B3 (j := (3 : Int32)) (inb_of z3 (by decide)) (g := (mkF m 115 #[.val (.int (4 : Int32)), .val (.int c0), .val (.int c1), .val (.int c2), .val (.int c3), .val (.int c4), .val (.int c5), .val (.int c6), .val (.int c7)] [(.int c3), (.int (3 : Int32)), (.ref b), (.ref b), (.ref a511), (.ref a511)])) rfl rfl (hb hby d2_115)
    have S522 : own_Go p e below s₁ G U3 (mkF m 116 #[.val (.int (4 : Int32)), .val (.int c0), .val (.int c1), .val (.int c2), .val (.int c3), .val (.int c4), .val (.int c5), .val (.int c6), .val (.int c7)] [(.ref b), (.ref a511), (.ref a511)]) := fun tg_ kk_ => S521 tg_ (su3 tg_ kk_)
    have hB3 : own_B c3 := hc c3 (by simp)
    rw [own_nar_char hB3.ch] at W3
    have V4 : Arv Z u3 b kp1 .char (4 : Int32) [.int c0, .int c1, .int c2, .int c3] (.int 0) := own_push V3 (own_fit_ch hB3.ch) W3 rfl
    have NB3 := Fr.snoc Y3 NB2 hb0
    have O3a := O2a.wr W3 hb0
    have Z3a : n0 ≤ u3.size := by rw [W3.size]; exact Z2a
    have Ex3 := Ex2.wr W3
    have Fv3 := Fv2.other W3 (Or.inl hbx.symm)
    have Fc3 := Fc2.other W3 (Or.inl hbx.symm)
    have hck : ∀ c ∈ [c0, c1, c2, c3], own_B c := fun c hq => hc c (List.mem_of_mem_take (i := 4) hq)
    obtain ⟨_, T523, h523, L523, X523, e523, hQ523, st523⟩ := own_callI Y3 hx hZ (y := (⟨"java/lang/String", "<init>", "([C)V"⟩ : MethodName)) rfl hown (hw _ (List.mem_of_getElem? (i := 13) rfl)) (hw _ (List.mem_of_getElem? (i := 14) rfl)) (hw _ (List.mem_of_getElem? (i := 11) rfl)) (hw _ (List.mem_of_getElem? (i := 15) rfl)) (by decide) 1 (g := (mkF m 116 #[.val (.int (4 : Int32)), .val (.int c0), .val (.int c1), .val (.int c2), .val (.int c3), .val (.int c4), .val (.int c5), .val (.int c6), .val (.int c7)] [(.ref b), (.ref a511), (.ref a511)])) rfl (by rw [hml]; rfl) a511 [(.ref b)] [(.ref a511)] (rm3 l Z a0 hw [] a511 b [c0, c1, c2, c3] u3 n0 Z3a z kp1 (by simp) Ex3 Fv3 Fc3 hx0 V4 O3a O2 P5 (own_nlat hck)) (lenOf pd4 rfl) rfl (by show 2 * 0 + _ ≤ _; exact Nat.le_of_eq rfl) (hb hby d2_116) (by decide) (by decide) f3 (by decide) (by decide)
    obtain ⟨rfl, N523, K523, t, ht, SS⟩ := hQ523
    have S524 : own_Go p e below s₁ G T523 (mkF m 119 #[.val (.int (4 : Int32)), .val (.int c0), .val (.int c1), .val (.int c2), .val (.int c3), .val (.int c4), .val (.int c5), .val (.int c6), .val (.int c7)] [(.ref a511)]) := fun tg_ kk_ => S522 tg_ (st523 tg_ kk_)
    have NC := Fr.app NB3 N523
    obtain ⟨fs, hr, hrun, hended, hW, hsame⟩ := X523.leave (v := some (.ref a511)) (fun h => by rw [Bd.returns] at h; cases h)
    refine ⟨_, _, ?_, hrun, hended, _, _, rfl, ?_, ReturnedEndW.of_narrow ⟨_, rfl⟩ hW (hsame.mono (by decide) (by decide))⟩
    · rw [← hG]; exact S524 _ (retOut X523 hx Bd.returns (by first | rfl | cases (.ref a511) <;> rfl) (Or.inr (Or.inr (Or.inr (Or.inr ⟨rfl, rfl, rfl⟩)))) (hb hby d2_119) hr)
    · show Q2 Z 4 c0 c1 c2 c3 c4 c5 c6 c7 h0 n0 _ T523.heap _
      rw [e523]
      exact ⟨a511, t, rfl, NC, O3a.keep K523 (allS hx0 all0), Nat.le_trans Z3a K523.1, SS⟩
  · have _ := N0
    have S525 : own_Go p e below s₁ G s₁ (mkF m 125 #[.val (.int (5 : Int32)), .val (.int c0), .val (.int c1), .val (.int c2), .val (.int c3), .val (.int c4), .val (.int c5), .val (.int c6), .val (.int c7)] []) := fun tg_ kk_ => S0 tg_ (by
      refine XS.iloadN X0.here hx rfl (hb hby d2_0) rfl ?_
      show Steps p.tables e below (s₁.setTop (mkF m 1 #[.val (.int (5 : Int32)), .val (.int c0), .val (.int c1), .val (.int c2), .val (.int c3), .val (.int c4), .val (.int c5), .val (.int c6), .val (.int c7)] [(.int (5 : Int32))])) _
      refine XS.ifYes X0.here hx rfl (pc0 := 1) (pc' := 15) rfl (hb hby d2_1) rfl (XT.i0_ne_t (by decide)) (by decide) (by decide) ?_
      show Steps p.tables e below (s₁.setTop (mkF m 15 #[.val (.int (5 : Int32)), .val (.int c0), .val (.int c1), .val (.int c2), .val (.int c3), .val (.int c4), .val (.int c5), .val (.int c6), .val (.int c7)] [])) _
      refine XS.iloadN X0.here hx rfl (hb hby d2_15) rfl ?_
      show Steps p.tables e below (s₁.setTop (mkF m 16 #[.val (.int (5 : Int32)), .val (.int c0), .val (.int c1), .val (.int c2), .val (.int c3), .val (.int c4), .val (.int c5), .val (.int c6), .val (.int c7)] [(.int (5 : Int32))])) _
      refine XS.iconst X0.here hx rfl (hb hby d2_16) ?_
      show Steps p.tables e below (s₁.setTop (mkF m 17 #[.val (.int (5 : Int32)), .val (.int c0), .val (.int c1), .val (.int c2), .val (.int c3), .val (.int c4), .val (.int c5), .val (.int c6), .val (.int c7)] [(.int (1 : Int32)), (.int (5 : Int32))])) _
      refine XS.icmpYes X0.here hx rfl (pc0 := 17) (pc' := 35) rfl (hb hby d2_17) rfl (XT.ii_ne_t (by decide)) (by decide) (by decide) ?_
      show Steps p.tables e below (s₁.setTop (mkF m 35 #[.val (.int (5 : Int32)), .val (.int c0), .val (.int c1), .val (.int c2), .val (.int c3), .val (.int c4), .val (.int c5), .val (.int c6), .val (.int c7)] [])) _
      refine XS.iloadN X0.here hx rfl (hb hby d2_35) rfl ?_
      show Steps p.tables e below (s₁.setTop (mkF m 36 #[.val (.int (5 : Int32)), .val (.int c0), .val (.int c1), .val (.int c2), .val (.int c3), .val (.int c4), .val (.int c5), .val (.int c6), .val (.int c7)] [(.int (5 : Int32))])) _
      refine XS.iconst X0.here hx rfl (hb hby d2_36) ?_
      show Steps p.tables e below (s₁.setTop (mkF m 37 #[.val (.int (5 : Int32)), .val (.int c0), .val (.int c1), .val (.int c2), .val (.int c3), .val (.int c4), .val (.int c5), .val (.int c6), .val (.int c7)] [(.int (2 : Int32)), (.int (5 : Int32))])) _
      refine XS.icmpYes X0.here hx rfl (pc0 := 37) (pc' := 59) rfl (hb hby d2_37) rfl (XT.ii_ne_t (by decide)) (by decide) (by decide) ?_
      show Steps p.tables e below (s₁.setTop (mkF m 59 #[.val (.int (5 : Int32)), .val (.int c0), .val (.int c1), .val (.int c2), .val (.int c3), .val (.int c4), .val (.int c5), .val (.int c6), .val (.int c7)] [])) _
      refine XS.iloadN X0.here hx rfl (hb hby d2_59) rfl ?_
      show Steps p.tables e below (s₁.setTop (mkF m 60 #[.val (.int (5 : Int32)), .val (.int c0), .val (.int c1), .val (.int c2), .val (.int c3), .val (.int c4), .val (.int c5), .val (.int c6), .val (.int c7)] [(.int (5 : Int32))])) _
      refine XS.iconst X0.here hx rfl (hb hby d2_60) ?_
      show Steps p.tables e below (s₁.setTop (mkF m 61 #[.val (.int (5 : Int32)), .val (.int c0), .val (.int c1), .val (.int c2), .val (.int c3), .val (.int c4), .val (.int c5), .val (.int c6), .val (.int c7)] [(.int (3 : Int32)), (.int (5 : Int32))])) _
      refine XS.icmpYes X0.here hx rfl (pc0 := 61) (pc' := 87) rfl (hb hby d2_61) rfl (XT.ii_ne_t (by decide)) (by decide) (by decide) ?_
      show Steps p.tables e below (s₁.setTop (mkF m 87 #[.val (.int (5 : Int32)), .val (.int c0), .val (.int c1), .val (.int c2), .val (.int c3), .val (.int c4), .val (.int c5), .val (.int c6), .val (.int c7)] [])) _
      refine XS.iloadN X0.here hx rfl (hb hby d2_87) rfl ?_
      show Steps p.tables e below (s₁.setTop (mkF m 88 #[.val (.int (5 : Int32)), .val (.int c0), .val (.int c1), .val (.int c2), .val (.int c3), .val (.int c4), .val (.int c5), .val (.int c6), .val (.int c7)] [(.int (5 : Int32))])) _
      refine XS.iconst X0.here hx rfl (hb hby d2_88) ?_
      show Steps p.tables e below (s₁.setTop (mkF m 89 #[.val (.int (5 : Int32)), .val (.int c0), .val (.int c1), .val (.int c2), .val (.int c3), .val (.int c4), .val (.int c5), .val (.int c6), .val (.int c7)] [(.int (4 : Int32)), (.int (5 : Int32))])) _
      refine XS.icmpYes X0.here hx rfl (pc0 := 89) (pc' := 120) rfl (hb hby d2_89) rfl (XT.ii_ne_t (by decide)) (by decide) (by decide) ?_
      show Steps p.tables e below (s₁.setTop (mkF m 120 #[.val (.int (5 : Int32)), .val (.int c0), .val (.int c1), .val (.int c2), .val (.int c3), .val (.int c4), .val (.int c5), .val (.int c6), .val (.int c7)] [])) _
      refine XS.iloadN X0.here hx rfl (hb hby d2_120) rfl ?_
      show Steps p.tables e below (s₁.setTop (mkF m 121 #[.val (.int (5 : Int32)), .val (.int c0), .val (.int c1), .val (.int c2), .val (.int c3), .val (.int c4), .val (.int c5), .val (.int c6), .val (.int c7)] [(.int (5 : Int32))])) _
      refine XS.iconst X0.here hx rfl (hb hby d2_121) ?_
      show Steps p.tables e below (s₁.setTop (mkF m 122 #[.val (.int (5 : Int32)), .val (.int c0), .val (.int c1), .val (.int c2), .val (.int c3), .val (.int c4), .val (.int c5), .val (.int c6), .val (.int c7)] [(.int (5 : Int32)), (.int (5 : Int32))])) _
      refine XS.icmpNo X0.here hx rfl (hb hby d2_122) rfl (XT.ii_ne_f (by decide)) ?_
      exact kk_)
    obtain ⟨T526, h526, X526, e526, E526, A526, D526, -, st526⟩ := newO X0 hx hZ hown (hw _ (List.mem_of_getElem? (i := 9) rfl)) (hw _ (List.mem_of_getElem? (i := 10) rfl)) (hw _ (List.mem_of_getElem? (i := 11) rfl)) e0 (g := (mkF m 125 #[.val (.int (5 : Int32)), .val (.int c0), .val (.int c1), .val (.int c2), .val (.int c3), .val (.int c4), .val (.int c5), .val (.int c6), .val (.int c7)] [])) rfl (hb hby d2_125) (by decide) (by decide)
    obtain ⟨a526, g526⟩ : ∃ z, z = h0.size := ⟨_, rfl⟩
    rw [← g526] at A526 D526 st526
    have S527 : own_Go p e below s₁ G T526 (mkF m 128 #[.val (.int (5 : Int32)), .val (.int c0), .val (.int c1), .val (.int c2), .val (.int c3), .val (.int c4), .val (.int c5), .val (.int c6), .val (.int c7)] [(.ref a526)]) := fun tg_ kk_ => S525 tg_ (st526 tg_ kk_)
    have Fv : Fld Z h526 a526 "java/lang/String" "value" "[B" .null := D526 (Or.inr (hw _ (List.mem_of_getElem? (i := 38) rfl))) (ty := .array .byte) (by decide)
    have Fc : Fld Z h526 a526 "java/lang/String" "coder" "B" (.int 0) := D526 (Or.inr (hw _ (List.mem_of_getElem? (i := 36) rfl))) (ty := .byte) (by decide)
    have hx0 : n0 ≤ a526 := Nat.le_trans Z0 (Nat.le_of_eq g526.symm)
    have Oa := O.ext E526
    have Za := own_sub Z0 E526
    have S528 : own_Go p e below s₁ G T526 (mkF m 130 #[.val (.int (5 : Int32)), .val (.int c0), .val (.int c1), .val (.int c2), .val (.int c3), .val (.int c4), .val (.int c5), .val (.int c6), .val (.int c7)] [(.int (5 : Int32)), (.ref a526), (.ref a526)]) := fun tg_ kk_ => S527 tg_ (by
      refine XS.dup X526.here hx rfl (hb hby d2_128) rfl rfl ?_
      show Steps p.tables e below (T526.setTop (mkF m 129 #[.val (.int (5 : Int32)), .val (.int c0), .val (.int c1), .val (.int c2), .val (.int c3), .val (.int c4), .val (.int c5), .val (.int c6), .val (.int c7)] [(.ref a526), (.ref a526)])) _
      refine XS.iconst X526.here hx rfl (hb hby d2_129) ?_
      exact kk_)
    obtain ⟨Tp1, hp1, kp1, Xp1, ep1, Ep1, Ap1, stp1⟩ := newP X526 hx hZ (hw _ (List.mem_of_getElem? (i := 12) rfl)) e526 (g := (mkF m 130 #[.val (.int (5 : Int32)), .val (.int c0), .val (.int c1), .val (.int c2), .val (.int c3), .val (.int c4), .val (.int c5), .val (.int c6), .val (.int c7)] [(.int (5 : Int32)), (.ref a526), (.ref a526)])) rfl (hb hby d2_130) rfl (by decide) (cap := 8) (by decide) (by decide) (by decide) (by decide)
    have S529 : own_Go p e below s₁ G Tp1 (mkF m 132 #[.val (.int (5 : Int32)), .val (.int c0), .val (.int c1), .val (.int c2), .val (.int c3), .val (.int c4), .val (.int c5), .val (.int c6), .val (.int c7)] [(.ref h526.size), (.ref a526), (.ref a526)]) := fun tg_ kk_ => S528 tg_ (stp1 tg_ kk_)
    obtain ⟨b, gb⟩ : ∃ z, z = h526.size := ⟨_, rfl⟩
    rw [← gb] at S529
    rw [← gb] at Ap1
    have hb0 : n0 ≤ b := Nat.le_trans Za (Nat.le_of_eq gb.symm)
    have V0 : Arv Z hp1 b kp1 .char (5 : Int32) [] (.int 0) := Arv.new Ap1 (by decide)
    have Oq := Oa.ext Ep1
    have Zq := own_sub Za Ep1
    have Exq := A526.ext Ep1
    have Fvq := Fv.ext Ep1
    have Fcq := Fc.ext Ep1
    have hbx : b ≠ a526 := Nat.ne_of_gt (Nat.lt_of_lt_of_le A526.lt (Nat.le_of_eq gb.symm))
    have S530 : own_Go p e below s₁ G Tp1 (mkF m 135 #[.val (.int (5 : Int32)), .val (.int c0), .val (.int c1), .val (.int c2), .val (.int c3), .val (.int c4), .val (.int c5), .val (.int c6), .val (.int c7)] [(.int c0), (.int (0 : Int32)), (.ref b), (.ref b), (.ref a526), (.ref a526)]) := fun tg_ kk_ => S529 tg_ (by
      refine XS.dup Xp1.here hx rfl (hb hby d2_132) rfl rfl ?_
      show Steps p.tables e below (Tp1.setTop (mkF m 133 #[.val (.int (5 : Int32)), .val (.int c0), .val (.int c1), .val (.int c2), .val (.int c3), .val (.int c4), .val (.int c5), .val (.int c6), .val (.int c7)] [(.ref b), (.ref b), (.ref a526), (.ref a526)])) _
      refine XS.iconst Xp1.here hx rfl (hb hby d2_133) ?_
      show Steps p.tables e below (Tp1.setTop (mkF m 134 #[.val (.int (5 : Int32)), .val (.int c0), .val (.int c1), .val (.int c2), .val (.int c3), .val (.int c4), .val (.int c5), .val (.int c6), .val (.int c7)] [(.int (0 : Int32)), (.ref b), (.ref b), (.ref a526), (.ref a526)])) _
      refine XS.iloadN Xp1.here hx rfl (hb hby d2_134) rfl ?_
      exact kk_)
    obtain ⟨cl0, B0, b0, z0, y0, H0, F0⟩ := id V0
    obtain ⟨U0, u0, Y0, f0, W0, su0⟩ := stC Xp1 hx hZ ep1 B0 (j := (0 : Int32)) (inb_of z0 (by decide)) (g := (mkF m 135 #[.val (.int (5 : Int32)), .val (.int c0), .val (.int c1), .val (.int c2), .val (.int c3), .val (.int c4), .val (.int c5), .val (.int c6), .val (.int c7)] [(.int c0), (.int (0 : Int32)), (.ref b), (.ref b), (.ref a526), (.ref a526)])) rfl rfl (hb hby d2_135)
    have S531 : own_Go p e below s₁ G U0 (mkF m 136 #[.val (.int (5 : Int32)), .val (.int c0), .val (.int c1), .val (.int c2), .val (.int c3), .val (.int c4), .val (.int c5), .val (.int c6), .val (.int c7)] [(.ref b), (.ref a526), (.ref a526)]) := fun tg_ kk_ => S530 tg_ (su0 tg_ kk_)
    have hB0 : own_B c0 := hc c0 (by simp)
    rw [own_nar_char hB0.ch] at W0
    have V1 : Arv Z u0 b kp1 .char (5 : Int32) [.int c0] (.int 0) := own_push V0 (own_fit_ch hB0.ch) W0 rfl
    have NB0 := Fr.snoc Y0 N0 hb0
    have O0a := Oq.wr W0 hb0
    have Z0a : n0 ≤ u0.size := by rw [W0.size]; exact Zq
    have Ex0 := Exq.wr W0
    have Fv0 := Fvq.other W0 (Or.inl hbx.symm)
    have Fc0 := Fcq.other W0 (Or.inl hbx.symm)
    have S532 : own_Go p e below s₁ G U0 (mkF m 139 #[.val (.int (5 : Int32)), .val (.int c0), .val (.int c1), .val (.int c2), .val (.int c3), .val (.int c4), .val (.int c5), .val (.int c6), .val (.int c7)] [(.int c1), (.int (1 : Int32)), (.ref b), (.ref b), (.ref a526), (.ref a526)]) := fun tg_ kk_ => S531 tg_ (by
      refine XS.dup Y0.here hx rfl (hb hby d2_136) rfl rfl ?_
      show Steps p.tables e below (U0.setTop (mkF m 137 #[.val (.int (5 : Int32)), .val (.int c0), .val (.int c1), .val (.int c2), .val (.int c3), .val (.int c4), .val (.int c5), .val (.int c6), .val (.int c7)] [(.ref b), (.ref b), (.ref a526), (.ref a526)])) _
      refine XS.iconst Y0.here hx rfl (hb hby d2_137) ?_
      show Steps p.tables e below (U0.setTop (mkF m 138 #[.val (.int (5 : Int32)), .val (.int c0), .val (.int c1), .val (.int c2), .val (.int c3), .val (.int c4), .val (.int c5), .val (.int c6), .val (.int c7)] [(.int (1 : Int32)), (.ref b), (.ref b), (.ref a526), (.ref a526)])) _
      refine XS.iloadN Y0.here hx rfl (hb hby d2_138) rfl ?_
      exact kk_)
    obtain ⟨cl1, B1, b1, z1, y1, H1, F1⟩ := id V1
    obtain ⟨U1, u1, Y1, f1, W1, su1⟩ := stC Y0 hx hZ f0 B1 (j := (1 : Int32)) (inb_of z1 (by decide)) (g := (mkF m 139 #[.val (.int (5 : Int32)), .val (.int c0), .val (.int c1), .val (.int c2), .val (.int c3), .val (.int c4), .val (.int c5), .val (.int c6), .val (.int c7)] [(.int c1), (.int (1 : Int32)), (.ref b), (.ref b), (.ref a526), (.ref a526)])) rfl rfl (hb hby d2_139)
    have S533 : own_Go p e below s₁ G U1 (mkF m 140 #[.val (.int (5 : Int32)), .val (.int c0), .val (.int c1), .val (.int c2), .val (.int c3), .val (.int c4), .val (.int c5), .val (.int c6), .val (.int c7)] [(.ref b), (.ref a526), (.ref a526)]) := fun tg_ kk_ => S532 tg_ (su1 tg_ kk_)
    have hB1 : own_B c1 := hc c1 (by simp)
    rw [own_nar_char hB1.ch] at W1
    have V2 : Arv Z u1 b kp1 .char (5 : Int32) [.int c0, .int c1] (.int 0) := own_push V1 (own_fit_ch hB1.ch) W1 rfl
    have NB1 := Fr.snoc Y1 NB0 hb0
    have O1a := O0a.wr W1 hb0
    have Z1a : n0 ≤ u1.size := by rw [W1.size]; exact Z0a
    have Ex1 := Ex0.wr W1
    have Fv1 := Fv0.other W1 (Or.inl hbx.symm)
    have Fc1 := Fc0.other W1 (Or.inl hbx.symm)
    have S534 : own_Go p e below s₁ G U1 (mkF m 143 #[.val (.int (5 : Int32)), .val (.int c0), .val (.int c1), .val (.int c2), .val (.int c3), .val (.int c4), .val (.int c5), .val (.int c6), .val (.int c7)] [(.int c2), (.int (2 : Int32)), (.ref b), (.ref b), (.ref a526), (.ref a526)]) := fun tg_ kk_ => S533 tg_ (by
      refine XS.dup Y1.here hx rfl (hb hby d2_140) rfl rfl ?_
      show Steps p.tables e below (U1.setTop (mkF m 141 #[.val (.int (5 : Int32)), .val (.int c0), .val (.int c1), .val (.int c2), .val (.int c3), .val (.int c4), .val (.int c5), .val (.int c6), .val (.int c7)] [(.ref b), (.ref b), (.ref a526), (.ref a526)])) _
      refine XS.iconst Y1.here hx rfl (hb hby d2_141) ?_
      show Steps p.tables e below (U1.setTop (mkF m 142 #[.val (.int (5 : Int32)), .val (.int c0), .val (.int c1), .val (.int c2), .val (.int c3), .val (.int c4), .val (.int c5), .val (.int c6), .val (.int c7)] [(.int (2 : Int32)), (.ref b), (.ref b), (.ref a526), (.ref a526)])) _
      refine XS.iloadN Y1.here hx rfl (hb hby d2_142) rfl ?_
      exact kk_)
    obtain ⟨cl2, B2, b2, z2, y2, H2, F2⟩ := id V2
    obtain ⟨U2, u2, Y2, f2, W2, su2⟩ := stC Y1 hx hZ f1 B2 (j := (2 : Int32)) (inb_of z2 (by decide)) (g := (mkF m 143 #[.val (.int (5 : Int32)), .val (.int c0), .val (.int c1), .val (.int c2), .val (.int c3), .val (.int c4), .val (.int c5), .val (.int c6), .val (.int c7)] [(.int c2), (.int (2 : Int32)), (.ref b), (.ref b), (.ref a526), (.ref a526)])) rfl rfl (hb hby d2_143)
    have S535 : own_Go p e below s₁ G U2 (mkF m 144 #[.val (.int (5 : Int32)), .val (.int c0), .val (.int c1), .val (.int c2), .val (.int c3), .val (.int c4), .val (.int c5), .val (.int c6), .val (.int c7)] [(.ref b), (.ref a526), (.ref a526)]) := fun tg_ kk_ => S534 tg_ (su2 tg_ kk_)
    have hB2 : own_B c2 := hc c2 (by simp)
    rw [own_nar_char hB2.ch] at W2
    have V3 : Arv Z u2 b kp1 .char (5 : Int32) [.int c0, .int c1, .int c2] (.int 0) := own_push V2 (own_fit_ch hB2.ch) W2 rfl
    have NB2 := Fr.snoc Y2 NB1 hb0
    have O2a := O1a.wr W2 hb0
    have Z2a : n0 ≤ u2.size := by rw [W2.size]; exact Z1a
    have Ex2 := Ex1.wr W2
    have Fv2 := Fv1.other W2 (Or.inl hbx.symm)
    have Fc2 := Fc1.other W2 (Or.inl hbx.symm)
    have S536 : own_Go p e below s₁ G U2 (mkF m 148 #[.val (.int (5 : Int32)), .val (.int c0), .val (.int c1), .val (.int c2), .val (.int c3), .val (.int c4), .val (.int c5), .val (.int c6), .val (.int c7)] [(.int c3), (.int (3 : Int32)), (.ref b), (.ref b), (.ref a526), (.ref a526)]) := fun tg_ kk_ => S535 tg_ (by
      refine XS.dup Y2.here hx rfl (hb hby d2_144) rfl rfl ?_
      show Steps p.tables e below (U2.setTop (mkF m 145 #[.val (.int (5 : Int32)), .val (.int c0), .val (.int c1), .val (.int c2), .val (.int c3), .val (.int c4), .val (.int c5), .val (.int c6), .val (.int c7)] [(.ref b), (.ref b), (.ref a526), (.ref a526)])) _
      refine XS.iconst Y2.here hx rfl (hb hby d2_145) ?_
      show Steps p.tables e below (U2.setTop (mkF m 146 #[.val (.int (5 : Int32)), .val (.int c0), .val (.int c1), .val (.int c2), .val (.int c3), .val (.int c4), .val (.int c5), .val (.int c6), .val (.int c7)] [(.int (3 : Int32)), (.ref b), (.ref b), (.ref a526), (.ref a526)])) _
      refine XS.iload Y2.here hx rfl (hb hby d2_146) rfl ?_
      exact kk_)
    obtain ⟨cl3, B3, b3, z3, y3, H3, F3⟩ := id V3
    obtain ⟨U3, u3, Y3, f3, W3, su3⟩ := stC Y2 hx hZ f2 B3 (j := (3 : Int32)) (inb_of z3 (by decide)) (g := (mkF m 148 #[.val (.int (5 : Int32)), .val (.int c0), .val (.int c1), .val (.int c2), .val (.int c3), .val (.int c4), .val (.int c5), .val (.int c6), .val (.int c7)] [(.int c3), (.int (3 : Int32)), (.ref b), (.ref b), (.ref a526), (.ref a526)])) rfl rfl (hb hby d2_148)
    have S537 : own_Go p e below s₁ G U3 (mkF m 149 #[.val (.int (5 : Int32)), .val (.int c0), .val (.int c1), .val (.int c2), .val (.int c3), .val (.int c4), .val (.int c5), .val (.int c6), .val (.int c7)] [(.ref b), (.ref a526), (.ref a526)]) := fun tg_ kk_ => S536 tg_ (su3 tg_ kk_)
    have hB3 : own_B c3 := hc c3 (by simp)
    rw [own_nar_char hB3.ch] at W3
    have V4 : Arv Z u3 b kp1 .char (5 : Int32) [.int c0, .int c1, .int c2, .int c3] (.int 0) := own_push V3 (own_fit_ch hB3.ch) W3 rfl
    have NB3 := Fr.snoc Y3 NB2 hb0
    have O3a := O2a.wr W3 hb0
    have Z3a : n0 ≤ u3.size := by rw [W3.size]; exact Z2a
    have Ex3 := Ex2.wr W3
    have Fv3 := Fv2.other W3 (Or.inl hbx.symm)
    have Fc3 := Fc2.other W3 (Or.inl hbx.symm)
    have S538 : own_Go p e below s₁ G U3 (mkF m 153 #[.val (.int (5 : Int32)), .val (.int c0), .val (.int c1), .val (.int c2), .val (.int c3), .val (.int c4), .val (.int c5), .val (.int c6), .val (.int c7)] [(.int c4), (.int (4 : Int32)), (.ref b), (.ref b), (.ref a526), (.ref a526)]) := fun tg_ kk_ => S537 tg_ (by
      refine XS.dup Y3.here hx rfl (hb hby d2_149) rfl rfl ?_
      show Steps p.tables e below (U3.setTop (mkF m 150 #[.val (.int (5 : Int32)), .val (.int c0), .val (.int c1), .val (.int c2), .val (.int c3), .val (.int c4), .val (.int c5), .val (.int c6), .val (.int c7)] [(.ref b), (.ref b), (.ref a526), (.ref a526)])) _
      refine XS.iconst Y3.here hx rfl (hb hby d2_150) ?_
      show Steps p.tables e below (U3.setTop (mkF m 151 #[.val (.int (5 : Int32)), .val (.int c0), .val (.int c1), .val (.int c2), .val (.int c3), .val (.int c4), .val (.int c5), .val (.int c6), .val (.int c7)] [(.int (4 : Int32)), (.ref b), (.ref b), (.ref a526), (.ref a526)])) _
      refine XS.iload Y3.here hx rfl (hb hby d2_151) rfl ?_
      exact kk_)
    obtain ⟨cl4, B4, b4, z4, y4, H4, F4⟩ := id V4
    obtain ⟨U4, u4, Y4, f4, W4, su4⟩ := stC Y3 hx hZ f3 B4 (j := (4 : Int32)) (inb_of z4 (by decide)) (g := (mkF m 153 #[.val (.int (5 : Int32)), .val (.int c0), .val (.int c1), .val (.int c2), .val (.int c3), .val (.int c4), .val (.int c5), .val (.int c6), .val (.int c7)] [(.int c4), (.int (4 : Int32)), (.ref b), (.ref b), (.ref a526), (.ref a526)])) rfl rfl (hb hby d2_153)
    have S539 : own_Go p e below s₁ G U4 (mkF m 154 #[.val (.int (5 : Int32)), .val (.int c0), .val (.int c1), .val (.int c2), .val (.int c3), .val (.int c4), .val (.int c5), .val (.int c6), .val (.int c7)] [(.ref b), (.ref a526), (.ref a526)]) := fun tg_ kk_ => S538 tg_ (su4 tg_ kk_)
    have hB4 : own_B c4 := hc c4 (by simp)
    rw [own_nar_char hB4.ch] at W4
    have V5 : Arv Z u4 b kp1 .char (5 : Int32) [.int c0, .int c1, .int c2, .int c3, .int c4] (.int 0) := own_push V4 (own_fit_ch hB4.ch) W4 rfl
    have NB4 := Fr.snoc Y4 NB3 hb0
    have O4a := O3a.wr W4 hb0
    have Z4a : n0 ≤ u4.size := by rw [W4.size]; exact Z3a
    have Ex4 := Ex3.wr W4
    have Fv4 := Fv3.other W4 (Or.inl hbx.symm)
    have Fc4 := Fc3.other W4 (Or.inl hbx.symm)
    have hck : ∀ c ∈ [c0, c1, c2, c3, c4], own_B c := fun c hq => hc c (List.mem_of_mem_take (i := 5) hq)
    obtain ⟨_, T540, h540, L540, X540, e540, hQ540, st540⟩ := own_callI Y4 hx hZ (y := (⟨"java/lang/String", "<init>", "([C)V"⟩ : MethodName)) rfl hown (hw _ (List.mem_of_getElem? (i := 13) rfl)) (hw _ (List.mem_of_getElem? (i := 14) rfl)) (hw _ (List.mem_of_getElem? (i := 11) rfl)) (hw _ (List.mem_of_getElem? (i := 15) rfl)) (by decide) 1 (g := (mkF m 154 #[.val (.int (5 : Int32)), .val (.int c0), .val (.int c1), .val (.int c2), .val (.int c3), .val (.int c4), .val (.int c5), .val (.int c6), .val (.int c7)] [(.ref b), (.ref a526), (.ref a526)])) rfl (by rw [hml]; rfl) a526 [(.ref b)] [(.ref a526)] (rm3 l Z a0 hw [] a526 b [c0, c1, c2, c3, c4] u4 n0 Z4a z kp1 (by simp) Ex4 Fv4 Fc4 hx0 V5 O4a O2 P5 (own_nlat hck)) (lenOf pd4 rfl) rfl (by show 2 * 0 + _ ≤ _; exact Nat.le_of_eq rfl) (hb hby d2_154) (by decide) (by decide) f4 (by decide) (by decide)
    obtain ⟨rfl, N540, K540, t, ht, SS⟩ := hQ540
    have S541 : own_Go p e below s₁ G T540 (mkF m 157 #[.val (.int (5 : Int32)), .val (.int c0), .val (.int c1), .val (.int c2), .val (.int c3), .val (.int c4), .val (.int c5), .val (.int c6), .val (.int c7)] [(.ref a526)]) := fun tg_ kk_ => S539 tg_ (st540 tg_ kk_)
    have NC := Fr.app NB4 N540
    obtain ⟨fs, hr, hrun, hended, hW, hsame⟩ := X540.leave (v := some (.ref a526)) (fun h => by rw [Bd.returns] at h; cases h)
    refine ⟨_, _, ?_, hrun, hended, _, _, rfl, ?_, ReturnedEndW.of_narrow ⟨_, rfl⟩ hW (hsame.mono (by decide) (by decide))⟩
    · rw [← hG]; exact S541 _ (retOut X540 hx Bd.returns (by first | rfl | cases (.ref a526) <;> rfl) (Or.inr (Or.inr (Or.inr (Or.inr ⟨rfl, rfl, rfl⟩)))) (hb hby d2_157) hr)
    · show Q2 Z 5 c0 c1 c2 c3 c4 c5 c6 c7 h0 n0 _ T540.heap _
      rw [e540]
      exact ⟨a526, t, rfl, NC, O4a.keep K540 (allS hx0 all0), Nat.le_trans Z4a K540.1, SS⟩
  · have _ := N0
    have S542 : own_Go p e below s₁ G s₁ (mkF m 164 #[.val (.int (6 : Int32)), .val (.int c0), .val (.int c1), .val (.int c2), .val (.int c3), .val (.int c4), .val (.int c5), .val (.int c6), .val (.int c7)] []) := fun tg_ kk_ => S0 tg_ (by
      refine XS.iloadN X0.here hx rfl (hb hby d2_0) rfl ?_
      show Steps p.tables e below (s₁.setTop (mkF m 1 #[.val (.int (6 : Int32)), .val (.int c0), .val (.int c1), .val (.int c2), .val (.int c3), .val (.int c4), .val (.int c5), .val (.int c6), .val (.int c7)] [(.int (6 : Int32))])) _
      refine XS.ifYes X0.here hx rfl (pc0 := 1) (pc' := 15) rfl (hb hby d2_1) rfl (XT.i0_ne_t (by decide)) (by decide) (by decide) ?_
      show Steps p.tables e below (s₁.setTop (mkF m 15 #[.val (.int (6 : Int32)), .val (.int c0), .val (.int c1), .val (.int c2), .val (.int c3), .val (.int c4), .val (.int c5), .val (.int c6), .val (.int c7)] [])) _
      refine XS.iloadN X0.here hx rfl (hb hby d2_15) rfl ?_
      show Steps p.tables e below (s₁.setTop (mkF m 16 #[.val (.int (6 : Int32)), .val (.int c0), .val (.int c1), .val (.int c2), .val (.int c3), .val (.int c4), .val (.int c5), .val (.int c6), .val (.int c7)] [(.int (6 : Int32))])) _
      refine XS.iconst X0.here hx rfl (hb hby d2_16) ?_
      show Steps p.tables e below (s₁.setTop (mkF m 17 #[.val (.int (6 : Int32)), .val (.int c0), .val (.int c1), .val (.int c2), .val (.int c3), .val (.int c4), .val (.int c5), .val (.int c6), .val (.int c7)] [(.int (1 : Int32)), (.int (6 : Int32))])) _
      refine XS.icmpYes X0.here hx rfl (pc0 := 17) (pc' := 35) rfl (hb hby d2_17) rfl (XT.ii_ne_t (by decide)) (by decide) (by decide) ?_
      show Steps p.tables e below (s₁.setTop (mkF m 35 #[.val (.int (6 : Int32)), .val (.int c0), .val (.int c1), .val (.int c2), .val (.int c3), .val (.int c4), .val (.int c5), .val (.int c6), .val (.int c7)] [])) _
      refine XS.iloadN X0.here hx rfl (hb hby d2_35) rfl ?_
      show Steps p.tables e below (s₁.setTop (mkF m 36 #[.val (.int (6 : Int32)), .val (.int c0), .val (.int c1), .val (.int c2), .val (.int c3), .val (.int c4), .val (.int c5), .val (.int c6), .val (.int c7)] [(.int (6 : Int32))])) _
      refine XS.iconst X0.here hx rfl (hb hby d2_36) ?_
      show Steps p.tables e below (s₁.setTop (mkF m 37 #[.val (.int (6 : Int32)), .val (.int c0), .val (.int c1), .val (.int c2), .val (.int c3), .val (.int c4), .val (.int c5), .val (.int c6), .val (.int c7)] [(.int (2 : Int32)), (.int (6 : Int32))])) _
      refine XS.icmpYes X0.here hx rfl (pc0 := 37) (pc' := 59) rfl (hb hby d2_37) rfl (XT.ii_ne_t (by decide)) (by decide) (by decide) ?_
      show Steps p.tables e below (s₁.setTop (mkF m 59 #[.val (.int (6 : Int32)), .val (.int c0), .val (.int c1), .val (.int c2), .val (.int c3), .val (.int c4), .val (.int c5), .val (.int c6), .val (.int c7)] [])) _
      refine XS.iloadN X0.here hx rfl (hb hby d2_59) rfl ?_
      show Steps p.tables e below (s₁.setTop (mkF m 60 #[.val (.int (6 : Int32)), .val (.int c0), .val (.int c1), .val (.int c2), .val (.int c3), .val (.int c4), .val (.int c5), .val (.int c6), .val (.int c7)] [(.int (6 : Int32))])) _
      refine XS.iconst X0.here hx rfl (hb hby d2_60) ?_
      show Steps p.tables e below (s₁.setTop (mkF m 61 #[.val (.int (6 : Int32)), .val (.int c0), .val (.int c1), .val (.int c2), .val (.int c3), .val (.int c4), .val (.int c5), .val (.int c6), .val (.int c7)] [(.int (3 : Int32)), (.int (6 : Int32))])) _
      refine XS.icmpYes X0.here hx rfl (pc0 := 61) (pc' := 87) rfl (hb hby d2_61) rfl (XT.ii_ne_t (by decide)) (by decide) (by decide) ?_
      show Steps p.tables e below (s₁.setTop (mkF m 87 #[.val (.int (6 : Int32)), .val (.int c0), .val (.int c1), .val (.int c2), .val (.int c3), .val (.int c4), .val (.int c5), .val (.int c6), .val (.int c7)] [])) _
      refine XS.iloadN X0.here hx rfl (hb hby d2_87) rfl ?_
      show Steps p.tables e below (s₁.setTop (mkF m 88 #[.val (.int (6 : Int32)), .val (.int c0), .val (.int c1), .val (.int c2), .val (.int c3), .val (.int c4), .val (.int c5), .val (.int c6), .val (.int c7)] [(.int (6 : Int32))])) _
      refine XS.iconst X0.here hx rfl (hb hby d2_88) ?_
      show Steps p.tables e below (s₁.setTop (mkF m 89 #[.val (.int (6 : Int32)), .val (.int c0), .val (.int c1), .val (.int c2), .val (.int c3), .val (.int c4), .val (.int c5), .val (.int c6), .val (.int c7)] [(.int (4 : Int32)), (.int (6 : Int32))])) _
      refine XS.icmpYes X0.here hx rfl (pc0 := 89) (pc' := 120) rfl (hb hby d2_89) rfl (XT.ii_ne_t (by decide)) (by decide) (by decide) ?_
      show Steps p.tables e below (s₁.setTop (mkF m 120 #[.val (.int (6 : Int32)), .val (.int c0), .val (.int c1), .val (.int c2), .val (.int c3), .val (.int c4), .val (.int c5), .val (.int c6), .val (.int c7)] [])) _
      refine XS.iloadN X0.here hx rfl (hb hby d2_120) rfl ?_
      show Steps p.tables e below (s₁.setTop (mkF m 121 #[.val (.int (6 : Int32)), .val (.int c0), .val (.int c1), .val (.int c2), .val (.int c3), .val (.int c4), .val (.int c5), .val (.int c6), .val (.int c7)] [(.int (6 : Int32))])) _
      refine XS.iconst X0.here hx rfl (hb hby d2_121) ?_
      show Steps p.tables e below (s₁.setTop (mkF m 122 #[.val (.int (6 : Int32)), .val (.int c0), .val (.int c1), .val (.int c2), .val (.int c3), .val (.int c4), .val (.int c5), .val (.int c6), .val (.int c7)] [(.int (5 : Int32)), (.int (6 : Int32))])) _
      refine XS.icmpYes X0.here hx rfl (pc0 := 122) (pc' := 158) rfl (hb hby d2_122) rfl (XT.ii_ne_t (by decide)) (by decide) (by decide) ?_
      show Steps p.tables e below (s₁.setTop (mkF m 158 #[.val (.int (6 : Int32)), .val (.int c0), .val (.int c1), .val (.int c2), .val (.int c3), .val (.int c4), .val (.int c5), .val (.int c6), .val (.int c7)] [])) _
      refine XS.iloadN X0.here hx rfl (hb hby d2_158) rfl ?_
      show Steps p.tables e below (s₁.setTop (mkF m 159 #[.val (.int (6 : Int32)), .val (.int c0), .val (.int c1), .val (.int c2), .val (.int c3), .val (.int c4), .val (.int c5), .val (.int c6), .val (.int c7)] [(.int (6 : Int32))])) _
      refine XS.bipush X0.here hx rfl (hb hby d2_159) ?_
      show Steps p.tables e below (s₁.setTop (mkF m 161 #[.val (.int (6 : Int32)), .val (.int c0), .val (.int c1), .val (.int c2), .val (.int c3), .val (.int c4), .val (.int c5), .val (.int c6), .val (.int c7)] [(.int (6 : Int32)), (.int (6 : Int32))])) _
      refine XS.icmpNo X0.here hx rfl (hb hby d2_161) rfl (XT.ii_ne_f (by decide)) ?_
      exact kk_)
    obtain ⟨T543, h543, X543, e543, E543, A543, D543, -, st543⟩ := newO X0 hx hZ hown (hw _ (List.mem_of_getElem? (i := 9) rfl)) (hw _ (List.mem_of_getElem? (i := 10) rfl)) (hw _ (List.mem_of_getElem? (i := 11) rfl)) e0 (g := (mkF m 164 #[.val (.int (6 : Int32)), .val (.int c0), .val (.int c1), .val (.int c2), .val (.int c3), .val (.int c4), .val (.int c5), .val (.int c6), .val (.int c7)] [])) rfl (hb hby d2_164) (by decide) (by decide)
    obtain ⟨a543, g543⟩ : ∃ z, z = h0.size := ⟨_, rfl⟩
    rw [← g543] at A543 D543 st543
    have S544 : own_Go p e below s₁ G T543 (mkF m 167 #[.val (.int (6 : Int32)), .val (.int c0), .val (.int c1), .val (.int c2), .val (.int c3), .val (.int c4), .val (.int c5), .val (.int c6), .val (.int c7)] [(.ref a543)]) := fun tg_ kk_ => S542 tg_ (st543 tg_ kk_)
    have Fv : Fld Z h543 a543 "java/lang/String" "value" "[B" .null := D543 (Or.inr (hw _ (List.mem_of_getElem? (i := 38) rfl))) (ty := .array .byte) (by decide)
    have Fc : Fld Z h543 a543 "java/lang/String" "coder" "B" (.int 0) := D543 (Or.inr (hw _ (List.mem_of_getElem? (i := 36) rfl))) (ty := .byte) (by decide)
    have hx0 : n0 ≤ a543 := Nat.le_trans Z0 (Nat.le_of_eq g543.symm)
    have Oa := O.ext E543
    have Za := own_sub Z0 E543
    have S545 : own_Go p e below s₁ G T543 (mkF m 170 #[.val (.int (6 : Int32)), .val (.int c0), .val (.int c1), .val (.int c2), .val (.int c3), .val (.int c4), .val (.int c5), .val (.int c6), .val (.int c7)] [(.int (6 : Int32)), (.ref a543), (.ref a543)]) := fun tg_ kk_ => S544 tg_ (by
      refine XS.dup X543.here hx rfl (hb hby d2_167) rfl rfl ?_
      show Steps p.tables e below (T543.setTop (mkF m 168 #[.val (.int (6 : Int32)), .val (.int c0), .val (.int c1), .val (.int c2), .val (.int c3), .val (.int c4), .val (.int c5), .val (.int c6), .val (.int c7)] [(.ref a543), (.ref a543)])) _
      refine XS.bipush X543.here hx rfl (hb hby d2_168) ?_
      exact kk_)
    obtain ⟨Tp1, hp1, kp1, Xp1, ep1, Ep1, Ap1, stp1⟩ := newP X543 hx hZ (hw _ (List.mem_of_getElem? (i := 12) rfl)) e543 (g := (mkF m 170 #[.val (.int (6 : Int32)), .val (.int c0), .val (.int c1), .val (.int c2), .val (.int c3), .val (.int c4), .val (.int c5), .val (.int c6), .val (.int c7)] [(.int (6 : Int32)), (.ref a543), (.ref a543)])) rfl (hb hby d2_170) rfl (by decide) (cap := 8) (by decide) (by decide) (by decide) (by decide)
    have S546 : own_Go p e below s₁ G Tp1 (mkF m 172 #[.val (.int (6 : Int32)), .val (.int c0), .val (.int c1), .val (.int c2), .val (.int c3), .val (.int c4), .val (.int c5), .val (.int c6), .val (.int c7)] [(.ref h543.size), (.ref a543), (.ref a543)]) := fun tg_ kk_ => S545 tg_ (stp1 tg_ kk_)
    obtain ⟨b, gb⟩ : ∃ z, z = h543.size := ⟨_, rfl⟩
    rw [← gb] at S546
    rw [← gb] at Ap1
    have hb0 : n0 ≤ b := Nat.le_trans Za (Nat.le_of_eq gb.symm)
    have V0 : Arv Z hp1 b kp1 .char (6 : Int32) [] (.int 0) := Arv.new Ap1 (by decide)
    have Oq := Oa.ext Ep1
    have Zq := own_sub Za Ep1
    have Exq := A543.ext Ep1
    have Fvq := Fv.ext Ep1
    have Fcq := Fc.ext Ep1
    have hbx : b ≠ a543 := Nat.ne_of_gt (Nat.lt_of_lt_of_le A543.lt (Nat.le_of_eq gb.symm))
    have S547 : own_Go p e below s₁ G Tp1 (mkF m 175 #[.val (.int (6 : Int32)), .val (.int c0), .val (.int c1), .val (.int c2), .val (.int c3), .val (.int c4), .val (.int c5), .val (.int c6), .val (.int c7)] [(.int c0), (.int (0 : Int32)), (.ref b), (.ref b), (.ref a543), (.ref a543)]) := fun tg_ kk_ => S546 tg_ (by
      refine XS.dup Xp1.here hx rfl (hb hby d2_172) rfl rfl ?_
      show Steps p.tables e below (Tp1.setTop (mkF m 173 #[.val (.int (6 : Int32)), .val (.int c0), .val (.int c1), .val (.int c2), .val (.int c3), .val (.int c4), .val (.int c5), .val (.int c6), .val (.int c7)] [(.ref b), (.ref b), (.ref a543), (.ref a543)])) _
      refine XS.iconst Xp1.here hx rfl (hb hby d2_173) ?_
      show Steps p.tables e below (Tp1.setTop (mkF m 174 #[.val (.int (6 : Int32)), .val (.int c0), .val (.int c1), .val (.int c2), .val (.int c3), .val (.int c4), .val (.int c5), .val (.int c6), .val (.int c7)] [(.int (0 : Int32)), (.ref b), (.ref b), (.ref a543), (.ref a543)])) _
      refine XS.iloadN Xp1.here hx rfl (hb hby d2_174) rfl ?_
      exact kk_)
    obtain ⟨cl0, B0, b0, z0, y0, H0, F0⟩ := id V0
    obtain ⟨U0, u0, Y0, f0, W0, su0⟩ := stC Xp1 hx hZ ep1 B0 (j := (0 : Int32)) (inb_of z0 (by decide)) (g := (mkF m 175 #[.val (.int (6 : Int32)), .val (.int c0), .val (.int c1), .val (.int c2), .val (.int c3), .val (.int c4), .val (.int c5), .val (.int c6), .val (.int c7)] [(.int c0), (.int (0 : Int32)), (.ref b), (.ref b), (.ref a543), (.ref a543)])) rfl rfl (hb hby d2_175)
    have S548 : own_Go p e below s₁ G U0 (mkF m 176 #[.val (.int (6 : Int32)), .val (.int c0), .val (.int c1), .val (.int c2), .val (.int c3), .val (.int c4), .val (.int c5), .val (.int c6), .val (.int c7)] [(.ref b), (.ref a543), (.ref a543)]) := fun tg_ kk_ => S547 tg_ (su0 tg_ kk_)
    have hB0 : own_B c0 := hc c0 (by simp)
    rw [own_nar_char hB0.ch] at W0
    have V1 : Arv Z u0 b kp1 .char (6 : Int32) [.int c0] (.int 0) := own_push V0 (own_fit_ch hB0.ch) W0 rfl
    have NB0 := Fr.snoc Y0 N0 hb0
    have O0a := Oq.wr W0 hb0
    have Z0a : n0 ≤ u0.size := by rw [W0.size]; exact Zq
    have Ex0 := Exq.wr W0
    have Fv0 := Fvq.other W0 (Or.inl hbx.symm)
    have Fc0 := Fcq.other W0 (Or.inl hbx.symm)
    have S549 : own_Go p e below s₁ G U0 (mkF m 179 #[.val (.int (6 : Int32)), .val (.int c0), .val (.int c1), .val (.int c2), .val (.int c3), .val (.int c4), .val (.int c5), .val (.int c6), .val (.int c7)] [(.int c1), (.int (1 : Int32)), (.ref b), (.ref b), (.ref a543), (.ref a543)]) := fun tg_ kk_ => S548 tg_ (by
      refine XS.dup Y0.here hx rfl (hb hby d2_176) rfl rfl ?_
      show Steps p.tables e below (U0.setTop (mkF m 177 #[.val (.int (6 : Int32)), .val (.int c0), .val (.int c1), .val (.int c2), .val (.int c3), .val (.int c4), .val (.int c5), .val (.int c6), .val (.int c7)] [(.ref b), (.ref b), (.ref a543), (.ref a543)])) _
      refine XS.iconst Y0.here hx rfl (hb hby d2_177) ?_
      show Steps p.tables e below (U0.setTop (mkF m 178 #[.val (.int (6 : Int32)), .val (.int c0), .val (.int c1), .val (.int c2), .val (.int c3), .val (.int c4), .val (.int c5), .val (.int c6), .val (.int c7)] [(.int (1 : Int32)), (.ref b), (.ref b), (.ref a543), (.ref a543)])) _
      refine XS.iloadN Y0.here hx rfl (hb hby d2_178) rfl ?_
      exact kk_)
    obtain ⟨cl1, B1, b1, z1, y1, H1, F1⟩ := id V1
    obtain ⟨U1, u1, Y1, f1, W1, su1⟩ := stC Y0 hx hZ f0 B1 (j := (1 : Int32)) (inb_of z1 (by decide)) (g := (mkF m 179 #[.val (.int (6 : Int32)), .val (.int c0), .val (.int c1), .val (.int c2), .val (.int c3), .val (.int c4), .val (.int c5), .val (.int c6), .val (.int c7)] [(.int c1), (.int (1 : Int32)), (.ref b), (.ref b), (.ref a543), (.ref a543)])) rfl rfl (hb hby d2_179)
    have S550 : own_Go p e below s₁ G U1 (mkF m 180 #[.val (.int (6 : Int32)), .val (.int c0), .val (.int c1), .val (.int c2), .val (.int c3), .val (.int c4), .val (.int c5), .val (.int c6), .val (.int c7)] [(.ref b), (.ref a543), (.ref a543)]) := fun tg_ kk_ => S549 tg_ (su1 tg_ kk_)
    have hB1 : own_B c1 := hc c1 (by simp)
    rw [own_nar_char hB1.ch] at W1
    have V2 : Arv Z u1 b kp1 .char (6 : Int32) [.int c0, .int c1] (.int 0) := own_push V1 (own_fit_ch hB1.ch) W1 rfl
    have NB1 := Fr.snoc Y1 NB0 hb0
    have O1a := O0a.wr W1 hb0
    have Z1a : n0 ≤ u1.size := by rw [W1.size]; exact Z0a
    have Ex1 := Ex0.wr W1
    have Fv1 := Fv0.other W1 (Or.inl hbx.symm)
    have Fc1 := Fc0.other W1 (Or.inl hbx.symm)
    have S551 : own_Go p e below s₁ G U1 (mkF m 183 #[.val (.int (6 : Int32)), .val (.int c0), .val (.int c1), .val (.int c2), .val (.int c3), .val (.int c4), .val (.int c5), .val (.int c6), .val (.int c7)] [(.int c2), (.int (2 : Int32)), (.ref b), (.ref b), (.ref a543), (.ref a543)]) := fun tg_ kk_ => S550 tg_ (by
      refine XS.dup Y1.here hx rfl (hb hby d2_180) rfl rfl ?_
      show Steps p.tables e below (U1.setTop (mkF m 181 #[.val (.int (6 : Int32)), .val (.int c0), .val (.int c1), .val (.int c2), .val (.int c3), .val (.int c4), .val (.int c5), .val (.int c6), .val (.int c7)] [(.ref b), (.ref b), (.ref a543), (.ref a543)])) _
      refine XS.iconst Y1.here hx rfl (hb hby d2_181) ?_
      show Steps p.tables e below (U1.setTop (mkF m 182 #[.val (.int (6 : Int32)), .val (.int c0), .val (.int c1), .val (.int c2), .val (.int c3), .val (.int c4), .val (.int c5), .val (.int c6), .val (.int c7)] [(.int (2 : Int32)), (.ref b), (.ref b), (.ref a543), (.ref a543)])) _
      refine XS.iloadN Y1.here hx rfl (hb hby d2_182) rfl ?_
      exact kk_)
    obtain ⟨cl2, B2, b2, z2, y2, H2, F2⟩ := id V2
    obtain ⟨U2, u2, Y2, f2, W2, su2⟩ := stC Y1 hx hZ f1 B2 (j := (2 : Int32)) (inb_of z2 (by decide)) (g := (mkF m 183 #[.val (.int (6 : Int32)), .val (.int c0), .val (.int c1), .val (.int c2), .val (.int c3), .val (.int c4), .val (.int c5), .val (.int c6), .val (.int c7)] [(.int c2), (.int (2 : Int32)), (.ref b), (.ref b), (.ref a543), (.ref a543)])) rfl rfl (hb hby d2_183)
    have S552 : own_Go p e below s₁ G U2 (mkF m 184 #[.val (.int (6 : Int32)), .val (.int c0), .val (.int c1), .val (.int c2), .val (.int c3), .val (.int c4), .val (.int c5), .val (.int c6), .val (.int c7)] [(.ref b), (.ref a543), (.ref a543)]) := fun tg_ kk_ => S551 tg_ (su2 tg_ kk_)
    have hB2 : own_B c2 := hc c2 (by simp)
    rw [own_nar_char hB2.ch] at W2
    have V3 : Arv Z u2 b kp1 .char (6 : Int32) [.int c0, .int c1, .int c2] (.int 0) := own_push V2 (own_fit_ch hB2.ch) W2 rfl
    have NB2 := Fr.snoc Y2 NB1 hb0
    have O2a := O1a.wr W2 hb0
    have Z2a : n0 ≤ u2.size := by rw [W2.size]; exact Z1a
    have Ex2 := Ex1.wr W2
    have Fv2 := Fv1.other W2 (Or.inl hbx.symm)
    have Fc2 := Fc1.other W2 (Or.inl hbx.symm)
    have S553 : own_Go p e below s₁ G U2 (mkF m 188 #[.val (.int (6 : Int32)), .val (.int c0), .val (.int c1), .val (.int c2), .val (.int c3), .val (.int c4), .val (.int c5), .val (.int c6), .val (.int c7)] [(.int c3), (.int (3 : Int32)), (.ref b), (.ref b), (.ref a543), (.ref a543)]) := fun tg_ kk_ => S552 tg_ (by
      refine XS.dup Y2.here hx rfl (hb hby d2_184) rfl rfl ?_
      show Steps p.tables e below (U2.setTop (mkF m 185 #[.val (.int (6 : Int32)), .val (.int c0), .val (.int c1), .val (.int c2), .val (.int c3), .val (.int c4), .val (.int c5), .val (.int c6), .val (.int c7)] [(.ref b), (.ref b), (.ref a543), (.ref a543)])) _
      refine XS.iconst Y2.here hx rfl (hb hby d2_185) ?_
      show Steps p.tables e below (U2.setTop (mkF m 186 #[.val (.int (6 : Int32)), .val (.int c0), .val (.int c1), .val (.int c2), .val (.int c3), .val (.int c4), .val (.int c5), .val (.int c6), .val (.int c7)] [(.int (3 : Int32)), (.ref b), (.ref b), (.ref a543), (.ref a543)])) _
      refine XS.iload Y2.here hx rfl (hb hby d2_186) rfl ?_
      exact kk_)
    obtain ⟨cl3, B3, b3, z3, y3, H3, F3⟩ := id V3
    obtain ⟨U3, u3, Y3, f3, W3, su3⟩ := stC Y2 hx hZ f2 B3 (j := (3 : Int32)) (inb_of z3 (by decide)) (g := (mkF m 188 #[.val (.int (6 : Int32)), .val (.int c0), .val (.int c1), .val (.int c2), .val (.int c3), .val (.int c4), .val (.int c5), .val (.int c6), .val (.int c7)] [(.int c3), (.int (3 : Int32)), (.ref b), (.ref b), (.ref a543), (.ref a543)])) rfl rfl (hb hby d2_188)
    have S554 : own_Go p e below s₁ G U3 (mkF m 189 #[.val (.int (6 : Int32)), .val (.int c0), .val (.int c1), .val (.int c2), .val (.int c3), .val (.int c4), .val (.int c5), .val (.int c6), .val (.int c7)] [(.ref b), (.ref a543), (.ref a543)]) := fun tg_ kk_ => S553 tg_ (su3 tg_ kk_)
    have hB3 : own_B c3 := hc c3 (by simp)
    rw [own_nar_char hB3.ch] at W3
    have V4 : Arv Z u3 b kp1 .char (6 : Int32) [.int c0, .int c1, .int c2, .int c3] (.int 0) := own_push V3 (own_fit_ch hB3.ch) W3 rfl
    have NB3 := Fr.snoc Y3 NB2 hb0
    have O3a := O2a.wr W3 hb0
    have Z3a : n0 ≤ u3.size := by rw [W3.size]; exact Z2a
    have Ex3 := Ex2.wr W3
    have Fv3 := Fv2.other W3 (Or.inl hbx.symm)
    have Fc3 := Fc2.other W3 (Or.inl hbx.symm)
    have S555 : own_Go p e below s₁ G U3 (mkF m 193 #[.val (.int (6 : Int32)), .val (.int c0), .val (.int c1), .val (.int c2), .val (.int c3), .val (.int c4), .val (.int c5), .val (.int c6), .val (.int c7)] [(.int c4), (.int (4 : Int32)), (.ref b), (.ref b), (.ref a543), (.ref a543)]) := fun tg_ kk_ => S554 tg_ (by
      refine XS.dup Y3.here hx rfl (hb hby d2_189) rfl rfl ?_
      show Steps p.tables e below (U3.setTop (mkF m 190 #[.val (.int (6 : Int32)), .val (.int c0), .val (.int c1), .val (.int c2), .val (.int c3), .val (.int c4), .val (.int c5), .val (.int c6), .val (.int c7)] [(.ref b), (.ref b), (.ref a543), (.ref a543)])) _
      refine XS.iconst Y3.here hx rfl (hb hby d2_190) ?_
      show Steps p.tables e below (U3.setTop (mkF m 191 #[.val (.int (6 : Int32)), .val (.int c0), .val (.int c1), .val (.int c2), .val (.int c3), .val (.int c4), .val (.int c5), .val (.int c6), .val (.int c7)] [(.int (4 : Int32)), (.ref b), (.ref b), (.ref a543), (.ref a543)])) _
      refine XS.iload Y3.here hx rfl (hb hby d2_191) rfl ?_
      exact kk_)
    obtain ⟨cl4, B4, b4, z4, y4, H4, F4⟩ := id V4
    obtain ⟨U4, u4, Y4, f4, W4, su4⟩ := stC Y3 hx hZ f3 B4 (j := (4 : Int32)) (inb_of z4 (by decide)) (g := (mkF m 193 #[.val (.int (6 : Int32)), .val (.int c0), .val (.int c1), .val (.int c2), .val (.int c3), .val (.int c4), .val (.int c5), .val (.int c6), .val (.int c7)] [(.int c4), (.int (4 : Int32)), (.ref b), (.ref b), (.ref a543), (.ref a543)])) rfl rfl (hb hby d2_193)
    have S556 : own_Go p e below s₁ G U4 (mkF m 194 #[.val (.int (6 : Int32)), .val (.int c0), .val (.int c1), .val (.int c2), .val (.int c3), .val (.int c4), .val (.int c5), .val (.int c6), .val (.int c7)] [(.ref b), (.ref a543), (.ref a543)]) := fun tg_ kk_ => S555 tg_ (su4 tg_ kk_)
    have hB4 : own_B c4 := hc c4 (by simp)
    rw [own_nar_char hB4.ch] at W4
    have V5 : Arv Z u4 b kp1 .char (6 : Int32) [.int c0, .int c1, .int c2, .int c3, .int c4] (.int 0) := own_push V4 (own_fit_ch hB4.ch) W4 rfl
    have NB4 := Fr.snoc Y4 NB3 hb0
    have O4a := O3a.wr W4 hb0
    have Z4a : n0 ≤ u4.size := by rw [W4.size]; exact Z3a
    have Ex4 := Ex3.wr W4
    have Fv4 := Fv3.other W4 (Or.inl hbx.symm)
    have Fc4 := Fc3.other W4 (Or.inl hbx.symm)
    have S557 : own_Go p e below s₁ G U4 (mkF m 198 #[.val (.int (6 : Int32)), .val (.int c0), .val (.int c1), .val (.int c2), .val (.int c3), .val (.int c4), .val (.int c5), .val (.int c6), .val (.int c7)] [(.int c5), (.int (5 : Int32)), (.ref b), (.ref b), (.ref a543), (.ref a543)]) := fun tg_ kk_ => S556 tg_ (by
      refine XS.dup Y4.here hx rfl (hb hby d2_194) rfl rfl ?_
      show Steps p.tables e below (U4.setTop (mkF m 195 #[.val (.int (6 : Int32)), .val (.int c0), .val (.int c1), .val (.int c2), .val (.int c3), .val (.int c4), .val (.int c5), .val (.int c6), .val (.int c7)] [(.ref b), (.ref b), (.ref a543), (.ref a543)])) _
      refine XS.iconst Y4.here hx rfl (hb hby d2_195) ?_
      show Steps p.tables e below (U4.setTop (mkF m 196 #[.val (.int (6 : Int32)), .val (.int c0), .val (.int c1), .val (.int c2), .val (.int c3), .val (.int c4), .val (.int c5), .val (.int c6), .val (.int c7)] [(.int (5 : Int32)), (.ref b), (.ref b), (.ref a543), (.ref a543)])) _
      refine XS.iload Y4.here hx rfl (hb hby d2_196) rfl ?_
      exact kk_)
    obtain ⟨cl5, B5, b5, z5, y5, H5, F5⟩ := id V5
    obtain ⟨U5, u5, Y5, f5, W5, su5⟩ := stC Y4 hx hZ f4 B5 (j := (5 : Int32)) (inb_of z5 (by decide)) (g := (mkF m 198 #[.val (.int (6 : Int32)), .val (.int c0), .val (.int c1), .val (.int c2), .val (.int c3), .val (.int c4), .val (.int c5), .val (.int c6), .val (.int c7)] [(.int c5), (.int (5 : Int32)), (.ref b), (.ref b), (.ref a543), (.ref a543)])) rfl rfl (hb hby d2_198)
    have S558 : own_Go p e below s₁ G U5 (mkF m 199 #[.val (.int (6 : Int32)), .val (.int c0), .val (.int c1), .val (.int c2), .val (.int c3), .val (.int c4), .val (.int c5), .val (.int c6), .val (.int c7)] [(.ref b), (.ref a543), (.ref a543)]) := fun tg_ kk_ => S557 tg_ (su5 tg_ kk_)
    have hB5 : own_B c5 := hc c5 (by simp)
    rw [own_nar_char hB5.ch] at W5
    have V6 : Arv Z u5 b kp1 .char (6 : Int32) [.int c0, .int c1, .int c2, .int c3, .int c4, .int c5] (.int 0) := own_push V5 (own_fit_ch hB5.ch) W5 rfl
    have NB5 := Fr.snoc Y5 NB4 hb0
    have O5a := O4a.wr W5 hb0
    have Z5a : n0 ≤ u5.size := by rw [W5.size]; exact Z4a
    have Ex5 := Ex4.wr W5
    have Fv5 := Fv4.other W5 (Or.inl hbx.symm)
    have Fc5 := Fc4.other W5 (Or.inl hbx.symm)
    have hck : ∀ c ∈ [c0, c1, c2, c3, c4, c5], own_B c := fun c hq => hc c (List.mem_of_mem_take (i := 6) hq)
    obtain ⟨_, T559, h559, L559, X559, e559, hQ559, st559⟩ := own_callI Y5 hx hZ (y := (⟨"java/lang/String", "<init>", "([C)V"⟩ : MethodName)) rfl hown (hw _ (List.mem_of_getElem? (i := 13) rfl)) (hw _ (List.mem_of_getElem? (i := 14) rfl)) (hw _ (List.mem_of_getElem? (i := 11) rfl)) (hw _ (List.mem_of_getElem? (i := 15) rfl)) (by decide) 1 (g := (mkF m 199 #[.val (.int (6 : Int32)), .val (.int c0), .val (.int c1), .val (.int c2), .val (.int c3), .val (.int c4), .val (.int c5), .val (.int c6), .val (.int c7)] [(.ref b), (.ref a543), (.ref a543)])) rfl (by rw [hml]; rfl) a543 [(.ref b)] [(.ref a543)] (rm3 l Z a0 hw [] a543 b [c0, c1, c2, c3, c4, c5] u5 n0 Z5a z kp1 (by simp) Ex5 Fv5 Fc5 hx0 V6 O5a O2 P5 (own_nlat hck)) (lenOf pd4 rfl) rfl (by show 2 * 0 + _ ≤ _; exact Nat.le_of_eq rfl) (hb hby d2_199) (by decide) (by decide) f5 (by decide) (by decide)
    obtain ⟨rfl, N559, K559, t, ht, SS⟩ := hQ559
    have S560 : own_Go p e below s₁ G T559 (mkF m 202 #[.val (.int (6 : Int32)), .val (.int c0), .val (.int c1), .val (.int c2), .val (.int c3), .val (.int c4), .val (.int c5), .val (.int c6), .val (.int c7)] [(.ref a543)]) := fun tg_ kk_ => S558 tg_ (st559 tg_ kk_)
    have NC := Fr.app NB5 N559
    obtain ⟨fs, hr, hrun, hended, hW, hsame⟩ := X559.leave (v := some (.ref a543)) (fun h => by rw [Bd.returns] at h; cases h)
    refine ⟨_, _, ?_, hrun, hended, _, _, rfl, ?_, ReturnedEndW.of_narrow ⟨_, rfl⟩ hW (hsame.mono (by decide) (by decide))⟩
    · rw [← hG]; exact S560 _ (retOut X559 hx Bd.returns (by first | rfl | cases (.ref a543) <;> rfl) (Or.inr (Or.inr (Or.inr (Or.inr ⟨rfl, rfl, rfl⟩)))) (hb hby d2_202) hr)
    · show Q2 Z 6 c0 c1 c2 c3 c4 c5 c6 c7 h0 n0 _ T559.heap _
      rw [e559]
      exact ⟨a543, t, rfl, NC, O5a.keep K559 (allS hx0 all0), Nat.le_trans Z5a K559.1, SS⟩
  · have _ := N0
    have S561 : own_Go p e below s₁ G s₁ (mkF m 209 #[.val (.int (7 : Int32)), .val (.int c0), .val (.int c1), .val (.int c2), .val (.int c3), .val (.int c4), .val (.int c5), .val (.int c6), .val (.int c7)] []) := fun tg_ kk_ => S0 tg_ (by
      refine XS.iloadN X0.here hx rfl (hb hby d2_0) rfl ?_
      show Steps p.tables e below (s₁.setTop (mkF m 1 #[.val (.int (7 : Int32)), .val (.int c0), .val (.int c1), .val (.int c2), .val (.int c3), .val (.int c4), .val (.int c5), .val (.int c6), .val (.int c7)] [(.int (7 : Int32))])) _
      refine XS.ifYes X0.here hx rfl (pc0 := 1) (pc' := 15) rfl (hb hby d2_1) rfl (XT.i0_ne_t (by decide)) (by decide) (by decide) ?_
      show Steps p.tables e below (s₁.setTop (mkF m 15 #[.val (.int (7 : Int32)), .val (.int c0), .val (.int c1), .val (.int c2), .val (.int c3), .val (.int c4), .val (.int c5), .val (.int c6), .val (.int c7)] [])) _
      refine XS.iloadN X0.here hx rfl (hb hby d2_15) rfl ?_
      show Steps p.tables e below (s₁.setTop (mkF m 16 #[.val (.int (7 : Int32)), .val (.int c0), .val (.int c1), .val (.int c2), .val (.int c3), .val (.int c4), .val (.int c5), .val (.int c6), .val (.int c7)] [(.int (7 : Int32))])) _
      refine XS.iconst X0.here hx rfl (hb hby d2_16) ?_
      show Steps p.tables e below (s₁.setTop (mkF m 17 #[.val (.int (7 : Int32)), .val (.int c0), .val (.int c1), .val (.int c2), .val (.int c3), .val (.int c4), .val (.int c5), .val (.int c6), .val (.int c7)] [(.int (1 : Int32)), (.int (7 : Int32))])) _
      refine XS.icmpYes X0.here hx rfl (pc0 := 17) (pc' := 35) rfl (hb hby d2_17) rfl (XT.ii_ne_t (by decide)) (by decide) (by decide) ?_
      show Steps p.tables e below (s₁.setTop (mkF m 35 #[.val (.int (7 : Int32)), .val (.int c0), .val (.int c1), .val (.int c2), .val (.int c3), .val (.int c4), .val (.int c5), .val (.int c6), .val (.int c7)] [])) _
      refine XS.iloadN X0.here hx rfl (hb hby d2_35) rfl ?_
      show Steps p.tables e below (s₁.setTop (mkF m 36 #[.val (.int (7 : Int32)), .val (.int c0), .val (.int c1), .val (.int c2), .val (.int c3), .val (.int c4), .val (.int c5), .val (.int c6), .val (.int c7)] [(.int (7 : Int32))])) _
      refine XS.iconst X0.here hx rfl (hb hby d2_36) ?_
      show Steps p.tables e below (s₁.setTop (mkF m 37 #[.val (.int (7 : Int32)), .val (.int c0), .val (.int c1), .val (.int c2), .val (.int c3), .val (.int c4), .val (.int c5), .val (.int c6), .val (.int c7)] [(.int (2 : Int32)), (.int (7 : Int32))])) _
      refine XS.icmpYes X0.here hx rfl (pc0 := 37) (pc' := 59) rfl (hb hby d2_37) rfl (XT.ii_ne_t (by decide)) (by decide) (by decide) ?_
      show Steps p.tables e below (s₁.setTop (mkF m 59 #[.val (.int (7 : Int32)), .val (.int c0), .val (.int c1), .val (.int c2), .val (.int c3), .val (.int c4), .val (.int c5), .val (.int c6), .val (.int c7)] [])) _
      refine XS.iloadN X0.here hx rfl (hb hby d2_59) rfl ?_
      show Steps p.tables e below (s₁.setTop (mkF m 60 #[.val (.int (7 : Int32)), .val (.int c0), .val (.int c1), .val (.int c2), .val (.int c3), .val (.int c4), .val (.int c5), .val (.int c6), .val (.int c7)] [(.int (7 : Int32))])) _
      refine XS.iconst X0.here hx rfl (hb hby d2_60) ?_
      show Steps p.tables e below (s₁.setTop (mkF m 61 #[.val (.int (7 : Int32)), .val (.int c0), .val (.int c1), .val (.int c2), .val (.int c3), .val (.int c4), .val (.int c5), .val (.int c6), .val (.int c7)] [(.int (3 : Int32)), (.int (7 : Int32))])) _
      refine XS.icmpYes X0.here hx rfl (pc0 := 61) (pc' := 87) rfl (hb hby d2_61) rfl (XT.ii_ne_t (by decide)) (by decide) (by decide) ?_
      show Steps p.tables e below (s₁.setTop (mkF m 87 #[.val (.int (7 : Int32)), .val (.int c0), .val (.int c1), .val (.int c2), .val (.int c3), .val (.int c4), .val (.int c5), .val (.int c6), .val (.int c7)] [])) _
      refine XS.iloadN X0.here hx rfl (hb hby d2_87) rfl ?_
      show Steps p.tables e below (s₁.setTop (mkF m 88 #[.val (.int (7 : Int32)), .val (.int c0), .val (.int c1), .val (.int c2), .val (.int c3), .val (.int c4), .val (.int c5), .val (.int c6), .val (.int c7)] [(.int (7 : Int32))])) _
      refine XS.iconst X0.here hx rfl (hb hby d2_88) ?_
      show Steps p.tables e below (s₁.setTop (mkF m 89 #[.val (.int (7 : Int32)), .val (.int c0), .val (.int c1), .val (.int c2), .val (.int c3), .val (.int c4), .val (.int c5), .val (.int c6), .val (.int c7)] [(.int (4 : Int32)), (.int (7 : Int32))])) _
      refine XS.icmpYes X0.here hx rfl (pc0 := 89) (pc' := 120) rfl (hb hby d2_89) rfl (XT.ii_ne_t (by decide)) (by decide) (by decide) ?_
      show Steps p.tables e below (s₁.setTop (mkF m 120 #[.val (.int (7 : Int32)), .val (.int c0), .val (.int c1), .val (.int c2), .val (.int c3), .val (.int c4), .val (.int c5), .val (.int c6), .val (.int c7)] [])) _
      refine XS.iloadN X0.here hx rfl (hb hby d2_120) rfl ?_
      show Steps p.tables e below (s₁.setTop (mkF m 121 #[.val (.int (7 : Int32)), .val (.int c0), .val (.int c1), .val (.int c2), .val (.int c3), .val (.int c4), .val (.int c5), .val (.int c6), .val (.int c7)] [(.int (7 : Int32))])) _
      refine XS.iconst X0.here hx rfl (hb hby d2_121) ?_
      show Steps p.tables e below (s₁.setTop (mkF m 122 #[.val (.int (7 : Int32)), .val (.int c0), .val (.int c1), .val (.int c2), .val (.int c3), .val (.int c4), .val (.int c5), .val (.int c6), .val (.int c7)] [(.int (5 : Int32)), (.int (7 : Int32))])) _
      refine XS.icmpYes X0.here hx rfl (pc0 := 122) (pc' := 158) rfl (hb hby d2_122) rfl (XT.ii_ne_t (by decide)) (by decide) (by decide) ?_
      show Steps p.tables e below (s₁.setTop (mkF m 158 #[.val (.int (7 : Int32)), .val (.int c0), .val (.int c1), .val (.int c2), .val (.int c3), .val (.int c4), .val (.int c5), .val (.int c6), .val (.int c7)] [])) _
      refine XS.iloadN X0.here hx rfl (hb hby d2_158) rfl ?_
      show Steps p.tables e below (s₁.setTop (mkF m 159 #[.val (.int (7 : Int32)), .val (.int c0), .val (.int c1), .val (.int c2), .val (.int c3), .val (.int c4), .val (.int c5), .val (.int c6), .val (.int c7)] [(.int (7 : Int32))])) _
      refine XS.bipush X0.here hx rfl (hb hby d2_159) ?_
      show Steps p.tables e below (s₁.setTop (mkF m 161 #[.val (.int (7 : Int32)), .val (.int c0), .val (.int c1), .val (.int c2), .val (.int c3), .val (.int c4), .val (.int c5), .val (.int c6), .val (.int c7)] [(.int (6 : Int32)), (.int (7 : Int32))])) _
      refine XS.icmpYes X0.here hx rfl (pc0 := 161) (pc' := 203) rfl (hb hby d2_161) rfl (XT.ii_ne_t (by decide)) (by decide) (by decide) ?_
      show Steps p.tables e below (s₁.setTop (mkF m 203 #[.val (.int (7 : Int32)), .val (.int c0), .val (.int c1), .val (.int c2), .val (.int c3), .val (.int c4), .val (.int c5), .val (.int c6), .val (.int c7)] [])) _
      refine XS.iloadN X0.here hx rfl (hb hby d2_203) rfl ?_
      show Steps p.tables e below (s₁.setTop (mkF m 204 #[.val (.int (7 : Int32)), .val (.int c0), .val (.int c1), .val (.int c2), .val (.int c3), .val (.int c4), .val (.int c5), .val (.int c6), .val (.int c7)] [(.int (7 : Int32))])) _
      refine XS.bipush X0.here hx rfl (hb hby d2_204) ?_
      show Steps p.tables e below (s₁.setTop (mkF m 206 #[.val (.int (7 : Int32)), .val (.int c0), .val (.int c1), .val (.int c2), .val (.int c3), .val (.int c4), .val (.int c5), .val (.int c6), .val (.int c7)] [(.int (7 : Int32)), (.int (7 : Int32))])) _
      refine XS.icmpNo X0.here hx rfl (hb hby d2_206) rfl (XT.ii_ne_f (by decide)) ?_
      exact kk_)
    obtain ⟨T562, h562, X562, e562, E562, A562, D562, -, st562⟩ := newO X0 hx hZ hown (hw _ (List.mem_of_getElem? (i := 9) rfl)) (hw _ (List.mem_of_getElem? (i := 10) rfl)) (hw _ (List.mem_of_getElem? (i := 11) rfl)) e0 (g := (mkF m 209 #[.val (.int (7 : Int32)), .val (.int c0), .val (.int c1), .val (.int c2), .val (.int c3), .val (.int c4), .val (.int c5), .val (.int c6), .val (.int c7)] [])) rfl (hb hby d2_209) (by decide) (by decide)
    obtain ⟨a562, g562⟩ : ∃ z, z = h0.size := ⟨_, rfl⟩
    rw [← g562] at A562 D562 st562
    have S563 : own_Go p e below s₁ G T562 (mkF m 212 #[.val (.int (7 : Int32)), .val (.int c0), .val (.int c1), .val (.int c2), .val (.int c3), .val (.int c4), .val (.int c5), .val (.int c6), .val (.int c7)] [(.ref a562)]) := fun tg_ kk_ => S561 tg_ (st562 tg_ kk_)
    have Fv : Fld Z h562 a562 "java/lang/String" "value" "[B" .null := D562 (Or.inr (hw _ (List.mem_of_getElem? (i := 38) rfl))) (ty := .array .byte) (by decide)
    have Fc : Fld Z h562 a562 "java/lang/String" "coder" "B" (.int 0) := D562 (Or.inr (hw _ (List.mem_of_getElem? (i := 36) rfl))) (ty := .byte) (by decide)
    have hx0 : n0 ≤ a562 := Nat.le_trans Z0 (Nat.le_of_eq g562.symm)
    have Oa := O.ext E562
    have Za := own_sub Z0 E562
    have S564 : own_Go p e below s₁ G T562 (mkF m 215 #[.val (.int (7 : Int32)), .val (.int c0), .val (.int c1), .val (.int c2), .val (.int c3), .val (.int c4), .val (.int c5), .val (.int c6), .val (.int c7)] [(.int (7 : Int32)), (.ref a562), (.ref a562)]) := fun tg_ kk_ => S563 tg_ (by
      refine XS.dup X562.here hx rfl (hb hby d2_212) rfl rfl ?_
      show Steps p.tables e below (T562.setTop (mkF m 213 #[.val (.int (7 : Int32)), .val (.int c0), .val (.int c1), .val (.int c2), .val (.int c3), .val (.int c4), .val (.int c5), .val (.int c6), .val (.int c7)] [(.ref a562), (.ref a562)])) _
      refine XS.bipush X562.here hx rfl (hb hby d2_213) ?_
      exact kk_)
    obtain ⟨Tp1, hp1, kp1, Xp1, ep1, Ep1, Ap1, stp1⟩ := newP X562 hx hZ (hw _ (List.mem_of_getElem? (i := 12) rfl)) e562 (g := (mkF m 215 #[.val (.int (7 : Int32)), .val (.int c0), .val (.int c1), .val (.int c2), .val (.int c3), .val (.int c4), .val (.int c5), .val (.int c6), .val (.int c7)] [(.int (7 : Int32)), (.ref a562), (.ref a562)])) rfl (hb hby d2_215) rfl (by decide) (cap := 8) (by decide) (by decide) (by decide) (by decide)
    have S565 : own_Go p e below s₁ G Tp1 (mkF m 217 #[.val (.int (7 : Int32)), .val (.int c0), .val (.int c1), .val (.int c2), .val (.int c3), .val (.int c4), .val (.int c5), .val (.int c6), .val (.int c7)] [(.ref h562.size), (.ref a562), (.ref a562)]) := fun tg_ kk_ => S564 tg_ (stp1 tg_ kk_)
    obtain ⟨b, gb⟩ : ∃ z, z = h562.size := ⟨_, rfl⟩
    rw [← gb] at S565
    rw [← gb] at Ap1
    have hb0 : n0 ≤ b := Nat.le_trans Za (Nat.le_of_eq gb.symm)
    have V0 : Arv Z hp1 b kp1 .char (7 : Int32) [] (.int 0) := Arv.new Ap1 (by decide)
    have Oq := Oa.ext Ep1
    have Zq := own_sub Za Ep1
    have Exq := A562.ext Ep1
    have Fvq := Fv.ext Ep1
    have Fcq := Fc.ext Ep1
    have hbx : b ≠ a562 := Nat.ne_of_gt (Nat.lt_of_lt_of_le A562.lt (Nat.le_of_eq gb.symm))
    have S566 : own_Go p e below s₁ G Tp1 (mkF m 220 #[.val (.int (7 : Int32)), .val (.int c0), .val (.int c1), .val (.int c2), .val (.int c3), .val (.int c4), .val (.int c5), .val (.int c6), .val (.int c7)] [(.int c0), (.int (0 : Int32)), (.ref b), (.ref b), (.ref a562), (.ref a562)]) := fun tg_ kk_ => S565 tg_ (by
      refine XS.dup Xp1.here hx rfl (hb hby d2_217) rfl rfl ?_
      show Steps p.tables e below (Tp1.setTop (mkF m 218 #[.val (.int (7 : Int32)), .val (.int c0), .val (.int c1), .val (.int c2), .val (.int c3), .val (.int c4), .val (.int c5), .val (.int c6), .val (.int c7)] [(.ref b), (.ref b), (.ref a562), (.ref a562)])) _
      refine XS.iconst Xp1.here hx rfl (hb hby d2_218) ?_
      show Steps p.tables e below (Tp1.setTop (mkF m 219 #[.val (.int (7 : Int32)), .val (.int c0), .val (.int c1), .val (.int c2), .val (.int c3), .val (.int c4), .val (.int c5), .val (.int c6), .val (.int c7)] [(.int (0 : Int32)), (.ref b), (.ref b), (.ref a562), (.ref a562)])) _
      refine XS.iloadN Xp1.here hx rfl (hb hby d2_219) rfl ?_
      exact kk_)
    obtain ⟨cl0, B0, b0, z0, y0, H0, F0⟩ := id V0
    obtain ⟨U0, u0, Y0, f0, W0, su0⟩ := stC Xp1 hx hZ ep1 B0 (j := (0 : Int32)) (inb_of z0 (by decide)) (g := (mkF m 220 #[.val (.int (7 : Int32)), .val (.int c0), .val (.int c1), .val (.int c2), .val (.int c3), .val (.int c4), .val (.int c5), .val (.int c6), .val (.int c7)] [(.int c0), (.int (0 : Int32)), (.ref b), (.ref b), (.ref a562), (.ref a562)])) rfl rfl (hb hby d2_220)
    have S567 : own_Go p e below s₁ G U0 (mkF m 221 #[.val (.int (7 : Int32)), .val (.int c0), .val (.int c1), .val (.int c2), .val (.int c3), .val (.int c4), .val (.int c5), .val (.int c6), .val (.int c7)] [(.ref b), (.ref a562), (.ref a562)]) := fun tg_ kk_ => S566 tg_ (su0 tg_ kk_)
    have hB0 : own_B c0 := hc c0 (by simp)
    rw [own_nar_char hB0.ch] at W0
    have V1 : Arv Z u0 b kp1 .char (7 : Int32) [.int c0] (.int 0) := own_push V0 (own_fit_ch hB0.ch) W0 rfl
    have NB0 := Fr.snoc Y0 N0 hb0
    have O0a := Oq.wr W0 hb0
    have Z0a : n0 ≤ u0.size := by rw [W0.size]; exact Zq
    have Ex0 := Exq.wr W0
    have Fv0 := Fvq.other W0 (Or.inl hbx.symm)
    have Fc0 := Fcq.other W0 (Or.inl hbx.symm)
    have S568 : own_Go p e below s₁ G U0 (mkF m 224 #[.val (.int (7 : Int32)), .val (.int c0), .val (.int c1), .val (.int c2), .val (.int c3), .val (.int c4), .val (.int c5), .val (.int c6), .val (.int c7)] [(.int c1), (.int (1 : Int32)), (.ref b), (.ref b), (.ref a562), (.ref a562)]) := fun tg_ kk_ => S567 tg_ (by
      refine XS.dup Y0.here hx rfl (hb hby d2_221) rfl rfl ?_
      show Steps p.tables e below (U0.setTop (mkF m 222 #[.val (.int (7 : Int32)), .val (.int c0), .val (.int c1), .val (.int c2), .val (.int c3), .val (.int c4), .val (.int c5), .val (.int c6), .val (.int c7)] [(.ref b), (.ref b), (.ref a562), (.ref a562)])) _
      refine XS.iconst Y0.here hx rfl (hb hby d2_222) ?_
      show Steps p.tables e below (U0.setTop (mkF m 223 #[.val (.int (7 : Int32)), .val (.int c0), .val (.int c1), .val (.int c2), .val (.int c3), .val (.int c4), .val (.int c5), .val (.int c6), .val (.int c7)] [(.int (1 : Int32)), (.ref b), (.ref b), (.ref a562), (.ref a562)])) _
      refine XS.iloadN Y0.here hx rfl (hb hby d2_223) rfl ?_
      exact kk_)
    obtain ⟨cl1, B1, b1, z1, y1, H1, F1⟩ := id V1
    obtain ⟨U1, u1, Y1, f1, W1, su1⟩ := stC Y0 hx hZ f0 B1 (j := (1 : Int32)) (inb_of z1 (by decide)) (g := (mkF m 224 #[.val (.int (7 : Int32)), .val (.int c0), .val (.int c1), .val (.int c2), .val (.int c3), .val (.int c4), .val (.int c5), .val (.int c6), .val (.int c7)] [(.int c1), (.int (1 : Int32)), (.ref b), (.ref b), (.ref a562), (.ref a562)])) rfl rfl (hb hby d2_224)
    have S569 : own_Go p e below s₁ G U1 (mkF m 225 #[.val (.int (7 : Int32)), .val (.int c0), .val (.int c1), .val (.int c2), .val (.int c3), .val (.int c4), .val (.int c5), .val (.int c6), .val (.int c7)] [(.ref b), (.ref a562), (.ref a562)]) := fun tg_ kk_ => S568 tg_ (su1 tg_ kk_)
    have hB1 : own_B c1 := hc c1 (by simp)
    rw [own_nar_char hB1.ch] at W1
    have V2 : Arv Z u1 b kp1 .char (7 : Int32) [.int c0, .int c1] (.int 0) := own_push V1 (own_fit_ch hB1.ch) W1 rfl
    have NB1 := Fr.snoc Y1 NB0 hb0
    have O1a := O0a.wr W1 hb0
    have Z1a : n0 ≤ u1.size := by rw [W1.size]; exact Z0a
    have Ex1 := Ex0.wr W1
    have Fv1 := Fv0.other W1 (Or.inl hbx.symm)
    have Fc1 := Fc0.other W1 (Or.inl hbx.symm)
    have S570 : own_Go p e below s₁ G U1 (mkF m 228 #[.val (.int (7 : Int32)), .val (.int c0), .val (.int c1), .val (.int c2), .val (.int c3), .val (.int c4), .val (.int c5), .val (.int c6), .val (.int c7)] [(.int c2), (.int (2 : Int32)), (.ref b), (.ref b), (.ref a562), (.ref a562)]) := fun tg_ kk_ => S569 tg_ (by
      refine XS.dup Y1.here hx rfl (hb hby d2_225) rfl rfl ?_
      show Steps p.tables e below (U1.setTop (mkF m 226 #[.val (.int (7 : Int32)), .val (.int c0), .val (.int c1), .val (.int c2), .val (.int c3), .val (.int c4), .val (.int c5), .val (.int c6), .val (.int c7)] [(.ref b), (.ref b), (.ref a562), (.ref a562)])) _
      refine XS.iconst Y1.here hx rfl (hb hby d2_226) ?_
      show Steps p.tables e below (U1.setTop (mkF m 227 #[.val (.int (7 : Int32)), .val (.int c0), .val (.int c1), .val (.int c2), .val (.int c3), .val (.int c4), .val (.int c5), .val (.int c6), .val (.int c7)] [(.int (2 : Int32)), (.ref b), (.ref b), (.ref a562), (.ref a562)])) _
      refine XS.iloadN Y1.here hx rfl (hb hby d2_227) rfl ?_
      exact kk_)
    obtain ⟨cl2, B2, b2, z2, y2, H2, F2⟩ := id V2
    obtain ⟨U2, u2, Y2, f2, W2, su2⟩ := stC Y1 hx hZ f1 B2 (j := (2 : Int32)) (inb_of z2 (by decide)) (g := (mkF m 228 #[.val (.int (7 : Int32)), .val (.int c0), .val (.int c1), .val (.int c2), .val (.int c3), .val (.int c4), .val (.int c5), .val (.int c6), .val (.int c7)] [(.int c2), (.int (2 : Int32)), (.ref b), (.ref b), (.ref a562), (.ref a562)])) rfl rfl (hb hby d2_228)
    have S571 : own_Go p e below s₁ G U2 (mkF m 229 #[.val (.int (7 : Int32)), .val (.int c0), .val (.int c1), .val (.int c2), .val (.int c3), .val (.int c4), .val (.int c5), .val (.int c6), .val (.int c7)] [(.ref b), (.ref a562), (.ref a562)]) := fun tg_ kk_ => S570 tg_ (su2 tg_ kk_)
    have hB2 : own_B c2 := hc c2 (by simp)
    rw [own_nar_char hB2.ch] at W2
    have V3 : Arv Z u2 b kp1 .char (7 : Int32) [.int c0, .int c1, .int c2] (.int 0) := own_push V2 (own_fit_ch hB2.ch) W2 rfl
    have NB2 := Fr.snoc Y2 NB1 hb0
    have O2a := O1a.wr W2 hb0
    have Z2a : n0 ≤ u2.size := by rw [W2.size]; exact Z1a
    have Ex2 := Ex1.wr W2
    have Fv2 := Fv1.other W2 (Or.inl hbx.symm)
    have Fc2 := Fc1.other W2 (Or.inl hbx.symm)
    have S572 : own_Go p e below s₁ G U2 (mkF m 233 #[.val (.int (7 : Int32)), .val (.int c0), .val (.int c1), .val (.int c2), .val (.int c3), .val (.int c4), .val (.int c5), .val (.int c6), .val (.int c7)] [(.int c3), (.int (3 : Int32)), (.ref b), (.ref b), (.ref a562), (.ref a562)]) := fun tg_ kk_ => S571 tg_ (by
      refine XS.dup Y2.here hx rfl (hb hby d2_229) rfl rfl ?_
      show Steps p.tables e below (U2.setTop (mkF m 230 #[.val (.int (7 : Int32)), .val (.int c0), .val (.int c1), .val (.int c2), .val (.int c3), .val (.int c4), .val (.int c5), .val (.int c6), .val (.int c7)] [(.ref b), (.ref b), (.ref a562), (.ref a562)])) _
      refine XS.iconst Y2.here hx rfl (hb hby d2_230) ?_
      show Steps p.tables e below (U2.setTop (mkF m 231 #[.val (.int (7 : Int32)), .val (.int c0), .val (.int c1), .val (.int c2), .val (.int c3), .val (.int c4), .val (.int c5), .val (.int c6), .val (.int c7)] [(.int (3 : Int32)), (.ref b), (.ref b), (.ref a562), (.ref a562)])) _
      refine XS.iload Y2.here hx rfl (hb hby d2_231) rfl ?_
      exact kk_)
    obtain ⟨cl3, B3, b3, z3, y3, H3, F3⟩ := id V3
    obtain ⟨U3, u3, Y3, f3, W3, su3⟩ := stC Y2 hx hZ f2 B3 (j := (3 : Int32)) (inb_of z3 (by decide)) (g := (mkF m 233 #[.val (.int (7 : Int32)), .val (.int c0), .val (.int c1), .val (.int c2), .val (.int c3), .val (.int c4), .val (.int c5), .val (.int c6), .val (.int c7)] [(.int c3), (.int (3 : Int32)), (.ref b), (.ref b), (.ref a562), (.ref a562)])) rfl rfl (hb hby d2_233)
    have S573 : own_Go p e below s₁ G U3 (mkF m 234 #[.val (.int (7 : Int32)), .val (.int c0), .val (.int c1), .val (.int c2), .val (.int c3), .val (.int c4), .val (.int c5), .val (.int c6), .val (.int c7)] [(.ref b), (.ref a562), (.ref a562)]) := fun tg_ kk_ => S572 tg_ (su3 tg_ kk_)
    have hB3 : own_B c3 := hc c3 (by simp)
    rw [own_nar_char hB3.ch] at W3
    have V4 : Arv Z u3 b kp1 .char (7 : Int32) [.int c0, .int c1, .int c2, .int c3] (.int 0) := own_push V3 (own_fit_ch hB3.ch) W3 rfl
    have NB3 := Fr.snoc Y3 NB2 hb0
    have O3a := O2a.wr W3 hb0
    have Z3a : n0 ≤ u3.size := by rw [W3.size]; exact Z2a
    have Ex3 := Ex2.wr W3
    have Fv3 := Fv2.other W3 (Or.inl hbx.symm)
    have Fc3 := Fc2.other W3 (Or.inl hbx.symm)
    have S574 : own_Go p e below s₁ G U3 (mkF m 238 #[.val (.int (7 : Int32)), .val (.int c0), .val (.int c1), .val (.int c2), .val (.int c3), .val (.int c4), .val (.int c5), .val (.int c6), .val (.int c7)] [(.int c4), (.int (4 : Int32)), (.ref b), (.ref b), (.ref a562), (.ref a562)]) := fun tg_ kk_ => S573 tg_ (by
      refine XS.dup Y3.here hx rfl (hb hby d2_234) rfl rfl ?_
      show Steps p.tables e below (U3.setTop (mkF m 235 #[.val (.int (7 : Int32)), .val (.int c0), .val (.int c1), .val (.int c2), .val (.int c3), .val (.int c4), .val (.int c5), .val (.int c6), .val (.int c7)] [(.ref b), (.ref b), (.ref a562), (.ref a562)])) _
      refine XS.iconst Y3.here hx rfl (hb hby d2_235) ?_
      show Steps p.tables e below (U3.setTop (mkF m 236 #[.val (.int (7 : Int32)), .val (.int c0), .val (.int c1), .val (.int c2), .val (.int c3), .val (.int c4), .val (.int c5), .val (.int c6), .val (.int c7)] [(.int (4 : Int32)), (.ref b), (.ref b), (.ref a562), (.ref a562)])) _
      refine XS.iload Y3.here hx rfl (hb hby d2_236) rfl ?_
      exact kk_)
    obtain ⟨cl4, B4, b4, z4, y4, H4, F4⟩ := id V4
    obtain ⟨U4, u4, Y4, f4, W4, su4⟩ := stC Y3 hx hZ f3 B4 (j := (4 : Int32)) (inb_of z4 (by decide)) (g := (mkF m 238 #[.val (.int (7 : Int32)), .val (.int c0), .val (.int c1), .val (.int c2), .val (.int c3), .val (.int c4), .val (.int c5), .val (.int c6), .val (.int c7)] [(.int c4), (.int (4 : Int32)), (.ref b), (.ref b), (.ref a562), (.ref a562)])) rfl rfl (hb hby d2_238)
    have S575 : own_Go p e below s₁ G U4 (mkF m 239 #[.val (.int (7 : Int32)), .val (.int c0), .val (.int c1), .val (.int c2), .val (.int c3), .val (.int c4), .val (.int c5), .val (.int c6), .val (.int c7)] [(.ref b), (.ref a562), (.ref a562)]) := fun tg_ kk_ => S574 tg_ (su4 tg_ kk_)
    have hB4 : own_B c4 := hc c4 (by simp)
    rw [own_nar_char hB4.ch] at W4
    have V5 : Arv Z u4 b kp1 .char (7 : Int32) [.int c0, .int c1, .int c2, .int c3, .int c4] (.int 0) := own_push V4 (own_fit_ch hB4.ch) W4 rfl
    have NB4 := Fr.snoc Y4 NB3 hb0
    have O4a := O3a.wr W4 hb0
    have Z4a : n0 ≤ u4.size := by rw [W4.size]; exact Z3a
    have Ex4 := Ex3.wr W4
    have Fv4 := Fv3.other W4 (Or.inl hbx.symm)
    have Fc4 := Fc3.other W4 (Or.inl hbx.symm)
    have S576 : own_Go p e below s₁ G U4 (mkF m 243 #[.val (.int (7 : Int32)), .val (.int c0), .val (.int c1), .val (.int c2), .val (.int c3), .val (.int c4), .val (.int c5), .val (.int c6), .val (.int c7)] [(.int c5), (.int (5 : Int32)), (.ref b), (.ref b), (.ref a562), (.ref a562)]) := fun tg_ kk_ => S575 tg_ (by
      refine XS.dup Y4.here hx rfl (hb hby d2_239) rfl rfl ?_
      show Steps p.tables e below (U4.setTop (mkF m 240 #[.val (.int (7 : Int32)), .val (.int c0), .val (.int c1), .val (.int c2), .val (.int c3), .val (.int c4), .val (.int c5), .val (.int c6), .val (.int c7)] [(.ref b), (.ref b), (.ref a562), (.ref a562)])) _
      refine XS.iconst Y4.here hx rfl (hb hby d2_240) ?_
      show Steps p.tables e below (U4.setTop (mkF m 241 #[.val (.int (7 : Int32)), .val (.int c0), .val (.int c1), .val (.int c2), .val (.int c3), .val (.int c4), .val (.int c5), .val (.int c6), .val (.int c7)] [(.int (5 : Int32)), (.ref b), (.ref b), (.ref a562), (.ref a562)])) _
      refine XS.iload Y4.here hx rfl (hb hby d2_241) rfl ?_
      exact kk_)
    obtain ⟨cl5, B5, b5, z5, y5, H5, F5⟩ := id V5
    obtain ⟨U5, u5, Y5, f5, W5, su5⟩ := stC Y4 hx hZ f4 B5 (j := (5 : Int32)) (inb_of z5 (by decide)) (g := (mkF m 243 #[.val (.int (7 : Int32)), .val (.int c0), .val (.int c1), .val (.int c2), .val (.int c3), .val (.int c4), .val (.int c5), .val (.int c6), .val (.int c7)] [(.int c5), (.int (5 : Int32)), (.ref b), (.ref b), (.ref a562), (.ref a562)])) rfl rfl (hb hby d2_243)
    have S577 : own_Go p e below s₁ G U5 (mkF m 244 #[.val (.int (7 : Int32)), .val (.int c0), .val (.int c1), .val (.int c2), .val (.int c3), .val (.int c4), .val (.int c5), .val (.int c6), .val (.int c7)] [(.ref b), (.ref a562), (.ref a562)]) := fun tg_ kk_ => S576 tg_ (su5 tg_ kk_)
    have hB5 : own_B c5 := hc c5 (by simp)
    rw [own_nar_char hB5.ch] at W5
    have V6 : Arv Z u5 b kp1 .char (7 : Int32) [.int c0, .int c1, .int c2, .int c3, .int c4, .int c5] (.int 0) := own_push V5 (own_fit_ch hB5.ch) W5 rfl
    have NB5 := Fr.snoc Y5 NB4 hb0
    have O5a := O4a.wr W5 hb0
    have Z5a : n0 ≤ u5.size := by rw [W5.size]; exact Z4a
    have Ex5 := Ex4.wr W5
    have Fv5 := Fv4.other W5 (Or.inl hbx.symm)
    have Fc5 := Fc4.other W5 (Or.inl hbx.symm)
    have S578 : own_Go p e below s₁ G U5 (mkF m 249 #[.val (.int (7 : Int32)), .val (.int c0), .val (.int c1), .val (.int c2), .val (.int c3), .val (.int c4), .val (.int c5), .val (.int c6), .val (.int c7)] [(.int c6), (.int (6 : Int32)), (.ref b), (.ref b), (.ref a562), (.ref a562)]) := fun tg_ kk_ => S577 tg_ (by
      refine XS.dup Y5.here hx rfl (hb hby d2_244) rfl rfl ?_
      show Steps p.tables e below (U5.setTop (mkF m 245 #[.val (.int (7 : Int32)), .val (.int c0), .val (.int c1), .val (.int c2), .val (.int c3), .val (.int c4), .val (.int c5), .val (.int c6), .val (.int c7)] [(.ref b), (.ref b), (.ref a562), (.ref a562)])) _
      refine XS.bipush Y5.here hx rfl (hb hby d2_245) ?_
      show Steps p.tables e below (U5.setTop (mkF m 247 #[.val (.int (7 : Int32)), .val (.int c0), .val (.int c1), .val (.int c2), .val (.int c3), .val (.int c4), .val (.int c5), .val (.int c6), .val (.int c7)] [(.int (6 : Int32)), (.ref b), (.ref b), (.ref a562), (.ref a562)])) _
      refine XS.iload Y5.here hx rfl (hb hby d2_247) rfl ?_
      exact kk_)
    obtain ⟨cl6, B6, b6, z6, y6, H6, F6⟩ := id V6
    obtain ⟨U6, u6, Y6, f6, W6, su6⟩ := stC Y5 hx hZ f5 B6 (j := (6 : Int32)) (inb_of z6 (by decide)) (g := (mkF m 249 #[.val (.int (7 : Int32)), .val (.int c0), .val (.int c1), .val (.int c2), .val (.int c3), .val (.int c4), .val (.int c5), .val (.int c6), .val (.int c7)] [(.int c6), (.int (6 : Int32)), (.ref b), (.ref b), (.ref a562), (.ref a562)])) rfl rfl (hb hby d2_249)
    have S579 : own_Go p e below s₁ G U6 (mkF m 250 #[.val (.int (7 : Int32)), .val (.int c0), .val (.int c1), .val (.int c2), .val (.int c3), .val (.int c4), .val (.int c5), .val (.int c6), .val (.int c7)] [(.ref b), (.ref a562), (.ref a562)]) := fun tg_ kk_ => S578 tg_ (su6 tg_ kk_)
    have hB6 : own_B c6 := hc c6 (by simp)
    rw [own_nar_char hB6.ch] at W6
    have V7 : Arv Z u6 b kp1 .char (7 : Int32) [.int c0, .int c1, .int c2, .int c3, .int c4, .int c5, .int c6] (.int 0) := own_push V6 (own_fit_ch hB6.ch) W6 rfl
    have NB6 := Fr.snoc Y6 NB5 hb0
    have O6a := O5a.wr W6 hb0
    have Z6a : n0 ≤ u6.size := by rw [W6.size]; exact Z5a
    have Ex6 := Ex5.wr W6
    have Fv6 := Fv5.other W6 (Or.inl hbx.symm)
    have Fc6 := Fc5.other W6 (Or.inl hbx.symm)
    have hck : ∀ c ∈ [c0, c1, c2, c3, c4, c5, c6], own_B c := fun c hq => hc c (List.mem_of_mem_take (i := 7) hq)
    obtain ⟨_, T580, h580, L580, X580, e580, hQ580, st580⟩ := own_callI Y6 hx hZ (y := (⟨"java/lang/String", "<init>", "([C)V"⟩ : MethodName)) rfl hown (hw _ (List.mem_of_getElem? (i := 13) rfl)) (hw _ (List.mem_of_getElem? (i := 14) rfl)) (hw _ (List.mem_of_getElem? (i := 11) rfl)) (hw _ (List.mem_of_getElem? (i := 15) rfl)) (by decide) 1 (g := (mkF m 250 #[.val (.int (7 : Int32)), .val (.int c0), .val (.int c1), .val (.int c2), .val (.int c3), .val (.int c4), .val (.int c5), .val (.int c6), .val (.int c7)] [(.ref b), (.ref a562), (.ref a562)])) rfl (by rw [hml]; rfl) a562 [(.ref b)] [(.ref a562)] (rm3 l Z a0 hw [] a562 b [c0, c1, c2, c3, c4, c5, c6] u6 n0 Z6a z kp1 (by simp) Ex6 Fv6 Fc6 hx0 V7 O6a O2 P5 (own_nlat hck)) (lenOf pd4 rfl) rfl (by show 2 * 0 + _ ≤ _; exact Nat.le_of_eq rfl) (hb hby d2_250) (by decide) (by decide) f6 (by decide) (by decide)
    obtain ⟨rfl, N580, K580, t, ht, SS⟩ := hQ580
    have S581 : own_Go p e below s₁ G T580 (mkF m 253 #[.val (.int (7 : Int32)), .val (.int c0), .val (.int c1), .val (.int c2), .val (.int c3), .val (.int c4), .val (.int c5), .val (.int c6), .val (.int c7)] [(.ref a562)]) := fun tg_ kk_ => S579 tg_ (st580 tg_ kk_)
    have NC := Fr.app NB6 N580
    obtain ⟨fs, hr, hrun, hended, hW, hsame⟩ := X580.leave (v := some (.ref a562)) (fun h => by rw [Bd.returns] at h; cases h)
    refine ⟨_, _, ?_, hrun, hended, _, _, rfl, ?_, ReturnedEndW.of_narrow ⟨_, rfl⟩ hW (hsame.mono (by decide) (by decide))⟩
    · rw [← hG]; exact S581 _ (retOut X580 hx Bd.returns (by first | rfl | cases (.ref a562) <;> rfl) (Or.inr (Or.inr (Or.inr (Or.inr ⟨rfl, rfl, rfl⟩)))) (hb hby d2_253) hr)
    · show Q2 Z 7 c0 c1 c2 c3 c4 c5 c6 c7 h0 n0 _ T580.heap _
      rw [e580]
      exact ⟨a562, t, rfl, NC, O6a.keep K580 (allS hx0 all0), Nat.le_trans Z6a K580.1, SS⟩
  · have _ := N0
    have S582 : own_Go p e below s₁ G s₁ (mkF m 254 #[.val (.int (8 : Int32)), .val (.int c0), .val (.int c1), .val (.int c2), .val (.int c3), .val (.int c4), .val (.int c5), .val (.int c6), .val (.int c7)] []) := fun tg_ kk_ => S0 tg_ (by
      refine XS.iloadN X0.here hx rfl (hb hby d2_0) rfl ?_
      show Steps p.tables e below (s₁.setTop (mkF m 1 #[.val (.int (8 : Int32)), .val (.int c0), .val (.int c1), .val (.int c2), .val (.int c3), .val (.int c4), .val (.int c5), .val (.int c6), .val (.int c7)] [(.int (8 : Int32))])) _
      refine XS.ifYes X0.here hx rfl (pc0 := 1) (pc' := 15) rfl (hb hby d2_1) rfl (XT.i0_ne_t (by decide)) (by decide) (by decide) ?_
      show Steps p.tables e below (s₁.setTop (mkF m 15 #[.val (.int (8 : Int32)), .val (.int c0), .val (.int c1), .val (.int c2), .val (.int c3), .val (.int c4), .val (.int c5), .val (.int c6), .val (.int c7)] [])) _
      refine XS.iloadN X0.here hx rfl (hb hby d2_15) rfl ?_
      show Steps p.tables e below (s₁.setTop (mkF m 16 #[.val (.int (8 : Int32)), .val (.int c0), .val (.int c1), .val (.int c2), .val (.int c3), .val (.int c4), .val (.int c5), .val (.int c6), .val (.int c7)] [(.int (8 : Int32))])) _
      refine XS.iconst X0.here hx rfl (hb hby d2_16) ?_
      show Steps p.tables e below (s₁.setTop (mkF m 17 #[.val (.int (8 : Int32)), .val (.int c0), .val (.int c1), .val (.int c2), .val (.int c3), .val (.int c4), .val (.int c5), .val (.int c6), .val (.int c7)] [(.int (1 : Int32)), (.int (8 : Int32))])) _
      refine XS.icmpYes X0.here hx rfl (pc0 := 17) (pc' := 35) rfl (hb hby d2_17) rfl (XT.ii_ne_t (by decide)) (by decide) (by decide) ?_
      show Steps p.tables e below (s₁.setTop (mkF m 35 #[.val (.int (8 : Int32)), .val (.int c0), .val (.int c1), .val (.int c2), .val (.int c3), .val (.int c4), .val (.int c5), .val (.int c6), .val (.int c7)] [])) _
      refine XS.iloadN X0.here hx rfl (hb hby d2_35) rfl ?_
      show Steps p.tables e below (s₁.setTop (mkF m 36 #[.val (.int (8 : Int32)), .val (.int c0), .val (.int c1), .val (.int c2), .val (.int c3), .val (.int c4), .val (.int c5), .val (.int c6), .val (.int c7)] [(.int (8 : Int32))])) _
      refine XS.iconst X0.here hx rfl (hb hby d2_36) ?_
      show Steps p.tables e below (s₁.setTop (mkF m 37 #[.val (.int (8 : Int32)), .val (.int c0), .val (.int c1), .val (.int c2), .val (.int c3), .val (.int c4), .val (.int c5), .val (.int c6), .val (.int c7)] [(.int (2 : Int32)), (.int (8 : Int32))])) _
      refine XS.icmpYes X0.here hx rfl (pc0 := 37) (pc' := 59) rfl (hb hby d2_37) rfl (XT.ii_ne_t (by decide)) (by decide) (by decide) ?_
      show Steps p.tables e below (s₁.setTop (mkF m 59 #[.val (.int (8 : Int32)), .val (.int c0), .val (.int c1), .val (.int c2), .val (.int c3), .val (.int c4), .val (.int c5), .val (.int c6), .val (.int c7)] [])) _
      refine XS.iloadN X0.here hx rfl (hb hby d2_59) rfl ?_
      show Steps p.tables e below (s₁.setTop (mkF m 60 #[.val (.int (8 : Int32)), .val (.int c0), .val (.int c1), .val (.int c2), .val (.int c3), .val (.int c4), .val (.int c5), .val (.int c6), .val (.int c7)] [(.int (8 : Int32))])) _
      refine XS.iconst X0.here hx rfl (hb hby d2_60) ?_
      show Steps p.tables e below (s₁.setTop (mkF m 61 #[.val (.int (8 : Int32)), .val (.int c0), .val (.int c1), .val (.int c2), .val (.int c3), .val (.int c4), .val (.int c5), .val (.int c6), .val (.int c7)] [(.int (3 : Int32)), (.int (8 : Int32))])) _
      refine XS.icmpYes X0.here hx rfl (pc0 := 61) (pc' := 87) rfl (hb hby d2_61) rfl (XT.ii_ne_t (by decide)) (by decide) (by decide) ?_
      show Steps p.tables e below (s₁.setTop (mkF m 87 #[.val (.int (8 : Int32)), .val (.int c0), .val (.int c1), .val (.int c2), .val (.int c3), .val (.int c4), .val (.int c5), .val (.int c6), .val (.int c7)] [])) _
      refine XS.iloadN X0.here hx rfl (hb hby d2_87) rfl ?_
      show Steps p.tables e below (s₁.setTop (mkF m 88 #[.val (.int (8 : Int32)), .val (.int c0), .val (.int c1), .val (.int c2), .val (.int c3), .val (.int c4), .val (.int c5), .val (.int c6), .val (.int c7)] [(.int (8 : Int32))])) _
      refine XS.iconst X0.here hx rfl (hb hby d2_88) ?_
      show Steps p.tables e below (s₁.setTop (mkF m 89 #[.val (.int (8 : Int32)), .val (.int c0), .val (.int c1), .val (.int c2), .val (.int c3), .val (.int c4), .val (.int c5), .val (.int c6), .val (.int c7)] [(.int (4 : Int32)), (.int (8 : Int32))])) _
      refine XS.icmpYes X0.here hx rfl (pc0 := 89) (pc' := 120) rfl (hb hby d2_89) rfl (XT.ii_ne_t (by decide)) (by decide) (by decide) ?_
      show Steps p.tables e below (s₁.setTop (mkF m 120 #[.val (.int (8 : Int32)), .val (.int c0), .val (.int c1), .val (.int c2), .val (.int c3), .val (.int c4), .val (.int c5), .val (.int c6), .val (.int c7)] [])) _
      refine XS.iloadN X0.here hx rfl (hb hby d2_120) rfl ?_
      show Steps p.tables e below (s₁.setTop (mkF m 121 #[.val (.int (8 : Int32)), .val (.int c0), .val (.int c1), .val (.int c2), .val (.int c3), .val (.int c4), .val (.int c5), .val (.int c6), .val (.int c7)] [(.int (8 : Int32))])) _
      refine XS.iconst X0.here hx rfl (hb hby d2_121) ?_
      show Steps p.tables e below (s₁.setTop (mkF m 122 #[.val (.int (8 : Int32)), .val (.int c0), .val (.int c1), .val (.int c2), .val (.int c3), .val (.int c4), .val (.int c5), .val (.int c6), .val (.int c7)] [(.int (5 : Int32)), (.int (8 : Int32))])) _
      refine XS.icmpYes X0.here hx rfl (pc0 := 122) (pc' := 158) rfl (hb hby d2_122) rfl (XT.ii_ne_t (by decide)) (by decide) (by decide) ?_
      show Steps p.tables e below (s₁.setTop (mkF m 158 #[.val (.int (8 : Int32)), .val (.int c0), .val (.int c1), .val (.int c2), .val (.int c3), .val (.int c4), .val (.int c5), .val (.int c6), .val (.int c7)] [])) _
      refine XS.iloadN X0.here hx rfl (hb hby d2_158) rfl ?_
      show Steps p.tables e below (s₁.setTop (mkF m 159 #[.val (.int (8 : Int32)), .val (.int c0), .val (.int c1), .val (.int c2), .val (.int c3), .val (.int c4), .val (.int c5), .val (.int c6), .val (.int c7)] [(.int (8 : Int32))])) _
      refine XS.bipush X0.here hx rfl (hb hby d2_159) ?_
      show Steps p.tables e below (s₁.setTop (mkF m 161 #[.val (.int (8 : Int32)), .val (.int c0), .val (.int c1), .val (.int c2), .val (.int c3), .val (.int c4), .val (.int c5), .val (.int c6), .val (.int c7)] [(.int (6 : Int32)), (.int (8 : Int32))])) _
      refine XS.icmpYes X0.here hx rfl (pc0 := 161) (pc' := 203) rfl (hb hby d2_161) rfl (XT.ii_ne_t (by decide)) (by decide) (by decide) ?_
      show Steps p.tables e below (s₁.setTop (mkF m 203 #[.val (.int (8 : Int32)), .val (.int c0), .val (.int c1), .val (.int c2), .val (.int c3), .val (.int c4), .val (.int c5), .val (.int c6), .val (.int c7)] [])) _
      refine XS.iloadN X0.here hx rfl (hb hby d2_203) rfl ?_
      show Steps p.tables e below (s₁.setTop (mkF m 204 #[.val (.int (8 : Int32)), .val (.int c0), .val (.int c1), .val (.int c2), .val (.int c3), .val (.int c4), .val (.int c5), .val (.int c6), .val (.int c7)] [(.int (8 : Int32))])) _
      refine XS.bipush X0.here hx rfl (hb hby d2_204) ?_
      show Steps p.tables e below (s₁.setTop (mkF m 206 #[.val (.int (8 : Int32)), .val (.int c0), .val (.int c1), .val (.int c2), .val (.int c3), .val (.int c4), .val (.int c5), .val (.int c6), .val (.int c7)] [(.int (7 : Int32)), (.int (8 : Int32))])) _
      refine XS.icmpYes X0.here hx rfl (pc0 := 206) (pc' := 254) rfl (hb hby d2_206) rfl (XT.ii_ne_t (by decide)) (by decide) (by decide) ?_
      exact kk_)
    obtain ⟨T583, h583, X583, e583, E583, A583, D583, -, st583⟩ := newO X0 hx hZ hown (hw _ (List.mem_of_getElem? (i := 9) rfl)) (hw _ (List.mem_of_getElem? (i := 10) rfl)) (hw _ (List.mem_of_getElem? (i := 11) rfl)) e0 (g := (mkF m 254 #[.val (.int (8 : Int32)), .val (.int c0), .val (.int c1), .val (.int c2), .val (.int c3), .val (.int c4), .val (.int c5), .val (.int c6), .val (.int c7)] [])) rfl (hb hby d2_254) (by decide) (by decide)
    obtain ⟨a583, g583⟩ : ∃ z, z = h0.size := ⟨_, rfl⟩
    rw [← g583] at A583 D583 st583
    have S584 : own_Go p e below s₁ G T583 (mkF m 257 #[.val (.int (8 : Int32)), .val (.int c0), .val (.int c1), .val (.int c2), .val (.int c3), .val (.int c4), .val (.int c5), .val (.int c6), .val (.int c7)] [(.ref a583)]) := fun tg_ kk_ => S582 tg_ (st583 tg_ kk_)
    have Fv : Fld Z h583 a583 "java/lang/String" "value" "[B" .null := D583 (Or.inr (hw _ (List.mem_of_getElem? (i := 38) rfl))) (ty := .array .byte) (by decide)
    have Fc : Fld Z h583 a583 "java/lang/String" "coder" "B" (.int 0) := D583 (Or.inr (hw _ (List.mem_of_getElem? (i := 36) rfl))) (ty := .byte) (by decide)
    have hx0 : n0 ≤ a583 := Nat.le_trans Z0 (Nat.le_of_eq g583.symm)
    have Oa := O.ext E583
    have Za := own_sub Z0 E583
    have S585 : own_Go p e below s₁ G T583 (mkF m 260 #[.val (.int (8 : Int32)), .val (.int c0), .val (.int c1), .val (.int c2), .val (.int c3), .val (.int c4), .val (.int c5), .val (.int c6), .val (.int c7)] [(.int (8 : Int32)), (.ref a583), (.ref a583)]) := fun tg_ kk_ => S584 tg_ (by
      refine XS.dup X583.here hx rfl (hb hby d2_257) rfl rfl ?_
      show Steps p.tables e below (T583.setTop (mkF m 258 #[.val (.int (8 : Int32)), .val (.int c0), .val (.int c1), .val (.int c2), .val (.int c3), .val (.int c4), .val (.int c5), .val (.int c6), .val (.int c7)] [(.ref a583), (.ref a583)])) _
      refine XS.bipush X583.here hx rfl (hb hby d2_258) ?_
      exact kk_)
    obtain ⟨Tp1, hp1, kp1, Xp1, ep1, Ep1, Ap1, stp1⟩ := newP X583 hx hZ (hw _ (List.mem_of_getElem? (i := 12) rfl)) e583 (g := (mkF m 260 #[.val (.int (8 : Int32)), .val (.int c0), .val (.int c1), .val (.int c2), .val (.int c3), .val (.int c4), .val (.int c5), .val (.int c6), .val (.int c7)] [(.int (8 : Int32)), (.ref a583), (.ref a583)])) rfl (hb hby d2_260) rfl (by decide) (cap := 8) (by decide) (by decide) (by decide) (by decide)
    have S586 : own_Go p e below s₁ G Tp1 (mkF m 262 #[.val (.int (8 : Int32)), .val (.int c0), .val (.int c1), .val (.int c2), .val (.int c3), .val (.int c4), .val (.int c5), .val (.int c6), .val (.int c7)] [(.ref h583.size), (.ref a583), (.ref a583)]) := fun tg_ kk_ => S585 tg_ (stp1 tg_ kk_)
    obtain ⟨b, gb⟩ : ∃ z, z = h583.size := ⟨_, rfl⟩
    rw [← gb] at S586
    rw [← gb] at Ap1
    have hb0 : n0 ≤ b := Nat.le_trans Za (Nat.le_of_eq gb.symm)
    have V0 : Arv Z hp1 b kp1 .char (8 : Int32) [] (.int 0) := Arv.new Ap1 (by decide)
    have Oq := Oa.ext Ep1
    have Zq := own_sub Za Ep1
    have Exq := A583.ext Ep1
    have Fvq := Fv.ext Ep1
    have Fcq := Fc.ext Ep1
    have hbx : b ≠ a583 := Nat.ne_of_gt (Nat.lt_of_lt_of_le A583.lt (Nat.le_of_eq gb.symm))
    have S587 : own_Go p e below s₁ G Tp1 (mkF m 265 #[.val (.int (8 : Int32)), .val (.int c0), .val (.int c1), .val (.int c2), .val (.int c3), .val (.int c4), .val (.int c5), .val (.int c6), .val (.int c7)] [(.int c0), (.int (0 : Int32)), (.ref b), (.ref b), (.ref a583), (.ref a583)]) := fun tg_ kk_ => S586 tg_ (by
      refine XS.dup Xp1.here hx rfl (hb hby d2_262) rfl rfl ?_
      show Steps p.tables e below (Tp1.setTop (mkF m 263 #[.val (.int (8 : Int32)), .val (.int c0), .val (.int c1), .val (.int c2), .val (.int c3), .val (.int c4), .val (.int c5), .val (.int c6), .val (.int c7)] [(.ref b), (.ref b), (.ref a583), (.ref a583)])) _
      refine XS.iconst Xp1.here hx rfl (hb hby d2_263) ?_
      show Steps p.tables e below (Tp1.setTop (mkF m 264 #[.val (.int (8 : Int32)), .val (.int c0), .val (.int c1), .val (.int c2), .val (.int c3), .val (.int c4), .val (.int c5), .val (.int c6), .val (.int c7)] [(.int (0 : Int32)), (.ref b), (.ref b), (.ref a583), (.ref a583)])) _
      refine XS.iloadN Xp1.here hx rfl (hb hby d2_264) rfl ?_
      exact kk_)
    obtain ⟨cl0, B0, b0, z0, y0, H0, F0⟩ := id V0
    obtain ⟨U0, u0, Y0, f0, W0, su0⟩ := stC Xp1 hx hZ ep1 B0 (j := (0 : Int32)) (inb_of z0 (by decide)) (g := (mkF m 265 #[.val (.int (8 : Int32)), .val (.int c0), .val (.int c1), .val (.int c2), .val (.int c3), .val (.int c4), .val (.int c5), .val (.int c6), .val (.int c7)] [(.int c0), (.int (0 : Int32)), (.ref b), (.ref b), (.ref a583), (.ref a583)])) rfl rfl (hb hby d2_265)
    have S588 : own_Go p e below s₁ G U0 (mkF m 266 #[.val (.int (8 : Int32)), .val (.int c0), .val (.int c1), .val (.int c2), .val (.int c3), .val (.int c4), .val (.int c5), .val (.int c6), .val (.int c7)] [(.ref b), (.ref a583), (.ref a583)]) := fun tg_ kk_ => S587 tg_ (su0 tg_ kk_)
    have hB0 : own_B c0 := hc c0 (by simp)
    rw [own_nar_char hB0.ch] at W0
    have V1 : Arv Z u0 b kp1 .char (8 : Int32) [.int c0] (.int 0) := own_push V0 (own_fit_ch hB0.ch) W0 rfl
    have NB0 := Fr.snoc Y0 N0 hb0
    have O0a := Oq.wr W0 hb0
    have Z0a : n0 ≤ u0.size := by rw [W0.size]; exact Zq
    have Ex0 := Exq.wr W0
    have Fv0 := Fvq.other W0 (Or.inl hbx.symm)
    have Fc0 := Fcq.other W0 (Or.inl hbx.symm)
    have S589 : own_Go p e below s₁ G U0 (mkF m 269 #[.val (.int (8 : Int32)), .val (.int c0), .val (.int c1), .val (.int c2), .val (.int c3), .val (.int c4), .val (.int c5), .val (.int c6), .val (.int c7)] [(.int c1), (.int (1 : Int32)), (.ref b), (.ref b), (.ref a583), (.ref a583)]) := fun tg_ kk_ => S588 tg_ (by
      refine XS.dup Y0.here hx rfl (hb hby d2_266) rfl rfl ?_
      show Steps p.tables e below (U0.setTop (mkF m 267 #[.val (.int (8 : Int32)), .val (.int c0), .val (.int c1), .val (.int c2), .val (.int c3), .val (.int c4), .val (.int c5), .val (.int c6), .val (.int c7)] [(.ref b), (.ref b), (.ref a583), (.ref a583)])) _
      refine XS.iconst Y0.here hx rfl (hb hby d2_267) ?_
      show Steps p.tables e below (U0.setTop (mkF m 268 #[.val (.int (8 : Int32)), .val (.int c0), .val (.int c1), .val (.int c2), .val (.int c3), .val (.int c4), .val (.int c5), .val (.int c6), .val (.int c7)] [(.int (1 : Int32)), (.ref b), (.ref b), (.ref a583), (.ref a583)])) _
      refine XS.iloadN Y0.here hx rfl (hb hby d2_268) rfl ?_
      exact kk_)
    obtain ⟨cl1, B1, b1, z1, y1, H1, F1⟩ := id V1
    obtain ⟨U1, u1, Y1, f1, W1, su1⟩ := stC Y0 hx hZ f0 B1 (j := (1 : Int32)) (inb_of z1 (by decide)) (g := (mkF m 269 #[.val (.int (8 : Int32)), .val (.int c0), .val (.int c1), .val (.int c2), .val (.int c3), .val (.int c4), .val (.int c5), .val (.int c6), .val (.int c7)] [(.int c1), (.int (1 : Int32)), (.ref b), (.ref b), (.ref a583), (.ref a583)])) rfl rfl (hb hby d2_269)
    have S590 : own_Go p e below s₁ G U1 (mkF m 270 #[.val (.int (8 : Int32)), .val (.int c0), .val (.int c1), .val (.int c2), .val (.int c3), .val (.int c4), .val (.int c5), .val (.int c6), .val (.int c7)] [(.ref b), (.ref a583), (.ref a583)]) := fun tg_ kk_ => S589 tg_ (su1 tg_ kk_)
    have hB1 : own_B c1 := hc c1 (by simp)
    rw [own_nar_char hB1.ch] at W1
    have V2 : Arv Z u1 b kp1 .char (8 : Int32) [.int c0, .int c1] (.int 0) := own_push V1 (own_fit_ch hB1.ch) W1 rfl
    have NB1 := Fr.snoc Y1 NB0 hb0
    have O1a := O0a.wr W1 hb0
    have Z1a : n0 ≤ u1.size := by rw [W1.size]; exact Z0a
    have Ex1 := Ex0.wr W1
    have Fv1 := Fv0.other W1 (Or.inl hbx.symm)
    have Fc1 := Fc0.other W1 (Or.inl hbx.symm)
    have S591 : own_Go p e below s₁ G U1 (mkF m 273 #[.val (.int (8 : Int32)), .val (.int c0), .val (.int c1), .val (.int c2), .val (.int c3), .val (.int c4), .val (.int c5), .val (.int c6), .val (.int c7)] [(.int c2), (.int (2 : Int32)), (.ref b), (.ref b), (.ref a583), (.ref a583)]) := fun tg_ kk_ => S590 tg_ (by
      refine XS.dup Y1.here hx rfl (hb hby d2_270) rfl rfl ?_
      show Steps p.tables e below (U1.setTop (mkF m 271 #[.val (.int (8 : Int32)), .val (.int c0), .val (.int c1), .val (.int c2), .val (.int c3), .val (.int c4), .val (.int c5), .val (.int c6), .val (.int c7)] [(.ref b), (.ref b), (.ref a583), (.ref a583)])) _
      refine XS.iconst Y1.here hx rfl (hb hby d2_271) ?_
      show Steps p.tables e below (U1.setTop (mkF m 272 #[.val (.int (8 : Int32)), .val (.int c0), .val (.int c1), .val (.int c2), .val (.int c3), .val (.int c4), .val (.int c5), .val (.int c6), .val (.int c7)] [(.int (2 : Int32)), (.ref b), (.ref b), (.ref a583), (.ref a583)])) _
      refine XS.iloadN Y1.here hx rfl (hb hby d2_272) rfl ?_
      exact kk_)
    obtain ⟨cl2, B2, b2, z2, y2, H2, F2⟩ := id V2
    obtain ⟨U2, u2, Y2, f2, W2, su2⟩ := stC Y1 hx hZ f1 B2 (j := (2 : Int32)) (inb_of z2 (by decide)) (g := (mkF m 273 #[.val (.int (8 : Int32)), .val (.int c0), .val (.int c1), .val (.int c2), .val (.int c3), .val (.int c4), .val (.int c5), .val (.int c6), .val (.int c7)] [(.int c2), (.int (2 : Int32)), (.ref b), (.ref b), (.ref a583), (.ref a583)])) rfl rfl (hb hby d2_273)
    have S592 : own_Go p e below s₁ G U2 (mkF m 274 #[.val (.int (8 : Int32)), .val (.int c0), .val (.int c1), .val (.int c2), .val (.int c3), .val (.int c4), .val (.int c5), .val (.int c6), .val (.int c7)] [(.ref b), (.ref a583), (.ref a583)]) := fun tg_ kk_ => S591 tg_ (su2 tg_ kk_)
    have hB2 : own_B c2 := hc c2 (by simp)
    rw [own_nar_char hB2.ch] at W2
    have V3 : Arv Z u2 b kp1 .char (8 : Int32) [.int c0, .int c1, .int c2] (.int 0) := own_push V2 (own_fit_ch hB2.ch) W2 rfl
    have NB2 := Fr.snoc Y2 NB1 hb0
    have O2a := O1a.wr W2 hb0
    have Z2a : n0 ≤ u2.size := by rw [W2.size]; exact Z1a
    have Ex2 := Ex1.wr W2
    have Fv2 := Fv1.other W2 (Or.inl hbx.symm)
    have Fc2 := Fc1.other W2 (Or.inl hbx.symm)
    have S593 : own_Go p e below s₁ G U2 (mkF m 278 #[.val (.int (8 : Int32)), .val (.int c0), .val (.int c1), .val (.int c2), .val (.int c3), .val (.int c4), .val (.int c5), .val (.int c6), .val (.int c7)] [(.int c3), (.int (3 : Int32)), (.ref b), (.ref b), (.ref a583), (.ref a583)]) := fun tg_ kk_ => S592 tg_ (by
      refine XS.dup Y2.here hx rfl (hb hby d2_274) rfl rfl ?_
      show Steps p.tables e below (U2.setTop (mkF m 275 #[.val (.int (8 : Int32)), .val (.int c0), .val (.int c1), .val (.int c2), .val (.int c3), .val (.int c4), .val (.int c5), .val (.int c6), .val (.int c7)] [(.ref b), (.ref b), (.ref a583), (.ref a583)])) _
      refine XS.iconst Y2.here hx rfl (hb hby d2_275) ?_
      show Steps p.tables e below (U2.setTop (mkF m 276 #[.val (.int (8 : Int32)), .val (.int c0), .val (.int c1), .val (.int c2), .val (.int c3), .val (.int c4), .val (.int c5), .val (.int c6), .val (.int c7)] [(.int (3 : Int32)), (.ref b), (.ref b), (.ref a583), (.ref a583)])) _
      refine XS.iload Y2.here hx rfl (hb hby d2_276) rfl ?_
      exact kk_)
    obtain ⟨cl3, B3, b3, z3, y3, H3, F3⟩ := id V3
    obtain ⟨U3, u3, Y3, f3, W3, su3⟩ := stC Y2 hx hZ f2 B3 (j := (3 : Int32)) (inb_of z3 (by decide)) (g := (mkF m 278 #[.val (.int (8 : Int32)), .val (.int c0), .val (.int c1), .val (.int c2), .val (.int c3), .val (.int c4), .val (.int c5), .val (.int c6), .val (.int c7)] [(.int c3), (.int (3 : Int32)), (.ref b), (.ref b), (.ref a583), (.ref a583)])) rfl rfl (hb hby d2_278)
    have S594 : own_Go p e below s₁ G U3 (mkF m 279 #[.val (.int (8 : Int32)), .val (.int c0), .val (.int c1), .val (.int c2), .val (.int c3), .val (.int c4), .val (.int c5), .val (.int c6), .val (.int c7)] [(.ref b), (.ref a583), (.ref a583)]) := fun tg_ kk_ => S593 tg_ (su3 tg_ kk_)
    have hB3 : own_B c3 := hc c3 (by simp)
    rw [own_nar_char hB3.ch] at W3
    have V4 : Arv Z u3 b kp1 .char (8 : Int32) [.int c0, .int c1, .int c2, .int c3] (.int 0) := own_push V3 (own_fit_ch hB3.ch) W3 rfl
    have NB3 := Fr.snoc Y3 NB2 hb0
    have O3a := O2a.wr W3 hb0
    have Z3a : n0 ≤ u3.size := by rw [W3.size]; exact Z2a
    have Ex3 := Ex2.wr W3
    have Fv3 := Fv2.other W3 (Or.inl hbx.symm)
    have Fc3 := Fc2.other W3 (Or.inl hbx.symm)
    have S595 : own_Go p e below s₁ G U3 (mkF m 283 #[.val (.int (8 : Int32)), .val (.int c0), .val (.int c1), .val (.int c2), .val (.int c3), .val (.int c4), .val (.int c5), .val (.int c6), .val (.int c7)] [(.int c4), (.int (4 : Int32)), (.ref b), (.ref b), (.ref a583), (.ref a583)]) := fun tg_ kk_ => S594 tg_ (by
      refine XS.dup Y3.here hx rfl (hb hby d2_279) rfl rfl ?_
      show Steps p.tables e below (U3.setTop (mkF m 280 #[.val (.int (8 : Int32)), .val (.int c0), .val (.int c1), .val (.int c2), .val (.int c3), .val (.int c4), .val (.int c5), .val (.int c6), .val (.int c7)] [(.ref b), (.ref b), (.ref a583), (.ref a583)])) _
      refine XS.iconst Y3.here hx rfl (hb hby d2_280) ?_
      show Steps p.tables e below (U3.setTop (mkF m 281 #[.val (.int (8 : Int32)), .val (.int c0), .val (.int c1), .val (.int c2), .val (.int c3), .val (.int c4), .val (.int c5), .val (.int c6), .val (.int c7)] [(.int (4 : Int32)), (.ref b), (.ref b), (.ref a583), (.ref a583)])) _
      refine XS.iload Y3.here hx rfl (hb hby d2_281) rfl ?_
      exact kk_)
    obtain ⟨cl4, B4, b4, z4, y4, H4, F4⟩ := id V4
    obtain ⟨U4, u4, Y4, f4, W4, su4⟩ := stC Y3 hx hZ f3 B4 (j := (4 : Int32)) (inb_of z4 (by decide)) (g := (mkF m 283 #[.val (.int (8 : Int32)), .val (.int c0), .val (.int c1), .val (.int c2), .val (.int c3), .val (.int c4), .val (.int c5), .val (.int c6), .val (.int c7)] [(.int c4), (.int (4 : Int32)), (.ref b), (.ref b), (.ref a583), (.ref a583)])) rfl rfl (hb hby d2_283)
    have S596 : own_Go p e below s₁ G U4 (mkF m 284 #[.val (.int (8 : Int32)), .val (.int c0), .val (.int c1), .val (.int c2), .val (.int c3), .val (.int c4), .val (.int c5), .val (.int c6), .val (.int c7)] [(.ref b), (.ref a583), (.ref a583)]) := fun tg_ kk_ => S595 tg_ (su4 tg_ kk_)
    have hB4 : own_B c4 := hc c4 (by simp)
    rw [own_nar_char hB4.ch] at W4
    have V5 : Arv Z u4 b kp1 .char (8 : Int32) [.int c0, .int c1, .int c2, .int c3, .int c4] (.int 0) := own_push V4 (own_fit_ch hB4.ch) W4 rfl
    have NB4 := Fr.snoc Y4 NB3 hb0
    have O4a := O3a.wr W4 hb0
    have Z4a : n0 ≤ u4.size := by rw [W4.size]; exact Z3a
    have Ex4 := Ex3.wr W4
    have Fv4 := Fv3.other W4 (Or.inl hbx.symm)
    have Fc4 := Fc3.other W4 (Or.inl hbx.symm)
    have S597 : own_Go p e below s₁ G U4 (mkF m 288 #[.val (.int (8 : Int32)), .val (.int c0), .val (.int c1), .val (.int c2), .val (.int c3), .val (.int c4), .val (.int c5), .val (.int c6), .val (.int c7)] [(.int c5), (.int (5 : Int32)), (.ref b), (.ref b), (.ref a583), (.ref a583)]) := fun tg_ kk_ => S596 tg_ (by
      refine XS.dup Y4.here hx rfl (hb hby d2_284) rfl rfl ?_
      show Steps p.tables e below (U4.setTop (mkF m 285 #[.val (.int (8 : Int32)), .val (.int c0), .val (.int c1), .val (.int c2), .val (.int c3), .val (.int c4), .val (.int c5), .val (.int c6), .val (.int c7)] [(.ref b), (.ref b), (.ref a583), (.ref a583)])) _
      refine XS.iconst Y4.here hx rfl (hb hby d2_285) ?_
      show Steps p.tables e below (U4.setTop (mkF m 286 #[.val (.int (8 : Int32)), .val (.int c0), .val (.int c1), .val (.int c2), .val (.int c3), .val (.int c4), .val (.int c5), .val (.int c6), .val (.int c7)] [(.int (5 : Int32)), (.ref b), (.ref b), (.ref a583), (.ref a583)])) _
      refine XS.iload Y4.here hx rfl (hb hby d2_286) rfl ?_
      exact kk_)
    obtain ⟨cl5, B5, b5, z5, y5, H5, F5⟩ := id V5
    obtain ⟨U5, u5, Y5, f5, W5, su5⟩ := stC Y4 hx hZ f4 B5 (j := (5 : Int32)) (inb_of z5 (by decide)) (g := (mkF m 288 #[.val (.int (8 : Int32)), .val (.int c0), .val (.int c1), .val (.int c2), .val (.int c3), .val (.int c4), .val (.int c5), .val (.int c6), .val (.int c7)] [(.int c5), (.int (5 : Int32)), (.ref b), (.ref b), (.ref a583), (.ref a583)])) rfl rfl (hb hby d2_288)
    have S598 : own_Go p e below s₁ G U5 (mkF m 289 #[.val (.int (8 : Int32)), .val (.int c0), .val (.int c1), .val (.int c2), .val (.int c3), .val (.int c4), .val (.int c5), .val (.int c6), .val (.int c7)] [(.ref b), (.ref a583), (.ref a583)]) := fun tg_ kk_ => S597 tg_ (su5 tg_ kk_)
    have hB5 : own_B c5 := hc c5 (by simp)
    rw [own_nar_char hB5.ch] at W5
    have V6 : Arv Z u5 b kp1 .char (8 : Int32) [.int c0, .int c1, .int c2, .int c3, .int c4, .int c5] (.int 0) := own_push V5 (own_fit_ch hB5.ch) W5 rfl
    have NB5 := Fr.snoc Y5 NB4 hb0
    have O5a := O4a.wr W5 hb0
    have Z5a : n0 ≤ u5.size := by rw [W5.size]; exact Z4a
    have Ex5 := Ex4.wr W5
    have Fv5 := Fv4.other W5 (Or.inl hbx.symm)
    have Fc5 := Fc4.other W5 (Or.inl hbx.symm)
    have S599 : own_Go p e below s₁ G U5 (mkF m 294 #[.val (.int (8 : Int32)), .val (.int c0), .val (.int c1), .val (.int c2), .val (.int c3), .val (.int c4), .val (.int c5), .val (.int c6), .val (.int c7)] [(.int c6), (.int (6 : Int32)), (.ref b), (.ref b), (.ref a583), (.ref a583)]) := fun tg_ kk_ => S598 tg_ (by
      refine XS.dup Y5.here hx rfl (hb hby d2_289) rfl rfl ?_
      show Steps p.tables e below (U5.setTop (mkF m 290 #[.val (.int (8 : Int32)), .val (.int c0), .val (.int c1), .val (.int c2), .val (.int c3), .val (.int c4), .val (.int c5), .val (.int c6), .val (.int c7)] [(.ref b), (.ref b), (.ref a583), (.ref a583)])) _
      refine XS.bipush Y5.here hx rfl (hb hby d2_290) ?_
      show Steps p.tables e below (U5.setTop (mkF m 292 #[.val (.int (8 : Int32)), .val (.int c0), .val (.int c1), .val (.int c2), .val (.int c3), .val (.int c4), .val (.int c5), .val (.int c6), .val (.int c7)] [(.int (6 : Int32)), (.ref b), (.ref b), (.ref a583), (.ref a583)])) _
      refine XS.iload Y5.here hx rfl (hb hby d2_292) rfl ?_
      exact kk_)
    obtain ⟨cl6, B6, b6, z6, y6, H6, F6⟩ := id V6
    obtain ⟨U6, u6, Y6, f6, W6, su6⟩ := stC Y5 hx hZ f5 B6 (j := (6 : Int32)) (inb_of z6 (by decide)) (g := (mkF m 294 #[.val (.int (8 : Int32)), .val (.int c0), .val (.int c1), .val (.int c2), .val (.int c3), .val (.int c4), .val (.int c5), .val (.int c6), .val (.int c7)] [(.int c6), (.int (6 : Int32)), (.ref b), (.ref b), (.ref a583), (.ref a583)])) rfl rfl (hb hby d2_294)
    have S600 : own_Go p e below s₁ G U6 (mkF m 295 #[.val (.int (8 : Int32)), .val (.int c0), .val (.int c1), .val (.int c2), .val (.int c3), .val (.int c4), .val (.int c5), .val (.int c6), .val (.int c7)] [(.ref b), (.ref a583), (.ref a583)]) := fun tg_ kk_ => S599 tg_ (su6 tg_ kk_)
    have hB6 : own_B c6 := hc c6 (by simp)
    rw [own_nar_char hB6.ch] at W6
    have V7 : Arv Z u6 b kp1 .char (8 : Int32) [.int c0, .int c1, .int c2, .int c3, .int c4, .int c5, .int c6] (.int 0) := own_push V6 (own_fit_ch hB6.ch) W6 rfl
    have NB6 := Fr.snoc Y6 NB5 hb0
    have O6a := O5a.wr W6 hb0
    have Z6a : n0 ≤ u6.size := by rw [W6.size]; exact Z5a
    have Ex6 := Ex5.wr W6
    have Fv6 := Fv5.other W6 (Or.inl hbx.symm)
    have Fc6 := Fc5.other W6 (Or.inl hbx.symm)
    have S601 : own_Go p e below s₁ G U6 (mkF m 300 #[.val (.int (8 : Int32)), .val (.int c0), .val (.int c1), .val (.int c2), .val (.int c3), .val (.int c4), .val (.int c5), .val (.int c6), .val (.int c7)] [(.int c7), (.int (7 : Int32)), (.ref b), (.ref b), (.ref a583), (.ref a583)]) := fun tg_ kk_ => S600 tg_ (by
      refine XS.dup Y6.here hx rfl (hb hby d2_295) rfl rfl ?_
      show Steps p.tables e below (U6.setTop (mkF m 296 #[.val (.int (8 : Int32)), .val (.int c0), .val (.int c1), .val (.int c2), .val (.int c3), .val (.int c4), .val (.int c5), .val (.int c6), .val (.int c7)] [(.ref b), (.ref b), (.ref a583), (.ref a583)])) _
      refine XS.bipush Y6.here hx rfl (hb hby d2_296) ?_
      show Steps p.tables e below (U6.setTop (mkF m 298 #[.val (.int (8 : Int32)), .val (.int c0), .val (.int c1), .val (.int c2), .val (.int c3), .val (.int c4), .val (.int c5), .val (.int c6), .val (.int c7)] [(.int (7 : Int32)), (.ref b), (.ref b), (.ref a583), (.ref a583)])) _
      refine XS.iload Y6.here hx rfl (hb hby d2_298) rfl ?_
      exact kk_)
    obtain ⟨cl7, B7, b7, z7, y7, H7, F7⟩ := id V7
    obtain ⟨U7, u7, Y7, f7, W7, su7⟩ := stC Y6 hx hZ f6 B7 (j := (7 : Int32)) (inb_of z7 (by decide)) (g := (mkF m 300 #[.val (.int (8 : Int32)), .val (.int c0), .val (.int c1), .val (.int c2), .val (.int c3), .val (.int c4), .val (.int c5), .val (.int c6), .val (.int c7)] [(.int c7), (.int (7 : Int32)), (.ref b), (.ref b), (.ref a583), (.ref a583)])) rfl rfl (hb hby d2_300)
    have S602 : own_Go p e below s₁ G U7 (mkF m 301 #[.val (.int (8 : Int32)), .val (.int c0), .val (.int c1), .val (.int c2), .val (.int c3), .val (.int c4), .val (.int c5), .val (.int c6), .val (.int c7)] [(.ref b), (.ref a583), (.ref a583)]) := fun tg_ kk_ => S601 tg_ (su7 tg_ kk_)
    have hB7 : own_B c7 := hc c7 (by simp)
    rw [own_nar_char hB7.ch] at W7
    have V8 : Arv Z u7 b kp1 .char (8 : Int32) [.int c0, .int c1, .int c2, .int c3, .int c4, .int c5, .int c6, .int c7] (.int 0) := own_push V7 (own_fit_ch hB7.ch) W7 rfl
    have NB7 := Fr.snoc Y7 NB6 hb0
    have O7a := O6a.wr W7 hb0
    have Z7a : n0 ≤ u7.size := by rw [W7.size]; exact Z6a
    have Ex7 := Ex6.wr W7
    have Fv7 := Fv6.other W7 (Or.inl hbx.symm)
    have Fc7 := Fc6.other W7 (Or.inl hbx.symm)
    have hck : ∀ c ∈ [c0, c1, c2, c3, c4, c5, c6, c7], own_B c := fun c hq => hc c (List.mem_of_mem_take (i := 8) hq)
    obtain ⟨_, T603, h603, L603, X603, e603, hQ603, st603⟩ := own_callI Y7 hx hZ (y := (⟨"java/lang/String", "<init>", "([C)V"⟩ : MethodName)) rfl hown (hw _ (List.mem_of_getElem? (i := 13) rfl)) (hw _ (List.mem_of_getElem? (i := 14) rfl)) (hw _ (List.mem_of_getElem? (i := 11) rfl)) (hw _ (List.mem_of_getElem? (i := 15) rfl)) (by decide) 1 (g := (mkF m 301 #[.val (.int (8 : Int32)), .val (.int c0), .val (.int c1), .val (.int c2), .val (.int c3), .val (.int c4), .val (.int c5), .val (.int c6), .val (.int c7)] [(.ref b), (.ref a583), (.ref a583)])) rfl (by rw [hml]; rfl) a583 [(.ref b)] [(.ref a583)] (rm3 l Z a0 hw [] a583 b [c0, c1, c2, c3, c4, c5, c6, c7] u7 n0 Z7a z kp1 (by simp) Ex7 Fv7 Fc7 hx0 V8 O7a O2 P5 (own_nlat hck)) (lenOf pd4 rfl) rfl (by show 2 * 0 + _ ≤ _; exact Nat.le_of_eq rfl) (hb hby d2_301) (by decide) (by decide) f7 (by decide) (by decide)
    obtain ⟨rfl, N603, K603, t, ht, SS⟩ := hQ603
    have S604 : own_Go p e below s₁ G T603 (mkF m 304 #[.val (.int (8 : Int32)), .val (.int c0), .val (.int c1), .val (.int c2), .val (.int c3), .val (.int c4), .val (.int c5), .val (.int c6), .val (.int c7)] [(.ref a583)]) := fun tg_ kk_ => S602 tg_ (st603 tg_ kk_)
    have NC := Fr.app NB7 N603
    obtain ⟨fs, hr, hrun, hended, hW, hsame⟩ := X603.leave (v := some (.ref a583)) (fun h => by rw [Bd.returns] at h; cases h)
    refine ⟨_, _, ?_, hrun, hended, _, _, rfl, ?_, ReturnedEndW.of_narrow ⟨_, rfl⟩ hW (hsame.mono (by decide) (by decide))⟩
    · rw [← hG]; exact S604 _ (retOut X603 hx Bd.returns (by first | rfl | cases (.ref a583) <;> rfl) (Or.inr (Or.inr (Or.inr (Or.inr ⟨rfl, rfl, rfl⟩)))) (hb hby d2_304) hr)
    · show Q2 Z 8 c0 c1 c2 c3 c4 c5 c6 c7 h0 n0 _ T603.heap _
      rw [e603]
      exact ⟨a583, t, rfl, NC, O7a.keep K603 (allS hx0 all0), Nat.le_trans Z7a K603.1, SS⟩
/-! ## the plain law: chars by their three classes -/
def own_cls (c : Int32) : Fin 3 := if own_dot c then 1 else if own_word c then 0 else 2
theorem own_cls_dot (c : Int32) : own_dot c = (own_cls c == 1) := by unfold own_cls; cases own_dot c <;> cases own_word c <;> rfl
theorem own_cls_ok (c : Int32) : (own_word c || own_dot c) = (own_cls c != 2) := by unfold own_cls; cases own_dot c <;> cases own_word c <;> rfl
def own_runF : List (Fin 3) → Nat → Nat → Nat × Nat × Bool
  | [], s, n => (s, n, true)
  | a :: r, s, n => if a == 1 then (if 0 < n then own_runF r (s + 1) 0 else (s + 1, 0, false)) else (if a == 0 then own_runF r s (n + 1) else (s, n + 1, false))
theorem own_run_cls : ∀ (cs : List Int32) (s n : Nat), own_run cs s n = own_runF (cs.map own_cls) s n
  | [], _, _ => rfl
  | c :: r, s, n => by
    have h1 := own_run_cls r (s + 1) 0; have h2 := own_run_cls r s (n + 1)
    show own_run (c :: r) s n = own_runF (own_cls c :: r.map own_cls) s n
    unfold own_run own_runF
    rw [h1, h2]
    cases hd : own_dot c <;> cases hw : own_word c <;> simp [own_cls, hd, hw]
def own_bF (a : Fin 3) : Nat := if a == 1 then 1 else 0
theorem own_bit_cls (c : Int32) : own_bit (own_dot c) = Int32.ofNat (own_bF (own_cls c)) := by unfold own_bF; rw [own_cls_dot]; cases (own_cls c == 1) <;> rfl
theorem own_ok_in {c i n : Int32} (h : i < n) : own_ok c i n = (own_cls c != 2) := by rw [← own_cls_ok]; simp [own_ok, h]
theorem own_ok_out {c i n : Int32} (h : ¬ i < n) : own_ok c i n = true := by simp [own_ok, h]
theorem own_pair_in {a b i n : Int32} (h : i + 1 < n) : own_pairB a b i n = (own_cls a == 1 && own_cls b == 1) := by rw [← own_cls_dot, ← own_cls_dot]; simp [own_pairB, h]
theorem own_pair_out {a b i n : Int32} (h : ¬ i + 1 < n) : own_pairB a b i n = false := by simp [own_pairB, h]
theorem own_dat_in {c i n : Int32} (h : i < n) : own_bit (own_dotAt c i n) = Int32.ofNat (own_bF (own_cls c)) := by rw [← own_bit_cls]; simp [own_dotAt, h]
theorem own_dat_out {c i n : Int32} (h : ¬ i < n) : own_bit (own_dotAt c i n) = Int32.ofNat 0 := by simp [own_dotAt, own_bit, h]
theorem own_join {v f : Bool} {r sg : Nat} {mn mx : Int32} (q1 : v = f) (q2 : f = true → r = sg) : (v && !decide (Int32.ofNat r < mn) && !decide (mx < Int32.ofNat r)) = (f && !decide (Int32.ofNat sg < mn) && !decide (mx < Int32.ofNat sg)) := by
  subst q1
  cases v with
  | false => simp only [Bool.false_and]
  | true => rw [q2 rfl]
set_option maxRecDepth 100000 in
theorem own_dec1 : ∀ a0 : Fin 3, ((own_runF [a0] 1 0).2.2 && decide (0 < (own_runF [a0] 1 0).2.1)) = (((a0 != 2)) && !(false) && !(a0 == 1 || a0 == 1)) ∧ ((((a0 != 2)) && !(false) && !(a0 == 1 || a0 == 1)) = true → (own_runF [a0] 1 0).1 = 1 + own_bF a0 + 0 + 0 + 0 + 0 + 0 + 0 + 0) := by decide +kernel
theorem own_plain1 (c0 c1 c2 c3 c4 c5 c6 c7 mn mx : Int32) : own_isSeg [c0] mn mx = own_ref 1 c0 c1 c2 c3 c4 c5 c6 c7 mn mx := by
  have hall : own_all (Int32.ofNat 1) c0 c1 c2 c3 c4 c5 c6 c7 = ((own_cls c0 != 2)) := by
    unfold own_all
    rw [own_ok_in (c := c0) (i := 0) (n := (Int32.ofNat 1)) (by decide), own_ok_out (c := c1) (i := 1) (n := (Int32.ofNat 1)) (by decide), own_ok_out (c := c2) (i := 2) (n := (Int32.ofNat 1)) (by decide), own_ok_out (c := c3) (i := 3) (n := (Int32.ofNat 1)) (by decide), own_ok_out (c := c4) (i := 4) (n := (Int32.ofNat 1)) (by decide), own_ok_out (c := c5) (i := 5) (n := (Int32.ofNat 1)) (by decide), own_ok_out (c := c6) (i := 6) (n := (Int32.ofNat 1)) (by decide), own_ok_out (c := c7) (i := 7) (n := (Int32.ofNat 1)) (by decide)]
    simp only [Bool.and_true]
  have hadj : own_adj (Int32.ofNat 1) c0 c1 c2 c3 c4 c5 c6 c7 = (false) := by
    unfold own_adj
    rw [own_pair_out (a := c0) (b := c1) (i := 0) (n := (Int32.ofNat 1)) (by decide), own_pair_out (a := c1) (b := c2) (i := 1) (n := (Int32.ofNat 1)) (by decide), own_pair_out (a := c2) (b := c3) (i := 2) (n := (Int32.ofNat 1)) (by decide), own_pair_out (a := c3) (b := c4) (i := 3) (n := (Int32.ofNat 1)) (by decide), own_pair_out (a := c4) (b := c5) (i := 4) (n := (Int32.ofNat 1)) (by decide), own_pair_out (a := c5) (b := c6) (i := 5) (n := (Int32.ofNat 1)) (by decide), own_pair_out (a := c6) (b := c7) (i := 6) (n := (Int32.ofNat 1)) (by decide)]
    simp only [Bool.or_false]
  have hedge : own_edge c0 ([c0, c1, c2, c3, c4, c5, c6, c7].getD (1 - 1) 0) = (own_cls c0 == 1 || own_cls c0 == 1) := by
    show (own_dot c0 || own_dot c0) = _
    rw [own_cls_dot]
  have hseg : own_segs (Int32.ofNat 1) c0 c1 c2 c3 c4 c5 c6 c7 = Int32.ofNat (1 + own_bF (own_cls c0) + 0 + 0 + 0 + 0 + 0 + 0 + 0) := by
    unfold own_segs
    rw [own_dat_in (c := c0) (i := 0) (n := (Int32.ofNat 1)) (by decide), own_dat_out (c := c1) (i := 1) (n := (Int32.ofNat 1)) (by decide), own_dat_out (c := c2) (i := 2) (n := (Int32.ofNat 1)) (by decide), own_dat_out (c := c3) (i := 3) (n := (Int32.ofNat 1)) (by decide), own_dat_out (c := c4) (i := 4) (n := (Int32.ofNat 1)) (by decide), own_dat_out (c := c5) (i := 5) (n := (Int32.ofNat 1)) (by decide), own_dat_out (c := c6) (i := 6) (n := (Int32.ofNat 1)) (by decide), own_dat_out (c := c7) (i := 7) (n := (Int32.ofNat 1)) (by decide)]
    simp only [Int32.ofNat_add]
    rfl
  obtain ⟨q1, q2⟩ := own_dec1 (own_cls c0)
  unfold own_isSeg own_ref own_fin
  rw [hall, hadj, hedge, hseg, own_run_cls]
  exact own_join q1 q2
set_option maxRecDepth 100000 in
theorem own_dec2 : ∀ a0 a1 : Fin 3, ((own_runF [a0, a1] 1 0).2.2 && decide (0 < (own_runF [a0, a1] 1 0).2.1)) = (((a0 != 2) && (a1 != 2)) && !((a0 == 1 && a1 == 1)) && !(a0 == 1 || a1 == 1)) ∧ ((((a0 != 2) && (a1 != 2)) && !((a0 == 1 && a1 == 1)) && !(a0 == 1 || a1 == 1)) = true → (own_runF [a0, a1] 1 0).1 = 1 + own_bF a0 + own_bF a1 + 0 + 0 + 0 + 0 + 0 + 0) := by decide +kernel
theorem own_plain2 (c0 c1 c2 c3 c4 c5 c6 c7 mn mx : Int32) : own_isSeg [c0, c1] mn mx = own_ref 2 c0 c1 c2 c3 c4 c5 c6 c7 mn mx := by
  have hall : own_all (Int32.ofNat 2) c0 c1 c2 c3 c4 c5 c6 c7 = ((own_cls c0 != 2) && (own_cls c1 != 2)) := by
    unfold own_all
    rw [own_ok_in (c := c0) (i := 0) (n := (Int32.ofNat 2)) (by decide), own_ok_in (c := c1) (i := 1) (n := (Int32.ofNat 2)) (by decide), own_ok_out (c := c2) (i := 2) (n := (Int32.ofNat 2)) (by decide), own_ok_out (c := c3) (i := 3) (n := (Int32.ofNat 2)) (by decide), own_ok_out (c := c4) (i := 4) (n := (Int32.ofNat 2)) (by decide), own_ok_out (c := c5) (i := 5) (n := (Int32.ofNat 2)) (by decide), own_ok_out (c := c6) (i := 6) (n := (Int32.ofNat 2)) (by decide), own_ok_out (c := c7) (i := 7) (n := (Int32.ofNat 2)) (by decide)]
    simp only [Bool.and_true]
  have hadj : own_adj (Int32.ofNat 2) c0 c1 c2 c3 c4 c5 c6 c7 = ((own_cls c0 == 1 && own_cls c1 == 1)) := by
    unfold own_adj
    rw [own_pair_in (a := c0) (b := c1) (i := 0) (n := (Int32.ofNat 2)) (by decide), own_pair_out (a := c1) (b := c2) (i := 1) (n := (Int32.ofNat 2)) (by decide), own_pair_out (a := c2) (b := c3) (i := 2) (n := (Int32.ofNat 2)) (by decide), own_pair_out (a := c3) (b := c4) (i := 3) (n := (Int32.ofNat 2)) (by decide), own_pair_out (a := c4) (b := c5) (i := 4) (n := (Int32.ofNat 2)) (by decide), own_pair_out (a := c5) (b := c6) (i := 5) (n := (Int32.ofNat 2)) (by decide), own_pair_out (a := c6) (b := c7) (i := 6) (n := (Int32.ofNat 2)) (by decide)]
    simp only [Bool.or_false]
  have hedge : own_edge c0 ([c0, c1, c2, c3, c4, c5, c6, c7].getD (2 - 1) 0) = (own_cls c0 == 1 || own_cls c1 == 1) := by
    show (own_dot c0 || own_dot c1) = _
    rw [own_cls_dot, own_cls_dot]
  have hseg : own_segs (Int32.ofNat 2) c0 c1 c2 c3 c4 c5 c6 c7 = Int32.ofNat (1 + own_bF (own_cls c0) + own_bF (own_cls c1) + 0 + 0 + 0 + 0 + 0 + 0) := by
    unfold own_segs
    rw [own_dat_in (c := c0) (i := 0) (n := (Int32.ofNat 2)) (by decide), own_dat_in (c := c1) (i := 1) (n := (Int32.ofNat 2)) (by decide), own_dat_out (c := c2) (i := 2) (n := (Int32.ofNat 2)) (by decide), own_dat_out (c := c3) (i := 3) (n := (Int32.ofNat 2)) (by decide), own_dat_out (c := c4) (i := 4) (n := (Int32.ofNat 2)) (by decide), own_dat_out (c := c5) (i := 5) (n := (Int32.ofNat 2)) (by decide), own_dat_out (c := c6) (i := 6) (n := (Int32.ofNat 2)) (by decide), own_dat_out (c := c7) (i := 7) (n := (Int32.ofNat 2)) (by decide)]
    simp only [Int32.ofNat_add]
    rfl
  obtain ⟨q1, q2⟩ := own_dec2 (own_cls c0) (own_cls c1)
  unfold own_isSeg own_ref own_fin
  rw [hall, hadj, hedge, hseg, own_run_cls]
  exact own_join q1 q2
set_option maxRecDepth 100000 in
theorem own_dec3 : ∀ a0 a1 a2 : Fin 3, ((own_runF [a0, a1, a2] 1 0).2.2 && decide (0 < (own_runF [a0, a1, a2] 1 0).2.1)) = (((a0 != 2) && (a1 != 2) && (a2 != 2)) && !((a0 == 1 && a1 == 1) || (a1 == 1 && a2 == 1)) && !(a0 == 1 || a2 == 1)) ∧ ((((a0 != 2) && (a1 != 2) && (a2 != 2)) && !((a0 == 1 && a1 == 1) || (a1 == 1 && a2 == 1)) && !(a0 == 1 || a2 == 1)) = true → (own_runF [a0, a1, a2] 1 0).1 = 1 + own_bF a0 + own_bF a1 + own_bF a2 + 0 + 0 + 0 + 0 + 0) := by decide +kernel
theorem own_plain3 (c0 c1 c2 c3 c4 c5 c6 c7 mn mx : Int32) : own_isSeg [c0, c1, c2] mn mx = own_ref 3 c0 c1 c2 c3 c4 c5 c6 c7 mn mx := by
  have hall : own_all (Int32.ofNat 3) c0 c1 c2 c3 c4 c5 c6 c7 = ((own_cls c0 != 2) && (own_cls c1 != 2) && (own_cls c2 != 2)) := by
    unfold own_all
    rw [own_ok_in (c := c0) (i := 0) (n := (Int32.ofNat 3)) (by decide), own_ok_in (c := c1) (i := 1) (n := (Int32.ofNat 3)) (by decide), own_ok_in (c := c2) (i := 2) (n := (Int32.ofNat 3)) (by decide), own_ok_out (c := c3) (i := 3) (n := (Int32.ofNat 3)) (by decide), own_ok_out (c := c4) (i := 4) (n := (Int32.ofNat 3)) (by decide), own_ok_out (c := c5) (i := 5) (n := (Int32.ofNat 3)) (by decide), own_ok_out (c := c6) (i := 6) (n := (Int32.ofNat 3)) (by decide), own_ok_out (c := c7) (i := 7) (n := (Int32.ofNat 3)) (by decide)]
    simp only [Bool.and_true]
  have hadj : own_adj (Int32.ofNat 3) c0 c1 c2 c3 c4 c5 c6 c7 = ((own_cls c0 == 1 && own_cls c1 == 1) || (own_cls c1 == 1 && own_cls c2 == 1)) := by
    unfold own_adj
    rw [own_pair_in (a := c0) (b := c1) (i := 0) (n := (Int32.ofNat 3)) (by decide), own_pair_in (a := c1) (b := c2) (i := 1) (n := (Int32.ofNat 3)) (by decide), own_pair_out (a := c2) (b := c3) (i := 2) (n := (Int32.ofNat 3)) (by decide), own_pair_out (a := c3) (b := c4) (i := 3) (n := (Int32.ofNat 3)) (by decide), own_pair_out (a := c4) (b := c5) (i := 4) (n := (Int32.ofNat 3)) (by decide), own_pair_out (a := c5) (b := c6) (i := 5) (n := (Int32.ofNat 3)) (by decide), own_pair_out (a := c6) (b := c7) (i := 6) (n := (Int32.ofNat 3)) (by decide)]
    simp only [Bool.or_false]
  have hedge : own_edge c0 ([c0, c1, c2, c3, c4, c5, c6, c7].getD (3 - 1) 0) = (own_cls c0 == 1 || own_cls c2 == 1) := by
    show (own_dot c0 || own_dot c2) = _
    rw [own_cls_dot, own_cls_dot]
  have hseg : own_segs (Int32.ofNat 3) c0 c1 c2 c3 c4 c5 c6 c7 = Int32.ofNat (1 + own_bF (own_cls c0) + own_bF (own_cls c1) + own_bF (own_cls c2) + 0 + 0 + 0 + 0 + 0) := by
    unfold own_segs
    rw [own_dat_in (c := c0) (i := 0) (n := (Int32.ofNat 3)) (by decide), own_dat_in (c := c1) (i := 1) (n := (Int32.ofNat 3)) (by decide), own_dat_in (c := c2) (i := 2) (n := (Int32.ofNat 3)) (by decide), own_dat_out (c := c3) (i := 3) (n := (Int32.ofNat 3)) (by decide), own_dat_out (c := c4) (i := 4) (n := (Int32.ofNat 3)) (by decide), own_dat_out (c := c5) (i := 5) (n := (Int32.ofNat 3)) (by decide), own_dat_out (c := c6) (i := 6) (n := (Int32.ofNat 3)) (by decide), own_dat_out (c := c7) (i := 7) (n := (Int32.ofNat 3)) (by decide)]
    simp only [Int32.ofNat_add]
    rfl
  obtain ⟨q1, q2⟩ := own_dec3 (own_cls c0) (own_cls c1) (own_cls c2)
  unfold own_isSeg own_ref own_fin
  rw [hall, hadj, hedge, hseg, own_run_cls]
  exact own_join q1 q2
set_option maxRecDepth 100000 in
theorem own_dec4 : ∀ a0 a1 a2 a3 : Fin 3, ((own_runF [a0, a1, a2, a3] 1 0).2.2 && decide (0 < (own_runF [a0, a1, a2, a3] 1 0).2.1)) = (((a0 != 2) && (a1 != 2) && (a2 != 2) && (a3 != 2)) && !((a0 == 1 && a1 == 1) || (a1 == 1 && a2 == 1) || (a2 == 1 && a3 == 1)) && !(a0 == 1 || a3 == 1)) ∧ ((((a0 != 2) && (a1 != 2) && (a2 != 2) && (a3 != 2)) && !((a0 == 1 && a1 == 1) || (a1 == 1 && a2 == 1) || (a2 == 1 && a3 == 1)) && !(a0 == 1 || a3 == 1)) = true → (own_runF [a0, a1, a2, a3] 1 0).1 = 1 + own_bF a0 + own_bF a1 + own_bF a2 + own_bF a3 + 0 + 0 + 0 + 0) := by decide +kernel
theorem own_plain4 (c0 c1 c2 c3 c4 c5 c6 c7 mn mx : Int32) : own_isSeg [c0, c1, c2, c3] mn mx = own_ref 4 c0 c1 c2 c3 c4 c5 c6 c7 mn mx := by
  have hall : own_all (Int32.ofNat 4) c0 c1 c2 c3 c4 c5 c6 c7 = ((own_cls c0 != 2) && (own_cls c1 != 2) && (own_cls c2 != 2) && (own_cls c3 != 2)) := by
    unfold own_all
    rw [own_ok_in (c := c0) (i := 0) (n := (Int32.ofNat 4)) (by decide), own_ok_in (c := c1) (i := 1) (n := (Int32.ofNat 4)) (by decide), own_ok_in (c := c2) (i := 2) (n := (Int32.ofNat 4)) (by decide), own_ok_in (c := c3) (i := 3) (n := (Int32.ofNat 4)) (by decide), own_ok_out (c := c4) (i := 4) (n := (Int32.ofNat 4)) (by decide), own_ok_out (c := c5) (i := 5) (n := (Int32.ofNat 4)) (by decide), own_ok_out (c := c6) (i := 6) (n := (Int32.ofNat 4)) (by decide), own_ok_out (c := c7) (i := 7) (n := (Int32.ofNat 4)) (by decide)]
    simp only [Bool.and_true]
  have hadj : own_adj (Int32.ofNat 4) c0 c1 c2 c3 c4 c5 c6 c7 = ((own_cls c0 == 1 && own_cls c1 == 1) || (own_cls c1 == 1 && own_cls c2 == 1) || (own_cls c2 == 1 && own_cls c3 == 1)) := by
    unfold own_adj
    rw [own_pair_in (a := c0) (b := c1) (i := 0) (n := (Int32.ofNat 4)) (by decide), own_pair_in (a := c1) (b := c2) (i := 1) (n := (Int32.ofNat 4)) (by decide), own_pair_in (a := c2) (b := c3) (i := 2) (n := (Int32.ofNat 4)) (by decide), own_pair_out (a := c3) (b := c4) (i := 3) (n := (Int32.ofNat 4)) (by decide), own_pair_out (a := c4) (b := c5) (i := 4) (n := (Int32.ofNat 4)) (by decide), own_pair_out (a := c5) (b := c6) (i := 5) (n := (Int32.ofNat 4)) (by decide), own_pair_out (a := c6) (b := c7) (i := 6) (n := (Int32.ofNat 4)) (by decide)]
    simp only [Bool.or_false]
  have hedge : own_edge c0 ([c0, c1, c2, c3, c4, c5, c6, c7].getD (4 - 1) 0) = (own_cls c0 == 1 || own_cls c3 == 1) := by
    show (own_dot c0 || own_dot c3) = _
    rw [own_cls_dot, own_cls_dot]
  have hseg : own_segs (Int32.ofNat 4) c0 c1 c2 c3 c4 c5 c6 c7 = Int32.ofNat (1 + own_bF (own_cls c0) + own_bF (own_cls c1) + own_bF (own_cls c2) + own_bF (own_cls c3) + 0 + 0 + 0 + 0) := by
    unfold own_segs
    rw [own_dat_in (c := c0) (i := 0) (n := (Int32.ofNat 4)) (by decide), own_dat_in (c := c1) (i := 1) (n := (Int32.ofNat 4)) (by decide), own_dat_in (c := c2) (i := 2) (n := (Int32.ofNat 4)) (by decide), own_dat_in (c := c3) (i := 3) (n := (Int32.ofNat 4)) (by decide), own_dat_out (c := c4) (i := 4) (n := (Int32.ofNat 4)) (by decide), own_dat_out (c := c5) (i := 5) (n := (Int32.ofNat 4)) (by decide), own_dat_out (c := c6) (i := 6) (n := (Int32.ofNat 4)) (by decide), own_dat_out (c := c7) (i := 7) (n := (Int32.ofNat 4)) (by decide)]
    simp only [Int32.ofNat_add]
    rfl
  obtain ⟨q1, q2⟩ := own_dec4 (own_cls c0) (own_cls c1) (own_cls c2) (own_cls c3)
  unfold own_isSeg own_ref own_fin
  rw [hall, hadj, hedge, hseg, own_run_cls]
  exact own_join q1 q2
set_option maxRecDepth 100000 in
theorem own_dec5 : ∀ a0 a1 a2 a3 a4 : Fin 3, ((own_runF [a0, a1, a2, a3, a4] 1 0).2.2 && decide (0 < (own_runF [a0, a1, a2, a3, a4] 1 0).2.1)) = (((a0 != 2) && (a1 != 2) && (a2 != 2) && (a3 != 2) && (a4 != 2)) && !((a0 == 1 && a1 == 1) || (a1 == 1 && a2 == 1) || (a2 == 1 && a3 == 1) || (a3 == 1 && a4 == 1)) && !(a0 == 1 || a4 == 1)) ∧ ((((a0 != 2) && (a1 != 2) && (a2 != 2) && (a3 != 2) && (a4 != 2)) && !((a0 == 1 && a1 == 1) || (a1 == 1 && a2 == 1) || (a2 == 1 && a3 == 1) || (a3 == 1 && a4 == 1)) && !(a0 == 1 || a4 == 1)) = true → (own_runF [a0, a1, a2, a3, a4] 1 0).1 = 1 + own_bF a0 + own_bF a1 + own_bF a2 + own_bF a3 + own_bF a4 + 0 + 0 + 0) := by decide +kernel
theorem own_plain5 (c0 c1 c2 c3 c4 c5 c6 c7 mn mx : Int32) : own_isSeg [c0, c1, c2, c3, c4] mn mx = own_ref 5 c0 c1 c2 c3 c4 c5 c6 c7 mn mx := by
  have hall : own_all (Int32.ofNat 5) c0 c1 c2 c3 c4 c5 c6 c7 = ((own_cls c0 != 2) && (own_cls c1 != 2) && (own_cls c2 != 2) && (own_cls c3 != 2) && (own_cls c4 != 2)) := by
    unfold own_all
    rw [own_ok_in (c := c0) (i := 0) (n := (Int32.ofNat 5)) (by decide), own_ok_in (c := c1) (i := 1) (n := (Int32.ofNat 5)) (by decide), own_ok_in (c := c2) (i := 2) (n := (Int32.ofNat 5)) (by decide), own_ok_in (c := c3) (i := 3) (n := (Int32.ofNat 5)) (by decide), own_ok_in (c := c4) (i := 4) (n := (Int32.ofNat 5)) (by decide), own_ok_out (c := c5) (i := 5) (n := (Int32.ofNat 5)) (by decide), own_ok_out (c := c6) (i := 6) (n := (Int32.ofNat 5)) (by decide), own_ok_out (c := c7) (i := 7) (n := (Int32.ofNat 5)) (by decide)]
    simp only [Bool.and_true]
  have hadj : own_adj (Int32.ofNat 5) c0 c1 c2 c3 c4 c5 c6 c7 = ((own_cls c0 == 1 && own_cls c1 == 1) || (own_cls c1 == 1 && own_cls c2 == 1) || (own_cls c2 == 1 && own_cls c3 == 1) || (own_cls c3 == 1 && own_cls c4 == 1)) := by
    unfold own_adj
    rw [own_pair_in (a := c0) (b := c1) (i := 0) (n := (Int32.ofNat 5)) (by decide), own_pair_in (a := c1) (b := c2) (i := 1) (n := (Int32.ofNat 5)) (by decide), own_pair_in (a := c2) (b := c3) (i := 2) (n := (Int32.ofNat 5)) (by decide), own_pair_in (a := c3) (b := c4) (i := 3) (n := (Int32.ofNat 5)) (by decide), own_pair_out (a := c4) (b := c5) (i := 4) (n := (Int32.ofNat 5)) (by decide), own_pair_out (a := c5) (b := c6) (i := 5) (n := (Int32.ofNat 5)) (by decide), own_pair_out (a := c6) (b := c7) (i := 6) (n := (Int32.ofNat 5)) (by decide)]
    simp only [Bool.or_false]
  have hedge : own_edge c0 ([c0, c1, c2, c3, c4, c5, c6, c7].getD (5 - 1) 0) = (own_cls c0 == 1 || own_cls c4 == 1) := by
    show (own_dot c0 || own_dot c4) = _
    rw [own_cls_dot, own_cls_dot]
  have hseg : own_segs (Int32.ofNat 5) c0 c1 c2 c3 c4 c5 c6 c7 = Int32.ofNat (1 + own_bF (own_cls c0) + own_bF (own_cls c1) + own_bF (own_cls c2) + own_bF (own_cls c3) + own_bF (own_cls c4) + 0 + 0 + 0) := by
    unfold own_segs
    rw [own_dat_in (c := c0) (i := 0) (n := (Int32.ofNat 5)) (by decide), own_dat_in (c := c1) (i := 1) (n := (Int32.ofNat 5)) (by decide), own_dat_in (c := c2) (i := 2) (n := (Int32.ofNat 5)) (by decide), own_dat_in (c := c3) (i := 3) (n := (Int32.ofNat 5)) (by decide), own_dat_in (c := c4) (i := 4) (n := (Int32.ofNat 5)) (by decide), own_dat_out (c := c5) (i := 5) (n := (Int32.ofNat 5)) (by decide), own_dat_out (c := c6) (i := 6) (n := (Int32.ofNat 5)) (by decide), own_dat_out (c := c7) (i := 7) (n := (Int32.ofNat 5)) (by decide)]
    simp only [Int32.ofNat_add]
    rfl
  obtain ⟨q1, q2⟩ := own_dec5 (own_cls c0) (own_cls c1) (own_cls c2) (own_cls c3) (own_cls c4)
  unfold own_isSeg own_ref own_fin
  rw [hall, hadj, hedge, hseg, own_run_cls]
  exact own_join q1 q2
set_option maxRecDepth 100000 in
theorem own_dec6 : ∀ a0 a1 a2 a3 a4 a5 : Fin 3, ((own_runF [a0, a1, a2, a3, a4, a5] 1 0).2.2 && decide (0 < (own_runF [a0, a1, a2, a3, a4, a5] 1 0).2.1)) = (((a0 != 2) && (a1 != 2) && (a2 != 2) && (a3 != 2) && (a4 != 2) && (a5 != 2)) && !((a0 == 1 && a1 == 1) || (a1 == 1 && a2 == 1) || (a2 == 1 && a3 == 1) || (a3 == 1 && a4 == 1) || (a4 == 1 && a5 == 1)) && !(a0 == 1 || a5 == 1)) ∧ ((((a0 != 2) && (a1 != 2) && (a2 != 2) && (a3 != 2) && (a4 != 2) && (a5 != 2)) && !((a0 == 1 && a1 == 1) || (a1 == 1 && a2 == 1) || (a2 == 1 && a3 == 1) || (a3 == 1 && a4 == 1) || (a4 == 1 && a5 == 1)) && !(a0 == 1 || a5 == 1)) = true → (own_runF [a0, a1, a2, a3, a4, a5] 1 0).1 = 1 + own_bF a0 + own_bF a1 + own_bF a2 + own_bF a3 + own_bF a4 + own_bF a5 + 0 + 0) := by decide +kernel
theorem own_plain6 (c0 c1 c2 c3 c4 c5 c6 c7 mn mx : Int32) : own_isSeg [c0, c1, c2, c3, c4, c5] mn mx = own_ref 6 c0 c1 c2 c3 c4 c5 c6 c7 mn mx := by
  have hall : own_all (Int32.ofNat 6) c0 c1 c2 c3 c4 c5 c6 c7 = ((own_cls c0 != 2) && (own_cls c1 != 2) && (own_cls c2 != 2) && (own_cls c3 != 2) && (own_cls c4 != 2) && (own_cls c5 != 2)) := by
    unfold own_all
    rw [own_ok_in (c := c0) (i := 0) (n := (Int32.ofNat 6)) (by decide), own_ok_in (c := c1) (i := 1) (n := (Int32.ofNat 6)) (by decide), own_ok_in (c := c2) (i := 2) (n := (Int32.ofNat 6)) (by decide), own_ok_in (c := c3) (i := 3) (n := (Int32.ofNat 6)) (by decide), own_ok_in (c := c4) (i := 4) (n := (Int32.ofNat 6)) (by decide), own_ok_in (c := c5) (i := 5) (n := (Int32.ofNat 6)) (by decide), own_ok_out (c := c6) (i := 6) (n := (Int32.ofNat 6)) (by decide), own_ok_out (c := c7) (i := 7) (n := (Int32.ofNat 6)) (by decide)]
    simp only [Bool.and_true]
  have hadj : own_adj (Int32.ofNat 6) c0 c1 c2 c3 c4 c5 c6 c7 = ((own_cls c0 == 1 && own_cls c1 == 1) || (own_cls c1 == 1 && own_cls c2 == 1) || (own_cls c2 == 1 && own_cls c3 == 1) || (own_cls c3 == 1 && own_cls c4 == 1) || (own_cls c4 == 1 && own_cls c5 == 1)) := by
    unfold own_adj
    rw [own_pair_in (a := c0) (b := c1) (i := 0) (n := (Int32.ofNat 6)) (by decide), own_pair_in (a := c1) (b := c2) (i := 1) (n := (Int32.ofNat 6)) (by decide), own_pair_in (a := c2) (b := c3) (i := 2) (n := (Int32.ofNat 6)) (by decide), own_pair_in (a := c3) (b := c4) (i := 3) (n := (Int32.ofNat 6)) (by decide), own_pair_in (a := c4) (b := c5) (i := 4) (n := (Int32.ofNat 6)) (by decide), own_pair_out (a := c5) (b := c6) (i := 5) (n := (Int32.ofNat 6)) (by decide), own_pair_out (a := c6) (b := c7) (i := 6) (n := (Int32.ofNat 6)) (by decide)]
    simp only [Bool.or_false]
  have hedge : own_edge c0 ([c0, c1, c2, c3, c4, c5, c6, c7].getD (6 - 1) 0) = (own_cls c0 == 1 || own_cls c5 == 1) := by
    show (own_dot c0 || own_dot c5) = _
    rw [own_cls_dot, own_cls_dot]
  have hseg : own_segs (Int32.ofNat 6) c0 c1 c2 c3 c4 c5 c6 c7 = Int32.ofNat (1 + own_bF (own_cls c0) + own_bF (own_cls c1) + own_bF (own_cls c2) + own_bF (own_cls c3) + own_bF (own_cls c4) + own_bF (own_cls c5) + 0 + 0) := by
    unfold own_segs
    rw [own_dat_in (c := c0) (i := 0) (n := (Int32.ofNat 6)) (by decide), own_dat_in (c := c1) (i := 1) (n := (Int32.ofNat 6)) (by decide), own_dat_in (c := c2) (i := 2) (n := (Int32.ofNat 6)) (by decide), own_dat_in (c := c3) (i := 3) (n := (Int32.ofNat 6)) (by decide), own_dat_in (c := c4) (i := 4) (n := (Int32.ofNat 6)) (by decide), own_dat_in (c := c5) (i := 5) (n := (Int32.ofNat 6)) (by decide), own_dat_out (c := c6) (i := 6) (n := (Int32.ofNat 6)) (by decide), own_dat_out (c := c7) (i := 7) (n := (Int32.ofNat 6)) (by decide)]
    simp only [Int32.ofNat_add]
    rfl
  obtain ⟨q1, q2⟩ := own_dec6 (own_cls c0) (own_cls c1) (own_cls c2) (own_cls c3) (own_cls c4) (own_cls c5)
  unfold own_isSeg own_ref own_fin
  rw [hall, hadj, hedge, hseg, own_run_cls]
  exact own_join q1 q2
set_option maxRecDepth 100000 in
theorem own_dec7 : ∀ a0 a1 a2 a3 a4 a5 a6 : Fin 3, ((own_runF [a0, a1, a2, a3, a4, a5, a6] 1 0).2.2 && decide (0 < (own_runF [a0, a1, a2, a3, a4, a5, a6] 1 0).2.1)) = (((a0 != 2) && (a1 != 2) && (a2 != 2) && (a3 != 2) && (a4 != 2) && (a5 != 2) && (a6 != 2)) && !((a0 == 1 && a1 == 1) || (a1 == 1 && a2 == 1) || (a2 == 1 && a3 == 1) || (a3 == 1 && a4 == 1) || (a4 == 1 && a5 == 1) || (a5 == 1 && a6 == 1)) && !(a0 == 1 || a6 == 1)) ∧ ((((a0 != 2) && (a1 != 2) && (a2 != 2) && (a3 != 2) && (a4 != 2) && (a5 != 2) && (a6 != 2)) && !((a0 == 1 && a1 == 1) || (a1 == 1 && a2 == 1) || (a2 == 1 && a3 == 1) || (a3 == 1 && a4 == 1) || (a4 == 1 && a5 == 1) || (a5 == 1 && a6 == 1)) && !(a0 == 1 || a6 == 1)) = true → (own_runF [a0, a1, a2, a3, a4, a5, a6] 1 0).1 = 1 + own_bF a0 + own_bF a1 + own_bF a2 + own_bF a3 + own_bF a4 + own_bF a5 + own_bF a6 + 0) := by decide +kernel
theorem own_plain7 (c0 c1 c2 c3 c4 c5 c6 c7 mn mx : Int32) : own_isSeg [c0, c1, c2, c3, c4, c5, c6] mn mx = own_ref 7 c0 c1 c2 c3 c4 c5 c6 c7 mn mx := by
  have hall : own_all (Int32.ofNat 7) c0 c1 c2 c3 c4 c5 c6 c7 = ((own_cls c0 != 2) && (own_cls c1 != 2) && (own_cls c2 != 2) && (own_cls c3 != 2) && (own_cls c4 != 2) && (own_cls c5 != 2) && (own_cls c6 != 2)) := by
    unfold own_all
    rw [own_ok_in (c := c0) (i := 0) (n := (Int32.ofNat 7)) (by decide), own_ok_in (c := c1) (i := 1) (n := (Int32.ofNat 7)) (by decide), own_ok_in (c := c2) (i := 2) (n := (Int32.ofNat 7)) (by decide), own_ok_in (c := c3) (i := 3) (n := (Int32.ofNat 7)) (by decide), own_ok_in (c := c4) (i := 4) (n := (Int32.ofNat 7)) (by decide), own_ok_in (c := c5) (i := 5) (n := (Int32.ofNat 7)) (by decide), own_ok_in (c := c6) (i := 6) (n := (Int32.ofNat 7)) (by decide), own_ok_out (c := c7) (i := 7) (n := (Int32.ofNat 7)) (by decide)]
    simp only [Bool.and_true]
  have hadj : own_adj (Int32.ofNat 7) c0 c1 c2 c3 c4 c5 c6 c7 = ((own_cls c0 == 1 && own_cls c1 == 1) || (own_cls c1 == 1 && own_cls c2 == 1) || (own_cls c2 == 1 && own_cls c3 == 1) || (own_cls c3 == 1 && own_cls c4 == 1) || (own_cls c4 == 1 && own_cls c5 == 1) || (own_cls c5 == 1 && own_cls c6 == 1)) := by
    unfold own_adj
    rw [own_pair_in (a := c0) (b := c1) (i := 0) (n := (Int32.ofNat 7)) (by decide), own_pair_in (a := c1) (b := c2) (i := 1) (n := (Int32.ofNat 7)) (by decide), own_pair_in (a := c2) (b := c3) (i := 2) (n := (Int32.ofNat 7)) (by decide), own_pair_in (a := c3) (b := c4) (i := 3) (n := (Int32.ofNat 7)) (by decide), own_pair_in (a := c4) (b := c5) (i := 4) (n := (Int32.ofNat 7)) (by decide), own_pair_in (a := c5) (b := c6) (i := 5) (n := (Int32.ofNat 7)) (by decide), own_pair_out (a := c6) (b := c7) (i := 6) (n := (Int32.ofNat 7)) (by decide)]
    simp only [Bool.or_false]
  have hedge : own_edge c0 ([c0, c1, c2, c3, c4, c5, c6, c7].getD (7 - 1) 0) = (own_cls c0 == 1 || own_cls c6 == 1) := by
    show (own_dot c0 || own_dot c6) = _
    rw [own_cls_dot, own_cls_dot]
  have hseg : own_segs (Int32.ofNat 7) c0 c1 c2 c3 c4 c5 c6 c7 = Int32.ofNat (1 + own_bF (own_cls c0) + own_bF (own_cls c1) + own_bF (own_cls c2) + own_bF (own_cls c3) + own_bF (own_cls c4) + own_bF (own_cls c5) + own_bF (own_cls c6) + 0) := by
    unfold own_segs
    rw [own_dat_in (c := c0) (i := 0) (n := (Int32.ofNat 7)) (by decide), own_dat_in (c := c1) (i := 1) (n := (Int32.ofNat 7)) (by decide), own_dat_in (c := c2) (i := 2) (n := (Int32.ofNat 7)) (by decide), own_dat_in (c := c3) (i := 3) (n := (Int32.ofNat 7)) (by decide), own_dat_in (c := c4) (i := 4) (n := (Int32.ofNat 7)) (by decide), own_dat_in (c := c5) (i := 5) (n := (Int32.ofNat 7)) (by decide), own_dat_in (c := c6) (i := 6) (n := (Int32.ofNat 7)) (by decide), own_dat_out (c := c7) (i := 7) (n := (Int32.ofNat 7)) (by decide)]
    simp only [Int32.ofNat_add]
    rfl
  obtain ⟨q1, q2⟩ := own_dec7 (own_cls c0) (own_cls c1) (own_cls c2) (own_cls c3) (own_cls c4) (own_cls c5) (own_cls c6)
  unfold own_isSeg own_ref own_fin
  rw [hall, hadj, hedge, hseg, own_run_cls]
  exact own_join q1 q2
set_option maxRecDepth 100000 in
theorem own_dec8 : ∀ a0 a1 a2 a3 a4 a5 a6 a7 : Fin 3, ((own_runF [a0, a1, a2, a3, a4, a5, a6, a7] 1 0).2.2 && decide (0 < (own_runF [a0, a1, a2, a3, a4, a5, a6, a7] 1 0).2.1)) = (((a0 != 2) && (a1 != 2) && (a2 != 2) && (a3 != 2) && (a4 != 2) && (a5 != 2) && (a6 != 2) && (a7 != 2)) && !((a0 == 1 && a1 == 1) || (a1 == 1 && a2 == 1) || (a2 == 1 && a3 == 1) || (a3 == 1 && a4 == 1) || (a4 == 1 && a5 == 1) || (a5 == 1 && a6 == 1) || (a6 == 1 && a7 == 1)) && !(a0 == 1 || a7 == 1)) ∧ ((((a0 != 2) && (a1 != 2) && (a2 != 2) && (a3 != 2) && (a4 != 2) && (a5 != 2) && (a6 != 2) && (a7 != 2)) && !((a0 == 1 && a1 == 1) || (a1 == 1 && a2 == 1) || (a2 == 1 && a3 == 1) || (a3 == 1 && a4 == 1) || (a4 == 1 && a5 == 1) || (a5 == 1 && a6 == 1) || (a6 == 1 && a7 == 1)) && !(a0 == 1 || a7 == 1)) = true → (own_runF [a0, a1, a2, a3, a4, a5, a6, a7] 1 0).1 = 1 + own_bF a0 + own_bF a1 + own_bF a2 + own_bF a3 + own_bF a4 + own_bF a5 + own_bF a6 + own_bF a7) := by decide +kernel
theorem own_plain8 (c0 c1 c2 c3 c4 c5 c6 c7 mn mx : Int32) : own_isSeg [c0, c1, c2, c3, c4, c5, c6, c7] mn mx = own_ref 8 c0 c1 c2 c3 c4 c5 c6 c7 mn mx := by
  have hall : own_all (Int32.ofNat 8) c0 c1 c2 c3 c4 c5 c6 c7 = ((own_cls c0 != 2) && (own_cls c1 != 2) && (own_cls c2 != 2) && (own_cls c3 != 2) && (own_cls c4 != 2) && (own_cls c5 != 2) && (own_cls c6 != 2) && (own_cls c7 != 2)) := by
    unfold own_all
    rw [own_ok_in (c := c0) (i := 0) (n := (Int32.ofNat 8)) (by decide), own_ok_in (c := c1) (i := 1) (n := (Int32.ofNat 8)) (by decide), own_ok_in (c := c2) (i := 2) (n := (Int32.ofNat 8)) (by decide), own_ok_in (c := c3) (i := 3) (n := (Int32.ofNat 8)) (by decide), own_ok_in (c := c4) (i := 4) (n := (Int32.ofNat 8)) (by decide), own_ok_in (c := c5) (i := 5) (n := (Int32.ofNat 8)) (by decide), own_ok_in (c := c6) (i := 6) (n := (Int32.ofNat 8)) (by decide), own_ok_in (c := c7) (i := 7) (n := (Int32.ofNat 8)) (by decide)]
  have hadj : own_adj (Int32.ofNat 8) c0 c1 c2 c3 c4 c5 c6 c7 = ((own_cls c0 == 1 && own_cls c1 == 1) || (own_cls c1 == 1 && own_cls c2 == 1) || (own_cls c2 == 1 && own_cls c3 == 1) || (own_cls c3 == 1 && own_cls c4 == 1) || (own_cls c4 == 1 && own_cls c5 == 1) || (own_cls c5 == 1 && own_cls c6 == 1) || (own_cls c6 == 1 && own_cls c7 == 1)) := by
    unfold own_adj
    rw [own_pair_in (a := c0) (b := c1) (i := 0) (n := (Int32.ofNat 8)) (by decide), own_pair_in (a := c1) (b := c2) (i := 1) (n := (Int32.ofNat 8)) (by decide), own_pair_in (a := c2) (b := c3) (i := 2) (n := (Int32.ofNat 8)) (by decide), own_pair_in (a := c3) (b := c4) (i := 3) (n := (Int32.ofNat 8)) (by decide), own_pair_in (a := c4) (b := c5) (i := 4) (n := (Int32.ofNat 8)) (by decide), own_pair_in (a := c5) (b := c6) (i := 5) (n := (Int32.ofNat 8)) (by decide), own_pair_in (a := c6) (b := c7) (i := 6) (n := (Int32.ofNat 8)) (by decide)]
  have hedge : own_edge c0 ([c0, c1, c2, c3, c4, c5, c6, c7].getD (8 - 1) 0) = (own_cls c0 == 1 || own_cls c7 == 1) := by
    show (own_dot c0 || own_dot c7) = _
    rw [own_cls_dot, own_cls_dot]
  have hseg : own_segs (Int32.ofNat 8) c0 c1 c2 c3 c4 c5 c6 c7 = Int32.ofNat (1 + own_bF (own_cls c0) + own_bF (own_cls c1) + own_bF (own_cls c2) + own_bF (own_cls c3) + own_bF (own_cls c4) + own_bF (own_cls c5) + own_bF (own_cls c6) + own_bF (own_cls c7)) := by
    unfold own_segs
    rw [own_dat_in (c := c0) (i := 0) (n := (Int32.ofNat 8)) (by decide), own_dat_in (c := c1) (i := 1) (n := (Int32.ofNat 8)) (by decide), own_dat_in (c := c2) (i := 2) (n := (Int32.ofNat 8)) (by decide), own_dat_in (c := c3) (i := 3) (n := (Int32.ofNat 8)) (by decide), own_dat_in (c := c4) (i := 4) (n := (Int32.ofNat 8)) (by decide), own_dat_in (c := c5) (i := 5) (n := (Int32.ofNat 8)) (by decide), own_dat_in (c := c6) (i := 6) (n := (Int32.ofNat 8)) (by decide), own_dat_in (c := c7) (i := 7) (n := (Int32.ofNat 8)) (by decide)]
    simp only [Int32.ofNat_add]
    rfl
  obtain ⟨q1, q2⟩ := own_dec8 (own_cls c0) (own_cls c1) (own_cls c2) (own_cls c3) (own_cls c4) (own_cls c5) (own_cls c6) (own_cls c7)
  unfold own_isSeg own_ref own_fin
  rw [hall, hadj, hedge, hseg, own_run_cls]
  exact own_join q1 q2
theorem own_plain (k : Nat) (h1 : 1 ≤ k) (h2 : k ≤ 8) (c0 c1 c2 c3 c4 c5 c6 c7 mn mx : Int32) : own_isSeg ([c0, c1, c2, c3, c4, c5, c6, c7].take k) mn mx = own_ref k c0 c1 c2 c3 c4 c5 c6 c7 mn mx := by
  have hk8 : k = 1 ∨ k = 2 ∨ k = 3 ∨ k = 4 ∨ k = 5 ∨ k = 6 ∨ k = 7 ∨ k = 8 := by omega
  rcases hk8 with rfl | rfl | rfl | rfl | rfl | rfl | rfl | rfl
  · exact own_plain1 c0 c1 c2 c3 c4 c5 c6 c7 mn mx
  · exact own_plain2 c0 c1 c2 c3 c4 c5 c6 c7 mn mx
  · exact own_plain3 c0 c1 c2 c3 c4 c5 c6 c7 mn mx
  · exact own_plain4 c0 c1 c2 c3 c4 c5 c6 c7 mn mx
  · exact own_plain5 c0 c1 c2 c3 c4 c5 c6 c7 mn mx
  · exact own_plain6 c0 c1 c2 c3 c4 c5 c6 c7 mn mx
  · exact own_plain7 c0 c1 c2 c3 c4 c5 c6 c7 mn mx
  · exact own_plain8 c0 c1 c2 c3 c4 c5 c6 c7 mn mx

theorem own_n9 (x : Int32) : ∃ k : Nat, k ≤ 8 ∧ (x &&& 2147483647) - ((x &&& 2147483647) / 9) * 9 = Int32.ofNat k := by
  have h1 := c_mask x 2147483647 31 (by decide) (by decide)
  generalize x &&& 2147483647 = y at *
  have h0 : 0 ≤ y.toInt := by omega
  have d := (c_idiv y 9 9 rfl (by decide)).1 h0
  have m := c_imul (y / 9) 9
  have s := c_isub y (y / 9 * 9)
  have r1 := rng32 y; have r2 := rng32 (y / 9 * 9); have r3 := rng32 (y - y / 9 * 9)
  have e5 : (9 : Int32).toInt = 9 := rfl
  have k : (y - y / 9 * 9).toInt = y.toInt % 9 := by rw [e5] at m; omega
  refine ⟨(y.toInt % 9).toNat, by omega, Int32.toInt_inj.mp ?_⟩
  rw [k, Int32.toInt_ofNat_of_lt (by omega)]; omega
def Q0 (Z : State) (p0 : Int64) (p1 : Int32) (p2 : Int32) (p3 : Int32) (p4 : Int32) (h0 : Heap) (n0 : Nat) (v : Option Value) (h : Heap) (L : List Loc) : Prop := v = some (.int 1) ∧ Fr n0 L
set_option maxRecDepth 65536 in
set_option maxHeartbeats 40000000 in
theorem rm0 (l : Launch) (Z : State) (a0 : Array Value) (hw : ∀ d ∈ tables_1, d.before a0 Z = true) (ws : List Jvm.Cond) (p0 : Int64) (p1 : Int32) (p2 : Int32) (p3 : Int32) (p4 : Int32) (h0 : Heap) (n0 : Nat) (Z0 : n0 ≤ h0.size) (z : Int32) (O : Old Z n0 h0) (O2 : Sta Z Z.heap "java/lang/String" "COMPACT_STRINGS" "Z" (.int z)) (P5 : ¬ z = 0) (fm : Value) (hfm : fm.isRef = true) (SF : Sta Z Z.heap "jdk/internal/util/Preconditions" "SIOOBE_FORMATTER" "Ljava/util/function/BiFunction;" fm) :
    MetFree l x (head1 (Jvm.Cond.code x code maxLocals ret :: ws) room_1) (fun aa_ U => aa_ = #[(.long p0), (.int p1), (.int p2), (.int p3), (.int p4)] ∧ Z.Warmed39 U.vm ∧ U.heap = h0 ∧ CHv Z own_EL U.vm h0) (fun _ _ _ _ _ => True) (fun _ U o U' => ∃ v L, o = .returned v ∧ Q0 Z p0 p1 p2 p3 p4 h0 n0 v U'.heap L ∧ ReturnedEndW U o U' L 16 1152) := by
  refine MetFree.of_bodySF (plainFor_of_name pn3) hisR ?_
  intro p e s m args below meth c s₁ Bd hml0 hP hK
  obtain ⟨rfl, hZ, hh, hCH⟩ := hP
  have hx := Bd.exec
  have hby := Bd.bytes
  have hml : c.maxLocals = 18 := hml0
  have hown : s.vm.findClass "com/example/tallyhook/tallyhook/core/EventTypeIsSegmentsPinLaw" = some m.cls := findClass_of_methodNamed Bd.named
  have hnm := (name_of_methodNamed Bd.named Bd.method).1
  have X0 : Stand p l e room_1 s m #[(.long p0), (.int p1), (.int p2), (.int p3), (.int p4)] below meth c s₁ [] 0 0 := Stand.of_body Bd
  have e0 : s₁.heap = h0 := by rw [← hh, Bd.state]; rfl
  have N0 := Fr.nil n0
  obtain ⟨G, hG⟩ : ∃ G, G = entryFrame m #[(.long p0), (.int p1), (.int p2), (.int p3), (.int p4)] maxLocals := ⟨_, rfl⟩
  have S0 : own_Go p e below s₁ G s₁ (mkF m 0 #[.val (.long p0), .second, .val (.int p1), .val (.int p2), .val (.int p3), .val (.int p4), .unset, .unset, .unset, .unset, .unset, .unset, .unset, .unset, .unset, .unset, .unset, .unset] []) := fun tg_ kk_ => castTop (by rw [hG]; simp [entryFrame, mkF, argsToLocals, Value.category, maxLocals]) kk_
  have hEL := own_EW hw
  have S605 : own_Go p e below s₁ G s₁ (mkF m 7 #[.val (.long p0), .second, .val (.int p1), .val (.int p2), .val (.int p3), .val (.int p4), .unset, .unset, .unset, .unset, .unset, .unset, .unset, .unset, .unset, .unset, .unset, .unset] [(.int ((p2 &&& (2147483647 : Int32)) - ((p2 &&& (2147483647 : Int32)) / (9 : Int32)) * (9 : Int32)))]) := fun tg_ kk_ => S0 tg_ (by
    refine XS.iloadN X0.here hx rfl (hb hby at_0) rfl ?_
    show Steps p.tables e below (s₁.setTop (mkF m 1 #[.val (.long p0), .second, .val (.int p1), .val (.int p2), .val (.int p3), .val (.int p4), .unset, .unset, .unset, .unset, .unset, .unset, .unset, .unset, .unset, .unset, .unset, .unset] [(.int p2)])) _
    refine X0.ldcInt hx hown (mvT hZ (hw _ (List.mem_of_getElem? (i := 0) rfl))) (g := (mkF m 1 #[.val (.long p0), .second, .val (.int p1), .val (.int p2), .val (.int p3), .val (.int p4), .unset, .unset, .unset, .unset, .unset, .unset, .unset, .unset, .unset, .unset, .unset, .unset] [(.int p2)])) rfl (hb hby at_1) _ ?_
    show Steps p.tables e below (s₁.setTop (mkF m 3 #[.val (.long p0), .second, .val (.int p1), .val (.int p2), .val (.int p3), .val (.int p4), .unset, .unset, .unset, .unset, .unset, .unset, .unset, .unset, .unset, .unset, .unset, .unset] [(.int (2147483647 : Int32)), (.int p2)])) _
    refine XS.iand X0.here hx rfl (hb hby at_3) rfl ?_
    show Steps p.tables e below (s₁.setTop (mkF m 4 #[.val (.long p0), .second, .val (.int p1), .val (.int p2), .val (.int p3), .val (.int p4), .unset, .unset, .unset, .unset, .unset, .unset, .unset, .unset, .unset, .unset, .unset, .unset] [(.int (p2 &&& (2147483647 : Int32)))])) _
    refine XS.bipush X0.here hx rfl (hb hby at_4) ?_
    show Steps p.tables e below (s₁.setTop (mkF m 6 #[.val (.long p0), .second, .val (.int p1), .val (.int p2), .val (.int p3), .val (.int p4), .unset, .unset, .unset, .unset, .unset, .unset, .unset, .unset, .unset, .unset, .unset, .unset] [(.int (9 : Int32)), (.int (p2 &&& (2147483647 : Int32)))])) _
    refine XS.irem X0.here hx rfl (hb hby at_6) rfl (by decide) ?_
    exact kk_)
  obtain ⟨k, hk, hkn⟩ := own_n9 p2
  rw [hkn] at S605
  have S606 : own_Go p e below s₁ G s₁ (mkF m 12 #[.val (.long p0), .second, .val (.int p1), .val (.int p2), .val (.int p3), .val (.int p4), .val (.int (Int32.ofNat k)), .unset, .unset, .unset, .unset, .unset, .unset, .unset, .unset, .unset, .unset, .unset] [(.int (0 : Int32)), (.int p1), (.long p0)]) := fun tg_ kk_ => S605 tg_ (by
    refine XS.istore X0.here hx rfl (hb hby at_7) rfl (l' := #[.val (.long p0), .second, .val (.int p1), .val (.int p2), .val (.int p3), .val (.int p4), .val (.int (Int32.ofNat k)), .unset, .unset, .unset, .unset, .unset, .unset, .unset, .unset, .unset, .unset, .unset]) rfl ?_
    show Steps p.tables e below (s₁.setTop (mkF m 9 #[.val (.long p0), .second, .val (.int p1), .val (.int p2), .val (.int p3), .val (.int p4), .val (.int (Int32.ofNat k)), .unset, .unset, .unset, .unset, .unset, .unset, .unset, .unset, .unset, .unset, .unset] [])) _
    refine XT.lloadN X0.here hx rfl (hb hby at_9) rfl ?_
    show Steps p.tables e below (s₁.setTop (mkF m 10 #[.val (.long p0), .second, .val (.int p1), .val (.int p2), .val (.int p3), .val (.int p4), .val (.int (Int32.ofNat k)), .unset, .unset, .unset, .unset, .unset, .unset, .unset, .unset, .unset, .unset, .unset] [(.long p0)])) _
    refine XS.iloadN X0.here hx rfl (hb hby at_10) rfl ?_
    show Steps p.tables e below (s₁.setTop (mkF m 11 #[.val (.long p0), .second, .val (.int p1), .val (.int p2), .val (.int p3), .val (.int p4), .val (.int (Int32.ofNat k)), .unset, .unset, .unset, .unset, .unset, .unset, .unset, .unset, .unset, .unset, .unset] [(.int p1), (.long p0)])) _
    refine XS.iconst X0.here hx rfl (hb hby at_11) ?_
    exact kk_)
  obtain ⟨_, T607, h607, L607, X607, e607, hQ607, st607⟩ := own_callS X0 hx hZ (y := (⟨"com/example/tallyhook/tallyhook/core/EventTypeIsSegmentsPinLaw", "ch", "(JII)C"⟩ : MethodName)) hown (hw _ (List.mem_of_getElem? (i := 1) rfl)) (hw _ (List.mem_of_getElem? (i := 2) rfl)) (hw _ (List.mem_of_getElem? (i := 3) rfl)) (hw _ (List.mem_of_getElem? (i := 4) rfl)) (by decide) 0 (g := (mkF m 12 #[.val (.long p0), .second, .val (.int p1), .val (.int p2), .val (.int p3), .val (.int p4), .val (.int (Int32.ofNat k)), .unset, .unset, .unset, .unset, .unset, .unset, .unset, .unset, .unset, .unset, .unset] [(.int (0 : Int32)), (.int p1), (.long p0)])) rfl (by rw [hml]; rfl) [(.long p0), (.int p1), (.int (0 : Int32))] [] (rm1 l Z a0 hw [] p0 p1 (0 : Int32) h0 n0 Z0) (lenOf pd2 rfl) rfl (by show 2 * 0 + _ ≤ _; exact Nat.le_of_eq rfl) (hb hby at_12) (by decide) (by decide) e0 (by decide) (by decide)
  obtain ⟨c0, hc0, rfl, N607, rfl⟩ := hQ607
  have S608 : own_Go p e below s₁ G T607 (mkF m 15 #[.val (.long p0), .second, .val (.int p1), .val (.int p2), .val (.int p3), .val (.int p4), .val (.int (Int32.ofNat k)), .unset, .unset, .unset, .unset, .unset, .unset, .unset, .unset, .unset, .unset, .unset] [(.int c0)]) := fun tg_ kk_ => S606 tg_ (st607 tg_ kk_)
  have M607 := Fr.app N0 N607
  have S609 : own_Go p e below s₁ G T607 (mkF m 20 #[.val (.long p0), .second, .val (.int p1), .val (.int p2), .val (.int p3), .val (.int p4), .val (.int (Int32.ofNat k)), .val (.int c0), .unset, .unset, .unset, .unset, .unset, .unset, .unset, .unset, .unset, .unset] [(.int (1 : Int32)), (.int p1), (.long p0)]) := fun tg_ kk_ => S608 tg_ (by
    refine XS.istore X607.here hx rfl (hb hby at_15) rfl (l' := #[.val (.long p0), .second, .val (.int p1), .val (.int p2), .val (.int p3), .val (.int p4), .val (.int (Int32.ofNat k)), .val (.int c0), .unset, .unset, .unset, .unset, .unset, .unset, .unset, .unset, .unset, .unset]) rfl ?_
    show Steps p.tables e below (T607.setTop (mkF m 17 #[.val (.long p0), .second, .val (.int p1), .val (.int p2), .val (.int p3), .val (.int p4), .val (.int (Int32.ofNat k)), .val (.int c0), .unset, .unset, .unset, .unset, .unset, .unset, .unset, .unset, .unset, .unset] [])) _
    refine XT.lloadN X607.here hx rfl (hb hby at_17) rfl ?_
    show Steps p.tables e below (T607.setTop (mkF m 18 #[.val (.long p0), .second, .val (.int p1), .val (.int p2), .val (.int p3), .val (.int p4), .val (.int (Int32.ofNat k)), .val (.int c0), .unset, .unset, .unset, .unset, .unset, .unset, .unset, .unset, .unset, .unset] [(.long p0)])) _
    refine XS.iloadN X607.here hx rfl (hb hby at_18) rfl ?_
    show Steps p.tables e below (T607.setTop (mkF m 19 #[.val (.long p0), .second, .val (.int p1), .val (.int p2), .val (.int p3), .val (.int p4), .val (.int (Int32.ofNat k)), .val (.int c0), .unset, .unset, .unset, .unset, .unset, .unset, .unset, .unset, .unset, .unset] [(.int p1), (.long p0)])) _
    refine XS.iconst X607.here hx rfl (hb hby at_19) ?_
    exact kk_)
  obtain ⟨_, T610, h610, L610, X610, e610, hQ610, st610⟩ := own_callS X607 hx hZ (y := (⟨"com/example/tallyhook/tallyhook/core/EventTypeIsSegmentsPinLaw", "ch", "(JII)C"⟩ : MethodName)) hown (hw _ (List.mem_of_getElem? (i := 1) rfl)) (hw _ (List.mem_of_getElem? (i := 2) rfl)) (hw _ (List.mem_of_getElem? (i := 3) rfl)) (hw _ (List.mem_of_getElem? (i := 4) rfl)) (by decide) 0 (g := (mkF m 20 #[.val (.long p0), .second, .val (.int p1), .val (.int p2), .val (.int p3), .val (.int p4), .val (.int (Int32.ofNat k)), .val (.int c0), .unset, .unset, .unset, .unset, .unset, .unset, .unset, .unset, .unset, .unset] [(.int (1 : Int32)), (.int p1), (.long p0)])) rfl (by rw [hml]; rfl) [(.long p0), (.int p1), (.int (1 : Int32))] [] (rm1 l Z a0 hw [] p0 p1 (1 : Int32) h0 n0 Z0) (lenOf pd2 rfl) rfl (by show 2 * 0 + _ ≤ _; exact Nat.le_of_eq rfl) (hb hby at_20) (by decide) (by decide) e607 (by decide) (by decide)
  obtain ⟨c1, hc1, rfl, N610, rfl⟩ := hQ610
  have S611 : own_Go p e below s₁ G T610 (mkF m 23 #[.val (.long p0), .second, .val (.int p1), .val (.int p2), .val (.int p3), .val (.int p4), .val (.int (Int32.ofNat k)), .val (.int c0), .unset, .unset, .unset, .unset, .unset, .unset, .unset, .unset, .unset, .unset] [(.int c1)]) := fun tg_ kk_ => S609 tg_ (st610 tg_ kk_)
  have M610 := Fr.app M607 N610
  have S612 : own_Go p e below s₁ G T610 (mkF m 28 #[.val (.long p0), .second, .val (.int p1), .val (.int p2), .val (.int p3), .val (.int p4), .val (.int (Int32.ofNat k)), .val (.int c0), .val (.int c1), .unset, .unset, .unset, .unset, .unset, .unset, .unset, .unset, .unset] [(.int (2 : Int32)), (.int p1), (.long p0)]) := fun tg_ kk_ => S611 tg_ (by
    refine XS.istore X610.here hx rfl (hb hby at_23) rfl (l' := #[.val (.long p0), .second, .val (.int p1), .val (.int p2), .val (.int p3), .val (.int p4), .val (.int (Int32.ofNat k)), .val (.int c0), .val (.int c1), .unset, .unset, .unset, .unset, .unset, .unset, .unset, .unset, .unset]) rfl ?_
    show Steps p.tables e below (T610.setTop (mkF m 25 #[.val (.long p0), .second, .val (.int p1), .val (.int p2), .val (.int p3), .val (.int p4), .val (.int (Int32.ofNat k)), .val (.int c0), .val (.int c1), .unset, .unset, .unset, .unset, .unset, .unset, .unset, .unset, .unset] [])) _
    refine XT.lloadN X610.here hx rfl (hb hby at_25) rfl ?_
    show Steps p.tables e below (T610.setTop (mkF m 26 #[.val (.long p0), .second, .val (.int p1), .val (.int p2), .val (.int p3), .val (.int p4), .val (.int (Int32.ofNat k)), .val (.int c0), .val (.int c1), .unset, .unset, .unset, .unset, .unset, .unset, .unset, .unset, .unset] [(.long p0)])) _
    refine XS.iloadN X610.here hx rfl (hb hby at_26) rfl ?_
    show Steps p.tables e below (T610.setTop (mkF m 27 #[.val (.long p0), .second, .val (.int p1), .val (.int p2), .val (.int p3), .val (.int p4), .val (.int (Int32.ofNat k)), .val (.int c0), .val (.int c1), .unset, .unset, .unset, .unset, .unset, .unset, .unset, .unset, .unset] [(.int p1), (.long p0)])) _
    refine XS.iconst X610.here hx rfl (hb hby at_27) ?_
    exact kk_)
  obtain ⟨_, T613, h613, L613, X613, e613, hQ613, st613⟩ := own_callS X610 hx hZ (y := (⟨"com/example/tallyhook/tallyhook/core/EventTypeIsSegmentsPinLaw", "ch", "(JII)C"⟩ : MethodName)) hown (hw _ (List.mem_of_getElem? (i := 1) rfl)) (hw _ (List.mem_of_getElem? (i := 2) rfl)) (hw _ (List.mem_of_getElem? (i := 3) rfl)) (hw _ (List.mem_of_getElem? (i := 4) rfl)) (by decide) 0 (g := (mkF m 28 #[.val (.long p0), .second, .val (.int p1), .val (.int p2), .val (.int p3), .val (.int p4), .val (.int (Int32.ofNat k)), .val (.int c0), .val (.int c1), .unset, .unset, .unset, .unset, .unset, .unset, .unset, .unset, .unset] [(.int (2 : Int32)), (.int p1), (.long p0)])) rfl (by rw [hml]; rfl) [(.long p0), (.int p1), (.int (2 : Int32))] [] (rm1 l Z a0 hw [] p0 p1 (2 : Int32) h0 n0 Z0) (lenOf pd2 rfl) rfl (by show 2 * 0 + _ ≤ _; exact Nat.le_of_eq rfl) (hb hby at_28) (by decide) (by decide) e610 (by decide) (by decide)
  obtain ⟨c2, hc2, rfl, N613, rfl⟩ := hQ613
  have S614 : own_Go p e below s₁ G T613 (mkF m 31 #[.val (.long p0), .second, .val (.int p1), .val (.int p2), .val (.int p3), .val (.int p4), .val (.int (Int32.ofNat k)), .val (.int c0), .val (.int c1), .unset, .unset, .unset, .unset, .unset, .unset, .unset, .unset, .unset] [(.int c2)]) := fun tg_ kk_ => S612 tg_ (st613 tg_ kk_)
  have M613 := Fr.app M610 N613
  have S615 : own_Go p e below s₁ G T613 (mkF m 36 #[.val (.long p0), .second, .val (.int p1), .val (.int p2), .val (.int p3), .val (.int p4), .val (.int (Int32.ofNat k)), .val (.int c0), .val (.int c1), .val (.int c2), .unset, .unset, .unset, .unset, .unset, .unset, .unset, .unset] [(.int (3 : Int32)), (.int p1), (.long p0)]) := fun tg_ kk_ => S614 tg_ (by
    refine XS.istore X613.here hx rfl (hb hby at_31) rfl (l' := #[.val (.long p0), .second, .val (.int p1), .val (.int p2), .val (.int p3), .val (.int p4), .val (.int (Int32.ofNat k)), .val (.int c0), .val (.int c1), .val (.int c2), .unset, .unset, .unset, .unset, .unset, .unset, .unset, .unset]) rfl ?_
    show Steps p.tables e below (T613.setTop (mkF m 33 #[.val (.long p0), .second, .val (.int p1), .val (.int p2), .val (.int p3), .val (.int p4), .val (.int (Int32.ofNat k)), .val (.int c0), .val (.int c1), .val (.int c2), .unset, .unset, .unset, .unset, .unset, .unset, .unset, .unset] [])) _
    refine XT.lloadN X613.here hx rfl (hb hby at_33) rfl ?_
    show Steps p.tables e below (T613.setTop (mkF m 34 #[.val (.long p0), .second, .val (.int p1), .val (.int p2), .val (.int p3), .val (.int p4), .val (.int (Int32.ofNat k)), .val (.int c0), .val (.int c1), .val (.int c2), .unset, .unset, .unset, .unset, .unset, .unset, .unset, .unset] [(.long p0)])) _
    refine XS.iloadN X613.here hx rfl (hb hby at_34) rfl ?_
    show Steps p.tables e below (T613.setTop (mkF m 35 #[.val (.long p0), .second, .val (.int p1), .val (.int p2), .val (.int p3), .val (.int p4), .val (.int (Int32.ofNat k)), .val (.int c0), .val (.int c1), .val (.int c2), .unset, .unset, .unset, .unset, .unset, .unset, .unset, .unset] [(.int p1), (.long p0)])) _
    refine XS.iconst X613.here hx rfl (hb hby at_35) ?_
    exact kk_)
  obtain ⟨_, T616, h616, L616, X616, e616, hQ616, st616⟩ := own_callS X613 hx hZ (y := (⟨"com/example/tallyhook/tallyhook/core/EventTypeIsSegmentsPinLaw", "ch", "(JII)C"⟩ : MethodName)) hown (hw _ (List.mem_of_getElem? (i := 1) rfl)) (hw _ (List.mem_of_getElem? (i := 2) rfl)) (hw _ (List.mem_of_getElem? (i := 3) rfl)) (hw _ (List.mem_of_getElem? (i := 4) rfl)) (by decide) 0 (g := (mkF m 36 #[.val (.long p0), .second, .val (.int p1), .val (.int p2), .val (.int p3), .val (.int p4), .val (.int (Int32.ofNat k)), .val (.int c0), .val (.int c1), .val (.int c2), .unset, .unset, .unset, .unset, .unset, .unset, .unset, .unset] [(.int (3 : Int32)), (.int p1), (.long p0)])) rfl (by rw [hml]; rfl) [(.long p0), (.int p1), (.int (3 : Int32))] [] (rm1 l Z a0 hw [] p0 p1 (3 : Int32) h0 n0 Z0) (lenOf pd2 rfl) rfl (by show 2 * 0 + _ ≤ _; exact Nat.le_of_eq rfl) (hb hby at_36) (by decide) (by decide) e613 (by decide) (by decide)
  obtain ⟨c3, hc3, rfl, N616, rfl⟩ := hQ616
  have S617 : own_Go p e below s₁ G T616 (mkF m 39 #[.val (.long p0), .second, .val (.int p1), .val (.int p2), .val (.int p3), .val (.int p4), .val (.int (Int32.ofNat k)), .val (.int c0), .val (.int c1), .val (.int c2), .unset, .unset, .unset, .unset, .unset, .unset, .unset, .unset] [(.int c3)]) := fun tg_ kk_ => S615 tg_ (st616 tg_ kk_)
  have M616 := Fr.app M613 N616
  have S618 : own_Go p e below s₁ G T616 (mkF m 44 #[.val (.long p0), .second, .val (.int p1), .val (.int p2), .val (.int p3), .val (.int p4), .val (.int (Int32.ofNat k)), .val (.int c0), .val (.int c1), .val (.int c2), .val (.int c3), .unset, .unset, .unset, .unset, .unset, .unset, .unset] [(.int (4 : Int32)), (.int p1), (.long p0)]) := fun tg_ kk_ => S617 tg_ (by
    refine XS.istore X616.here hx rfl (hb hby at_39) rfl (l' := #[.val (.long p0), .second, .val (.int p1), .val (.int p2), .val (.int p3), .val (.int p4), .val (.int (Int32.ofNat k)), .val (.int c0), .val (.int c1), .val (.int c2), .val (.int c3), .unset, .unset, .unset, .unset, .unset, .unset, .unset]) rfl ?_
    show Steps p.tables e below (T616.setTop (mkF m 41 #[.val (.long p0), .second, .val (.int p1), .val (.int p2), .val (.int p3), .val (.int p4), .val (.int (Int32.ofNat k)), .val (.int c0), .val (.int c1), .val (.int c2), .val (.int c3), .unset, .unset, .unset, .unset, .unset, .unset, .unset] [])) _
    refine XT.lloadN X616.here hx rfl (hb hby at_41) rfl ?_
    show Steps p.tables e below (T616.setTop (mkF m 42 #[.val (.long p0), .second, .val (.int p1), .val (.int p2), .val (.int p3), .val (.int p4), .val (.int (Int32.ofNat k)), .val (.int c0), .val (.int c1), .val (.int c2), .val (.int c3), .unset, .unset, .unset, .unset, .unset, .unset, .unset] [(.long p0)])) _
    refine XS.iloadN X616.here hx rfl (hb hby at_42) rfl ?_
    show Steps p.tables e below (T616.setTop (mkF m 43 #[.val (.long p0), .second, .val (.int p1), .val (.int p2), .val (.int p3), .val (.int p4), .val (.int (Int32.ofNat k)), .val (.int c0), .val (.int c1), .val (.int c2), .val (.int c3), .unset, .unset, .unset, .unset, .unset, .unset, .unset] [(.int p1), (.long p0)])) _
    refine XS.iconst X616.here hx rfl (hb hby at_43) ?_
    exact kk_)
  obtain ⟨_, T619, h619, L619, X619, e619, hQ619, st619⟩ := own_callS X616 hx hZ (y := (⟨"com/example/tallyhook/tallyhook/core/EventTypeIsSegmentsPinLaw", "ch", "(JII)C"⟩ : MethodName)) hown (hw _ (List.mem_of_getElem? (i := 1) rfl)) (hw _ (List.mem_of_getElem? (i := 2) rfl)) (hw _ (List.mem_of_getElem? (i := 3) rfl)) (hw _ (List.mem_of_getElem? (i := 4) rfl)) (by decide) 0 (g := (mkF m 44 #[.val (.long p0), .second, .val (.int p1), .val (.int p2), .val (.int p3), .val (.int p4), .val (.int (Int32.ofNat k)), .val (.int c0), .val (.int c1), .val (.int c2), .val (.int c3), .unset, .unset, .unset, .unset, .unset, .unset, .unset] [(.int (4 : Int32)), (.int p1), (.long p0)])) rfl (by rw [hml]; rfl) [(.long p0), (.int p1), (.int (4 : Int32))] [] (rm1 l Z a0 hw [] p0 p1 (4 : Int32) h0 n0 Z0) (lenOf pd2 rfl) rfl (by show 2 * 0 + _ ≤ _; exact Nat.le_of_eq rfl) (hb hby at_44) (by decide) (by decide) e616 (by decide) (by decide)
  obtain ⟨c4, hc4, rfl, N619, rfl⟩ := hQ619
  have S620 : own_Go p e below s₁ G T619 (mkF m 47 #[.val (.long p0), .second, .val (.int p1), .val (.int p2), .val (.int p3), .val (.int p4), .val (.int (Int32.ofNat k)), .val (.int c0), .val (.int c1), .val (.int c2), .val (.int c3), .unset, .unset, .unset, .unset, .unset, .unset, .unset] [(.int c4)]) := fun tg_ kk_ => S618 tg_ (st619 tg_ kk_)
  have M619 := Fr.app M616 N619
  have S621 : own_Go p e below s₁ G T619 (mkF m 52 #[.val (.long p0), .second, .val (.int p1), .val (.int p2), .val (.int p3), .val (.int p4), .val (.int (Int32.ofNat k)), .val (.int c0), .val (.int c1), .val (.int c2), .val (.int c3), .val (.int c4), .unset, .unset, .unset, .unset, .unset, .unset] [(.int (5 : Int32)), (.int p1), (.long p0)]) := fun tg_ kk_ => S620 tg_ (by
    refine XS.istore X619.here hx rfl (hb hby at_47) rfl (l' := #[.val (.long p0), .second, .val (.int p1), .val (.int p2), .val (.int p3), .val (.int p4), .val (.int (Int32.ofNat k)), .val (.int c0), .val (.int c1), .val (.int c2), .val (.int c3), .val (.int c4), .unset, .unset, .unset, .unset, .unset, .unset]) rfl ?_
    show Steps p.tables e below (T619.setTop (mkF m 49 #[.val (.long p0), .second, .val (.int p1), .val (.int p2), .val (.int p3), .val (.int p4), .val (.int (Int32.ofNat k)), .val (.int c0), .val (.int c1), .val (.int c2), .val (.int c3), .val (.int c4), .unset, .unset, .unset, .unset, .unset, .unset] [])) _
    refine XT.lloadN X619.here hx rfl (hb hby at_49) rfl ?_
    show Steps p.tables e below (T619.setTop (mkF m 50 #[.val (.long p0), .second, .val (.int p1), .val (.int p2), .val (.int p3), .val (.int p4), .val (.int (Int32.ofNat k)), .val (.int c0), .val (.int c1), .val (.int c2), .val (.int c3), .val (.int c4), .unset, .unset, .unset, .unset, .unset, .unset] [(.long p0)])) _
    refine XS.iloadN X619.here hx rfl (hb hby at_50) rfl ?_
    show Steps p.tables e below (T619.setTop (mkF m 51 #[.val (.long p0), .second, .val (.int p1), .val (.int p2), .val (.int p3), .val (.int p4), .val (.int (Int32.ofNat k)), .val (.int c0), .val (.int c1), .val (.int c2), .val (.int c3), .val (.int c4), .unset, .unset, .unset, .unset, .unset, .unset] [(.int p1), (.long p0)])) _
    refine XS.iconst X619.here hx rfl (hb hby at_51) ?_
    exact kk_)
  obtain ⟨_, T622, h622, L622, X622, e622, hQ622, st622⟩ := own_callS X619 hx hZ (y := (⟨"com/example/tallyhook/tallyhook/core/EventTypeIsSegmentsPinLaw", "ch", "(JII)C"⟩ : MethodName)) hown (hw _ (List.mem_of_getElem? (i := 1) rfl)) (hw _ (List.mem_of_getElem? (i := 2) rfl)) (hw _ (List.mem_of_getElem? (i := 3) rfl)) (hw _ (List.mem_of_getElem? (i := 4) rfl)) (by decide) 0 (g := (mkF m 52 #[.val (.long p0), .second, .val (.int p1), .val (.int p2), .val (.int p3), .val (.int p4), .val (.int (Int32.ofNat k)), .val (.int c0), .val (.int c1), .val (.int c2), .val (.int c3), .val (.int c4), .unset, .unset, .unset, .unset, .unset, .unset] [(.int (5 : Int32)), (.int p1), (.long p0)])) rfl (by rw [hml]; rfl) [(.long p0), (.int p1), (.int (5 : Int32))] [] (rm1 l Z a0 hw [] p0 p1 (5 : Int32) h0 n0 Z0) (lenOf pd2 rfl) rfl (by show 2 * 0 + _ ≤ _; exact Nat.le_of_eq rfl) (hb hby at_52) (by decide) (by decide) e619 (by decide) (by decide)
  obtain ⟨c5, hc5, rfl, N622, rfl⟩ := hQ622
  have S623 : own_Go p e below s₁ G T622 (mkF m 55 #[.val (.long p0), .second, .val (.int p1), .val (.int p2), .val (.int p3), .val (.int p4), .val (.int (Int32.ofNat k)), .val (.int c0), .val (.int c1), .val (.int c2), .val (.int c3), .val (.int c4), .unset, .unset, .unset, .unset, .unset, .unset] [(.int c5)]) := fun tg_ kk_ => S621 tg_ (st622 tg_ kk_)
  have M622 := Fr.app M619 N622
  have S624 : own_Go p e below s₁ G T622 (mkF m 61 #[.val (.long p0), .second, .val (.int p1), .val (.int p2), .val (.int p3), .val (.int p4), .val (.int (Int32.ofNat k)), .val (.int c0), .val (.int c1), .val (.int c2), .val (.int c3), .val (.int c4), .val (.int c5), .unset, .unset, .unset, .unset, .unset] [(.int (6 : Int32)), (.int p1), (.long p0)]) := fun tg_ kk_ => S623 tg_ (by
    refine XS.istore X622.here hx rfl (hb hby at_55) rfl (l' := #[.val (.long p0), .second, .val (.int p1), .val (.int p2), .val (.int p3), .val (.int p4), .val (.int (Int32.ofNat k)), .val (.int c0), .val (.int c1), .val (.int c2), .val (.int c3), .val (.int c4), .val (.int c5), .unset, .unset, .unset, .unset, .unset]) rfl ?_
    show Steps p.tables e below (T622.setTop (mkF m 57 #[.val (.long p0), .second, .val (.int p1), .val (.int p2), .val (.int p3), .val (.int p4), .val (.int (Int32.ofNat k)), .val (.int c0), .val (.int c1), .val (.int c2), .val (.int c3), .val (.int c4), .val (.int c5), .unset, .unset, .unset, .unset, .unset] [])) _
    refine XT.lloadN X622.here hx rfl (hb hby at_57) rfl ?_
    show Steps p.tables e below (T622.setTop (mkF m 58 #[.val (.long p0), .second, .val (.int p1), .val (.int p2), .val (.int p3), .val (.int p4), .val (.int (Int32.ofNat k)), .val (.int c0), .val (.int c1), .val (.int c2), .val (.int c3), .val (.int c4), .val (.int c5), .unset, .unset, .unset, .unset, .unset] [(.long p0)])) _
    refine XS.iloadN X622.here hx rfl (hb hby at_58) rfl ?_
    show Steps p.tables e below (T622.setTop (mkF m 59 #[.val (.long p0), .second, .val (.int p1), .val (.int p2), .val (.int p3), .val (.int p4), .val (.int (Int32.ofNat k)), .val (.int c0), .val (.int c1), .val (.int c2), .val (.int c3), .val (.int c4), .val (.int c5), .unset, .unset, .unset, .unset, .unset] [(.int p1), (.long p0)])) _
    refine XS.bipush X622.here hx rfl (hb hby at_59) ?_
    exact kk_)
  obtain ⟨_, T625, h625, L625, X625, e625, hQ625, st625⟩ := own_callS X622 hx hZ (y := (⟨"com/example/tallyhook/tallyhook/core/EventTypeIsSegmentsPinLaw", "ch", "(JII)C"⟩ : MethodName)) hown (hw _ (List.mem_of_getElem? (i := 1) rfl)) (hw _ (List.mem_of_getElem? (i := 2) rfl)) (hw _ (List.mem_of_getElem? (i := 3) rfl)) (hw _ (List.mem_of_getElem? (i := 4) rfl)) (by decide) 0 (g := (mkF m 61 #[.val (.long p0), .second, .val (.int p1), .val (.int p2), .val (.int p3), .val (.int p4), .val (.int (Int32.ofNat k)), .val (.int c0), .val (.int c1), .val (.int c2), .val (.int c3), .val (.int c4), .val (.int c5), .unset, .unset, .unset, .unset, .unset] [(.int (6 : Int32)), (.int p1), (.long p0)])) rfl (by rw [hml]; rfl) [(.long p0), (.int p1), (.int (6 : Int32))] [] (rm1 l Z a0 hw [] p0 p1 (6 : Int32) h0 n0 Z0) (lenOf pd2 rfl) rfl (by show 2 * 0 + _ ≤ _; exact Nat.le_of_eq rfl) (hb hby at_61) (by decide) (by decide) e622 (by decide) (by decide)
  obtain ⟨c6, hc6, rfl, N625, rfl⟩ := hQ625
  have S626 : own_Go p e below s₁ G T625 (mkF m 64 #[.val (.long p0), .second, .val (.int p1), .val (.int p2), .val (.int p3), .val (.int p4), .val (.int (Int32.ofNat k)), .val (.int c0), .val (.int c1), .val (.int c2), .val (.int c3), .val (.int c4), .val (.int c5), .unset, .unset, .unset, .unset, .unset] [(.int c6)]) := fun tg_ kk_ => S624 tg_ (st625 tg_ kk_)
  have M625 := Fr.app M622 N625
  have S627 : own_Go p e below s₁ G T625 (mkF m 70 #[.val (.long p0), .second, .val (.int p1), .val (.int p2), .val (.int p3), .val (.int p4), .val (.int (Int32.ofNat k)), .val (.int c0), .val (.int c1), .val (.int c2), .val (.int c3), .val (.int c4), .val (.int c5), .val (.int c6), .unset, .unset, .unset, .unset] [(.int (7 : Int32)), (.int p1), (.long p0)]) := fun tg_ kk_ => S626 tg_ (by
    refine XS.istore X625.here hx rfl (hb hby at_64) rfl (l' := #[.val (.long p0), .second, .val (.int p1), .val (.int p2), .val (.int p3), .val (.int p4), .val (.int (Int32.ofNat k)), .val (.int c0), .val (.int c1), .val (.int c2), .val (.int c3), .val (.int c4), .val (.int c5), .val (.int c6), .unset, .unset, .unset, .unset]) rfl ?_
    show Steps p.tables e below (T625.setTop (mkF m 66 #[.val (.long p0), .second, .val (.int p1), .val (.int p2), .val (.int p3), .val (.int p4), .val (.int (Int32.ofNat k)), .val (.int c0), .val (.int c1), .val (.int c2), .val (.int c3), .val (.int c4), .val (.int c5), .val (.int c6), .unset, .unset, .unset, .unset] [])) _
    refine XT.lloadN X625.here hx rfl (hb hby at_66) rfl ?_
    show Steps p.tables e below (T625.setTop (mkF m 67 #[.val (.long p0), .second, .val (.int p1), .val (.int p2), .val (.int p3), .val (.int p4), .val (.int (Int32.ofNat k)), .val (.int c0), .val (.int c1), .val (.int c2), .val (.int c3), .val (.int c4), .val (.int c5), .val (.int c6), .unset, .unset, .unset, .unset] [(.long p0)])) _
    refine XS.iloadN X625.here hx rfl (hb hby at_67) rfl ?_
    show Steps p.tables e below (T625.setTop (mkF m 68 #[.val (.long p0), .second, .val (.int p1), .val (.int p2), .val (.int p3), .val (.int p4), .val (.int (Int32.ofNat k)), .val (.int c0), .val (.int c1), .val (.int c2), .val (.int c3), .val (.int c4), .val (.int c5), .val (.int c6), .unset, .unset, .unset, .unset] [(.int p1), (.long p0)])) _
    refine XS.bipush X625.here hx rfl (hb hby at_68) ?_
    exact kk_)
  obtain ⟨_, T628, h628, L628, X628, e628, hQ628, st628⟩ := own_callS X625 hx hZ (y := (⟨"com/example/tallyhook/tallyhook/core/EventTypeIsSegmentsPinLaw", "ch", "(JII)C"⟩ : MethodName)) hown (hw _ (List.mem_of_getElem? (i := 1) rfl)) (hw _ (List.mem_of_getElem? (i := 2) rfl)) (hw _ (List.mem_of_getElem? (i := 3) rfl)) (hw _ (List.mem_of_getElem? (i := 4) rfl)) (by decide) 0 (g := (mkF m 70 #[.val (.long p0), .second, .val (.int p1), .val (.int p2), .val (.int p3), .val (.int p4), .val (.int (Int32.ofNat k)), .val (.int c0), .val (.int c1), .val (.int c2), .val (.int c3), .val (.int c4), .val (.int c5), .val (.int c6), .unset, .unset, .unset, .unset] [(.int (7 : Int32)), (.int p1), (.long p0)])) rfl (by rw [hml]; rfl) [(.long p0), (.int p1), (.int (7 : Int32))] [] (rm1 l Z a0 hw [] p0 p1 (7 : Int32) h0 n0 Z0) (lenOf pd2 rfl) rfl (by show 2 * 0 + _ ≤ _; exact Nat.le_of_eq rfl) (hb hby at_70) (by decide) (by decide) e625 (by decide) (by decide)
  obtain ⟨c7, hc7, rfl, N628, rfl⟩ := hQ628
  have S629 : own_Go p e below s₁ G T628 (mkF m 73 #[.val (.long p0), .second, .val (.int p1), .val (.int p2), .val (.int p3), .val (.int p4), .val (.int (Int32.ofNat k)), .val (.int c0), .val (.int c1), .val (.int c2), .val (.int c3), .val (.int c4), .val (.int c5), .val (.int c6), .unset, .unset, .unset, .unset] [(.int c7)]) := fun tg_ kk_ => S627 tg_ (st628 tg_ kk_)
  have M628 := Fr.app M625 N628
  have hc : ∀ c ∈ [c0, c1, c2, c3, c4, c5, c6, c7], own_B c := by simp only [List.forall_mem_cons]; exact ⟨hc0, hc1, hc2, hc3, hc4, hc5, hc6, hc7, fun _ q => by cases q⟩
  have S630 : own_Go p e below s₁ G T628 (mkF m 93 #[.val (.long p0), .second, .val (.int p1), .val (.int p2), .val (.int p3), .val (.int p4), .val (.int (Int32.ofNat k)), .val (.int c0), .val (.int c1), .val (.int c2), .val (.int c3), .val (.int c4), .val (.int c5), .val (.int c6), .val (.int c7), .unset, .unset, .unset] [(.int c7), (.int c6), (.int c5), (.int c4), (.int c3), (.int c2), (.int c1), (.int c0), (.int (Int32.ofNat k))]) := fun tg_ kk_ => S629 tg_ (by
    refine XS.istore X628.here hx rfl (hb hby at_73) rfl (l' := #[.val (.long p0), .second, .val (.int p1), .val (.int p2), .val (.int p3), .val (.int p4), .val (.int (Int32.ofNat k)), .val (.int c0), .val (.int c1), .val (.int c2), .val (.int c3), .val (.int c4), .val (.int c5), .val (.int c6), .val (.int c7), .unset, .unset, .unset]) rfl ?_
    show Steps p.tables e below (T628.setTop (mkF m 75 #[.val (.long p0), .second, .val (.int p1), .val (.int p2), .val (.int p3), .val (.int p4), .val (.int (Int32.ofNat k)), .val (.int c0), .val (.int c1), .val (.int c2), .val (.int c3), .val (.int c4), .val (.int c5), .val (.int c6), .val (.int c7), .unset, .unset, .unset] [])) _
    refine XS.iload X628.here hx rfl (hb hby at_75) rfl ?_
    show Steps p.tables e below (T628.setTop (mkF m 77 #[.val (.long p0), .second, .val (.int p1), .val (.int p2), .val (.int p3), .val (.int p4), .val (.int (Int32.ofNat k)), .val (.int c0), .val (.int c1), .val (.int c2), .val (.int c3), .val (.int c4), .val (.int c5), .val (.int c6), .val (.int c7), .unset, .unset, .unset] [(.int (Int32.ofNat k))])) _
    refine XS.iload X628.here hx rfl (hb hby at_77) rfl ?_
    show Steps p.tables e below (T628.setTop (mkF m 79 #[.val (.long p0), .second, .val (.int p1), .val (.int p2), .val (.int p3), .val (.int p4), .val (.int (Int32.ofNat k)), .val (.int c0), .val (.int c1), .val (.int c2), .val (.int c3), .val (.int c4), .val (.int c5), .val (.int c6), .val (.int c7), .unset, .unset, .unset] [(.int c0), (.int (Int32.ofNat k))])) _
    refine XS.iload X628.here hx rfl (hb hby at_79) rfl ?_
    show Steps p.tables e below (T628.setTop (mkF m 81 #[.val (.long p0), .second, .val (.int p1), .val (.int p2), .val (.int p3), .val (.int p4), .val (.int (Int32.ofNat k)), .val (.int c0), .val (.int c1), .val (.int c2), .val (.int c3), .val (.int c4), .val (.int c5), .val (.int c6), .val (.int c7), .unset, .unset, .unset] [(.int c1), (.int c0), (.int (Int32.ofNat k))])) _
    refine XS.iload X628.here hx rfl (hb hby at_81) rfl ?_
    show Steps p.tables e below (T628.setTop (mkF m 83 #[.val (.long p0), .second, .val (.int p1), .val (.int p2), .val (.int p3), .val (.int p4), .val (.int (Int32.ofNat k)), .val (.int c0), .val (.int c1), .val (.int c2), .val (.int c3), .val (.int c4), .val (.int c5), .val (.int c6), .val (.int c7), .unset, .unset, .unset] [(.int c2), (.int c1), (.int c0), (.int (Int32.ofNat k))])) _
    refine XS.iload X628.here hx rfl (hb hby at_83) rfl ?_
    show Steps p.tables e below (T628.setTop (mkF m 85 #[.val (.long p0), .second, .val (.int p1), .val (.int p2), .val (.int p3), .val (.int p4), .val (.int (Int32.ofNat k)), .val (.int c0), .val (.int c1), .val (.int c2), .val (.int c3), .val (.int c4), .val (.int c5), .val (.int c6), .val (.int c7), .unset, .unset, .unset] [(.int c3), (.int c2), (.int c1), (.int c0), (.int (Int32.ofNat k))])) _
    refine XS.iload X628.here hx rfl (hb hby at_85) rfl ?_
    show Steps p.tables e below (T628.setTop (mkF m 87 #[.val (.long p0), .second, .val (.int p1), .val (.int p2), .val (.int p3), .val (.int p4), .val (.int (Int32.ofNat k)), .val (.int c0), .val (.int c1), .val (.int c2), .val (.int c3), .val (.int c4), .val (.int c5), .val (.int c6), .val (.int c7), .unset, .unset, .unset] [(.int c4), (.int c3), (.int c2), (.int c1), (.int c0), (.int (Int32.ofNat k))])) _
    refine XS.iload X628.here hx rfl (hb hby at_87) rfl ?_
    show Steps p.tables e below (T628.setTop (mkF m 89 #[.val (.long p0), .second, .val (.int p1), .val (.int p2), .val (.int p3), .val (.int p4), .val (.int (Int32.ofNat k)), .val (.int c0), .val (.int c1), .val (.int c2), .val (.int c3), .val (.int c4), .val (.int c5), .val (.int c6), .val (.int c7), .unset, .unset, .unset] [(.int c5), (.int c4), (.int c3), (.int c2), (.int c1), (.int c0), (.int (Int32.ofNat k))])) _
    refine XS.iload X628.here hx rfl (hb hby at_89) rfl ?_
    show Steps p.tables e below (T628.setTop (mkF m 91 #[.val (.long p0), .second, .val (.int p1), .val (.int p2), .val (.int p3), .val (.int p4), .val (.int (Int32.ofNat k)), .val (.int c0), .val (.int c1), .val (.int c2), .val (.int c3), .val (.int c4), .val (.int c5), .val (.int c6), .val (.int c7), .unset, .unset, .unset] [(.int c6), (.int c5), (.int c4), (.int c3), (.int c2), (.int c1), (.int c0), (.int (Int32.ofNat k))])) _
    refine XS.iload X628.here hx rfl (hb hby at_91) rfl ?_
    exact kk_)
  have XW : Stand p l e room_1 (s.setVm s.vm) m #[(.long p0), (.int p1), (.int p2), (.int p3), (.int p4)] below meth c T628 _ _ _ := X628
  have hSW := (State.WarmedH.refl s).since 0
  obtain ⟨_, T631, h631, L631, X631, e631, hS631, hZ631, hown631, hQ631, st631⟩ := own_callSSH XW hx hZ (y := (⟨"com/example/tallyhook/tallyhook/core/EventTypeIsSegmentsPinLaw", "make", "(ICCCCCCCC)Ljava/lang/String;"⟩ : MethodName)) hown (hw _ (List.mem_of_getElem? (i := 6) rfl)) (hw _ (List.mem_of_getElem? (i := 7) rfl)) (hw _ (List.mem_of_getElem? (i := 3) rfl)) (hw _ (List.mem_of_getElem? (i := 8) rfl)) (by decide) 0 (g := (mkF m 93 #[.val (.long p0), .second, .val (.int p1), .val (.int p2), .val (.int p3), .val (.int p4), .val (.int (Int32.ofNat k)), .val (.int c0), .val (.int c1), .val (.int c2), .val (.int c3), .val (.int c4), .val (.int c5), .val (.int c6), .val (.int c7), .unset, .unset, .unset] [(.int c7), (.int c6), (.int c5), (.int c4), (.int c3), (.int c2), (.int c1), (.int c0), (.int (Int32.ofNat k))])) rfl (by rw [hml]; rfl) [(.int (Int32.ofNat k)), (.int c0), (.int c1), (.int c2), (.int c3), (.int c4), (.int c5), (.int c6), (.int c7)] [] (rm2 l Z a0 hw [] k c0 c1 c2 c3 c4 c5 c6 c7 h0 n0 Z0 z O O2 P5 hk hc) (lenOf pd3 rfl) rfl (by show 2 * 0 + _ ≤ _; exact Nat.le_of_eq rfl) (hb hby at_93) (by decide) (by decide) e628 (by decide) (by decide) hSW (Nat.zero_le _) hEL hCH
  obtain ⟨x, t, rfl, N631, Oh, Zh, SS⟩ := hQ631
  have S632 : own_Go p e below s₁ G T631 (mkF m 96 #[.val (.long p0), .second, .val (.int p1), .val (.int p2), .val (.int p3), .val (.int p4), .val (.int (Int32.ofNat k)), .val (.int c0), .val (.int c1), .val (.int c2), .val (.int c3), .val (.int c4), .val (.int c5), .val (.int c6), .val (.int c7), .unset, .unset, .unset] [(.ref x)]) := fun tg_ kk_ => S630 tg_ (st631 tg_ kk_)
  have M631 := Fr.app M628 N631
  obtain ⟨cs, hcs⟩ : ∃ z, z = [c0, c1, c2, c3, c4, c5, c6, c7].take k := ⟨_, rfl⟩
  rw [← hcs] at SS
  have hcl : cs.length = k := by rw [hcs]; simp; omega
  have hcc : ∀ c ∈ cs, own_B c := fun c hq => hc c (by rw [hcs] at hq; exact List.mem_of_mem_take hq)
  have S633 : own_Go p e below s₁ G T631 (mkF m 104 #[.val (.long p0), .second, .val (.int p1), .val (.int p2), .val (.int p3), .val (.int p4), .val (.int (Int32.ofNat k)), .val (.int c0), .val (.int c1), .val (.int c2), .val (.int c3), .val (.int c4), .val (.int c5), .val (.int c6), .val (.int c7), .val (.ref x), .unset, .unset] [(.int p4), (.int p3), (.ref x)]) := fun tg_ kk_ => S632 tg_ (by
    refine XS.astore X631.here hx rfl (hb hby at_96) rfl rfl (l' := #[.val (.long p0), .second, .val (.int p1), .val (.int p2), .val (.int p3), .val (.int p4), .val (.int (Int32.ofNat k)), .val (.int c0), .val (.int c1), .val (.int c2), .val (.int c3), .val (.int c4), .val (.int c5), .val (.int c6), .val (.int c7), .val (.ref x), .unset, .unset]) rfl ?_
    show Steps p.tables e below (T631.setTop (mkF m 98 #[.val (.long p0), .second, .val (.int p1), .val (.int p2), .val (.int p3), .val (.int p4), .val (.int (Int32.ofNat k)), .val (.int c0), .val (.int c1), .val (.int c2), .val (.int c3), .val (.int c4), .val (.int c5), .val (.int c6), .val (.int c7), .val (.ref x), .unset, .unset] [])) _
    refine XS.aload X631.here hx rfl (hb hby at_98) rfl rfl ?_
    show Steps p.tables e below (T631.setTop (mkF m 100 #[.val (.long p0), .second, .val (.int p1), .val (.int p2), .val (.int p3), .val (.int p4), .val (.int (Int32.ofNat k)), .val (.int c0), .val (.int c1), .val (.int c2), .val (.int c3), .val (.int c4), .val (.int c5), .val (.int c6), .val (.int c7), .val (.ref x), .unset, .unset] [(.ref x)])) _
    refine XS.iload X631.here hx rfl (hb hby at_100) rfl ?_
    show Steps p.tables e below (T631.setTop (mkF m 102 #[.val (.long p0), .second, .val (.int p1), .val (.int p2), .val (.int p3), .val (.int p4), .val (.int (Int32.ofNat k)), .val (.int c0), .val (.int c1), .val (.int c2), .val (.int c3), .val (.int c4), .val (.int c5), .val (.int c6), .val (.int c7), .val (.ref x), .unset, .unset] [(.int p3), (.ref x)])) _
    refine XS.iload X631.here hx rfl (hb hby at_102) rfl ?_
    exact kk_)
  obtain ⟨_, T634, h634, L634, X634, e634, hQ634, st634⟩ := own_callS X631 hx hZ631 (y := (⟨"com/example/tallyhook/tallyhook/core/EventType", "isSegments", "(Ljava/lang/String;II)Z"⟩ : MethodName)) hown631 (hw _ (List.mem_of_getElem? (i := 39) rfl)) (hw _ (List.mem_of_getElem? (i := 40) rfl)) (hw _ (List.mem_of_getElem? (i := 41) rfl)) (hw _ (List.mem_of_getElem? (i := 42) rfl)) (by decide) 0 (g := (mkF m 104 #[.val (.long p0), .second, .val (.int p1), .val (.int p2), .val (.int p3), .val (.int p4), .val (.int (Int32.ofNat k)), .val (.int c0), .val (.int c1), .val (.int c2), .val (.int c3), .val (.int c4), .val (.int c5), .val (.int c6), .val (.int c7), .val (.ref x), .unset, .unset] [(.int p4), (.int p3), (.ref x)])) rfl (by rw [hml]; rfl) [(.ref x), (.int p3), (.int p4)] [] (rm9 l Z a0 hw [] x t cs p3 p4 h631 n0 Zh z Oh O2 P5 SS (by omega) (own_Bs hcc) fm hfm SF) (lenOf pd10 rfl) rfl (by show 2 * 0 + _ ≤ _; exact Nat.le_of_eq rfl) (hb hby at_104) (by decide) (by decide) e631 (by decide) (by decide)
  rcases hQ634 with ⟨⟨hisg, rfl⟩ | ⟨hisg, rfl⟩, N634, rfl⟩
  · have _ := e634
    have S635 : own_Go p e below s₁ G T634 (mkF m 107 #[.val (.long p0), .second, .val (.int p1), .val (.int p2), .val (.int p3), .val (.int p4), .val (.int (Int32.ofNat k)), .val (.int c0), .val (.int c1), .val (.int c2), .val (.int c3), .val (.int c4), .val (.int c5), .val (.int c6), .val (.int c7), .val (.ref x), .unset, .unset] [(.int (1 : Int32))]) := fun tg_ kk_ => S633 tg_ (st634 tg_ kk_)
    have M634 := Fr.app M631 N634
    have S636 : own_Go p e below s₁ G T634 (mkF m 131 #[.val (.long p0), .second, .val (.int p1), .val (.int p2), .val (.int p3), .val (.int p4), .val (.int (Int32.ofNat k)), .val (.int c0), .val (.int c1), .val (.int c2), .val (.int c3), .val (.int c4), .val (.int c5), .val (.int c6), .val (.int c7), .val (.ref x), .val (.int (1 : Int32)), .unset] [(.int p4), (.int p3), (.int c7), (.int c6), (.int c5), (.int c4), (.int c3), (.int c2), (.int c1), (.int c0), (.int (Int32.ofNat k))]) := fun tg_ kk_ => S635 tg_ (by
      refine XS.istore X634.here hx rfl (hb hby at_107) rfl (l' := #[.val (.long p0), .second, .val (.int p1), .val (.int p2), .val (.int p3), .val (.int p4), .val (.int (Int32.ofNat k)), .val (.int c0), .val (.int c1), .val (.int c2), .val (.int c3), .val (.int c4), .val (.int c5), .val (.int c6), .val (.int c7), .val (.ref x), .val (.int (1 : Int32)), .unset]) rfl ?_
      show Steps p.tables e below (T634.setTop (mkF m 109 #[.val (.long p0), .second, .val (.int p1), .val (.int p2), .val (.int p3), .val (.int p4), .val (.int (Int32.ofNat k)), .val (.int c0), .val (.int c1), .val (.int c2), .val (.int c3), .val (.int c4), .val (.int c5), .val (.int c6), .val (.int c7), .val (.ref x), .val (.int (1 : Int32)), .unset] [])) _
      refine XS.iload X634.here hx rfl (hb hby at_109) rfl ?_
      show Steps p.tables e below (T634.setTop (mkF m 111 #[.val (.long p0), .second, .val (.int p1), .val (.int p2), .val (.int p3), .val (.int p4), .val (.int (Int32.ofNat k)), .val (.int c0), .val (.int c1), .val (.int c2), .val (.int c3), .val (.int c4), .val (.int c5), .val (.int c6), .val (.int c7), .val (.ref x), .val (.int (1 : Int32)), .unset] [(.int (Int32.ofNat k))])) _
      refine XS.iload X634.here hx rfl (hb hby at_111) rfl ?_
      show Steps p.tables e below (T634.setTop (mkF m 113 #[.val (.long p0), .second, .val (.int p1), .val (.int p2), .val (.int p3), .val (.int p4), .val (.int (Int32.ofNat k)), .val (.int c0), .val (.int c1), .val (.int c2), .val (.int c3), .val (.int c4), .val (.int c5), .val (.int c6), .val (.int c7), .val (.ref x), .val (.int (1 : Int32)), .unset] [(.int c0), (.int (Int32.ofNat k))])) _
      refine XS.iload X634.here hx rfl (hb hby at_113) rfl ?_
      show Steps p.tables e below (T634.setTop (mkF m 115 #[.val (.long p0), .second, .val (.int p1), .val (.int p2), .val (.int p3), .val (.int p4), .val (.int (Int32.ofNat k)), .val (.int c0), .val (.int c1), .val (.int c2), .val (.int c3), .val (.int c4), .val (.int c5), .val (.int c6), .val (.int c7), .val (.ref x), .val (.int (1 : Int32)), .unset] [(.int c1), (.int c0), (.int (Int32.ofNat k))])) _
      refine XS.iload X634.here hx rfl (hb hby at_115) rfl ?_
      show Steps p.tables e below (T634.setTop (mkF m 117 #[.val (.long p0), .second, .val (.int p1), .val (.int p2), .val (.int p3), .val (.int p4), .val (.int (Int32.ofNat k)), .val (.int c0), .val (.int c1), .val (.int c2), .val (.int c3), .val (.int c4), .val (.int c5), .val (.int c6), .val (.int c7), .val (.ref x), .val (.int (1 : Int32)), .unset] [(.int c2), (.int c1), (.int c0), (.int (Int32.ofNat k))])) _
      refine XS.iload X634.here hx rfl (hb hby at_117) rfl ?_
      show Steps p.tables e below (T634.setTop (mkF m 119 #[.val (.long p0), .second, .val (.int p1), .val (.int p2), .val (.int p3), .val (.int p4), .val (.int (Int32.ofNat k)), .val (.int c0), .val (.int c1), .val (.int c2), .val (.int c3), .val (.int c4), .val (.int c5), .val (.int c6), .val (.int c7), .val (.ref x), .val (.int (1 : Int32)), .unset] [(.int c3), (.int c2), (.int c1), (.int c0), (.int (Int32.ofNat k))])) _
      refine XS.iload X634.here hx rfl (hb hby at_119) rfl ?_
      show Steps p.tables e below (T634.setTop (mkF m 121 #[.val (.long p0), .second, .val (.int p1), .val (.int p2), .val (.int p3), .val (.int p4), .val (.int (Int32.ofNat k)), .val (.int c0), .val (.int c1), .val (.int c2), .val (.int c3), .val (.int c4), .val (.int c5), .val (.int c6), .val (.int c7), .val (.ref x), .val (.int (1 : Int32)), .unset] [(.int c4), (.int c3), (.int c2), (.int c1), (.int c0), (.int (Int32.ofNat k))])) _
      refine XS.iload X634.here hx rfl (hb hby at_121) rfl ?_
      show Steps p.tables e below (T634.setTop (mkF m 123 #[.val (.long p0), .second, .val (.int p1), .val (.int p2), .val (.int p3), .val (.int p4), .val (.int (Int32.ofNat k)), .val (.int c0), .val (.int c1), .val (.int c2), .val (.int c3), .val (.int c4), .val (.int c5), .val (.int c6), .val (.int c7), .val (.ref x), .val (.int (1 : Int32)), .unset] [(.int c5), (.int c4), (.int c3), (.int c2), (.int c1), (.int c0), (.int (Int32.ofNat k))])) _
      refine XS.iload X634.here hx rfl (hb hby at_123) rfl ?_
      show Steps p.tables e below (T634.setTop (mkF m 125 #[.val (.long p0), .second, .val (.int p1), .val (.int p2), .val (.int p3), .val (.int p4), .val (.int (Int32.ofNat k)), .val (.int c0), .val (.int c1), .val (.int c2), .val (.int c3), .val (.int c4), .val (.int c5), .val (.int c6), .val (.int c7), .val (.ref x), .val (.int (1 : Int32)), .unset] [(.int c6), (.int c5), (.int c4), (.int c3), (.int c2), (.int c1), (.int c0), (.int (Int32.ofNat k))])) _
      refine XS.iload X634.here hx rfl (hb hby at_125) rfl ?_
      show Steps p.tables e below (T634.setTop (mkF m 127 #[.val (.long p0), .second, .val (.int p1), .val (.int p2), .val (.int p3), .val (.int p4), .val (.int (Int32.ofNat k)), .val (.int c0), .val (.int c1), .val (.int c2), .val (.int c3), .val (.int c4), .val (.int c5), .val (.int c6), .val (.int c7), .val (.ref x), .val (.int (1 : Int32)), .unset] [(.int c7), (.int c6), (.int c5), (.int c4), (.int c3), (.int c2), (.int c1), (.int c0), (.int (Int32.ofNat k))])) _
      refine XS.iload X634.here hx rfl (hb hby at_127) rfl ?_
      show Steps p.tables e below (T634.setTop (mkF m 129 #[.val (.long p0), .second, .val (.int p1), .val (.int p2), .val (.int p3), .val (.int p4), .val (.int (Int32.ofNat k)), .val (.int c0), .val (.int c1), .val (.int c2), .val (.int c3), .val (.int c4), .val (.int c5), .val (.int c6), .val (.int c7), .val (.ref x), .val (.int (1 : Int32)), .unset] [(.int p3), (.int c7), (.int c6), (.int c5), (.int c4), (.int c3), (.int c2), (.int c1), (.int c0), (.int (Int32.ofNat k))])) _
      refine XS.iload X634.here hx rfl (hb hby at_129) rfl ?_
      exact kk_)
    by_cases hk0 : k = 0
    · subst hk0
      obtain ⟨_, T637, h637, L637, X637, e637, hQ637, st637⟩ := own_callS X634 hx hZ631 (y := (⟨"com/example/tallyhook/tallyhook/core/EventTypeIsSegmentsPinLaw", "ref", "(ICCCCCCCCII)Z"⟩ : MethodName)) hown631 (hw _ (List.mem_of_getElem? (i := 75) rfl)) (hw _ (List.mem_of_getElem? (i := 76) rfl)) (hw _ (List.mem_of_getElem? (i := 3) rfl)) (hw _ (List.mem_of_getElem? (i := 77) rfl)) (by decide) 0 (g := (mkF m 131 #[.val (.long p0), .second, .val (.int p1), .val (.int p2), .val (.int p3), .val (.int p4), .val (.int (0 : Int32)), .val (.int c0), .val (.int c1), .val (.int c2), .val (.int c3), .val (.int c4), .val (.int c5), .val (.int c6), .val (.int c7), .val (.ref x), .val (.int (1 : Int32)), .unset] [(.int p4), (.int p3), (.int c7), (.int c6), (.int c5), (.int c4), (.int c3), (.int c2), (.int c1), (.int c0), (.int (0 : Int32))])) rfl (by rw [hml]; rfl) [(.int (0 : Int32)), (.int c0), (.int c1), (.int c2), (.int c3), (.int c4), (.int c5), (.int c6), (.int c7), (.int p3), (.int p4)] [] (rm17z l Z a0 hw [] c0 c1 c2 c3 c4 c5 c6 c7 p3 p4 h631 n0 Zh) (lenOf pd18 rfl) rfl (by show 2 * 0 + _ ≤ _; exact Nat.le_of_eq rfl) (hb hby at_131) (by decide) (by decide) e634 (by decide) (by decide)
      obtain ⟨rfl, N637, rfl⟩ := hQ637
      have S638 : own_Go p e below s₁ G T637 (mkF m 134 #[.val (.long p0), .second, .val (.int p1), .val (.int p2), .val (.int p3), .val (.int p4), .val (.int (0 : Int32)), .val (.int c0), .val (.int c1), .val (.int c2), .val (.int c3), .val (.int c4), .val (.int c5), .val (.int c6), .val (.int c7), .val (.ref x), .val (.int (1 : Int32)), .unset] [(.int (0 : Int32))]) := fun tg_ kk_ => S636 tg_ (st637 tg_ kk_)
      have M637 := Fr.app M634 N637
      have hz : cs = [] := hcs
      rw [hz] at hisg
      exact absurd hisg (by simp [own_isSeg, own_run])
    · have hpl := own_plain k (by omega) hk c0 c1 c2 c3 c4 c5 c6 c7 p3 p4
      rw [← hcs] at hpl
      obtain ⟨_, T639, h639, L639, X639, e639, hQ639, st639⟩ := own_callS X634 hx hZ631 (y := (⟨"com/example/tallyhook/tallyhook/core/EventTypeIsSegmentsPinLaw", "ref", "(ICCCCCCCCII)Z"⟩ : MethodName)) hown631 (hw _ (List.mem_of_getElem? (i := 75) rfl)) (hw _ (List.mem_of_getElem? (i := 76) rfl)) (hw _ (List.mem_of_getElem? (i := 3) rfl)) (hw _ (List.mem_of_getElem? (i := 77) rfl)) (by decide) 0 (g := (mkF m 131 #[.val (.long p0), .second, .val (.int p1), .val (.int p2), .val (.int p3), .val (.int p4), .val (.int (Int32.ofNat k)), .val (.int c0), .val (.int c1), .val (.int c2), .val (.int c3), .val (.int c4), .val (.int c5), .val (.int c6), .val (.int c7), .val (.ref x), .val (.int (1 : Int32)), .unset] [(.int p4), (.int p3), (.int c7), (.int c6), (.int c5), (.int c4), (.int c3), (.int c2), (.int c1), (.int c0), (.int (Int32.ofNat k))])) rfl (by rw [hml]; rfl) [(.int (Int32.ofNat k)), (.int c0), (.int c1), (.int c2), (.int c3), (.int c4), (.int c5), (.int c6), (.int c7), (.int p3), (.int p4)] [] (rm17 l Z a0 hw [] k c0 c1 c2 c3 c4 c5 c6 c7 p3 p4 h631 n0 Zh ⟨by omega, hk⟩ hc) (lenOf pd18 rfl) rfl (by show 2 * 0 + _ ≤ _; exact Nat.le_of_eq rfl) (hb hby at_131) (by decide) (by decide) e634 (by decide) (by decide)
      rcases hQ639 with ⟨⟨href, rfl⟩ | ⟨href, rfl⟩, N639, rfl⟩
      · have _ := e639
        have S640 : own_Go p e below s₁ G T639 (mkF m 134 #[.val (.long p0), .second, .val (.int p1), .val (.int p2), .val (.int p3), .val (.int p4), .val (.int (Int32.ofNat k)), .val (.int c0), .val (.int c1), .val (.int c2), .val (.int c3), .val (.int c4), .val (.int c5), .val (.int c6), .val (.int c7), .val (.ref x), .val (.int (1 : Int32)), .unset] [(.int (1 : Int32))]) := fun tg_ kk_ => S636 tg_ (st639 tg_ kk_)
        have M639 := Fr.app M634 N639
        have S641 : own_Go p e below s₁ G T639 (mkF m 148 #[.val (.long p0), .second, .val (.int p1), .val (.int p2), .val (.int p3), .val (.int p4), .val (.int (Int32.ofNat k)), .val (.int c0), .val (.int c1), .val (.int c2), .val (.int c3), .val (.int c4), .val (.int c5), .val (.int c6), .val (.int c7), .val (.ref x), .val (.int (1 : Int32)), .val (.int (1 : Int32))] [(.int (1 : Int32))]) := fun tg_ kk_ => S640 tg_ (by
          refine XS.istore X639.here hx rfl (hb hby at_134) rfl (l' := #[.val (.long p0), .second, .val (.int p1), .val (.int p2), .val (.int p3), .val (.int p4), .val (.int (Int32.ofNat k)), .val (.int c0), .val (.int c1), .val (.int c2), .val (.int c3), .val (.int c4), .val (.int c5), .val (.int c6), .val (.int c7), .val (.ref x), .val (.int (1 : Int32)), .val (.int (1 : Int32))]) rfl ?_
          show Steps p.tables e below (T639.setTop (mkF m 136 #[.val (.long p0), .second, .val (.int p1), .val (.int p2), .val (.int p3), .val (.int p4), .val (.int (Int32.ofNat k)), .val (.int c0), .val (.int c1), .val (.int c2), .val (.int c3), .val (.int c4), .val (.int c5), .val (.int c6), .val (.int c7), .val (.ref x), .val (.int (1 : Int32)), .val (.int (1 : Int32))] [])) _
          refine XS.iload X639.here hx rfl (hb hby at_136) rfl ?_
          show Steps p.tables e below (T639.setTop (mkF m 138 #[.val (.long p0), .second, .val (.int p1), .val (.int p2), .val (.int p3), .val (.int p4), .val (.int (Int32.ofNat k)), .val (.int c0), .val (.int c1), .val (.int c2), .val (.int c3), .val (.int c4), .val (.int c5), .val (.int c6), .val (.int c7), .val (.ref x), .val (.int (1 : Int32)), .val (.int (1 : Int32))] [(.int (1 : Int32))])) _
          refine XS.iload X639.here hx rfl (hb hby at_138) rfl ?_
          show Steps p.tables e below (T639.setTop (mkF m 140 #[.val (.long p0), .second, .val (.int p1), .val (.int p2), .val (.int p3), .val (.int p4), .val (.int (Int32.ofNat k)), .val (.int c0), .val (.int c1), .val (.int c2), .val (.int c3), .val (.int c4), .val (.int c5), .val (.int c6), .val (.int c7), .val (.ref x), .val (.int (1 : Int32)), .val (.int (1 : Int32))] [(.int (1 : Int32)), (.int (1 : Int32))])) _
          refine XS.icmpNo X639.here hx rfl (hb hby at_140) rfl (XT.ii_ne_f (by decide)) ?_
          show Steps p.tables e below (T639.setTop (mkF m 143 #[.val (.long p0), .second, .val (.int p1), .val (.int p2), .val (.int p3), .val (.int p4), .val (.int (Int32.ofNat k)), .val (.int c0), .val (.int c1), .val (.int c2), .val (.int c3), .val (.int c4), .val (.int c5), .val (.int c6), .val (.int c7), .val (.ref x), .val (.int (1 : Int32)), .val (.int (1 : Int32))] [])) _
          refine XS.iconst X639.here hx rfl (hb hby at_143) ?_
          show Steps p.tables e below (T639.setTop (mkF m 144 #[.val (.long p0), .second, .val (.int p1), .val (.int p2), .val (.int p3), .val (.int p4), .val (.int (Int32.ofNat k)), .val (.int c0), .val (.int c1), .val (.int c2), .val (.int c3), .val (.int c4), .val (.int c5), .val (.int c6), .val (.int c7), .val (.ref x), .val (.int (1 : Int32)), .val (.int (1 : Int32))] [(.int (1 : Int32))])) _
          refine XS.goto X639.here hx rfl (pc0 := 144) (pc' := 148) rfl (hb hby at_144) (by decide) (by decide) ?_
          exact kk_)
        obtain ⟨fs, hr, hrun, hended, hend⟩ := X639.leaveW hS631 (by rw [e639]; exact (Nat.le_refl _)) (v := some (.int (1 : Int32))) (fun h => by rw [Bd.returns] at h; cases h)
        refine ⟨_, _, ?_, hrun, hended, _, _, rfl, ?_, hend.1, hend.2.1, hend.2.2.1, hend.2.2.2.mono (by decide) (by decide)⟩
        · rw [← hG]; exact S641 _ (retN X639 hx (t := .boolean) Bd.returns (by simp) (hb hby at_148) hr)
        · show Q0 Z p0 p1 p2 p3 p4 h0 n0 _ T639.heap _
          rw [e639]
          exact ⟨rfl, M639⟩
      · have _ := e639
        have S642 : own_Go p e below s₁ G T639 (mkF m 134 #[.val (.long p0), .second, .val (.int p1), .val (.int p2), .val (.int p3), .val (.int p4), .val (.int (Int32.ofNat k)), .val (.int c0), .val (.int c1), .val (.int c2), .val (.int c3), .val (.int c4), .val (.int c5), .val (.int c6), .val (.int c7), .val (.ref x), .val (.int (1 : Int32)), .unset] [(.int (0 : Int32))]) := fun tg_ kk_ => S636 tg_ (st639 tg_ kk_)
        have M639 := Fr.app M634 N639
        rw [hisg, href] at hpl
        cases hpl
  · have _ := e634
    have S643 : own_Go p e below s₁ G T634 (mkF m 107 #[.val (.long p0), .second, .val (.int p1), .val (.int p2), .val (.int p3), .val (.int p4), .val (.int (Int32.ofNat k)), .val (.int c0), .val (.int c1), .val (.int c2), .val (.int c3), .val (.int c4), .val (.int c5), .val (.int c6), .val (.int c7), .val (.ref x), .unset, .unset] [(.int (0 : Int32))]) := fun tg_ kk_ => S633 tg_ (st634 tg_ kk_)
    have M634 := Fr.app M631 N634
    have S644 : own_Go p e below s₁ G T634 (mkF m 131 #[.val (.long p0), .second, .val (.int p1), .val (.int p2), .val (.int p3), .val (.int p4), .val (.int (Int32.ofNat k)), .val (.int c0), .val (.int c1), .val (.int c2), .val (.int c3), .val (.int c4), .val (.int c5), .val (.int c6), .val (.int c7), .val (.ref x), .val (.int (0 : Int32)), .unset] [(.int p4), (.int p3), (.int c7), (.int c6), (.int c5), (.int c4), (.int c3), (.int c2), (.int c1), (.int c0), (.int (Int32.ofNat k))]) := fun tg_ kk_ => S643 tg_ (by
      refine XS.istore X634.here hx rfl (hb hby at_107) rfl (l' := #[.val (.long p0), .second, .val (.int p1), .val (.int p2), .val (.int p3), .val (.int p4), .val (.int (Int32.ofNat k)), .val (.int c0), .val (.int c1), .val (.int c2), .val (.int c3), .val (.int c4), .val (.int c5), .val (.int c6), .val (.int c7), .val (.ref x), .val (.int (0 : Int32)), .unset]) rfl ?_
      show Steps p.tables e below (T634.setTop (mkF m 109 #[.val (.long p0), .second, .val (.int p1), .val (.int p2), .val (.int p3), .val (.int p4), .val (.int (Int32.ofNat k)), .val (.int c0), .val (.int c1), .val (.int c2), .val (.int c3), .val (.int c4), .val (.int c5), .val (.int c6), .val (.int c7), .val (.ref x), .val (.int (0 : Int32)), .unset] [])) _
      refine XS.iload X634.here hx rfl (hb hby at_109) rfl ?_
      show Steps p.tables e below (T634.setTop (mkF m 111 #[.val (.long p0), .second, .val (.int p1), .val (.int p2), .val (.int p3), .val (.int p4), .val (.int (Int32.ofNat k)), .val (.int c0), .val (.int c1), .val (.int c2), .val (.int c3), .val (.int c4), .val (.int c5), .val (.int c6), .val (.int c7), .val (.ref x), .val (.int (0 : Int32)), .unset] [(.int (Int32.ofNat k))])) _
      refine XS.iload X634.here hx rfl (hb hby at_111) rfl ?_
      show Steps p.tables e below (T634.setTop (mkF m 113 #[.val (.long p0), .second, .val (.int p1), .val (.int p2), .val (.int p3), .val (.int p4), .val (.int (Int32.ofNat k)), .val (.int c0), .val (.int c1), .val (.int c2), .val (.int c3), .val (.int c4), .val (.int c5), .val (.int c6), .val (.int c7), .val (.ref x), .val (.int (0 : Int32)), .unset] [(.int c0), (.int (Int32.ofNat k))])) _
      refine XS.iload X634.here hx rfl (hb hby at_113) rfl ?_
      show Steps p.tables e below (T634.setTop (mkF m 115 #[.val (.long p0), .second, .val (.int p1), .val (.int p2), .val (.int p3), .val (.int p4), .val (.int (Int32.ofNat k)), .val (.int c0), .val (.int c1), .val (.int c2), .val (.int c3), .val (.int c4), .val (.int c5), .val (.int c6), .val (.int c7), .val (.ref x), .val (.int (0 : Int32)), .unset] [(.int c1), (.int c0), (.int (Int32.ofNat k))])) _
      refine XS.iload X634.here hx rfl (hb hby at_115) rfl ?_
      show Steps p.tables e below (T634.setTop (mkF m 117 #[.val (.long p0), .second, .val (.int p1), .val (.int p2), .val (.int p3), .val (.int p4), .val (.int (Int32.ofNat k)), .val (.int c0), .val (.int c1), .val (.int c2), .val (.int c3), .val (.int c4), .val (.int c5), .val (.int c6), .val (.int c7), .val (.ref x), .val (.int (0 : Int32)), .unset] [(.int c2), (.int c1), (.int c0), (.int (Int32.ofNat k))])) _
      refine XS.iload X634.here hx rfl (hb hby at_117) rfl ?_
      show Steps p.tables e below (T634.setTop (mkF m 119 #[.val (.long p0), .second, .val (.int p1), .val (.int p2), .val (.int p3), .val (.int p4), .val (.int (Int32.ofNat k)), .val (.int c0), .val (.int c1), .val (.int c2), .val (.int c3), .val (.int c4), .val (.int c5), .val (.int c6), .val (.int c7), .val (.ref x), .val (.int (0 : Int32)), .unset] [(.int c3), (.int c2), (.int c1), (.int c0), (.int (Int32.ofNat k))])) _
      refine XS.iload X634.here hx rfl (hb hby at_119) rfl ?_
      show Steps p.tables e below (T634.setTop (mkF m 121 #[.val (.long p0), .second, .val (.int p1), .val (.int p2), .val (.int p3), .val (.int p4), .val (.int (Int32.ofNat k)), .val (.int c0), .val (.int c1), .val (.int c2), .val (.int c3), .val (.int c4), .val (.int c5), .val (.int c6), .val (.int c7), .val (.ref x), .val (.int (0 : Int32)), .unset] [(.int c4), (.int c3), (.int c2), (.int c1), (.int c0), (.int (Int32.ofNat k))])) _
      refine XS.iload X634.here hx rfl (hb hby at_121) rfl ?_
      show Steps p.tables e below (T634.setTop (mkF m 123 #[.val (.long p0), .second, .val (.int p1), .val (.int p2), .val (.int p3), .val (.int p4), .val (.int (Int32.ofNat k)), .val (.int c0), .val (.int c1), .val (.int c2), .val (.int c3), .val (.int c4), .val (.int c5), .val (.int c6), .val (.int c7), .val (.ref x), .val (.int (0 : Int32)), .unset] [(.int c5), (.int c4), (.int c3), (.int c2), (.int c1), (.int c0), (.int (Int32.ofNat k))])) _
      refine XS.iload X634.here hx rfl (hb hby at_123) rfl ?_
      show Steps p.tables e below (T634.setTop (mkF m 125 #[.val (.long p0), .second, .val (.int p1), .val (.int p2), .val (.int p3), .val (.int p4), .val (.int (Int32.ofNat k)), .val (.int c0), .val (.int c1), .val (.int c2), .val (.int c3), .val (.int c4), .val (.int c5), .val (.int c6), .val (.int c7), .val (.ref x), .val (.int (0 : Int32)), .unset] [(.int c6), (.int c5), (.int c4), (.int c3), (.int c2), (.int c1), (.int c0), (.int (Int32.ofNat k))])) _
      refine XS.iload X634.here hx rfl (hb hby at_125) rfl ?_
      show Steps p.tables e below (T634.setTop (mkF m 127 #[.val (.long p0), .second, .val (.int p1), .val (.int p2), .val (.int p3), .val (.int p4), .val (.int (Int32.ofNat k)), .val (.int c0), .val (.int c1), .val (.int c2), .val (.int c3), .val (.int c4), .val (.int c5), .val (.int c6), .val (.int c7), .val (.ref x), .val (.int (0 : Int32)), .unset] [(.int c7), (.int c6), (.int c5), (.int c4), (.int c3), (.int c2), (.int c1), (.int c0), (.int (Int32.ofNat k))])) _
      refine XS.iload X634.here hx rfl (hb hby at_127) rfl ?_
      show Steps p.tables e below (T634.setTop (mkF m 129 #[.val (.long p0), .second, .val (.int p1), .val (.int p2), .val (.int p3), .val (.int p4), .val (.int (Int32.ofNat k)), .val (.int c0), .val (.int c1), .val (.int c2), .val (.int c3), .val (.int c4), .val (.int c5), .val (.int c6), .val (.int c7), .val (.ref x), .val (.int (0 : Int32)), .unset] [(.int p3), (.int c7), (.int c6), (.int c5), (.int c4), (.int c3), (.int c2), (.int c1), (.int c0), (.int (Int32.ofNat k))])) _
      refine XS.iload X634.here hx rfl (hb hby at_129) rfl ?_
      exact kk_)
    by_cases hk0 : k = 0
    · subst hk0
      obtain ⟨_, T645, h645, L645, X645, e645, hQ645, st645⟩ := own_callS X634 hx hZ631 (y := (⟨"com/example/tallyhook/tallyhook/core/EventTypeIsSegmentsPinLaw", "ref", "(ICCCCCCCCII)Z"⟩ : MethodName)) hown631 (hw _ (List.mem_of_getElem? (i := 75) rfl)) (hw _ (List.mem_of_getElem? (i := 76) rfl)) (hw _ (List.mem_of_getElem? (i := 3) rfl)) (hw _ (List.mem_of_getElem? (i := 77) rfl)) (by decide) 0 (g := (mkF m 131 #[.val (.long p0), .second, .val (.int p1), .val (.int p2), .val (.int p3), .val (.int p4), .val (.int (0 : Int32)), .val (.int c0), .val (.int c1), .val (.int c2), .val (.int c3), .val (.int c4), .val (.int c5), .val (.int c6), .val (.int c7), .val (.ref x), .val (.int (0 : Int32)), .unset] [(.int p4), (.int p3), (.int c7), (.int c6), (.int c5), (.int c4), (.int c3), (.int c2), (.int c1), (.int c0), (.int (0 : Int32))])) rfl (by rw [hml]; rfl) [(.int (0 : Int32)), (.int c0), (.int c1), (.int c2), (.int c3), (.int c4), (.int c5), (.int c6), (.int c7), (.int p3), (.int p4)] [] (rm17z l Z a0 hw [] c0 c1 c2 c3 c4 c5 c6 c7 p3 p4 h631 n0 Zh) (lenOf pd18 rfl) rfl (by show 2 * 0 + _ ≤ _; exact Nat.le_of_eq rfl) (hb hby at_131) (by decide) (by decide) e634 (by decide) (by decide)
      obtain ⟨rfl, N645, rfl⟩ := hQ645
      have S646 : own_Go p e below s₁ G T645 (mkF m 134 #[.val (.long p0), .second, .val (.int p1), .val (.int p2), .val (.int p3), .val (.int p4), .val (.int (0 : Int32)), .val (.int c0), .val (.int c1), .val (.int c2), .val (.int c3), .val (.int c4), .val (.int c5), .val (.int c6), .val (.int c7), .val (.ref x), .val (.int (0 : Int32)), .unset] [(.int (0 : Int32))]) := fun tg_ kk_ => S644 tg_ (st645 tg_ kk_)
      have M645 := Fr.app M634 N645
      have S647 : own_Go p e below s₁ G T645 (mkF m 148 #[.val (.long p0), .second, .val (.int p1), .val (.int p2), .val (.int p3), .val (.int p4), .val (.int (0 : Int32)), .val (.int c0), .val (.int c1), .val (.int c2), .val (.int c3), .val (.int c4), .val (.int c5), .val (.int c6), .val (.int c7), .val (.ref x), .val (.int (0 : Int32)), .val (.int (0 : Int32))] [(.int (1 : Int32))]) := fun tg_ kk_ => S646 tg_ (by
        refine XS.istore X645.here hx rfl (hb hby at_134) rfl (l' := #[.val (.long p0), .second, .val (.int p1), .val (.int p2), .val (.int p3), .val (.int p4), .val (.int (0 : Int32)), .val (.int c0), .val (.int c1), .val (.int c2), .val (.int c3), .val (.int c4), .val (.int c5), .val (.int c6), .val (.int c7), .val (.ref x), .val (.int (0 : Int32)), .val (.int (0 : Int32))]) rfl ?_
        show Steps p.tables e below (T645.setTop (mkF m 136 #[.val (.long p0), .second, .val (.int p1), .val (.int p2), .val (.int p3), .val (.int p4), .val (.int (0 : Int32)), .val (.int c0), .val (.int c1), .val (.int c2), .val (.int c3), .val (.int c4), .val (.int c5), .val (.int c6), .val (.int c7), .val (.ref x), .val (.int (0 : Int32)), .val (.int (0 : Int32))] [])) _
        refine XS.iload X645.here hx rfl (hb hby at_136) rfl ?_
        show Steps p.tables e below (T645.setTop (mkF m 138 #[.val (.long p0), .second, .val (.int p1), .val (.int p2), .val (.int p3), .val (.int p4), .val (.int (0 : Int32)), .val (.int c0), .val (.int c1), .val (.int c2), .val (.int c3), .val (.int c4), .val (.int c5), .val (.int c6), .val (.int c7), .val (.ref x), .val (.int (0 : Int32)), .val (.int (0 : Int32))] [(.int (0 : Int32))])) _
        refine XS.iload X645.here hx rfl (hb hby at_138) rfl ?_
        show Steps p.tables e below (T645.setTop (mkF m 140 #[.val (.long p0), .second, .val (.int p1), .val (.int p2), .val (.int p3), .val (.int p4), .val (.int (0 : Int32)), .val (.int c0), .val (.int c1), .val (.int c2), .val (.int c3), .val (.int c4), .val (.int c5), .val (.int c6), .val (.int c7), .val (.ref x), .val (.int (0 : Int32)), .val (.int (0 : Int32))] [(.int (0 : Int32)), (.int (0 : Int32))])) _
        refine XS.icmpNo X645.here hx rfl (hb hby at_140) rfl (XT.ii_ne_f (by decide)) ?_
        show Steps p.tables e below (T645.setTop (mkF m 143 #[.val (.long p0), .second, .val (.int p1), .val (.int p2), .val (.int p3), .val (.int p4), .val (.int (0 : Int32)), .val (.int c0), .val (.int c1), .val (.int c2), .val (.int c3), .val (.int c4), .val (.int c5), .val (.int c6), .val (.int c7), .val (.ref x), .val (.int (0 : Int32)), .val (.int (0 : Int32))] [])) _
        refine XS.iconst X645.here hx rfl (hb hby at_143) ?_
        show Steps p.tables e below (T645.setTop (mkF m 144 #[.val (.long p0), .second, .val (.int p1), .val (.int p2), .val (.int p3), .val (.int p4), .val (.int (0 : Int32)), .val (.int c0), .val (.int c1), .val (.int c2), .val (.int c3), .val (.int c4), .val (.int c5), .val (.int c6), .val (.int c7), .val (.ref x), .val (.int (0 : Int32)), .val (.int (0 : Int32))] [(.int (1 : Int32))])) _
        refine XS.goto X645.here hx rfl (pc0 := 144) (pc' := 148) rfl (hb hby at_144) (by decide) (by decide) ?_
        exact kk_)
      obtain ⟨fs, hr, hrun, hended, hend⟩ := X645.leaveW hS631 (by rw [e645]; exact (Nat.le_refl _)) (v := some (.int (1 : Int32))) (fun h => by rw [Bd.returns] at h; cases h)
      refine ⟨_, _, ?_, hrun, hended, _, _, rfl, ?_, hend.1, hend.2.1, hend.2.2.1, hend.2.2.2.mono (by decide) (by decide)⟩
      · rw [← hG]; exact S647 _ (retN X645 hx (t := .boolean) Bd.returns (by simp) (hb hby at_148) hr)
      · show Q0 Z p0 p1 p2 p3 p4 h0 n0 _ T645.heap _
        rw [e645]
        exact ⟨rfl, M645⟩
    · have hpl := own_plain k (by omega) hk c0 c1 c2 c3 c4 c5 c6 c7 p3 p4
      rw [← hcs] at hpl
      obtain ⟨_, T648, h648, L648, X648, e648, hQ648, st648⟩ := own_callS X634 hx hZ631 (y := (⟨"com/example/tallyhook/tallyhook/core/EventTypeIsSegmentsPinLaw", "ref", "(ICCCCCCCCII)Z"⟩ : MethodName)) hown631 (hw _ (List.mem_of_getElem? (i := 75) rfl)) (hw _ (List.mem_of_getElem? (i := 76) rfl)) (hw _ (List.mem_of_getElem? (i := 3) rfl)) (hw _ (List.mem_of_getElem? (i := 77) rfl)) (by decide) 0 (g := (mkF m 131 #[.val (.long p0), .second, .val (.int p1), .val (.int p2), .val (.int p3), .val (.int p4), .val (.int (Int32.ofNat k)), .val (.int c0), .val (.int c1), .val (.int c2), .val (.int c3), .val (.int c4), .val (.int c5), .val (.int c6), .val (.int c7), .val (.ref x), .val (.int (0 : Int32)), .unset] [(.int p4), (.int p3), (.int c7), (.int c6), (.int c5), (.int c4), (.int c3), (.int c2), (.int c1), (.int c0), (.int (Int32.ofNat k))])) rfl (by rw [hml]; rfl) [(.int (Int32.ofNat k)), (.int c0), (.int c1), (.int c2), (.int c3), (.int c4), (.int c5), (.int c6), (.int c7), (.int p3), (.int p4)] [] (rm17 l Z a0 hw [] k c0 c1 c2 c3 c4 c5 c6 c7 p3 p4 h631 n0 Zh ⟨by omega, hk⟩ hc) (lenOf pd18 rfl) rfl (by show 2 * 0 + _ ≤ _; exact Nat.le_of_eq rfl) (hb hby at_131) (by decide) (by decide) e634 (by decide) (by decide)
      rcases hQ648 with ⟨⟨href, rfl⟩ | ⟨href, rfl⟩, N648, rfl⟩
      · have _ := e648
        have S649 : own_Go p e below s₁ G T648 (mkF m 134 #[.val (.long p0), .second, .val (.int p1), .val (.int p2), .val (.int p3), .val (.int p4), .val (.int (Int32.ofNat k)), .val (.int c0), .val (.int c1), .val (.int c2), .val (.int c3), .val (.int c4), .val (.int c5), .val (.int c6), .val (.int c7), .val (.ref x), .val (.int (0 : Int32)), .unset] [(.int (1 : Int32))]) := fun tg_ kk_ => S644 tg_ (st648 tg_ kk_)
        have M648 := Fr.app M634 N648
        rw [hisg, href] at hpl
        cases hpl
      · have _ := e648
        have S650 : own_Go p e below s₁ G T648 (mkF m 134 #[.val (.long p0), .second, .val (.int p1), .val (.int p2), .val (.int p3), .val (.int p4), .val (.int (Int32.ofNat k)), .val (.int c0), .val (.int c1), .val (.int c2), .val (.int c3), .val (.int c4), .val (.int c5), .val (.int c6), .val (.int c7), .val (.ref x), .val (.int (0 : Int32)), .unset] [(.int (0 : Int32))]) := fun tg_ kk_ => S644 tg_ (st648 tg_ kk_)
        have M648 := Fr.app M634 N648
        have S651 : own_Go p e below s₁ G T648 (mkF m 148 #[.val (.long p0), .second, .val (.int p1), .val (.int p2), .val (.int p3), .val (.int p4), .val (.int (Int32.ofNat k)), .val (.int c0), .val (.int c1), .val (.int c2), .val (.int c3), .val (.int c4), .val (.int c5), .val (.int c6), .val (.int c7), .val (.ref x), .val (.int (0 : Int32)), .val (.int (0 : Int32))] [(.int (1 : Int32))]) := fun tg_ kk_ => S650 tg_ (by
          refine XS.istore X648.here hx rfl (hb hby at_134) rfl (l' := #[.val (.long p0), .second, .val (.int p1), .val (.int p2), .val (.int p3), .val (.int p4), .val (.int (Int32.ofNat k)), .val (.int c0), .val (.int c1), .val (.int c2), .val (.int c3), .val (.int c4), .val (.int c5), .val (.int c6), .val (.int c7), .val (.ref x), .val (.int (0 : Int32)), .val (.int (0 : Int32))]) rfl ?_
          show Steps p.tables e below (T648.setTop (mkF m 136 #[.val (.long p0), .second, .val (.int p1), .val (.int p2), .val (.int p3), .val (.int p4), .val (.int (Int32.ofNat k)), .val (.int c0), .val (.int c1), .val (.int c2), .val (.int c3), .val (.int c4), .val (.int c5), .val (.int c6), .val (.int c7), .val (.ref x), .val (.int (0 : Int32)), .val (.int (0 : Int32))] [])) _
          refine XS.iload X648.here hx rfl (hb hby at_136) rfl ?_
          show Steps p.tables e below (T648.setTop (mkF m 138 #[.val (.long p0), .second, .val (.int p1), .val (.int p2), .val (.int p3), .val (.int p4), .val (.int (Int32.ofNat k)), .val (.int c0), .val (.int c1), .val (.int c2), .val (.int c3), .val (.int c4), .val (.int c5), .val (.int c6), .val (.int c7), .val (.ref x), .val (.int (0 : Int32)), .val (.int (0 : Int32))] [(.int (0 : Int32))])) _
          refine XS.iload X648.here hx rfl (hb hby at_138) rfl ?_
          show Steps p.tables e below (T648.setTop (mkF m 140 #[.val (.long p0), .second, .val (.int p1), .val (.int p2), .val (.int p3), .val (.int p4), .val (.int (Int32.ofNat k)), .val (.int c0), .val (.int c1), .val (.int c2), .val (.int c3), .val (.int c4), .val (.int c5), .val (.int c6), .val (.int c7), .val (.ref x), .val (.int (0 : Int32)), .val (.int (0 : Int32))] [(.int (0 : Int32)), (.int (0 : Int32))])) _
          refine XS.icmpNo X648.here hx rfl (hb hby at_140) rfl (XT.ii_ne_f (by decide)) ?_
          show Steps p.tables e below (T648.setTop (mkF m 143 #[.val (.long p0), .second, .val (.int p1), .val (.int p2), .val (.int p3), .val (.int p4), .val (.int (Int32.ofNat k)), .val (.int c0), .val (.int c1), .val (.int c2), .val (.int c3), .val (.int c4), .val (.int c5), .val (.int c6), .val (.int c7), .val (.ref x), .val (.int (0 : Int32)), .val (.int (0 : Int32))] [])) _
          refine XS.iconst X648.here hx rfl (hb hby at_143) ?_
          show Steps p.tables e below (T648.setTop (mkF m 144 #[.val (.long p0), .second, .val (.int p1), .val (.int p2), .val (.int p3), .val (.int p4), .val (.int (Int32.ofNat k)), .val (.int c0), .val (.int c1), .val (.int c2), .val (.int c3), .val (.int c4), .val (.int c5), .val (.int c6), .val (.int c7), .val (.ref x), .val (.int (0 : Int32)), .val (.int (0 : Int32))] [(.int (1 : Int32))])) _
          refine XS.goto X648.here hx rfl (pc0 := 144) (pc' := 148) rfl (hb hby at_144) (by decide) (by decide) ?_
          exact kk_)
        obtain ⟨fs, hr, hrun, hended, hend⟩ := X648.leaveW hS631 (by rw [e648]; exact (Nat.le_refl _)) (v := some (.int (1 : Int32))) (fun h => by rw [Bd.returns] at h; cases h)
        refine ⟨_, _, ?_, hrun, hended, _, _, rfl, ?_, hend.1, hend.2.1, hend.2.2.1, hend.2.2.2.mono (by decide) (by decide)⟩
        · rw [← hG]; exact S651 _ (retN X648 hx (t := .boolean) Bd.returns (by simp) (hb hby at_148) hr)
        · show Q0 Z p0 p1 p2 p3 p4 h0 n0 _ T648.heap _
          rw [e648]
          exact ⟨rfl, M648⟩
theorem own_not0 {s : State} {a : Array Value} {t : Term} {z : Int32} (ev : t.eval a s none [] s = some (.int z)) (h : (Jvm.Cond.not (Jvm.Cond.eq t (Jvm.Term.int 0))).before a s = true) : ¬ z = 0 :=
  gotF (Cond.eq_ints ev (Term.int_eval 0)) (not_v (Cond.before_iff.mp h))
theorem own_sta {s : State} {a : Array Value} {C n d : String} {k : Int32} (h : (Jvm.Cond.eq (Jvm.Term.static C n d) (Jvm.Term.int k)).before a s = true) (hi : (Jvm.Cond.initializedFor C n d).before a s = true) : Sta s s.heap C n d (.int k) := by
  have hv := Cond.before_iff.mp h
  obtain ⟨x, y, e1, e2, k1, -⟩ := cmp_v (Or.inl hv)
  have e3 := (Term.int_eval (args := a) (first := s) (o := none) (idx := []) (s := s) k).symm.trans e2
  obtain rfl := Option.some.inj e3
  cases x with
  | int z =>
    have q : z = k := gotT (Cond.eq_ints e1 (Term.int_eval k)) hv
    subst q
    exact Sta.start e1 (Or.inl hi)
  | _ => first | (obtain ⟨z, hz⟩ := k1; cases hz) | (exact absurd k1.2 (by decide))

set_option maxRecDepth 65536 in
set_option maxHeartbeats 40000000 in
theorem comes_1 {Post : Tables → Env → Array Value → State → Outcome → State → Prop} (hpost : ∀ tb e args s v u, (limb_1_1.after args s (.returned v) u = true ∧ limb_1_2.after args s (.returned v) u = true ∧ True) → ReturnedEndW s (.returned v) u (Jvm.fieldLocs frame_1_writes args s ++ Jvm.arrayLocs frame_1_arrays args s ++ Jvm.staticLocs frame_1_statics s) 16 1152 → Post tb e args s (.returned v) u) :
    ArmFor flags0 classFile x code maxLocals ret World_1 tables_1 room_1 Calls_1 rest_1 Pre_1 Post := by
  intro l hfl _ _ p e ha hc hk s m args below hf hA hF happ hP
  obtain ⟨hcalls, hrest, hpre⟩ := hP
  obtain ⟨-, -, -, hnamed, -, -, -, hat⟩ := (Spec.applies_iff hf).mp happ
  obtain ⟨hg, hn⟩ := and_e (Cond.before_iff.mp (show (Jvm.Cond.and given_1 narrow_1).before args s = true from hpre))
  obtain ⟨gc, gg0⟩ := and_e hg
  obtain ⟨ga0, gg1⟩ := and_e gg0
  obtain ⟨ga1, gg2⟩ := and_e gg1
  obtain ⟨ga2, gg3⟩ := and_e gg2
  obtain ⟨ga3, gg4⟩ := and_e gg3
  have ga4 := gg4
  obtain ⟨w0, w1, w2, w3, w4, rfl⟩ : ∃ w0 w1 w2 w3 w4 : Value, args = #[w0, w1, w2, w3, w4] := by
    have hs : args.size = 5 := by simpa [Cond.value, given_1] using gc
    obtain ⟨L⟩ := args
    match L, hs with
    | [w0, w1, w2, w3, w4], _ => exact ⟨w0, w1, w2, w3, w4, rfl⟩
  have hw := fun d (hd : d ∈ tables_1) => atoms_spec (ws := Jvm.Cond.code x code maxLocals ret :: tables_1) hat d (List.mem_cons_of_mem _ hd)
  have hfit : Fit s := fun {y c} hc i hi => by
    obtain ⟨ha, rfl⟩ := Array.getElem?_eq_some_iff.mp hc
    have q := List.all_eq_true.mp ((Array.all_eq_true_iff_forall_mem.mp hF) _ (Array.getElem_mem ha)) i (List.mem_range.mpr hi)
    simpa [Array.getElem?_eq_getElem hi] using q
  obtain ⟨i0, ei0⟩ := isL_v ga0
  obtain rfl : w0 = (.long i0) := Option.some.inj ei0
  obtain ⟨i1, ei1⟩ := is_v ga1
  obtain rfl : w1 = (.int i1) := Option.some.inj ei1
  obtain ⟨i2, ei2⟩ := is_v ga2
  obtain rfl : w2 = (.int i2) := Option.some.inj ei2
  obtain ⟨i3, ei3⟩ := is_v ga3
  obtain rfl : w3 = (.int i3) := Option.some.inj ei3
  obtain ⟨i4, ei4⟩ := is_v ga4
  obtain rfl : w4 = (.int i4) := Option.some.inj ei4
  have hsets := (atoms_of _ (rest_1_c_eq ▸ (show rest_1_c.before _ s = true from hrest))).1
  obtain ⟨zc, ezc⟩ := is_v (Cond.before_iff.mp (hsets _ (List.mem_of_getElem? (i := 1) rfl)))
  have hzc : ¬ zc = 0 := own_not0 ezc (hsets _ (List.mem_of_getElem? (i := 2) rfl))
  have Ocs := Sta.start ezc (Or.inl (hsets _ (List.mem_of_getElem? (i := 0) rfl)))
  obtain ⟨fm, efm, rfm⟩ := isR_v (Cond.before_iff.mp (hsets _ (List.mem_of_getElem? (i := 8) rfl)))
  have Sfm := Sta.start efm (Or.inl (hsets _ (List.mem_of_getElem? (i := 7) rfl)))
  have hCH : CHv s own_EL s.vm s.heap := CHv.start (own_EW hw) (fun p hp => hcalls.1 p hp) (hsets _ (List.mem_of_getElem? (i := 2) rfl)) (hw _ (List.mem_of_getElem? (i := 28) rfl)) (hw _ (List.mem_of_getElem? (i := 10) rfl))
  obtain ⟨n, o, h1, h2, h3, _, L, rfl, ⟨rfl, N⟩, hq⟩ := rm0 l s _ hw tables_1 i0 i1 i2 i3 i4 s.heap s.heap.size (Nat.le_refl _) zc (Old.start s) Ocs hzc fm rfm Sfm p e ha hc hk s m _ below hf ((Spec.applies_iff_loose hf).mp happ).1 ⟨rfl, State.Warmed39.refl s, rfl, hCH⟩ trivial
  refine ⟨n, _, h1, h2, h3, hpost _ _ _ _ _ _ ⟨Cond.after_iff.mpr rfl, Cond.after_iff.mpr (eq_i res_at (Term.int_eval (1)) rfl), trivial⟩ ⟨hq.1, hq.2.1, hq.2.2.1, (hq.2.2.2.sift fun y hy => Or.inr (N y hy)).mono (by decide) (by decide)⟩⟩
theorem main_1_1 : Claimed_1_1 := comes_1 fun _ _ _ _ _ _ h hF => ⟨h.1, hF⟩
theorem main_1_2 : Claimed_1_2 := comes_1 fun _ _ _ _ _ _ h hF => ⟨h.2.1, hF⟩
end Jvm.Pilot.@@N@@
namespace Jvm.Pilot.@@N@@
open Jvm Jvm.ClassFile Sem Op Lib Jvm.Free Jvm.Stand Jvm.Pilot.@@N@@.Jvm.D
/-! MADE BY PROGRAM (witnessworld.py) out of the Statement's table words and the real class files: 20 classes; the members and pool entries that the words name. The judged class is class 1, her method 1. -/
namespace start1
open Jvm.ClassFile
def u (s : String) : CpInfo := .utf8 (stringToUtf16 s)
/-- a pool by its gaps: so many unusable entries, then the entry; so many at the end -/
def gap : Nat → List CpInfo → List CpInfo
  | 0, r => r
  | n + 1, r => .unusable :: gap n r
def poolList (es : List (Nat × CpInfo)) (last : Nat) : List CpInfo := es.foldr (fun e r => gap e.1 (e.2 :: r)) (gap last [])
def pool (es : List (Nat × CpInfo)) (last : Nat) : Array CpInfo := ⟨poolList es last⟩
def fileOf (pool : Array CpInfo) (this : Nat) (attrs : Array Attribute := #[]) (ms : Array MethodInfo := #[]) (fl : Nat := 33) (sup : Nat := 0) (ifs : Array Nat := #[]) (fds : Array FieldInfo := #[]) : ClassFile where
  minorVersion := 0
  majorVersion := 65
  constantPool := pool
  accessFlags := fl
  thisClass := this
  superClass := sup
  interfaces := ifs
  fields := fds
  methods := ms
  attributes := attrs
def plain (name : String) (sup : Option ClassId) : Class where
  name := name
  kind := .ordinary
  loader := none
  accessFlags := 33
  super := sup
  interfaces := #[]
  cf := none
  fields := #[]
  methods := #[]
  instanceTypes := #[]
  staticTypes := #[]
  resolved := #[]
  callSites := []
  init := .initialized
  statics := none
  mirror := none

def pool0 : Array CpInfo := pool [(5, u "<init>"), (0, u "()V"), (1, .class_ 10), (1, u "java/lang/Object")] 113

def k0c0 : Code := { maxStack := 0, maxLocals := 1, code := object_method_1_code, exceptionTable := #[], attributes := #[] }
def k0m0 : Method := { name := "<init>", desc := "()V", sig := { parameters := [], returnType := none }, accessFlags := 1, code := some k0c0 }
/-- java/lang/Object -/
def k0 : Class := { plain "java/lang/Object" none with
  accessFlags := 33
  interfaces := #[]
  cf := some (fileOf pool0 8 #[] #[{ accessFlags := 1, nameIndex := 5, descriptorIndex := 6, attributes := #[] }] 33 0 #[] #[])
  fields := #[]
  methods := #[k0m0]
  instanceTypes := #[]
  staticTypes := #[]
  resolved := Array.replicate 124 none
  statics := none }

def pool1 : Array CpInfo := pool [(2, .class_ 4), (1, u "java/lang/Object"), (0, u "<init>"), (0, u "()V"), (0, .integer 2147483647), (0, .methodref 9 10), (0, .class_ 11), (0, .nameAndType 12 13), (0, u "com/example/tallyhook/tallyhook/core/EventTypeIsSegmentsPinLaw"), (0, u "ch"), (0, u "(JII)C"), (0, .methodref 9 15), (0, .nameAndType 16 17), (0, u "make"), (0, u "(ICCCCCCCC)Ljava/lang/String;"), (0, .methodref 19 20), (0, .class_ 21), (0, .nameAndType 22 23), (0, u "com/example/tallyhook/tallyhook/core/EventType"), (0, u "isSegments"), (0, u "(Ljava/lang/String;II)Z"), (0, .methodref 9 25), (0, .nameAndType 26 27), (0, u "ref"), (0, u "(ICCCCCCCCII)Z"), (0, .long 255), (1, .class_ 31), (0, u "java/lang/String"), (0, .methodref 30 33), (0, .nameAndType 5 34), (0, u "([C)V"), (0, .methodref 9 36), (0, .nameAndType 37 38), (0, u "word"), (0, u "(C)Z"), (0, .methodref 9 40), (0, .nameAndType 41 38), (0, u "dot"), (0, .methodref 9 43), (0, .nameAndType 44 45), (0, u "ok"), (0, u "(CII)Z"), (0, .methodref 9 47), (0, .nameAndType 48 49), (0, u "pair"), (0, u "(CCII)Z"), (0, .methodref 9 51), (0, .nameAndType 52 53), (0, u "pick"), (0, u "(ICCCCCCCC)C"), (0, .methodref 9 55), (0, .nameAndType 56 57), (0, u "dotAt"), (0, u "(CII)I"), (2, u "law"), (0, u "(JIIII)Z")] 3

def k1m0 : Method := { name := "<init>", desc := "()V", sig := { parameters := [], returnType := none }, accessFlags := 1, code := none }
def k1c1 : Code := { maxStack := 11, maxLocals := 18, code := code, exceptionTable := #[], attributes := #[] }
def k1m1 : Method := { name := "law", desc := "(JIIII)Z", sig := { parameters := [.long, .int, .int, .int, .int], returnType := some .boolean }, accessFlags := 9, code := some k1c1 }
def k1c2 : Code := { maxStack := 4, maxLocals := 4, code := method_3_code, exceptionTable := #[], attributes := #[] }
def k1m2 : Method := { name := "ch", desc := "(JII)C", sig := { parameters := [.long, .int, .int], returnType := some .char }, accessFlags := 10, code := some k1c2 }
def k1c3 : Code := { maxStack := 6, maxLocals := 9, code := method_4_code, exceptionTable := #[], attributes := #[] }
def k1m3 : Method := { name := "make", desc := "(ICCCCCCCC)Ljava/lang/String;", sig := { parameters := [.int, .char, .char, .char, .char, .char, .char, .char, .char], returnType := some (.object "java/lang/String") }, accessFlags := 10, code := some k1c3 }
def k1c4 : Code := { maxStack := 2, maxLocals := 9, code := method_5_code, exceptionTable := #[], attributes := #[] }
def k1m4 : Method := { name := "pick", desc := "(ICCCCCCCC)C", sig := { parameters := [.int, .char, .char, .char, .char, .char, .char, .char, .char], returnType := some .char }, accessFlags := 10, code := some k1c4 }
def k1c5 : Code := { maxStack := 2, maxLocals := 1, code := method_6_code, exceptionTable := #[], attributes := #[] }
def k1m5 : Method := { name := "dot", desc := "(C)Z", sig := { parameters := [.char], returnType := some .boolean }, accessFlags := 10, code := some k1c5 }
def k1c6 : Code := { maxStack := 2, maxLocals := 1, code := method_7_code, exceptionTable := #[], attributes := #[] }
def k1m6 : Method := { name := "word", desc := "(C)Z", sig := { parameters := [.char], returnType := some .boolean }, accessFlags := 10, code := some k1c6 }
def k1c7 : Code := { maxStack := 2, maxLocals := 3, code := method_8_code, exceptionTable := #[], attributes := #[] }
def k1m7 : Method := { name := "ok", desc := "(CII)Z", sig := { parameters := [.char, .int, .int], returnType := some .boolean }, accessFlags := 10, code := some k1c7 }
def k1c8 : Code := { maxStack := 2, maxLocals := 3, code := method_9_code, exceptionTable := #[], attributes := #[] }
def k1m8 : Method := { name := "dotAt", desc := "(CII)I", sig := { parameters := [.char, .int, .int], returnType := some .int }, accessFlags := 10, code := some k1c8 }
def k1c9 : Code := { maxStack := 2, maxLocals := 4, code := method_10_code, exceptionTable := #[], attributes := #[] }
def k1m9 : Method := { name := "pair", desc := "(CCII)Z", sig := { parameters := [.char, .char, .int, .int], returnType := some .boolean }, accessFlags := 10, code := some k1c9 }
def k1c10 : Code := { maxStack := 9, maxLocals := 16, code := method_11_code, exceptionTable := #[], attributes := #[] }
def k1m10 : Method := { name := "ref", desc := "(ICCCCCCCCII)Z", sig := { parameters := [.int, .char, .char, .char, .char, .char, .char, .char, .char, .int, .int], returnType := some .boolean }, accessFlags := 10, code := some k1c10 }
/-- com/example/tallyhook/tallyhook/core/EventTypeIsSegmentsPinLaw -/
def k1 : Class := { plain "com/example/tallyhook/tallyhook/core/EventTypeIsSegmentsPinLaw" (some 0) with
  accessFlags := 49
  interfaces := #[]
  cf := some (fileOf pool1 9 #[] #[{ accessFlags := 1, nameIndex := 5, descriptorIndex := 6, attributes := #[] }, { accessFlags := 9, nameIndex := 60, descriptorIndex := 61, attributes := #[] }, { accessFlags := 10, nameIndex := 12, descriptorIndex := 13, attributes := #[] }, { accessFlags := 10, nameIndex := 16, descriptorIndex := 17, attributes := #[] }, { accessFlags := 10, nameIndex := 52, descriptorIndex := 53, attributes := #[] }, { accessFlags := 10, nameIndex := 41, descriptorIndex := 38, attributes := #[] }, { accessFlags := 10, nameIndex := 37, descriptorIndex := 38, attributes := #[] }, { accessFlags := 10, nameIndex := 44, descriptorIndex := 45, attributes := #[] }, { accessFlags := 10, nameIndex := 56, descriptorIndex := 57, attributes := #[] }, { accessFlags := 10, nameIndex := 48, descriptorIndex := 49, attributes := #[] }, { accessFlags := 10, nameIndex := 26, descriptorIndex := 27, attributes := #[] }] 49 2 #[] #[])
  fields := #[]
  methods := #[k1m0, k1m1, k1m2, k1m3, k1m4, k1m5, k1m6, k1m7, k1m8, k1m9, k1m10]
  instanceTypes := #[]
  staticTypes := #[]
  resolved := Array.replicate 65 none
  statics := none }

def pool2 : Array CpInfo := pool [(1, .class_ 2), (0, u "java/io/Serializable"), (0, .class_ 4), (0, u "java/lang/Object")] 2

/-- java/io/Serializable -/
def k2 : Class := { plain "java/io/Serializable" (some 0) with
  accessFlags := 1537
  interfaces := #[]
  cf := some (fileOf pool2 1 #[] #[] 1537 3 #[] #[])
  fields := #[]
  methods := #[]
  instanceTypes := #[]
  staticTypes := #[]
  resolved := Array.replicate 7 none
  statics := none }

def pool3 : Array CpInfo := pool [(1, .class_ 2), (0, u "java/lang/Comparable"), (0, .class_ 4), (0, u "java/lang/Object")] 7

/-- java/lang/Comparable -/
def k3 : Class := { plain "java/lang/Comparable" (some 0) with
  accessFlags := 1537
  interfaces := #[]
  cf := some (fileOf pool3 1 #[] #[] 1537 3 #[] #[])
  fields := #[]
  methods := #[]
  instanceTypes := #[]
  staticTypes := #[]
  resolved := Array.replicate 12 none
  statics := none }

def pool4 : Array CpInfo := pool [(2, .class_ 4), (1, u "java/lang/CharSequence"), (42, .class_ 48), (0, u "java/lang/CharSequence$1CodePointIterator"), (10, .class_ 60), (0, u "java/lang/CharSequence$1CharIterator"), (5, .class_ 67), (0, u "java/lang/Object")] 63

/-- java/lang/CharSequence -/
def k4 : Class := { plain "java/lang/CharSequence" (some 0) with
  accessFlags := 1537
  interfaces := #[]
  cf := some (fileOf pool4 2 #[.nestMembers #[47, 59]] #[] 1537 66 #[] #[])
  fields := #[]
  methods := #[]
  instanceTypes := #[]
  staticTypes := #[]
  resolved := Array.replicate 131 none
  statics := none }

def pool5 : Array CpInfo := pool [(1, .class_ 2), (0, u "java/lang/constant/Constable"), (0, .class_ 4), (0, u "java/lang/Object")] 6

/-- java/lang/constant/Constable -/
def k5 : Class := { plain "java/lang/constant/Constable" (some 0) with
  accessFlags := 1537
  interfaces := #[]
  cf := some (fileOf pool5 1 #[] #[] 1537 3 #[] #[])
  fields := #[]
  methods := #[]
  instanceTypes := #[]
  staticTypes := #[]
  resolved := Array.replicate 11 none
  statics := none }

def pool6 : Array CpInfo := pool [(1, .class_ 2), (0, u "java/lang/constant/ConstantDesc"), (0, .class_ 4), (0, u "java/lang/Object")] 32

/-- java/lang/constant/ConstantDesc -/
def k6 : Class := { plain "java/lang/constant/ConstantDesc" (some 0) with
  accessFlags := 1537
  interfaces := #[]
  cf := some (fileOf pool6 1 #[] #[] 1537 3 #[] #[])
  fields := #[]
  methods := #[]
  instanceTypes := #[]
  staticTypes := #[]
  resolved := Array.replicate 37 none
  statics := none }

def pool7 : Array CpInfo := pool [(1, .methodref 2 3), (0, .class_ 4), (0, .nameAndType 5 6), (0, u "java/lang/Object"), (0, u "<init>"), (0, u "()V"), (0, .string 8), (0, u ""), (0, .fieldref 10 11), (0, .class_ 12), (0, .nameAndType 13 14), (0, u "java/lang/String"), (0, u "value"), (0, u "[B"), (0, .fieldref 10 16), (0, .nameAndType 17 18), (0, u "coder"), (0, u "B"), (2, u "hash"), (0, u "I"), (2, u "hashIsZero"), (0, u "Z"), (0, .methodref 10 28), (0, .nameAndType 5 29), (0, u "([CIILjava/lang/Void;)V"), (8, .fieldref 10 39), (0, .nameAndType 40 26), (0, u "COMPACT_STRINGS"), (1, .class_ 44), (1, u "java/lang/StringUTF16"), (0, u "compress"), (1, .methodref 42 48), (0, .nameAndType 49 50), (0, u "coderFromArrayLen"), (0, u "([BI)B"), (56, .class_ 109), (1, u "java/lang/StringLatin1"), (32, u "()Z"), (34, .methodref 42 178), (0, .nameAndType 45 179), (0, u "([CII)[B"), (154, u "()I"), (0, .methodref 10 336), (0, .nameAndType 17 337), (0, u "()B"), (25, u "([BI)C"), (27, u "(II)V"), (35, u "(I)C"), (64, .methodref 10 493), (0, .nameAndType 494 142), (0, u "isLatin1"), (0, .methodref 107 496), (0, .nameAndType 497 363), (0, u "charAt"), (3, u "checkIndex"), (5, u "length"), (67, .class_ 576), (0, u "java/lang/CharSequence"), (22, u "CASE_INSENSITIVE_ORDER"), (0, u "Ljava/util/Comparator;"), (409, u "([C)V"), (42, .fieldref 1054 1055), (0, .class_ 1056), (0, .nameAndType 1057 1058), (0, u "jdk/internal/util/Preconditions"), (0, u "SIOOBE_FORMATTER"), (0, u "Ljava/util/function/BiFunction;"), (0, .methodref 1054 1060), (0, .nameAndType 501 1061), (0, u "(IILjava/util/function/BiFunction;)I"), (39, u "serialPersistentFields"), (0, u "[Ljava/io/ObjectStreamField;"), (0, .class_ 1104), (0, u "java/lang/String$CaseInsensitiveComparator"), (1, .class_ 1107), (0, u "java/io/Serializable"), (0, .class_ 1109), (0, u "java/lang/Comparable"), (0, .class_ 1111), (0, u "java/lang/constant/Constable"), (0, .class_ 1113), (0, u "java/lang/constant/ConstantDesc"), (2, u "serialVersionUID"), (0, u "J"), (3, u "REPL"), (0, u "C"), (2, u "LATIN1"), (1, u "UTF16")] 323

def k7m0 : Method := { name := "<init>", desc := "()V", sig := { parameters := [], returnType := none }, accessFlags := 1, code := none }
def k7c1 : Code := { maxStack := 5, maxLocals := 2, code := jdk_42_method_3_code, exceptionTable := #[], attributes := #[] }
def k7m1 : Method := { name := "<init>", desc := "([C)V", sig := { parameters := [(.array .char)], returnType := none }, accessFlags := 1, code := some k7c1 }
def k7c2 : Code := { maxStack := 2, maxLocals := 1, code := jdk_42_method_54_code, exceptionTable := #[], attributes := #[] }
def k7m2 : Method := { name := "length", desc := "()I", sig := { parameters := [], returnType := some .int }, accessFlags := 1, code := some k7c2 }
def k7c3 : Code := { maxStack := 2, maxLocals := 2, code := jdk_42_method_56_code, exceptionTable := #[], attributes := #[] }
def k7m3 : Method := { name := "charAt", desc := "(I)C", sig := { parameters := [.int], returnType := some .char }, accessFlags := 1, code := some k7c3 }
def k7c4 : Code := { maxStack := 4, maxLocals := 6, code := jdk_42_method_149_code, exceptionTable := #[], attributes := #[] }
def k7m4 : Method := { name := "<init>", desc := "([CIILjava/lang/Void;)V", sig := { parameters := [(.array .char), .int, .int, (.object "java/lang/Void")], returnType := none }, accessFlags := 2, code := some k7c4 }
def k7c5 : Code := { maxStack := 1, maxLocals := 1, code := jdk_42_method_152_code, exceptionTable := #[], attributes := #[] }
def k7m5 : Method := { name := "coder", desc := "()B", sig := { parameters := [], returnType := some .byte }, accessFlags := 0, code := some k7c5 }
def k7c6 : Code := { maxStack := 1, maxLocals := 1, code := jdk_42_method_154_code, exceptionTable := #[], attributes := #[] }
def k7m6 : Method := { name := "isLatin1", desc := "()Z", sig := { parameters := [], returnType := some .boolean }, accessFlags := 0, code := some k7c6 }
def k7c7 : Code := { maxStack := 3, maxLocals := 2, code := jdk_42_method_155_code, exceptionTable := #[], attributes := #[] }
def k7m7 : Method := { name := "checkIndex", desc := "(II)V", sig := { parameters := [.int, .int], returnType := none }, accessFlags := 8, code := some k7c7 }
/-- java/lang/String -/
def k7 : Class := { plain "java/lang/String" (some 0) with
  accessFlags := 49
  interfaces := #[2, 3, 4, 5, 6]
  cf := some (fileOf pool7 10 #[.nestMembers #[1103]] #[{ accessFlags := 1, nameIndex := 5, descriptorIndex := 6, attributes := #[] }, { accessFlags := 1, nameIndex := 5, descriptorIndex := 1010, attributes := #[] }, { accessFlags := 1, nameIndex := 507, descriptorIndex := 334, attributes := #[] }, { accessFlags := 1, nameIndex := 497, descriptorIndex := 427, attributes := #[] }, { accessFlags := 2, nameIndex := 5, descriptorIndex := 29, attributes := #[] }, { accessFlags := 0, nameIndex := 17, descriptorIndex := 337, attributes := #[] }, { accessFlags := 0, nameIndex := 494, descriptorIndex := 142, attributes := #[] }, { accessFlags := 8, nameIndex := 501, descriptorIndex := 391, attributes := #[] }] 49 2 #[1106, 1108, 575, 1110, 1112] #[{ accessFlags := 18, nameIndex := 13, descriptorIndex := 14, attributes := #[] }, { accessFlags := 18, nameIndex := 17, descriptorIndex := 18, attributes := #[] }, { accessFlags := 2, nameIndex := 21, descriptorIndex := 22, attributes := #[] }, { accessFlags := 2, nameIndex := 25, descriptorIndex := 26, attributes := #[] }, { accessFlags := 26, nameIndex := 1116, descriptorIndex := 1117, attributes := #[] }, { accessFlags := 24, nameIndex := 40, descriptorIndex := 26, attributes := #[] }, { accessFlags := 26, nameIndex := 1101, descriptorIndex := 1102, attributes := #[] }, { accessFlags := 26, nameIndex := 1121, descriptorIndex := 1122, attributes := #[] }, { accessFlags := 25, nameIndex := 599, descriptorIndex := 600, attributes := #[] }, { accessFlags := 24, nameIndex := 1125, descriptorIndex := 18, attributes := #[] }, { accessFlags := 24, nameIndex := 1127, descriptorIndex := 18, attributes := #[] }])
  fields := #[{ name := "value", type := (.array .byte), accessFlags := 18, slot := 0, constantValue := 0 }, { name := "coder", type := .byte, accessFlags := 18, slot := 1, constantValue := 0 }, { name := "hash", type := .int, accessFlags := 2, slot := 2, constantValue := 0 }, { name := "hashIsZero", type := .boolean, accessFlags := 2, slot := 3, constantValue := 0 }, { name := "serialVersionUID", type := .long, accessFlags := 26, slot := 0, constantValue := 0 }, { name := "COMPACT_STRINGS", type := .boolean, accessFlags := 24, slot := 1, constantValue := 0 }, { name := "serialPersistentFields", type := (.array (.object "java/io/ObjectStreamField")), accessFlags := 26, slot := 2, constantValue := 0 }, { name := "REPL", type := .char, accessFlags := 26, slot := 3, constantValue := 0 }, { name := "CASE_INSENSITIVE_ORDER", type := (.object "java/util/Comparator"), accessFlags := 25, slot := 4, constantValue := 0 }, { name := "LATIN1", type := .byte, accessFlags := 24, slot := 5, constantValue := 0 }, { name := "UTF16", type := .byte, accessFlags := 24, slot := 6, constantValue := 0 }]
  methods := #[k7m0, k7m1, k7m2, k7m3, k7m4, k7m5, k7m6, k7m7]
  instanceTypes := #[(.array .byte), .byte, .int, .boolean]
  staticTypes := #[.long, .boolean, (.array (.object "java/io/ObjectStreamField")), .char, (.object "java/util/Comparator"), .byte, .byte]
  resolved := Array.replicate 1451 none
  statics := some 0 }

def pool8 : Array CpInfo := pool [(6, .class_ 8), (1, u "java/lang/Object"), (0, u "<init>"), (0, u "()V"), (1, .class_ 14), (1, u "java/lang/StringUTF16"), (31, u "$assertionsDisabled"), (0, u "Z"), (13, u "HI_BYTE_SHIFT"), (0, u "I"), (2, u "LO_BYTE_SHIFT"), (49, .methodref 12 116), (0, .nameAndType 117 118), (0, u "compress"), (0, u "([CI[BII)I"), (3, u "([CII)[B"), (138, u "coderFromArrayLen"), (0, u "([BI)B"), (106, .class_ 371), (1, u "java/lang/StringUTF16$LinesSpliterator"), (58, u "MAX_LENGTH"), (196, .class_ 628), (0, u "java/lang/StringUTF16$CodePointsSpliterator"), (0, .class_ 630), (0, u "java/lang/StringUTF16$CharsSpliterator")] 4

def k8m0 : Method := { name := "<init>", desc := "()V", sig := { parameters := [], returnType := none }, accessFlags := 0, code := none }
def k8c1 : Code := { maxStack := 2, maxLocals := 2, code := jdk_52_method_15_code, exceptionTable := #[], attributes := #[] }
def k8m1 : Method := { name := "coderFromArrayLen", desc := "([BI)B", sig := { parameters := [(.array .byte), .int], returnType := some .byte }, accessFlags := 8, code := some k8c1 }
def k8c2 : Code := { maxStack := 5, maxLocals := 6, code := jdk_52_method_16_code, exceptionTable := #[], attributes := #[] }
def k8m2 : Method := { name := "compress", desc := "([CII)[B", sig := { parameters := [(.array .char), .int, .int], returnType := some (.array .byte) }, accessFlags := 9, code := some k8c2 }
def k8c3 : Code := { maxStack := 3, maxLocals := 7, code := jdk_52_method_21_code, exceptionTable := #[], attributes := #[] }
def k8m3 : Method := { name := "compress", desc := "([CI[BII)I", sig := { parameters := [(.array .char), .int, (.array .byte), .int, .int], returnType := some .int }, accessFlags := 9, code := some k8c3 }
/-- java/lang/StringUTF16 -/
def k8 : Class := { plain "java/lang/StringUTF16" (some 0) with
  accessFlags := 48
  interfaces := #[]
  cf := some (fileOf pool8 12 #[.nestMembers #[627, 629, 369]] #[{ accessFlags := 0, nameIndex := 9, descriptorIndex := 10, attributes := #[] }, { accessFlags := 8, nameIndex := 261, descriptorIndex := 262, attributes := #[] }, { accessFlags := 9, nameIndex := 117, descriptorIndex := 122, attributes := #[] }, { accessFlags := 9, nameIndex := 117, descriptorIndex := 118, attributes := #[] }] 48 6 #[] #[{ accessFlags := 26, nameIndex := 61, descriptorIndex := 62, attributes := #[] }, { accessFlags := 26, nameIndex := 65, descriptorIndex := 62, attributes := #[] }, { accessFlags := 24, nameIndex := 430, descriptorIndex := 62, attributes := #[] }, { accessFlags := 4120, nameIndex := 46, descriptorIndex := 47, attributes := #[] }])
  fields := #[{ name := "HI_BYTE_SHIFT", type := .int, accessFlags := 26, slot := 0, constantValue := 0 }, { name := "LO_BYTE_SHIFT", type := .int, accessFlags := 26, slot := 1, constantValue := 0 }, { name := "MAX_LENGTH", type := .int, accessFlags := 24, slot := 2, constantValue := 0 }, { name := "$assertionsDisabled", type := .boolean, accessFlags := 4120, slot := 3, constantValue := 0 }]
  methods := #[k8m0, k8m1, k8m2, k8m3]
  instanceTypes := #[]
  staticTypes := #[.int, .int, .int, .boolean]
  resolved := Array.replicate 635 none
  statics := none }

def pool9 : Array CpInfo := pool [(1, .class_ 2), (0, u "com/example/tallyhook/tallyhook/core/EventType"), (1, .class_ 6), (1, u "java/lang/Object"), (0, u "<init>"), (0, u "()V"), (0, .methodref 10 11), (0, .class_ 12), (0, .nameAndType 13 14), (0, u "java/lang/String"), (0, u "length"), (0, u "()I"), (2, u "isSegments"), (0, u "(Ljava/lang/String;II)Z"), (0, .methodref 10 20), (0, .nameAndType 21 22), (0, u "charAt"), (0, u "(I)C"), (19, u "MIN_SEGMENTS"), (0, u "I"), (2, u "MAX_SEGMENTS"), (1, u "MAX_LENGTH"), (1, u "RULE"), (0, u "Ljava/lang/String;")] 7

def k9m0 : Method := { name := "<init>", desc := "()V", sig := { parameters := [], returnType := none }, accessFlags := 2, code := none }
def k9c1 : Code := { maxStack := 2, maxLocals := 8, code := prog_8_method_3_code, exceptionTable := #[], attributes := #[] }
def k9m1 : Method := { name := "isSegments", desc := "(Ljava/lang/String;II)Z", sig := { parameters := [(.object "java/lang/String"), .int, .int], returnType := some .boolean }, accessFlags := 8, code := some k9c1 }
/-- com/example/tallyhook/tallyhook/core/EventType -/
def k9 : Class := { plain "com/example/tallyhook/tallyhook/core/EventType" (some 0) with
  accessFlags := 49
  interfaces := #[]
  cf := some (fileOf pool9 1 #[] #[{ accessFlags := 2, nameIndex := 7, descriptorIndex := 8, attributes := #[] }, { accessFlags := 8, nameIndex := 17, descriptorIndex := 18, attributes := #[] }] 49 4 #[] #[{ accessFlags := 25, nameIndex := 42, descriptorIndex := 43, attributes := #[] }, { accessFlags := 25, nameIndex := 46, descriptorIndex := 43, attributes := #[] }, { accessFlags := 25, nameIndex := 48, descriptorIndex := 43, attributes := #[] }, { accessFlags := 25, nameIndex := 50, descriptorIndex := 51, attributes := #[] }])
  fields := #[{ name := "MIN_SEGMENTS", type := .int, accessFlags := 25, slot := 0, constantValue := 0 }, { name := "MAX_SEGMENTS", type := .int, accessFlags := 25, slot := 1, constantValue := 0 }, { name := "MAX_LENGTH", type := .int, accessFlags := 25, slot := 2, constantValue := 0 }, { name := "RULE", type := (.object "java/lang/String"), accessFlags := 25, slot := 3, constantValue := 0 }]
  methods := #[k9m0, k9m1]
  instanceTypes := #[]
  staticTypes := #[.int, .int, .int, (.object "java/lang/String")]
  resolved := Array.replicate 59 none
  statics := none }

def pool10 : Array CpInfo := pool [(1, .class_ 2), (0, u "java/lang/String"), (1, .class_ 6), (1, u "java/lang/Object"), (0, u "<init>"), (0, u "()V"), (0, .methodref 1 10), (0, .nameAndType 11 12), (0, u "checkIndex"), (0, u "(II)V"), (1, .class_ 16), (1, u "java/lang/StringLatin1"), (36, u "([BI)C"), (67, u "$assertionsDisabled"), (0, u "Z"), (98, .class_ 223), (1, u "java/lang/StringLatin1$LinesSpliterator"), (28, u "charAt"), (137, .class_ 391), (0, u "java/lang/StringLatin1$CharsSpliterator")] 3

def k10m0 : Method := { name := "<init>", desc := "()V", sig := { parameters := [], returnType := none }, accessFlags := 0, code := none }
def k10c1 : Code := { maxStack := 2, maxLocals := 2, code := jdk_43_method_2_code, exceptionTable := #[], attributes := #[] }
def k10m1 : Method := { name := "charAt", desc := "([BI)C", sig := { parameters := [(.array .byte), .int], returnType := some .char }, accessFlags := 9, code := some k10c1 }
/-- java/lang/StringLatin1 -/
def k10 : Class := { plain "java/lang/StringLatin1" (some 0) with
  accessFlags := 48
  interfaces := #[]
  cf := some (fileOf pool10 14 #[.nestMembers #[390, 221]] #[{ accessFlags := 0, nameIndex := 7, descriptorIndex := 8, attributes := #[] }, { accessFlags := 9, nameIndex := 252, descriptorIndex := 53, attributes := #[] }] 48 4 #[] #[{ accessFlags := 4120, nameIndex := 121, descriptorIndex := 122, attributes := #[] }])
  fields := #[{ name := "$assertionsDisabled", type := .boolean, accessFlags := 4120, slot := 0, constantValue := 0 }]
  methods := #[k10m0, k10m1]
  instanceTypes := #[]
  staticTypes := #[.boolean]
  resolved := Array.replicate 395 none
  statics := none }

def pool11 : Array CpInfo := pool [(2, .class_ 4), (1, u "java/lang/Object"), (0, u "<init>"), (0, u "()V"), (17, .class_ 26), (1, u "jdk/internal/util/Preconditions"), (6, u "checkIndex"), (21, .class_ 56), (0, u "jdk/internal/util/Preconditions$4"), (57, .class_ 115), (0, u "jdk/internal/util/Preconditions$1"), (7, u "SIOOBE_FORMATTER"), (0, u "Ljava/util/function/BiFunction;"), (0, .class_ 126), (0, u "jdk/internal/util/Preconditions$2"), (3, u "AIOOBE_FORMATTER"), (0, .class_ 132), (0, u "jdk/internal/util/Preconditions$3"), (3, u "IOOBE_FORMATTER"), (41, u "(IILjava/util/function/BiFunction;)I")] 15

def k11m0 : Method := { name := "<init>", desc := "()V", sig := { parameters := [], returnType := none }, accessFlags := 1, code := none }
def k11c1 : Code := { maxStack := 3, maxLocals := 3, code := jdk_41_method_11_code, exceptionTable := #[], attributes := #[] }
def k11m1 : Method := { name := "checkIndex", desc := "(IILjava/util/function/BiFunction;)I", sig := { parameters := [.int, .int, (.object "java/util/function/BiFunction")], returnType := some .int }, accessFlags := 9, code := some k11c1 }
/-- jdk/internal/util/Preconditions -/
def k11 : Class := { plain "jdk/internal/util/Preconditions" (some 0) with
  accessFlags := 33
  interfaces := #[]
  cf := some (fileOf pool11 24 #[.nestMembers #[55, 131, 125, 114]] #[{ accessFlags := 1, nameIndex := 5, descriptorIndex := 6, attributes := #[] }, { accessFlags := 9, nameIndex := 33, descriptorIndex := 178, attributes := #[] }] 33 2 #[] #[{ accessFlags := 25, nameIndex := 123, descriptorIndex := 124, attributes := #[] }, { accessFlags := 25, nameIndex := 130, descriptorIndex := 124, attributes := #[] }, { accessFlags := 25, nameIndex := 136, descriptorIndex := 124, attributes := #[] }])
  fields := #[{ name := "SIOOBE_FORMATTER", type := (.object "java/util/function/BiFunction"), accessFlags := 25, slot := 0, constantValue := 0 }, { name := "AIOOBE_FORMATTER", type := (.object "java/util/function/BiFunction"), accessFlags := 25, slot := 1, constantValue := 0 }, { name := "IOOBE_FORMATTER", type := (.object "java/util/function/BiFunction"), accessFlags := 25, slot := 2, constantValue := 0 }]
  methods := #[k11m0, k11m1]
  instanceTypes := #[]
  staticTypes := #[(.object "java/util/function/BiFunction"), (.object "java/util/function/BiFunction"), (.object "java/util/function/BiFunction")]
  resolved := Array.replicate 194 none
  statics := some 1 }

def pool12 : Array CpInfo := pool [(9, u "<init>"), (6, .class_ 18), (1, u "java/lang/Object"), (0, u "()V"), (1, .class_ 23), (1, u "jdk/internal/util/ArraysSupport"), (0, u "LOG2_ARRAY_LONG_INDEX_SCALE"), (0, u "I"), (2, u "U"), (0, u "Ljdk/internal/misc/Unsafe;"), (8, u "BIG_ENDIAN"), (0, u "Z"), (8, u "LOG2_BYTE_BIT_SIZE"), (4, u "LOG2_ARRAY_INT_INDEX_SCALE"), (54, u "JLA"), (0, u "Ljdk/internal/access/JavaLangAccess;"), (11, u "LOG2_ARRAY_BOOLEAN_INDEX_SCALE"), (9, u "LOG2_ARRAY_BYTE_INDEX_SCALE"), (5, u "LOG2_ARRAY_CHAR_INDEX_SCALE"), (5, u "LOG2_ARRAY_SHORT_INDEX_SCALE"), (18, u "LOG2_ARRAY_FLOAT_INDEX_SCALE"), (24, u "LOG2_ARRAY_DOUBLE_INDEX_SCALE"), (89, u "T_BOOLEAN"), (2, u "T_CHAR"), (1, u "T_FLOAT"), (1, u "T_DOUBLE"), (1, u "T_BYTE"), (1, u "T_SHORT"), (1, u "T_INT"), (1, u "T_LONG"), (1, u "SOFT_MAX_ARRAY_LENGTH")] 83

def k12m0 : Method := { name := "<init>", desc := "()V", sig := { parameters := [], returnType := none }, accessFlags := 2, code := none }
/-- jdk/internal/util/ArraysSupport -/
def k12 : Class := { plain "jdk/internal/util/ArraysSupport" (some 0) with
  accessFlags := 33
  interfaces := #[]
  cf := some (fileOf pool12 21 #[] #[{ accessFlags := 2, nameIndex := 9, descriptorIndex := 19, attributes := #[] }] 33 16 #[] #[{ accessFlags := 24, nameIndex := 28, descriptorIndex := 29, attributes := #[] }, { accessFlags := 26, nameIndex := 38, descriptorIndex := 39, attributes := #[] }, { accessFlags := 25, nameIndex := 121, descriptorIndex := 25, attributes := #[] }, { accessFlags := 25, nameIndex := 131, descriptorIndex := 25, attributes := #[] }, { accessFlags := 25, nameIndex := 137, descriptorIndex := 25, attributes := #[] }, { accessFlags := 25, nameIndex := 143, descriptorIndex := 25, attributes := #[] }, { accessFlags := 25, nameIndex := 53, descriptorIndex := 25, attributes := #[] }, { accessFlags := 25, nameIndex := 24, descriptorIndex := 25, attributes := #[] }, { accessFlags := 25, nameIndex := 162, descriptorIndex := 25, attributes := #[] }, { accessFlags := 25, nameIndex := 187, descriptorIndex := 25, attributes := #[] }, { accessFlags := 26, nameIndex := 48, descriptorIndex := 25, attributes := #[] }, { accessFlags := 25, nameIndex := 277, descriptorIndex := 25, attributes := #[] }, { accessFlags := 25, nameIndex := 280, descriptorIndex := 25, attributes := #[] }, { accessFlags := 25, nameIndex := 282, descriptorIndex := 25, attributes := #[] }, { accessFlags := 25, nameIndex := 284, descriptorIndex := 25, attributes := #[] }, { accessFlags := 25, nameIndex := 286, descriptorIndex := 25, attributes := #[] }, { accessFlags := 25, nameIndex := 288, descriptorIndex := 25, attributes := #[] }, { accessFlags := 25, nameIndex := 290, descriptorIndex := 25, attributes := #[] }, { accessFlags := 25, nameIndex := 292, descriptorIndex := 25, attributes := #[] }, { accessFlags := 26, nameIndex := 108, descriptorIndex := 109, attributes := #[] }, { accessFlags := 25, nameIndex := 294, descriptorIndex := 25, attributes := #[] }])
  fields := #[{ name := "U", type := (.object "jdk/internal/misc/Unsafe"), accessFlags := 24, slot := 0, constantValue := 0 }, { name := "BIG_ENDIAN", type := .boolean, accessFlags := 26, slot := 1, constantValue := 0 }, { name := "LOG2_ARRAY_BOOLEAN_INDEX_SCALE", type := .int, accessFlags := 25, slot := 2, constantValue := 0 }, { name := "LOG2_ARRAY_BYTE_INDEX_SCALE", type := .int, accessFlags := 25, slot := 3, constantValue := 0 }, { name := "LOG2_ARRAY_CHAR_INDEX_SCALE", type := .int, accessFlags := 25, slot := 4, constantValue := 0 }, { name := "LOG2_ARRAY_SHORT_INDEX_SCALE", type := .int, accessFlags := 25, slot := 5, constantValue := 0 }, { name := "LOG2_ARRAY_INT_INDEX_SCALE", type := .int, accessFlags := 25, slot := 6, constantValue := 0 }, { name := "LOG2_ARRAY_LONG_INDEX_SCALE", type := .int, accessFlags := 25, slot := 7, constantValue := 0 }, { name := "LOG2_ARRAY_FLOAT_INDEX_SCALE", type := .int, accessFlags := 25, slot := 8, constantValue := 0 }, { name := "LOG2_ARRAY_DOUBLE_INDEX_SCALE", type := .int, accessFlags := 25, slot := 9, constantValue := 0 }, { name := "LOG2_BYTE_BIT_SIZE", type := .int, accessFlags := 26, slot := 10, constantValue := 0 }, { name := "T_BOOLEAN", type := .int, accessFlags := 25, slot := 11, constantValue := 0 }, { name := "T_CHAR", type := .int, accessFlags := 25, slot := 12, constantValue := 0 }, { name := "T_FLOAT", type := .int, accessFlags := 25, slot := 13, constantValue := 0 }, { name := "T_DOUBLE", type := .int, accessFlags := 25, slot := 14, constantValue := 0 }, { name := "T_BYTE", type := .int, accessFlags := 25, slot := 15, constantValue := 0 }, { name := "T_SHORT", type := .int, accessFlags := 25, slot := 16, constantValue := 0 }, { name := "T_INT", type := .int, accessFlags := 25, slot := 17, constantValue := 0 }, { name := "T_LONG", type := .int, accessFlags := 25, slot := 18, constantValue := 0 }, { name := "JLA", type := (.object "jdk/internal/access/JavaLangAccess"), accessFlags := 26, slot := 19, constantValue := 0 }, { name := "SOFT_MAX_ARRAY_LENGTH", type := .int, accessFlags := 25, slot := 20, constantValue := 0 }]
  methods := #[k12m0]
  instanceTypes := #[]
  staticTypes := #[(.object "jdk/internal/misc/Unsafe"), .boolean, .int, .int, .int, .int, .int, .int, .int, .int, .int, .int, .int, .int, .int, .int, .int, .int, .int, (.object "jdk/internal/access/JavaLangAccess"), .int]
  resolved := Array.replicate 378 none
  statics := none }

def pool13 : Array CpInfo := pool [(1, u "java/lang/Cloneable"), (0, .class_ 1), (0, u "java/lang/Object"), (0, .class_ 3)] 3

/-- java/lang/Cloneable -/
def k13 : Class := { plain "java/lang/Cloneable" (some 0) with
  accessFlags := 1537
  interfaces := #[]
  cf := some (fileOf pool13 2 #[] #[] 1537 4 #[] #[])
  fields := #[]
  methods := #[]
  instanceTypes := #[]
  staticTypes := #[]
  resolved := Array.replicate 8 none
  statics := none }

/-- the primitive byte -/
def k14 : Class := { plain "byte" none with kind := .primitive 'B', accessFlags := 0x411 }
/-- [B -/
def k15 : Class := { plain "[B" (some 0) with kind := .array 14 .byte, interfaces := #[13, 2], accessFlags := 1041 }

/-- the primitive char -/
def k16 : Class := { plain "char" none with kind := .primitive 'C', accessFlags := 0x411 }
/-- [C -/
def k17 : Class := { plain "[C" (some 0) with kind := .array 16 .char, interfaces := #[13, 2], accessFlags := 1041 }

/-- the primitive int -/
def k18 : Class := { plain "int" none with kind := .primitive 'I', accessFlags := 0x411 }
/-- [I -/
def k19 : Class := { plain "[I" (some 0) with kind := .array 18 .int, interfaces := #[13, 2], accessFlags := 1041 }

def heap : Heap := #[{ cls := 7, slots := #[.long 0, .int 1, .null, .int 0, .null, .int 0, .int 0], vm := .statics 7 },
  { cls := 11, slots := #[.null, .null, .null], vm := .statics 11 }]
def classes : Array Class := #[k0, k1, k2, k3, k4, k5, k6, k7, k8, k9, k10, k11, k12, k13, k14, k15, k16, k17, k18, k19]
def interned : List (Array UInt16 × Addr) := []
def slotsUsed : Nat := 10
def theMethod : MethodId := ⟨1, 1⟩
def args0 : Array Value := #[.long 5, .int 6, .int 7, .int 8, .int 9]
def aboutOver (below : List Frame) : State where
  vm := { classes := classes, interned := interned.toArray }
  heap := heap
  slotsUsed := slotsUsed
  threads := #[{ frames := .invoking theMethod args0 :: below }]
def below0 : List Frame := [.native { method := ⟨0, 0⟩, args := #[] }]
def about1 : State := aboutOver below0
def p0 : Program := .bare "" "" ""
def e0 : Env := launch0.env 0 0 0
theorem w_frames : about1.frames = Frame.invoking theMethod args0 :: below0 := rfl
set_option maxRecDepth 65536 in
theorem w_args : argsFit about1.vm theMethod args0 = true := by decide +kernel
set_option maxRecDepth 65536 in
theorem w_heap : heapFits about1 = true := by decide +kernel
set_option maxRecDepth 65536 in
theorem w_runnable : about1.curStatus? = some .runnable := by decide +kernel
set_option maxRecDepth 65536 in
theorem w_alone : about1.alone = true := by decide +kernel
set_option maxRecDepth 65536 in
theorem w_named : about1.methodNamed? x = some theMethod := by decide +kernel
set_option maxRecDepth 65536 in
theorem w_hears : about1.hears theMethod below0 = true := by decide +kernel
set_option maxRecDepth 65536 in
theorem w_ripe : about1.ripe theMethod args0 below0 = true := by decide +kernel
theorem w_running : about1.status = .running := rfl
set_option maxRecDepth 65536 in
theorem w_room : about1.hasRoom e0.platform room_1 = true :=
  launch0.hasRoom_least _ room_1 (by decide +kernel) (by decide +kernel) (by decide +kernel) (by decide +kernel) (by decide +kernel) (by decide +kernel)
theorem allAtoms_all (ts : List Jvm.Cond) (a : Array Jvm.Value) (st : Jvm.State) : (allAtoms ts).before a st = ts.all (fun c => c.before a st) := by
  induction ts with
  | nil => rfl
  | cons c t ih =>
    show (Jvm.Cond.and c (allAtoms t)).before a st = _
    rw [Jvm.Cond.before_and, ih, List.all_cons]
def words1 : List Jvm.Cond := Jvm.Cond.code x code maxLocals ret :: tables_1
/-- a 'code' word, met by the world's own term for the bytes: nothing is compared byte by byte -/
theorem code_word {y : MethodName} {bytes : ByteArray} {mx : Nat} {rt : Option FieldType} {a : Array Value} {s : State} {m : MethodId} {meth : Method} {c : Code} (h1 : s.methodNamed? y = some m) (h2 : s.vm.method? m = some meth) (h3 : meth.code = some c) (h4 : c.code = bytes)
    (h5 : (c.maxLocals == mx && c.exceptionTable.isEmpty && decide (c.maxStack ≤ mostOperands) && decide (meth.sig.returnType = rt) && !meth.locks && decide (parseMethodDescriptor y.desc = some meth.sig)) = true) : (Jvm.Cond.code y bytes mx rt).before a s = true := by
  simp only [Bool.and_eq_true, beq_iff_eq, Bool.not_eq_true', decide_eq_true_eq] at h5
  obtain ⟨⟨⟨⟨⟨g1, g2⟩, g3⟩, g4⟩, g5⟩, g6⟩ := h5
  simp [Cond.before, Cond.holds, Cond.value, h1, h2, h3, h4, g1, g2, g3, g4, g5, g6]
def isCode : Jvm.Cond → Bool
  | .code _ _ _ _ => true
  | _ => false
theorem all_split {L : List Jvm.Cond} {P : Jvm.Cond → Bool} (h1 : L.all (fun c => isCode c || P c) = true) (h2 : ∀ c ∈ L.filter isCode, P c = true) : L.all P = true := by
  refine List.all_eq_true.mpr fun c hc => ?_
  have h := List.all_eq_true.mp h1 c hc
  rcases Bool.eq_false_or_eq_true (isCode c) with hi | hi
  · exact h2 c (List.mem_filter.mpr ⟨hc, hi⟩)
  · simpa [hi] using h
set_option maxRecDepth 65536 in
theorem w_c0 : (Jvm.Cond.code x code maxLocals ret).before args0 about1 = true := code_word (m := ⟨1, 1⟩) (meth := k1m1) (c := k1c1) (by decide +kernel) rfl rfl rfl (by decide +kernel)
set_option maxRecDepth 65536 in
theorem w_c1 : (Jvm.Cond.code ({ cls := "com/example/tallyhook/tallyhook/core/EventTypeIsSegmentsPinLaw", name := "ch", desc := "(JII)C" } : Jvm.MethodName) method_3_code (4 : Nat) (Option.some Jvm.ClassFile.FieldType.char)).before args0 about1 = true := code_word (m := ⟨1, 2⟩) (meth := k1m2) (c := k1c2) (by decide +kernel) rfl rfl rfl (by decide +kernel)
set_option maxRecDepth 65536 in
theorem w_c2 : (Jvm.Cond.code ({ cls := "com/example/tallyhook/tallyhook/core/EventTypeIsSegmentsPinLaw", name := "make", desc := "(ICCCCCCCC)Ljava/lang/String;" } : Jvm.MethodName) method_4_code (9 : Nat) (Option.some (Jvm.ClassFile.FieldType.object "java/lang/String"))).before args0 about1 = true := code_word (m := ⟨1, 3⟩) (meth := k1m3) (c := k1c3) (by decide +kernel) rfl rfl rfl (by decide +kernel)
set_option maxRecDepth 65536 in
theorem w_c3 : (Jvm.Cond.code ({ cls := "java/lang/String", name := "<init>", desc := "([C)V" } : Jvm.MethodName) jdk_42_method_3_code (2 : Nat) (Option.none : Option Jvm.ClassFile.FieldType)).before args0 about1 = true := code_word (m := ⟨7, 1⟩) (meth := k7m1) (c := k7c1) (by decide +kernel) rfl rfl rfl (by decide +kernel)
set_option maxRecDepth 65536 in
theorem w_c4 : (Jvm.Cond.code ({ cls := "java/lang/String", name := "<init>", desc := "([CIILjava/lang/Void;)V" } : Jvm.MethodName) jdk_42_method_149_code (6 : Nat) (Option.none : Option Jvm.ClassFile.FieldType)).before args0 about1 = true := code_word (m := ⟨7, 4⟩) (meth := k7m4) (c := k7c4) (by decide +kernel) rfl rfl rfl (by decide +kernel)
set_option maxRecDepth 65536 in
theorem w_c5 : (Jvm.Cond.code ({ cls := "java/lang/Object", name := "<init>", desc := "()V" } : Jvm.MethodName) object_method_1_code (1 : Nat) (Option.none : Option Jvm.ClassFile.FieldType)).before args0 about1 = true := code_word (m := ⟨0, 0⟩) (meth := k0m0) (c := k0c0) (by decide +kernel) rfl rfl rfl (by decide +kernel)
set_option maxRecDepth 65536 in
theorem w_c6 : (Jvm.Cond.code ({ cls := "java/lang/StringUTF16", name := "compress", desc := "([CII)[B" } : Jvm.MethodName) jdk_52_method_16_code (6 : Nat) (Option.some (Jvm.ClassFile.FieldType.array Jvm.ClassFile.FieldType.byte))).before args0 about1 = true := code_word (m := ⟨8, 2⟩) (meth := k8m2) (c := k8c2) (by decide +kernel) rfl rfl rfl (by decide +kernel)
set_option maxRecDepth 65536 in
theorem w_c7 : (Jvm.Cond.code ({ cls := "java/lang/StringUTF16", name := "compress", desc := "([CI[BII)I" } : Jvm.MethodName) jdk_52_method_21_code (7 : Nat) (Option.some Jvm.ClassFile.FieldType.int)).before args0 about1 = true := code_word (m := ⟨8, 3⟩) (meth := k8m3) (c := k8c3) (by decide +kernel) rfl rfl rfl (by decide +kernel)
set_option maxRecDepth 65536 in
theorem w_c8 : (Jvm.Cond.code ({ cls := "java/lang/StringUTF16", name := "coderFromArrayLen", desc := "([BI)B" } : Jvm.MethodName) jdk_52_method_15_code (2 : Nat) (Option.some Jvm.ClassFile.FieldType.byte)).before args0 about1 = true := code_word (m := ⟨8, 1⟩) (meth := k8m1) (c := k8c1) (by decide +kernel) rfl rfl rfl (by decide +kernel)
set_option maxRecDepth 65536 in
theorem w_c9 : (Jvm.Cond.code ({ cls := "com/example/tallyhook/tallyhook/core/EventType", name := "isSegments", desc := "(Ljava/lang/String;II)Z" } : Jvm.MethodName) prog_8_method_3_code (8 : Nat) (Option.some Jvm.ClassFile.FieldType.boolean)).before args0 about1 = true := code_word (m := ⟨9, 1⟩) (meth := k9m1) (c := k9c1) (by decide +kernel) rfl rfl rfl (by decide +kernel)
set_option maxRecDepth 65536 in
theorem w_c10 : (Jvm.Cond.code ({ cls := "java/lang/String", name := "length", desc := "()I" } : Jvm.MethodName) jdk_42_method_54_code (1 : Nat) (Option.some Jvm.ClassFile.FieldType.int)).before args0 about1 = true := code_word (m := ⟨7, 2⟩) (meth := k7m2) (c := k7c2) (by decide +kernel) rfl rfl rfl (by decide +kernel)
set_option maxRecDepth 65536 in
theorem w_c11 : (Jvm.Cond.code ({ cls := "java/lang/String", name := "coder", desc := "()B" } : Jvm.MethodName) jdk_42_method_152_code (1 : Nat) (Option.some Jvm.ClassFile.FieldType.byte)).before args0 about1 = true := code_word (m := ⟨7, 5⟩) (meth := k7m5) (c := k7c5) (by decide +kernel) rfl rfl rfl (by decide +kernel)
set_option maxRecDepth 65536 in
theorem w_c12 : (Jvm.Cond.code ({ cls := "java/lang/String", name := "charAt", desc := "(I)C" } : Jvm.MethodName) jdk_42_method_56_code (2 : Nat) (Option.some Jvm.ClassFile.FieldType.char)).before args0 about1 = true := code_word (m := ⟨7, 3⟩) (meth := k7m3) (c := k7c3) (by decide +kernel) rfl rfl rfl (by decide +kernel)
set_option maxRecDepth 65536 in
theorem w_c13 : (Jvm.Cond.code ({ cls := "java/lang/String", name := "isLatin1", desc := "()Z" } : Jvm.MethodName) jdk_42_method_154_code (1 : Nat) (Option.some Jvm.ClassFile.FieldType.boolean)).before args0 about1 = true := code_word (m := ⟨7, 6⟩) (meth := k7m6) (c := k7c6) (by decide +kernel) rfl rfl rfl (by decide +kernel)
set_option maxRecDepth 65536 in
theorem w_c14 : (Jvm.Cond.code ({ cls := "java/lang/StringLatin1", name := "charAt", desc := "([BI)C" } : Jvm.MethodName) jdk_43_method_2_code (2 : Nat) (Option.some Jvm.ClassFile.FieldType.char)).before args0 about1 = true := code_word (m := ⟨10, 1⟩) (meth := k10m1) (c := k10c1) (by decide +kernel) rfl rfl rfl (by decide +kernel)
set_option maxRecDepth 65536 in
theorem w_c15 : (Jvm.Cond.code ({ cls := "java/lang/String", name := "checkIndex", desc := "(II)V" } : Jvm.MethodName) jdk_42_method_155_code (2 : Nat) (Option.none : Option Jvm.ClassFile.FieldType)).before args0 about1 = true := code_word (m := ⟨7, 7⟩) (meth := k7m7) (c := k7c7) (by decide +kernel) rfl rfl rfl (by decide +kernel)
set_option maxRecDepth 65536 in
theorem w_c16 : (Jvm.Cond.code ({ cls := "jdk/internal/util/Preconditions", name := "checkIndex", desc := "(IILjava/util/function/BiFunction;)I" } : Jvm.MethodName) jdk_41_method_11_code (3 : Nat) (Option.some Jvm.ClassFile.FieldType.int)).before args0 about1 = true := code_word (m := ⟨11, 1⟩) (meth := k11m1) (c := k11c1) (by decide +kernel) rfl rfl rfl (by decide +kernel)
set_option maxRecDepth 65536 in
theorem w_c17 : (Jvm.Cond.code ({ cls := "com/example/tallyhook/tallyhook/core/EventTypeIsSegmentsPinLaw", name := "ref", desc := "(ICCCCCCCCII)Z" } : Jvm.MethodName) method_11_code (16 : Nat) (Option.some Jvm.ClassFile.FieldType.boolean)).before args0 about1 = true := code_word (m := ⟨1, 10⟩) (meth := k1m10) (c := k1c10) (by decide +kernel) rfl rfl rfl (by decide +kernel)
set_option maxRecDepth 65536 in
theorem w_c18 : (Jvm.Cond.code ({ cls := "com/example/tallyhook/tallyhook/core/EventTypeIsSegmentsPinLaw", name := "ok", desc := "(CII)Z" } : Jvm.MethodName) method_8_code (3 : Nat) (Option.some Jvm.ClassFile.FieldType.boolean)).before args0 about1 = true := code_word (m := ⟨1, 7⟩) (meth := k1m7) (c := k1c7) (by decide +kernel) rfl rfl rfl (by decide +kernel)
set_option maxRecDepth 65536 in
theorem w_c19 : (Jvm.Cond.code ({ cls := "com/example/tallyhook/tallyhook/core/EventTypeIsSegmentsPinLaw", name := "word", desc := "(C)Z" } : Jvm.MethodName) method_7_code (1 : Nat) (Option.some Jvm.ClassFile.FieldType.boolean)).before args0 about1 = true := code_word (m := ⟨1, 6⟩) (meth := k1m6) (c := k1c6) (by decide +kernel) rfl rfl rfl (by decide +kernel)
set_option maxRecDepth 65536 in
theorem w_c20 : (Jvm.Cond.code ({ cls := "com/example/tallyhook/tallyhook/core/EventTypeIsSegmentsPinLaw", name := "dot", desc := "(C)Z" } : Jvm.MethodName) method_6_code (1 : Nat) (Option.some Jvm.ClassFile.FieldType.boolean)).before args0 about1 = true := code_word (m := ⟨1, 5⟩) (meth := k1m5) (c := k1c5) (by decide +kernel) rfl rfl rfl (by decide +kernel)
set_option maxRecDepth 65536 in
theorem w_c21 : (Jvm.Cond.code ({ cls := "com/example/tallyhook/tallyhook/core/EventTypeIsSegmentsPinLaw", name := "pair", desc := "(CCII)Z" } : Jvm.MethodName) method_10_code (4 : Nat) (Option.some Jvm.ClassFile.FieldType.boolean)).before args0 about1 = true := code_word (m := ⟨1, 9⟩) (meth := k1m9) (c := k1c9) (by decide +kernel) rfl rfl rfl (by decide +kernel)
set_option maxRecDepth 65536 in
theorem w_c22 : (Jvm.Cond.code ({ cls := "com/example/tallyhook/tallyhook/core/EventTypeIsSegmentsPinLaw", name := "pick", desc := "(ICCCCCCCC)C" } : Jvm.MethodName) method_5_code (9 : Nat) (Option.some Jvm.ClassFile.FieldType.char)).before args0 about1 = true := code_word (m := ⟨1, 4⟩) (meth := k1m4) (c := k1c4) (by decide +kernel) rfl rfl rfl (by decide +kernel)
set_option maxRecDepth 65536 in
theorem w_c23 : (Jvm.Cond.code ({ cls := "com/example/tallyhook/tallyhook/core/EventTypeIsSegmentsPinLaw", name := "dotAt", desc := "(CII)I" } : Jvm.MethodName) method_9_code (3 : Nat) (Option.some Jvm.ClassFile.FieldType.int)).before args0 about1 = true := code_word (m := ⟨1, 8⟩) (meth := k1m8) (c := k1c8) (by decide +kernel) rfl rfl rfl (by decide +kernel)
def codes1 : List Jvm.Cond := [Jvm.Cond.code x code maxLocals ret, Jvm.Cond.code ({ cls := "com/example/tallyhook/tallyhook/core/EventTypeIsSegmentsPinLaw", name := "ch", desc := "(JII)C" } : Jvm.MethodName) method_3_code (4 : Nat) (Option.some Jvm.ClassFile.FieldType.char), Jvm.Cond.code ({ cls := "com/example/tallyhook/tallyhook/core/EventTypeIsSegmentsPinLaw", name := "make", desc := "(ICCCCCCCC)Ljava/lang/String;" } : Jvm.MethodName) method_4_code (9 : Nat) (Option.some (Jvm.ClassFile.FieldType.object "java/lang/String")), Jvm.Cond.code ({ cls := "java/lang/String", name := "<init>", desc := "([C)V" } : Jvm.MethodName) jdk_42_method_3_code (2 : Nat) (Option.none : Option Jvm.ClassFile.FieldType), Jvm.Cond.code ({ cls := "java/lang/String", name := "<init>", desc := "([CIILjava/lang/Void;)V" } : Jvm.MethodName) jdk_42_method_149_code (6 : Nat) (Option.none : Option Jvm.ClassFile.FieldType), Jvm.Cond.code ({ cls := "java/lang/Object", name := "<init>", desc := "()V" } : Jvm.MethodName) object_method_1_code (1 : Nat) (Option.none : Option Jvm.ClassFile.FieldType), Jvm.Cond.code ({ cls := "java/lang/StringUTF16", name := "compress", desc := "([CII)[B" } : Jvm.MethodName) jdk_52_method_16_code (6 : Nat) (Option.some (Jvm.ClassFile.FieldType.array Jvm.ClassFile.FieldType.byte)), Jvm.Cond.code ({ cls := "java/lang/StringUTF16", name := "compress", desc := "([CI[BII)I" } : Jvm.MethodName) jdk_52_method_21_code (7 : Nat) (Option.some Jvm.ClassFile.FieldType.int), Jvm.Cond.code ({ cls := "java/lang/StringUTF16", name := "coderFromArrayLen", desc := "([BI)B" } : Jvm.MethodName) jdk_52_method_15_code (2 : Nat) (Option.some Jvm.ClassFile.FieldType.byte), Jvm.Cond.code ({ cls := "com/example/tallyhook/tallyhook/core/EventType", name := "isSegments", desc := "(Ljava/lang/String;II)Z" } : Jvm.MethodName) prog_8_method_3_code (8 : Nat) (Option.some Jvm.ClassFile.FieldType.boolean), Jvm.Cond.code ({ cls := "java/lang/String", name := "length", desc := "()I" } : Jvm.MethodName) jdk_42_method_54_code (1 : Nat) (Option.some Jvm.ClassFile.FieldType.int), Jvm.Cond.code ({ cls := "java/lang/String", name := "coder", desc := "()B" } : Jvm.MethodName) jdk_42_method_152_code (1 : Nat) (Option.some Jvm.ClassFile.FieldType.byte), Jvm.Cond.code ({ cls := "java/lang/String", name := "charAt", desc := "(I)C" } : Jvm.MethodName) jdk_42_method_56_code (2 : Nat) (Option.some Jvm.ClassFile.FieldType.char), Jvm.Cond.code ({ cls := "java/lang/String", name := "isLatin1", desc := "()Z" } : Jvm.MethodName) jdk_42_method_154_code (1 : Nat) (Option.some Jvm.ClassFile.FieldType.boolean), Jvm.Cond.code ({ cls := "java/lang/StringLatin1", name := "charAt", desc := "([BI)C" } : Jvm.MethodName) jdk_43_method_2_code (2 : Nat) (Option.some Jvm.ClassFile.FieldType.char), Jvm.Cond.code ({ cls := "java/lang/String", name := "checkIndex", desc := "(II)V" } : Jvm.MethodName) jdk_42_method_155_code (2 : Nat) (Option.none : Option Jvm.ClassFile.FieldType), Jvm.Cond.code ({ cls := "jdk/internal/util/Preconditions", name := "checkIndex", desc := "(IILjava/util/function/BiFunction;)I" } : Jvm.MethodName) jdk_41_method_11_code (3 : Nat) (Option.some Jvm.ClassFile.FieldType.int), Jvm.Cond.code ({ cls := "com/example/tallyhook/tallyhook/core/EventTypeIsSegmentsPinLaw", name := "ref", desc := "(ICCCCCCCCII)Z" } : Jvm.MethodName) method_11_code (16 : Nat) (Option.some Jvm.ClassFile.FieldType.boolean), Jvm.Cond.code ({ cls := "com/example/tallyhook/tallyhook/core/EventTypeIsSegmentsPinLaw", name := "ok", desc := "(CII)Z" } : Jvm.MethodName) method_8_code (3 : Nat) (Option.some Jvm.ClassFile.FieldType.boolean), Jvm.Cond.code ({ cls := "com/example/tallyhook/tallyhook/core/EventTypeIsSegmentsPinLaw", name := "word", desc := "(C)Z" } : Jvm.MethodName) method_7_code (1 : Nat) (Option.some Jvm.ClassFile.FieldType.boolean), Jvm.Cond.code ({ cls := "com/example/tallyhook/tallyhook/core/EventTypeIsSegmentsPinLaw", name := "dot", desc := "(C)Z" } : Jvm.MethodName) method_6_code (1 : Nat) (Option.some Jvm.ClassFile.FieldType.boolean), Jvm.Cond.code ({ cls := "com/example/tallyhook/tallyhook/core/EventTypeIsSegmentsPinLaw", name := "pair", desc := "(CCII)Z" } : Jvm.MethodName) method_10_code (4 : Nat) (Option.some Jvm.ClassFile.FieldType.boolean), Jvm.Cond.code ({ cls := "com/example/tallyhook/tallyhook/core/EventTypeIsSegmentsPinLaw", name := "pick", desc := "(ICCCCCCCC)C" } : Jvm.MethodName) method_5_code (9 : Nat) (Option.some Jvm.ClassFile.FieldType.char), Jvm.Cond.code ({ cls := "com/example/tallyhook/tallyhook/core/EventTypeIsSegmentsPinLaw", name := "dotAt", desc := "(CII)I" } : Jvm.MethodName) method_9_code (3 : Nat) (Option.some Jvm.ClassFile.FieldType.int)]
set_option maxRecDepth 65536 in
theorem codes_eq : words1.filter isCode = codes1 := rfl
theorem w_codes : ∀ c ∈ words1.filter isCode, c.before args0 about1 = true := by
  rw [codes_eq]
  intro c hc
  simp only [codes1, List.mem_cons, List.not_mem_nil, or_false] at hc
  rcases hc with rfl | rfl | rfl | rfl | rfl | rfl | rfl | rfl | rfl | rfl | rfl | rfl | rfl | rfl | rfl | rfl | rfl | rfl | rfl | rfl | rfl | rfl | rfl | rfl
  · exact w_c0
  · exact w_c1
  · exact w_c2
  · exact w_c3
  · exact w_c4
  · exact w_c5
  · exact w_c6
  · exact w_c7
  · exact w_c8
  · exact w_c9
  · exact w_c10
  · exact w_c11
  · exact w_c12
  · exact w_c13
  · exact w_c14
  · exact w_c15
  · exact w_c16
  · exact w_c17
  · exact w_c18
  · exact w_c19
  · exact w_c20
  · exact w_c21
  · exact w_c22
  · exact w_c23
set_option maxRecDepth 65536 in
theorem w_t1 : (words1.take 24).all (fun c => isCode c || c.before args0 about1) = true := by decide +kernel
set_option maxRecDepth 65536 in
theorem w_t2 : ((words1.drop 24).take 24).all (fun c => isCode c || c.before args0 about1) = true := by decide +kernel
set_option maxRecDepth 65536 in
theorem w_t3 : (((words1.drop 24).drop 24).take 24).all (fun c => isCode c || c.before args0 about1) = true := by decide +kernel
set_option maxRecDepth 65536 in
theorem w_t4 : ((((words1.drop 24).drop 24).drop 24).take 24).all (fun c => isCode c || c.before args0 about1) = true := by decide +kernel
set_option maxRecDepth 65536 in
theorem w_t5 : ((((words1.drop 24).drop 24).drop 24).drop 24).all (fun c => isCode c || c.before args0 about1) = true := by decide +kernel
theorem w_tables : (allAtoms (Jvm.Cond.code x code maxLocals ret :: tables_1)).before args0 about1 = true := by
  rw [allAtoms_all]
  show words1.all (fun c => c.before args0 about1) = true
  refine all_split ?_ w_codes
  rw [← List.take_append_drop 24 words1, List.all_append, w_t1, ← List.take_append_drop 24 (words1.drop 24), List.all_append, w_t2, ← List.take_append_drop 24 ((words1.drop 24).drop 24), List.all_append, w_t3, ← List.take_append_drop 24 (((words1.drop 24).drop 24).drop 24), List.all_append, w_t4, w_t5]
  rfl
set_option maxRecDepth 65536 in
theorem w_rest : rest_1_c.before args0 about1 = true := by decide +kernel
set_option maxRecDepth 65536 in
theorem w_case : (Jvm.Cond.and given_1 narrow_1).before args0 about1 = true := by decide +kernel
set_option maxRecDepth 65536 in
theorem w_consts : constsHeld consts_1 about1 := Jvm.Lit.constsHeldB_iff.mp (by decide +kernel)
theorem w_applies : (headSpec (Jvm.Cond.code x code maxLocals ret :: tables_1) room_1).applies x e0.platform about1 = true :=
  (Spec.applies_iff w_frames).mpr ⟨w_running, w_runnable, w_alone, w_named, w_hears, w_ripe, w_room, w_tables⟩
theorem atStart : AtStart classFile x code maxLocals ret World_1 tables_1 room_1 Calls_1 rest_1 Pre_1 launch0 p0 e0 about1 theMethod args0 below0 :=
  ⟨lists_1, trivial, launch0.admits_env _ _ _, launch0.least_env, fairChoices_fair.cas, fairChoices_fair.clock, w_frames, w_args, w_heap, w_applies, ⟨w_consts, trivial⟩, w_rest, w_case⟩
end start1
theorem witness_1 : WitnessClaimed_1 := ⟨start1.p0, start1.e0, start1.about1, start1.theMethod, start1.args0, start1.below0, start1.atStart⟩
end Jvm.Pilot.@@N@@
