import JvmDerived
import JvmDerived.Pilot.@@N@@Statement
import JvmDerived.Pilot.@@N@@Code
set_option linter.unusedVariables false
set_option linter.unusedSimpArgs false
namespace Jvm.RoadKit
open Sem ClassFile Op Lib Jvm.Stand Jvm.Free Jvm.LawKit
section New
variable {p : Program} {l : Launch} {e : Env} {R : Room} {s : State} {m : MethodId} {args : Array Value} {below : List Frame} {meth : Method} {c : Code} {T : State} {locs : List Loc} {cells slots : Nat}
theorem retI (X : Stand p l e R s m args below meth c T locs cells slots) (hx : p.tables.exec = Jvm.exec) {pc : Nat} {Ls : Array Slot} {z : Int32} {rest : List Value} (hret : meth.sig.returnType = some .int) (hd : decode c.code pc = .ok (.ireturn, 1)) {fs : List Frame}
    (hl : ∀ (f : JFrame) (acts : List Action), f.method = m → f.locked = none → f.entered = [] → (doReturn e (T.setTop f) acts (some (.int z))).1 = T.setFrames fs) : Steps p.tables e below (T.setTop (mkF m pc Ls (.int z :: rest))) (T.setFrames fs) := by
  have hm' : T.vm.method? m = some meth := X.method'
  have hn : narrow .int (.int z) = .int z := rfl
  show Steps p.tables e below (T.setTop { method := m, pc := pc, locals := Ls, stack := _ :: rest, locked := none }) _
  jvm_step X.here [X.here.top, hx, hd, hm', hret, hn]
  first | (intro acts; rw [hl _ acts rfl rfl rfl]) | rw [hl _ _ rfl rfl rfl]
  exact Steps.refl _
end New
end Jvm.RoadKit
namespace Jvm.Pilot.@@N@@
open Jvm Jvm.ClassFile Sem Op Lib Jvm.Free Jvm.Stand Jvm.LawKit Jvm.RoadKit Bundle Jvm.Pilot.@@N@@.Jvm.D
/-- whatever the machine reaches from (T', g') it reaches from (T, g) -/
def own_Go (p : Program) (e : Env) (below : List Frame) (T : State) (g : JFrame) (T' : State) (g' : JFrame) : Prop := ∀ t, Steps p.tables e below (T'.setTop g') t → Steps p.tables e below (T.setTop g) t
theorem own_Go.refl {p : Program} {e : Env} {below : List Frame} (T : State) (g : JFrame) : own_Go p e below T g T g := fun _ k => k
theorem own_Go.trans {p : Program} {e : Env} {below : List Frame} {T T' T'' : State} {g g' g'' : JFrame} (h : own_Go p e below T g T' g') (h' : own_Go p e below T' g' T'' g'') : own_Go p e below T g T'' g'' := fun tg_ kk_ => h tg_ (h' tg_ kk_)
/-! ## calls by their contracts, in one row each -/
section OwnCalls
variable {p : Program} {l : Launch} {e : Env} {R : Room} {s : State} {m : MethodId} {args : Array Value} {below : List Frame} {meth : Method} {c : Code} {T : State} {locs : List Loc} {cells slots : Nat} {Z : State} {a0 : Array Value} {h : Heap}
theorem own_callS (X : Stand p l e R s m args below meth c T locs cells slots) (hx : p.tables.exec = Jvm.exec) (hZ : Z.Warmed39 s.vm) {own : String} {index : Nat} {y : MethodName} {bytes : ByteArray} {maxL : Nat} {ret : Option FieldType} {rm : Room} {Q : Option Value → Heap → List Loc → Prop}
    (hown : s.vm.findClass own = some m.cls) (w1 : (Cond.methodLink own index y).before a0 Z = true) (w2 : (Cond.static y).before a0 Z = true) (w3 : (Cond.initialized y.cls).before a0 Z = true) (w4 : (Cond.code y bytes maxL ret).before a0 Z = true)
    (hy : y.cls ≠ "java/lang/invoke/MethodHandle" ∧ y.cls ≠ "java/lang/invoke/VarHandle") (W : Nat) {g : JFrame} (hg : g.method = m) (hsize : g.locals.size = c.maxLocals) (argsL rest : List Value)
    (hM : MetFree l y (head1 [Cond.code y bytes maxL ret] rm) (fun a U => a = argsL.toArray ∧ Z.Warmed39 U.vm ∧ U.heap = h) (fun _ _ _ _ _ => True) (fun _ U o U' => ∃ v L, o = .returned v ∧ Q v U'.heap L ∧ FrameEnd U o U' L rm.cells rm.slots))
    (hlen : ∀ sig, parseMethodDescriptor y.desc = some sig → argsL.length = sig.parameters.length) (hstack : g.stack = argsL.reverse ++ rest) (hW : 2 * g.monitorRoom + (rest.map fun v => v.category).sum ≤ W) (hd : decode c.code g.pc = .ok (.invokestatic index, 3))
    (hf : rm.frames + 1 ≤ R.frames) (hl : W + (maxL + 11) + rm.locals ≤ R.locals) (eT : T.heap = h) (hc : cells + rm.cells ≤ R.cells) (hs : slots + rm.slots ≤ R.slots) :
    ∃ (v : Option Value) (T' : State) (h' : Heap) (L : List Loc), Stand p l e R s m args below meth c T' (locs ++ L) (cells + rm.cells) (slots + rm.slots) ∧ T'.heap = h' ∧ Q v h' L ∧
      ∀ t, Steps p.tables e below (T'.setTop { g with pc := g.pc + 3, stack := v.toList ++ rest }) t → Steps p.tables e below (T.setTop g) t := by
  obtain ⟨v, _, ⟨T4, L4, k4, n4⟩, -, X4, ⟨Lc, hQ, l4, y4, z4⟩, st⟩ := Jvm.LawKit.callS X hx (y := y) hown (mvT hZ w1) (mvT hZ w2) (mvT hZ w3) (mvT hZ w4) hy (backOf (W := W) hM hZ w4 w3 hf hl) (g := g) hg hsize (argsL := argsL) (rest := rest) hlen hstack hW hd (fun _ _ => ⟨rfl, eT, hc, hs⟩)
  dsimp only [Pt.U, Pt.locs, Pt.cells, Pt.slots] at X4 l4 y4 z4 st hQ
  subst l4 y4 z4
  exact ⟨v, T4, _, Lc, X4, rfl, hQ, st⟩
theorem own_callI (X : Stand p l e R s m args below meth c T locs cells slots) (hx : p.tables.exec = Jvm.exec) (hZ : Z.Warmed39 s.vm) {own : String} {index : Nat} {y : MethodName} {bytes : ByteArray} {maxL : Nat} {rm : Room} {Q : Option Value → Heap → List Loc → Prop}
    (hy1 : y.name = "<init>") (hown : s.vm.findClass own = some m.cls) (w1 : (Cond.methodLink own index y).before a0 Z = true) (w2 : (Cond.instanceMethod y).before a0 Z = true) (w3 : (Cond.initialized y.cls).before a0 Z = true) (w4 : (Cond.code y bytes maxL none).before a0 Z = true)
    (hy : y.cls ≠ "java/lang/invoke/MethodHandle" ∧ y.cls ≠ "java/lang/invoke/VarHandle") (W : Nat) {g : JFrame} (hg : g.method = m) (hsize : g.locals.size = c.maxLocals) (a : Addr) (argsL rest : List Value)
    (hM : MetFree l y (head1 [Cond.code y bytes maxL none] rm) (fun a' U => a' = (.ref a :: argsL).toArray ∧ Z.Warmed39 U.vm ∧ U.heap = h) (fun _ _ _ _ _ => True) (fun _ U o U' => ∃ v L, o = .returned v ∧ Q v U'.heap L ∧ FrameEnd U o U' L rm.cells rm.slots))
    (hlen : ∀ sig, parseMethodDescriptor y.desc = some sig → argsL.length = sig.parameters.length) (hstack : g.stack = argsL.reverse ++ .ref a :: rest) (hW : 2 * g.monitorRoom + (rest.map fun v => v.category).sum ≤ W) (hd : decode c.code g.pc = .ok (.invokespecial index, 3))
    (hf : rm.frames + 1 ≤ R.frames) (hl : W + (maxL + 11) + rm.locals ≤ R.locals) (eT : T.heap = h) (hc : cells + rm.cells ≤ R.cells) (hs : slots + rm.slots ≤ R.slots) :
    ∃ (v : Option Value) (T' : State) (h' : Heap) (L : List Loc), Stand p l e R s m args below meth c T' (locs ++ L) (cells + rm.cells) (slots + rm.slots) ∧ T'.heap = h' ∧ Q v h' L ∧
      ∀ t, Steps p.tables e below (T'.setTop { g with pc := g.pc + 3, stack := v.toList ++ rest }) t → Steps p.tables e below (T.setTop g) t := by
  obtain ⟨v, _, ⟨T4, L4, k4, n4⟩, -, X4, ⟨Lc, hQ, l4, y4, z4⟩, st⟩ := X.specialBack hx (y := y) hy1 hown (mvT hZ w1) (mvT hZ w2) (mvT hZ w4) hy (backOf (W := W) hM hZ w4 w3 hf hl) (g := g) hg hsize (Steps.refl _) (a := a) (argsL := argsL) (rest := rest) hlen hstack hW hd (fun _ _ => ⟨rfl, eT, hc, hs⟩)
  dsimp only [Pt.U, Pt.locs, Pt.cells, Pt.slots] at X4 l4 y4 z4 st hQ
  subst l4 y4 z4
  exact ⟨v, T4, _, Lc, X4, rfl, hQ, fun t k => st.trans k⟩
theorem own_callV (X : Stand p l e R s m args below meth c T locs cells slots) (hx : p.tables.exec = Jvm.exec) (hZ : Z.Warmed39 s.vm) {own C : String} {index : Nat} {y : MethodName} {bytes : ByteArray} {maxL : Nat} {ret : Option FieldType} {rm : Room} {Q : Option Value → Heap → List Loc → Prop}
    (hown : s.vm.findClass own = some m.cls) (w1 : (Cond.methodLink own index y).before a0 Z = true) (w2 : (Cond.declares y).before a0 Z = true) (w5 : (Cond.selects C y y).before a0 Z = true) (w6 : (Cond.instanceMethod y).before a0 Z = true) (w3 : (Cond.initialized y.cls).before a0 Z = true) (w4 : (Cond.code y bytes maxL ret).before a0 Z = true)
    (hy : y.cls ≠ "java/lang/invoke/MethodHandle" ∧ y.cls ≠ "java/lang/invoke/VarHandle") (W : Nat) {g : JFrame} (hg : g.method = m) (hsize : g.locals.size = c.maxLocals) (a : Addr) (E : Exa Z h a C) (argsL rest : List Value)
    (hM : MetFree l y (head1 [Cond.code y bytes maxL ret] rm) (fun a' U => a' = (.ref a :: argsL).toArray ∧ Z.Warmed39 U.vm ∧ U.heap = h) (fun _ _ _ _ _ => True) (fun _ U o U' => ∃ v L, o = .returned v ∧ Q v U'.heap L ∧ FrameEnd U o U' L rm.cells rm.slots))
    (hlen : ∀ sig, parseMethodDescriptor y.desc = some sig → argsL.length = sig.parameters.length) (hstack : g.stack = argsL.reverse ++ .ref a :: rest) (hW : 2 * g.monitorRoom + (rest.map fun v => v.category).sum ≤ W) (hd : decode c.code g.pc = .ok (.invokevirtual index, 3))
    (hf : rm.frames + 1 ≤ R.frames) (hl : W + (maxL + 11) + rm.locals ≤ R.locals) (eT : T.heap = h) (hc : cells + rm.cells ≤ R.cells) (hs : slots + rm.slots ≤ R.slots) :
    ∃ (v : Option Value) (T' : State) (h' : Heap) (L : List Loc), Stand p l e R s m args below meth c T' (locs ++ L) (cells + rm.cells) (slots + rm.slots) ∧ T'.heap = h' ∧ Q v h' L ∧
      ∀ t, Steps p.tables e below (T'.setTop { g with pc := g.pc + 3, stack := v.toList ++ rest }) t → Steps p.tables e below (T.setTop g) t := by
  obtain ⟨cB, kB, qa, qb, qc⟩ := isOf (T := T) hZ eT E
  obtain ⟨v, _, ⟨T4, L4, k4, n4⟩, -, X4, ⟨Lc, hQ, l4, y4, z4⟩, st⟩ := X.virtualBack hx (y := y) (z := y) hown (mvT hZ w1) (mvT hZ w2) (notFace_of_selects (args := #[]) (mvT hZ w5)) (mvT hZ w5) (mvT hZ w6) hy (backOf (W := W) hM hZ w4 w3 hf hl) qa qc (g := g) hg hsize (Steps.refl _) (argsL := argsL) (rest := rest) hlen hstack hW hd (fun _ _ => ⟨rfl, eT, hc, hs⟩)
  dsimp only [Pt.U, Pt.locs, Pt.cells, Pt.slots] at X4 l4 y4 z4 st hQ
  subst l4 y4 z4
  exact ⟨v, T4, _, Lc, X4, rfl, hQ, fun t k => st.trans k⟩
end OwnCalls
/-! ## calls of what may intern a String, in one row each -/
section OwnCallsW
variable {p : Program} {l : Launch} {e : Env} {R : Room} {s : State} {vm0 : Vm} {m : MethodId} {args : Array Value} {below : List Frame} {meth : Method} {c : Code} {T : State} {locs : List Loc} {cells slots : Nat} {Z : State} {a0 : Array Value} {h : Heap}
theorem own_callSS (X : Stand p l e R (s.setVm vm0) m args below meth c T locs cells slots) (hx : p.tables.exec = Jvm.exec) (hZ : Z.Warmed39 vm0) {own : String} {index : Nat} {y : MethodName} {bytes : ByteArray} {maxL : Nat} {ret : Option FieldType} {rm : Room} {Q : Option Value → Heap → List Loc → Prop}
    (hown : vm0.findClass own = some m.cls) (w1 : (Cond.methodLink own index y).before a0 Z = true) (w2 : (Cond.static y).before a0 Z = true) (w3 : (Cond.initialized y.cls).before a0 Z = true) (w4 : (Cond.code y bytes maxL ret).before a0 Z = true)
    (hy : y.cls ≠ "java/lang/invoke/MethodHandle" ∧ y.cls ≠ "java/lang/invoke/VarHandle") (W : Nat) {g : JFrame} (hg : g.method = m) (hsize : g.locals.size = c.maxLocals) (argsL rest : List Value)
    (hM : MetFree l y (head1 [Cond.code y bytes maxL ret] rm) (fun a' U => a' = argsL.toArray ∧ Z.Warmed39 U.vm ∧ U.heap = h) (fun _ _ _ _ _ => True) (fun _ U o U' => ∃ v L, o = .returned v ∧ Q v U'.heap L ∧ ReturnedEndW U o U' L rm.cells rm.slots))
    (hlen : ∀ sig, parseMethodDescriptor y.desc = some sig → argsL.length = sig.parameters.length) (hstack : g.stack = argsL.reverse ++ rest) (hW : 2 * g.monitorRoom + (rest.map fun v => v.category).sum ≤ W) (hd : decode c.code g.pc = .ok (.invokestatic index, 3))
    (hf : rm.frames + 1 ≤ R.frames) (hl : W + (maxL + 11) + rm.locals ≤ R.locals) (eT : T.heap = h) (hc : cells + rm.cells ≤ R.cells) (hs : slots + rm.slots ≤ R.slots) {k0 : Nat} (hS : s.Since vm0 k0) (hk : k0 ≤ h.size) :
    ∃ (v : Option Value) (T' : State) (h' : Heap) (L : List Loc), Stand p l e R (s.setVm T'.vm) m args below meth c T' (locs ++ L) (cells + rm.cells) (slots + rm.slots) ∧ T'.heap = h' ∧ s.Since T'.vm h'.size ∧ Z.Warmed39 T'.vm ∧ T'.vm.findClass own = some m.cls ∧ Q v h' L ∧
      ∀ t, Steps p.tables e below (T'.setTop { g with pc := g.pc + 3, stack := v.toList ++ rest }) t → Steps p.tables e below (T.setTop g) t := by
  have hZ' : Z.Warmed39 (s.setVm vm0).vm := hZ
  obtain ⟨v, _, ⟨T4, L4, k4, n4⟩, -, X4, hS4, hgr, ⟨Lc, hQ, l4, y4, z4⟩, st⟩ := Jvm.RoadKit.callSS X hx (y := y) hown (mvT hZ' w1) (mvT hZ' w2) (mvT hZ' w3) (mvT hZ' w4) hy (backOfS (W := W) hM hZ' w4 w3 hf hl) (g := g) hg hsize (argsL := argsL) (rest := rest) hlen hstack hW hd (fun _ _ => ⟨rfl, eT, hc, hs⟩)
  dsimp only [Pt.U, Pt.locs, Pt.cells, Pt.slots] at X4 l4 y4 z4 st hQ hS4 hgr
  subst l4 y4 z4
  subst eT
  exact ⟨v, T4, _, Lc, X4, rfl, foldS hS hk hS4 hgr, State.Warmed39.trans (t := s.setVm vm0) hZ hS4.1, by rw [hS4.1.alike.findClass]; exact hown, hQ, fun t k => st.trans k⟩
theorem own_callVS (X : Stand p l e R (s.setVm vm0) m args below meth c T locs cells slots) (hx : p.tables.exec = Jvm.exec) (hZ : Z.Warmed39 vm0) {own C : String} {index : Nat} {y : MethodName} {bytes : ByteArray} {maxL : Nat} {ret : Option FieldType} {rm : Room} {Q : Option Value → Heap → List Loc → Prop}
    (hown : vm0.findClass own = some m.cls) (w1 : (Cond.methodLink own index y).before a0 Z = true) (w2 : (Cond.declares y).before a0 Z = true) (w5 : (Cond.selects C y y).before a0 Z = true) (w6 : (Cond.instanceMethod y).before a0 Z = true) (w3 : (Cond.initialized y.cls).before a0 Z = true) (w4 : (Cond.code y bytes maxL ret).before a0 Z = true)
    (hy : y.cls ≠ "java/lang/invoke/MethodHandle" ∧ y.cls ≠ "java/lang/invoke/VarHandle") (W : Nat) {g : JFrame} (hg : g.method = m) (hsize : g.locals.size = c.maxLocals) (a : Addr) (E : Exa Z h a C) (argsL rest : List Value)
    (hM : MetFree l y (head1 [Cond.code y bytes maxL ret] rm) (fun a' U => a' = (.ref a :: argsL).toArray ∧ Z.Warmed39 U.vm ∧ U.heap = h) (fun _ _ _ _ _ => True) (fun _ U o U' => ∃ v L, o = .returned v ∧ Q v U'.heap L ∧ ReturnedEndW U o U' L rm.cells rm.slots))
    (hlen : ∀ sig, parseMethodDescriptor y.desc = some sig → argsL.length = sig.parameters.length) (hstack : g.stack = argsL.reverse ++ .ref a :: rest) (hW : 2 * g.monitorRoom + (rest.map fun v => v.category).sum ≤ W) (hd : decode c.code g.pc = .ok (.invokevirtual index, 3))
    (hf : rm.frames + 1 ≤ R.frames) (hl : W + (maxL + 11) + rm.locals ≤ R.locals) (eT : T.heap = h) (hc : cells + rm.cells ≤ R.cells) (hs : slots + rm.slots ≤ R.slots) {k0 : Nat} (hS : s.Since vm0 k0) (hk : k0 ≤ h.size) :
    ∃ (v : Option Value) (T' : State) (h' : Heap) (L : List Loc), Stand p l e R (s.setVm T'.vm) m args below meth c T' (locs ++ L) (cells + rm.cells) (slots + rm.slots) ∧ T'.heap = h' ∧ s.Since T'.vm h'.size ∧ Z.Warmed39 T'.vm ∧ T'.vm.findClass own = some m.cls ∧ Q v h' L ∧
      ∀ t, Steps p.tables e below (T'.setTop { g with pc := g.pc + 3, stack := v.toList ++ rest }) t → Steps p.tables e below (T.setTop g) t := by
  have hZ' : Z.Warmed39 (s.setVm vm0).vm := hZ
  obtain ⟨cB, kB, qa, qb, qc⟩ := isOf (s := s.setVm vm0) (T := T) hZ' eT E
  obtain ⟨v, _, ⟨T4, L4, k4, n4⟩, -, X4, hS4, hgr, ⟨Lc, hQ, l4, y4, z4⟩, st⟩ := X.virtualBackS hx (y := y) (z := y) hown (mvT hZ' w1) (mvT hZ' w2) (notFace_of_selects (args := #[]) (mvT hZ' w5)) (mvT hZ' w5) (mvT hZ' w6) hy (backOfS (W := W) hM hZ' w4 w3 hf hl) qa qc (g := g) hg hsize (Steps.refl _) (argsL := argsL) (rest := rest) hlen hstack hW hd (fun _ _ => ⟨rfl, eT, hc, hs⟩)
  dsimp only [Pt.U, Pt.locs, Pt.cells, Pt.slots] at X4 l4 y4 z4 st hQ hS4 hgr
  subst l4 y4 z4
  subst eT
  exact ⟨v, T4, _, Lc, X4, rfl, foldS hS hk hS4 hgr, State.Warmed39.trans (t := s.setVm vm0) hZ hS4.1, by rw [hS4.1.alike.findClass]; exact hown, hQ, fun t k => st.trans k⟩
theorem own_callIS (X : Stand p l e R (s.setVm vm0) m args below meth c T locs cells slots) (hx : p.tables.exec = Jvm.exec) (hZ : Z.Warmed39 vm0) {own : String} {index : Nat} {y : MethodName} {bytes : ByteArray} {maxL : Nat} {rm : Room} {Q : Option Value → Heap → List Loc → Prop}
    (hy1 : y.name = "<init>") (hown : vm0.findClass own = some m.cls) (w1 : (Cond.methodLink own index y).before a0 Z = true) (w2 : (Cond.instanceMethod y).before a0 Z = true) (w3 : (Cond.initialized y.cls).before a0 Z = true) (w4 : (Cond.code y bytes maxL none).before a0 Z = true)
    (hy : y.cls ≠ "java/lang/invoke/MethodHandle" ∧ y.cls ≠ "java/lang/invoke/VarHandle") (W : Nat) {g : JFrame} (hg : g.method = m) (hsize : g.locals.size = c.maxLocals) (a : Addr) (argsL rest : List Value)
    (hM : MetFree l y (head1 [Cond.code y bytes maxL none] rm) (fun a' U => a' = (.ref a :: argsL).toArray ∧ Z.Warmed39 U.vm ∧ U.heap = h) (fun _ _ _ _ _ => True) (fun _ U o U' => ∃ v L, o = .returned v ∧ Q v U'.heap L ∧ ReturnedEndW U o U' L rm.cells rm.slots))
    (hlen : ∀ sig, parseMethodDescriptor y.desc = some sig → argsL.length = sig.parameters.length) (hstack : g.stack = argsL.reverse ++ .ref a :: rest) (hW : 2 * g.monitorRoom + (rest.map fun v => v.category).sum ≤ W) (hd : decode c.code g.pc = .ok (.invokespecial index, 3))
    (hf : rm.frames + 1 ≤ R.frames) (hl : W + (maxL + 11) + rm.locals ≤ R.locals) (eT : T.heap = h) (hc : cells + rm.cells ≤ R.cells) (hs : slots + rm.slots ≤ R.slots) {k0 : Nat} (hS : s.Since vm0 k0) (hk : k0 ≤ h.size) :
    ∃ (v : Option Value) (T' : State) (h' : Heap) (L : List Loc), Stand p l e R (s.setVm T'.vm) m args below meth c T' (locs ++ L) (cells + rm.cells) (slots + rm.slots) ∧ T'.heap = h' ∧ s.Since T'.vm h'.size ∧ Z.Warmed39 T'.vm ∧ T'.vm.findClass own = some m.cls ∧ Q v h' L ∧
      ∀ t, Steps p.tables e below (T'.setTop { g with pc := g.pc + 3, stack := v.toList ++ rest }) t → Steps p.tables e below (T.setTop g) t := by
  have hZ' : Z.Warmed39 (s.setVm vm0).vm := hZ
  obtain ⟨v, _, ⟨T4, L4, k4, n4⟩, -, X4, hS4, hgr, ⟨Lc, hQ, l4, y4, z4⟩, st⟩ := X.specialBackS hx (y := y) hy1 hown (mvT hZ' w1) (mvT hZ' w2) (mvT hZ' w4) hy (backOfS (W := W) hM hZ' w4 w3 hf hl) (g := g) hg hsize (Steps.refl _) (a := a) (argsL := argsL) (rest := rest) hlen hstack hW hd (fun _ _ => ⟨rfl, eT, hc, hs⟩)
  dsimp only [Pt.U, Pt.locs, Pt.cells, Pt.slots] at X4 l4 y4 z4 st hQ hS4 hgr
  subst l4 y4 z4
  subst eT
  exact ⟨v, T4, _, Lc, X4, rfl, foldS hS hk hS4 hgr, State.Warmed39.trans (t := s.setVm vm0) hZ hS4.1, by rw [hS4.1.alike.findClass]; exact hown, hQ, fun t k => st.trans k⟩
end OwnCallsW
/-! ## chars, bytes, arrays -/
def own_Ch (c : Int32) : Prop := ¬ c < 0 ∧ ¬ (65535 : Int32) < c
def own_lo (c : Int32) : Int32 := c.toInt8.toInt32
def own_hi (c : Int32) : Int32 := (c >>> ((8 : Int32) &&& 31)).toInt8.toInt32
def own_vb (c : Int32) : Value := .int (own_lo c)
theorem own_ch_int {c : Int32} (h : own_Ch c) : 0 ≤ c.toInt ∧ c.toInt ≤ 65535 := by
  have h1 := h.1; have h2 := h.2
  rw [Int32.lt_iff_toInt_lt] at h1 h2
  have e1 : (0 : Int32).toInt = 0 := rfl
  have e2 : (65535 : Int32).toInt = 65535 := rfl
  omega
theorem own_nar_char {c : Int32} (h : own_Ch c) : nar .char c = c := by
  have h1 := own_ch_int h
  have h2 := c_i2c c
  refine Int32.toInt_inj.mp ?_
  show (c.toUInt32.toUInt16.toUInt32.toInt32).toInt = c.toInt
  omega
theorem own_nar_lo (c : Int32) : nar .byte (own_lo c) = own_lo c := by
  have h1 := c_i2b c
  have h2 := c_i2b (own_lo c)
  refine Int32.toInt_inj.mp ?_
  show ((own_lo c).toInt8.toInt32).toInt = (own_lo c).toInt
  have e : (own_lo c).toInt = (c.toInt8.toInt32).toInt := rfl
  omega
theorem own_nar_hi (c : Int32) : nar .byte (own_hi c) = own_hi c := own_nar_lo (c >>> ((8 : Int32) &&& 31))
theorem own_fit_lo (c : Int32) : fits .byte (.int (own_lo c)) = true := fits_nar_byte c
theorem own_fit_hi (c : Int32) : fits .byte (.int (own_hi c)) = true := fits_nar_byte _
theorem own_shr0 (c : Int32) : c >>> ((0 : Int32) &&& 31) = c := by
  have h := c_ishr c 0 0 (by decide)
  refine Int32.toInt_inj.mp ?_
  rw [h]; simp
theorem own_lo_mask {c : Int32} (h0 : ¬ c < 0) (h1 : ¬ (255 : Int32) < c) : own_lo c &&& 255 = c := by
  rw [Int32.lt_iff_toInt_lt] at h0 h1
  have e1 : (0 : Int32).toInt = 0 := rfl
  have e2 : (255 : Int32).toInt = 255 := rfl
  have h2 := c_i2b c
  have h3 := c_mask (own_lo c) 255 8 (by decide) (by decide)
  have e : (own_lo c).toInt = (c.toInt8.toInt32).toInt := rfl
  refine Int32.toInt_inj.mp ?_
  omega
theorem own_pair {c : Int32} (h : own_Ch c) : (((own_lo c &&& 255) <<< ((0 : Int32) &&& 31)) ||| ((own_hi c &&& 255) <<< ((8 : Int32) &&& 31))).toUInt32.toUInt16.toUInt32.toInt32 = c := by
  have h1 := own_ch_int h
  have a1 := c_i2b c
  have a2 := c_ishr c 8 8 (by decide)
  have a3 := c_i2b (c >>> ((8 : Int32) &&& 31))
  have b1 := c_mask (own_lo c) 255 8 (by decide) (by decide)
  have b2 := c_mask (own_hi c) 255 8 (by decide) (by decide)
  have c1 := c_ishl (own_lo c &&& 255) 0 0 (by decide)
  have c2 := c_ishl (own_hi c &&& 255) 8 8 (by decide)
  have r1 := rng32 ((own_lo c &&& 255) <<< ((0 : Int32) &&& 31))
  have r2 := rng32 ((own_hi c &&& 255) <<< ((8 : Int32) &&& 31))
  have e1 : (own_lo c).toInt = (c.toInt8.toInt32).toInt := rfl
  have e2 : (own_hi c).toInt = ((c >>> ((8 : Int32) &&& 31)).toInt8.toInt32).toInt := rfl
  generalize hx : (own_lo c &&& 255) <<< ((0 : Int32) &&& 31) = x at *
  generalize hy : (own_hi c &&& 255) <<< ((8 : Int32) &&& 31) = y at *
  have o := c_or' x y 8 (by decide) 256 (by decide) (by omega) (by omega) (by omega)
  have d := c_i2c (x ||| y)
  have r3 := rng32 (x ||| y)
  refine Int32.toInt_inj.mp ?_
  omega
/-- an array's store behind the values that are said so far -/
theorem own_push {Z : State} {h h' : Heap} {a : Addr} {k : ClassId} {ty : FieldType} {z j : Int32} {vs : List Value} {v dv : Value} (F : Arv Z h a k ty z vs dv) (hv : fits ty v = true) (W : Wr h h' a j.toNatClampNeg v) (hj : j.toNatClampNeg = vs.length) : Arv Z h' a k ty z (vs ++ [v]) dv := by
  obtain ⟨c, A, q1, S, q3, H, G⟩ := F.pad (pad_rep vs dv 1)
  have q := Arv.set A q1 S q3 H G hv W vs.length hj (by simp)
  have e : (vs ++ List.replicate 1 dv).set vs.length v = vs ++ [v] := by simp
  rw [e] at q
  exact q
theorem own_n32 {n : Nat} (h : n < 2 ^ 31) : (Int32.ofNat n).toNatClampNeg = n := by
  rw [Int32.toNatClampNeg, Int32.toInt_ofNat_of_lt h]; rfl
theorem own_lt32 {i n : Nat} (h : i < n) (hn : n < 2 ^ 31) : Int32.ofNat i < Int32.ofNat n := by
  rw [Int32.lt_iff_toInt_lt, Int32.toInt_ofNat_of_lt (by omega), Int32.toInt_ofNat_of_lt hn]; omega
theorem own_nn32 {n : Nat} (h : n < 2 ^ 31) : ¬ Int32.ofNat n < 0 := by
  rw [Int32.lt_iff_toInt_lt, Int32.toInt_ofNat_of_lt h]; show ¬ ((n : Int) < 0); omega
theorem own_suc (i : Nat) : Int32.ofNat i + 1 = Int32.ofNat (i + 1) := by rw [Int32.ofNat_add]; rfl
theorem own_in32 {i n : Nat} {c : Cell} (S : c.slots.size = (Int32.ofNat n).toNatClampNeg) (h : i < n) (hn : n < 2 ^ 31) : ¬ (Int32.ofNat i < 0 ∨ c.slots.size ≤ (Int32.ofNat i).toNatClampNeg) := by
  rw [S, own_n32 hn, own_n32 (by omega)]
  exact fun q => q.elim (own_nn32 (by omega)) (fun q => by omega)
theorem own_getI (cs : List Int32) (j : Nat) (h : j < cs.length) (d : Value) : (cs.map Value.int).getD j d = .int (cs.getD j 0) := by simp [List.getD, h]
theorem own_getB (cs : List Int32) (j : Nat) (h : j < cs.length) (d : Value) : (cs.map own_vb).getD j d = .int (own_lo (cs.getD j 0)) := by simp [List.getD, h, own_vb]
theorem own_take1 (cs : List Int32) (i : Nat) (h : i < cs.length) : cs.take (i + 1) = cs.take i ++ [cs.getD i 0] := by rw [List.take_add_one]; simp [List.getD, h]
theorem own_takeB (cs : List Int32) (i : Nat) (h : i < cs.length) : (cs.take i).map own_vb ++ [.int (own_lo (cs.getD i 0))] = (cs.take (i + 1)).map own_vb := by
  rw [own_take1 cs i h, List.map_append]; rfl
/-- the two bytes of each char, the low one first -/
def own_wide : List Int32 → List Value
  | [] => []
  | c :: cs => .int (own_lo c) :: .int (own_hi c) :: own_wide cs
theorem own_wide_len : ∀ cs : List Int32, (own_wide cs).length = 2 * cs.length
  | [] => rfl
  | c :: cs => by show (own_wide cs).length + 1 + 1 = 2 * (cs.length + 1); rw [own_wide_len cs]; omega
theorem own_wide_app : ∀ (cs ds : List Int32), own_wide (cs ++ ds) = own_wide cs ++ own_wide ds
  | [], _ => rfl
  | c :: cs, ds => by show _ :: _ :: own_wide (cs ++ ds) = _; rw [own_wide_app cs ds]; rfl
theorem own_wide_lo (d : Value) : ∀ (cs : List Int32) (j : Nat), j < cs.length → (own_wide cs).getD (2 * j) d = .int (own_lo (cs.getD j 0))
  | [], _, h => absurd h (Nat.not_lt_zero _)
  | c :: cs, 0, _ => rfl
  | c :: cs, j + 1, h => by
    have q := own_wide_lo d cs j (by simpa using h)
    have e : 2 * (j + 1) = 2 * j + 1 + 1 := by omega
    rw [e]; exact q
theorem own_wide_hi (d : Value) : ∀ (cs : List Int32) (j : Nat), j < cs.length → (own_wide cs).getD (2 * j + 1) d = .int (own_hi (cs.getD j 0))
  | [], _, h => absurd h (Nat.not_lt_zero _)
  | c :: cs, 0, _ => rfl
  | c :: cs, j + 1, h => by
    have q := own_wide_hi d cs j (by simpa using h)
    have e : 2 * (j + 1) + 1 = 2 * j + 1 + 1 + 1 := by omega
    rw [e]; exact q
theorem own_takeW (cs : List Int32) (i : Nat) (h : i < cs.length) : own_wide (cs.take i) ++ [.int (own_lo (cs.getD i 0)), .int (own_hi (cs.getD i 0))] = own_wide (cs.take (i + 1)) := by
  rw [own_take1 cs i h, own_wide_app]; rfl
theorem own_shl1 {n : Nat} (h : n < 2 ^ 30) : Int32.ofNat n <<< ((1 : Int32) &&& 31) = Int32.ofNat (2 * n) := by
  have q := c_ishl (Int32.ofNat n) 1 1 (by decide)
  have r := rng32 (Int32.ofNat n <<< ((1 : Int32) &&& 31))
  refine Int32.toInt_inj.mp ?_
  rw [Int32.toInt_ofNat_of_lt (by omega)] at *
  omega
theorem own_shr1 {n : Nat} (h : n < 2 ^ 30) : Int32.ofNat (2 * n) >>> ((1 : Int32) &&& 31) = Int32.ofNat n := by
  have q := c_ishr (Int32.ofNat (2 * n)) 1 1 (by decide)
  refine Int32.toInt_inj.mp ?_
  rw [q, Int32.toInt_ofNat_of_lt (by omega), Int32.toInt_ofNat_of_lt (by omega)]
  omega
/-- what a String holds: its chars, Latin-1 or UTF-16 -/
def own_Str (Z : State) (h : Heap) (x t : Addr) (cs : List Int32) : Prop := Exa Z h x "java/lang/String" ∧ Fld Z h x "java/lang/String" "value" "[B" (.ref t) ∧
  ((Fld Z h x "java/lang/String" "coder" "B" (.int 0) ∧ (∃ kt, Arv Z h t kt .byte (Int32.ofNat cs.length) (cs.map own_vb) (.int 0)) ∧ ∀ j, j < cs.length → ¬ (255 : Int32) < cs.getD j 0) ∨
   (Fld Z h x "java/lang/String" "coder" "B" (.int 1) ∧ (∃ kt, Arv Z h t kt .byte (Int32.ofNat (2 * cs.length)) (own_wide cs) (.int 0)) ∧ ∃ j, j < cs.length ∧ (255 : Int32) < cs.getD j 0))
theorem own_Str.ext {Z : State} {h h' : Heap} {x t : Addr} {cs : List Int32} (S : own_Str Z h x t cs) (E : Ext h h') : own_Str Z h' x t cs :=
  ⟨S.1.ext E, S.2.1.ext E, S.2.2.imp (fun q => ⟨q.1.ext E, q.2.1.imp fun _ z => z.ext E, q.2.2⟩) (fun q => ⟨q.1.ext E, q.2.1.imp fun _ z => z.ext E, q.2.2⟩)⟩
theorem own_Str.keep {Z : State} {h h' : Heap} {ws : List Addr} {x t : Addr} {cs : List Int32} (S : own_Str Z h x t cs) (K : Keep h h' ws) (q1 : x ∉ ws) (q2 : t ∉ ws) : own_Str Z h' x t cs :=
  ⟨S.1.keep K, S.2.1.keep K q1, S.2.2.imp (fun q => ⟨q.1.keep K q1, q.2.1.imp fun _ z => z.keep K q2, q.2.2⟩) (fun q => ⟨q.1.keep K q1, q.2.1.imp fun _ z => z.keep K q2, q.2.2⟩)⟩
theorem own_Str.tlt {Z : State} {h : Heap} {x t : Addr} {cs : List Int32} (S : own_Str Z h x t cs) : t < h.size := by
  rcases S.2.2 with ⟨-, ⟨_, A⟩, -⟩ | ⟨-, ⟨_, A⟩, -⟩ <;> exact A.lt
theorem own_sub {h h' : Heap} {n0 : Nat} (q : n0 ≤ h.size) (E : Ext h h') : n0 ≤ h'.size := Nat.le_trans q E.1

theorem d1_0 : decode method_2_code 0 = .ok (.iload_n 0, 1) := by decide +kernel
theorem d1_1 : decode method_2_code 1 = .ok (.iconst 3, 1) := by decide +kernel
theorem d1_2 : decode method_2_code 2 = .ok (.iand, 1) := by decide +kernel
theorem d1_3 : decode method_2_code 3 = .ok (.istore_n 1, 1) := by decide +kernel
theorem d1_4 : decode method_2_code 4 = .ok (.iload_n 0, 1) := by decide +kernel
theorem d1_5 : decode method_2_code 5 = .ok (.iconst 2, 1) := by decide +kernel
theorem d1_6 : decode method_2_code 6 = .ok (.iushr, 1) := by decide +kernel
theorem d1_7 : decode method_2_code 7 = .ok (.istore_n 2, 1) := by decide +kernel
theorem d1_8 : decode method_2_code 8 = .ok (.iload_n 1, 1) := by decide +kernel
theorem d1_9 : decode method_2_code 9 = .ok (.ifCond .ne 10, 3) := by decide +kernel
theorem d1_12 : decode method_2_code 12 = .ok (.iload_n 2, 1) := by decide +kernel
theorem d1_13 : decode method_2_code 13 = .ok (.sipush 255, 3) := by decide +kernel
theorem d1_16 : decode method_2_code 16 = .ok (.iand, 1) := by decide +kernel
theorem d1_17 : decode method_2_code 17 = .ok (.i2c, 1) := by decide +kernel
theorem d1_18 : decode method_2_code 18 = .ok (.ireturn, 1) := by decide +kernel
theorem d1_19 : decode method_2_code 19 = .ok (.iload_n 1, 1) := by decide +kernel
theorem d1_20 : decode method_2_code 20 = .ok (.iconst 1, 1) := by decide +kernel
theorem d1_21 : decode method_2_code 21 = .ok (.if_icmp .ne 13, 3) := by decide +kernel
theorem d1_24 : decode method_2_code 24 = .ok (.ldc 7, 2) := by decide +kernel
theorem d1_26 : decode method_2_code 26 = .ok (.iload_n 2, 1) := by decide +kernel
theorem d1_27 : decode method_2_code 27 = .ok (.sipush 1023, 3) := by decide +kernel
theorem d1_30 : decode method_2_code 30 = .ok (.iand, 1) := by decide +kernel
theorem d1_31 : decode method_2_code 31 = .ok (.iadd, 1) := by decide +kernel
theorem d1_32 : decode method_2_code 32 = .ok (.i2c, 1) := by decide +kernel
theorem d1_33 : decode method_2_code 33 = .ok (.ireturn, 1) := by decide +kernel
theorem d1_34 : decode method_2_code 34 = .ok (.iload_n 1, 1) := by decide +kernel
theorem d1_35 : decode method_2_code 35 = .ok (.iconst 2, 1) := by decide +kernel
theorem d1_36 : decode method_2_code 36 = .ok (.if_icmp .ne 13, 3) := by decide +kernel
theorem d1_39 : decode method_2_code 39 = .ok (.ldc 8, 2) := by decide +kernel
theorem d1_41 : decode method_2_code 41 = .ok (.iload_n 2, 1) := by decide +kernel
theorem d1_42 : decode method_2_code 42 = .ok (.sipush 1023, 3) := by decide +kernel
theorem d1_45 : decode method_2_code 45 = .ok (.iand, 1) := by decide +kernel
theorem d1_46 : decode method_2_code 46 = .ok (.iadd, 1) := by decide +kernel
theorem d1_47 : decode method_2_code 47 = .ok (.i2c, 1) := by decide +kernel
theorem d1_48 : decode method_2_code 48 = .ok (.ireturn, 1) := by decide +kernel
theorem d1_49 : decode method_2_code 49 = .ok (.iload_n 2, 1) := by decide +kernel
theorem d1_50 : decode method_2_code 50 = .ok (.i2c, 1) := by decide +kernel
theorem d1_51 : decode method_2_code 51 = .ok (.ireturn, 1) := by decide +kernel
theorem d2_0 : decode jdk_42_method_3_code 0 = .ok (.aload_n 0, 1) := by decide +kernel
theorem d2_1 : decode jdk_42_method_3_code 1 = .ok (.aload_n 1, 1) := by decide +kernel
theorem d2_2 : decode jdk_42_method_3_code 2 = .ok (.iconst 0, 1) := by decide +kernel
theorem d2_3 : decode jdk_42_method_3_code 3 = .ok (.aload_n 1, 1) := by decide +kernel
theorem d2_4 : decode jdk_42_method_3_code 4 = .ok (.arraylength, 1) := by decide +kernel
theorem d2_5 : decode jdk_42_method_3_code 5 = .ok (.aconst_null, 1) := by decide +kernel
theorem d2_6 : decode jdk_42_method_3_code 6 = .ok (.invokespecial 27, 3) := by decide +kernel
theorem d2_9 : decode jdk_42_method_3_code 9 = .ok (.return_, 1) := by decide +kernel
theorem d3_0 : decode jdk_42_method_149_code 0 = .ok (.aload_n 0, 1) := by decide +kernel
theorem d3_1 : decode jdk_42_method_149_code 1 = .ok (.invokespecial 1, 3) := by decide +kernel
theorem d3_4 : decode jdk_42_method_149_code 4 = .ok (.iload_n 3, 1) := by decide +kernel
theorem d3_5 : decode jdk_42_method_149_code 5 = .ok (.ifCond .ne 22, 3) := by decide +kernel
theorem d3_8 : decode jdk_42_method_149_code 8 = .ok (.aload_n 0, 1) := by decide +kernel
theorem d3_9 : decode jdk_42_method_149_code 9 = .ok (.ldc 7, 2) := by decide +kernel
theorem d3_11 : decode jdk_42_method_149_code 11 = .ok (.getfield 9, 3) := by decide +kernel
theorem d3_14 : decode jdk_42_method_149_code 14 = .ok (.putfield 9, 3) := by decide +kernel
theorem d3_17 : decode jdk_42_method_149_code 17 = .ok (.aload_n 0, 1) := by decide +kernel
theorem d3_18 : decode jdk_42_method_149_code 18 = .ok (.ldc 7, 2) := by decide +kernel
theorem d3_20 : decode jdk_42_method_149_code 20 = .ok (.getfield 15, 3) := by decide +kernel
theorem d3_23 : decode jdk_42_method_149_code 23 = .ok (.putfield 15, 3) := by decide +kernel
theorem d3_26 : decode jdk_42_method_149_code 26 = .ok (.return_, 1) := by decide +kernel
theorem d3_27 : decode jdk_42_method_149_code 27 = .ok (.getstatic 38, 3) := by decide +kernel
theorem d3_30 : decode jdk_42_method_149_code 30 = .ok (.ifCond .eq 28, 3) := by decide +kernel
theorem d3_33 : decode jdk_42_method_149_code 33 = .ok (.aload_n 1, 1) := by decide +kernel
theorem d3_34 : decode jdk_42_method_149_code 34 = .ok (.iload_n 2, 1) := by decide +kernel
theorem d3_35 : decode jdk_42_method_149_code 35 = .ok (.iload_n 3, 1) := by decide +kernel
theorem d3_36 : decode jdk_42_method_149_code 36 = .ok (.invokestatic 177, 3) := by decide +kernel
theorem d3_39 : decode jdk_42_method_149_code 39 = .ok (.astore 5, 2) := by decide +kernel
theorem d3_41 : decode jdk_42_method_149_code 41 = .ok (.aload_n 0, 1) := by decide +kernel
theorem d3_42 : decode jdk_42_method_149_code 42 = .ok (.aload 5, 2) := by decide +kernel
theorem d3_44 : decode jdk_42_method_149_code 44 = .ok (.iload_n 3, 1) := by decide +kernel
theorem d3_45 : decode jdk_42_method_149_code 45 = .ok (.invokestatic 47, 3) := by decide +kernel
theorem d3_48 : decode jdk_42_method_149_code 48 = .ok (.putfield 15, 3) := by decide +kernel
theorem d3_51 : decode jdk_42_method_149_code 51 = .ok (.aload_n 0, 1) := by decide +kernel
theorem d3_52 : decode jdk_42_method_149_code 52 = .ok (.aload 5, 2) := by decide +kernel
theorem d3_54 : decode jdk_42_method_149_code 54 = .ok (.putfield 9, 3) := by decide +kernel
theorem d3_57 : decode jdk_42_method_149_code 57 = .ok (.return_, 1) := by decide +kernel
theorem d3_58 : decode jdk_42_method_149_code 58 = .ok (.aload_n 0, 1) := by decide +kernel
theorem d3_59 : decode jdk_42_method_149_code 59 = .ok (.iconst 1, 1) := by decide +kernel
theorem d3_60 : decode jdk_42_method_149_code 60 = .ok (.putfield 15, 3) := by decide +kernel
theorem d3_63 : decode jdk_42_method_149_code 63 = .ok (.aload_n 0, 1) := by decide +kernel
theorem d3_64 : decode jdk_42_method_149_code 64 = .ok (.aload_n 1, 1) := by decide +kernel
theorem d3_65 : decode jdk_42_method_149_code 65 = .ok (.iload_n 2, 1) := by decide +kernel
theorem d3_66 : decode jdk_42_method_149_code 66 = .ok (.iload_n 3, 1) := by decide +kernel
theorem d3_67 : decode jdk_42_method_149_code 67 = .ok (.invokestatic 180, 3) := by decide +kernel
theorem d3_70 : decode jdk_42_method_149_code 70 = .ok (.putfield 9, 3) := by decide +kernel
theorem d3_73 : decode jdk_42_method_149_code 73 = .ok (.return_, 1) := by decide +kernel
theorem d5_0 : decode jdk_52_method_16_code 0 = .ok (.iload_n 2, 1) := by decide +kernel
theorem d5_1 : decode jdk_52_method_16_code 1 = .ok (.newarray .byte, 2) := by decide +kernel
theorem d5_3 : decode jdk_52_method_16_code 3 = .ok (.astore_n 3, 1) := by decide +kernel
theorem d5_4 : decode jdk_52_method_16_code 4 = .ok (.aload_n 0, 1) := by decide +kernel
theorem d5_5 : decode jdk_52_method_16_code 5 = .ok (.iload_n 1, 1) := by decide +kernel
theorem d5_6 : decode jdk_52_method_16_code 6 = .ok (.aload_n 3, 1) := by decide +kernel
theorem d5_7 : decode jdk_52_method_16_code 7 = .ok (.iconst 0, 1) := by decide +kernel
theorem d5_8 : decode jdk_52_method_16_code 8 = .ok (.iload_n 2, 1) := by decide +kernel
theorem d5_9 : decode jdk_52_method_16_code 9 = .ok (.invokestatic 115, 3) := by decide +kernel
theorem d5_12 : decode jdk_52_method_16_code 12 = .ok (.istore 4, 2) := by decide +kernel
theorem d5_14 : decode jdk_52_method_16_code 14 = .ok (.iload 4, 2) := by decide +kernel
theorem d5_16 : decode jdk_52_method_16_code 16 = .ok (.iload_n 2, 1) := by decide +kernel
theorem d5_17 : decode jdk_52_method_16_code 17 = .ok (.if_icmp .eq 40, 3) := by decide +kernel
theorem d5_20 : decode jdk_52_method_16_code 20 = .ok (.aload_n 0, 1) := by decide +kernel
theorem d5_21 : decode jdk_52_method_16_code 21 = .ok (.iload_n 1, 1) := by decide +kernel
theorem d5_22 : decode jdk_52_method_16_code 22 = .ok (.iload_n 2, 1) := by decide +kernel
theorem d5_23 : decode jdk_52_method_16_code 23 = .ok (.invokestatic 119, 3) := by decide +kernel
theorem d5_26 : decode jdk_52_method_16_code 26 = .ok (.astore 5, 2) := by decide +kernel
theorem d5_28 : decode jdk_52_method_16_code 28 = .ok (.aload 5, 2) := by decide +kernel
theorem d5_30 : decode jdk_52_method_16_code 30 = .ok (.iload 4, 2) := by decide +kernel
theorem d5_32 : decode jdk_52_method_16_code 32 = .ok (.invokestatic 71, 3) := by decide +kernel
theorem d5_35 : decode jdk_52_method_16_code 35 = .ok (.sipush 255, 3) := by decide +kernel
theorem d5_38 : decode jdk_52_method_16_code 38 = .ok (.if_icmp .gt 16, 3) := by decide +kernel
theorem d5_41 : decode jdk_52_method_16_code 41 = .ok (.aload 5, 2) := by decide +kernel
theorem d5_43 : decode jdk_52_method_16_code 43 = .ok (.iconst 0, 1) := by decide +kernel
theorem d5_44 : decode jdk_52_method_16_code 44 = .ok (.aload_n 3, 1) := by decide +kernel
theorem d5_45 : decode jdk_52_method_16_code 45 = .ok (.iconst 0, 1) := by decide +kernel
theorem d5_46 : decode jdk_52_method_16_code 46 = .ok (.iload_n 2, 1) := by decide +kernel
theorem d5_47 : decode jdk_52_method_16_code 47 = .ok (.invokestatic 123, 3) := by decide +kernel
theorem d5_50 : decode jdk_52_method_16_code 50 = .ok (.iload_n 2, 1) := by decide +kernel
theorem d5_51 : decode jdk_52_method_16_code 51 = .ok (.if_icmp .eq 6, 3) := by decide +kernel
theorem d5_54 : decode jdk_52_method_16_code 54 = .ok (.aload 5, 2) := by decide +kernel
theorem d5_56 : decode jdk_52_method_16_code 56 = .ok (.areturn, 1) := by decide +kernel
theorem d5_57 : decode jdk_52_method_16_code 57 = .ok (.aload_n 3, 1) := by decide +kernel
theorem d5_58 : decode jdk_52_method_16_code 58 = .ok (.areturn, 1) := by decide +kernel
theorem d6_0 : decode jdk_52_method_21_code 0 = .ok (.iconst 0, 1) := by decide +kernel
theorem d6_1 : decode jdk_52_method_21_code 1 = .ok (.istore 5, 2) := by decide +kernel
theorem d6_3 : decode jdk_52_method_21_code 3 = .ok (.iload 5, 2) := by decide +kernel
theorem d6_5 : decode jdk_52_method_21_code 5 = .ok (.iload 4, 2) := by decide +kernel
theorem d6_7 : decode jdk_52_method_21_code 7 = .ok (.if_icmp .ge 37, 3) := by decide +kernel
theorem d6_10 : decode jdk_52_method_21_code 10 = .ok (.aload_n 0, 1) := by decide +kernel
theorem d6_11 : decode jdk_52_method_21_code 11 = .ok (.iload_n 1, 1) := by decide +kernel
theorem d6_12 : decode jdk_52_method_21_code 12 = .ok (.caload, 1) := by decide +kernel
theorem d6_13 : decode jdk_52_method_21_code 13 = .ok (.istore 6, 2) := by decide +kernel
theorem d6_15 : decode jdk_52_method_21_code 15 = .ok (.iload 6, 2) := by decide +kernel
theorem d6_17 : decode jdk_52_method_21_code 17 = .ok (.sipush 255, 3) := by decide +kernel
theorem d6_20 : decode jdk_52_method_21_code 20 = .ok (.if_icmp .le 6, 3) := by decide +kernel
theorem d6_23 : decode jdk_52_method_21_code 23 = .ok (.iload 5, 2) := by decide +kernel
theorem d6_25 : decode jdk_52_method_21_code 25 = .ok (.ireturn, 1) := by decide +kernel
theorem d6_26 : decode jdk_52_method_21_code 26 = .ok (.aload_n 2, 1) := by decide +kernel
theorem d6_27 : decode jdk_52_method_21_code 27 = .ok (.iload_n 3, 1) := by decide +kernel
theorem d6_28 : decode jdk_52_method_21_code 28 = .ok (.iload 6, 2) := by decide +kernel
theorem d6_30 : decode jdk_52_method_21_code 30 = .ok (.i2b, 1) := by decide +kernel
theorem d6_31 : decode jdk_52_method_21_code 31 = .ok (.bastore, 1) := by decide +kernel
theorem d6_32 : decode jdk_52_method_21_code 32 = .ok (.iinc 1 1, 3) := by decide +kernel
theorem d6_35 : decode jdk_52_method_21_code 35 = .ok (.iinc 3 1, 3) := by decide +kernel
theorem d6_38 : decode jdk_52_method_21_code 38 = .ok (.iinc 5 1, 3) := by decide +kernel
theorem d6_41 : decode jdk_52_method_21_code 41 = .ok (.goto (-38), 3) := by decide +kernel
theorem d6_44 : decode jdk_52_method_21_code 44 = .ok (.iload 4, 2) := by decide +kernel
theorem d6_46 : decode jdk_52_method_21_code 46 = .ok (.ireturn, 1) := by decide +kernel
theorem d7_0 : decode jdk_52_method_14_code 0 = .ok (.iload_n 2, 1) := by decide +kernel
theorem d7_1 : decode jdk_52_method_14_code 1 = .ok (.invokestatic 107, 3) := by decide +kernel
theorem d7_4 : decode jdk_52_method_14_code 4 = .ok (.astore_n 3, 1) := by decide +kernel
theorem d7_5 : decode jdk_52_method_14_code 5 = .ok (.iconst 0, 1) := by decide +kernel
theorem d7_6 : decode jdk_52_method_14_code 6 = .ok (.istore 4, 2) := by decide +kernel
theorem d7_8 : decode jdk_52_method_14_code 8 = .ok (.iload 4, 2) := by decide +kernel
theorem d7_10 : decode jdk_52_method_14_code 10 = .ok (.iload_n 2, 1) := by decide +kernel
theorem d7_11 : decode jdk_52_method_14_code 11 = .ok (.if_icmp .ge 21, 3) := by decide +kernel
theorem d7_14 : decode jdk_52_method_14_code 14 = .ok (.aload_n 3, 1) := by decide +kernel
theorem d7_15 : decode jdk_52_method_14_code 15 = .ok (.iload 4, 2) := by decide +kernel
theorem d7_17 : decode jdk_52_method_14_code 17 = .ok (.aload_n 0, 1) := by decide +kernel
theorem d7_18 : decode jdk_52_method_14_code 18 = .ok (.iload_n 1, 1) := by decide +kernel
theorem d7_19 : decode jdk_52_method_14_code 19 = .ok (.caload, 1) := by decide +kernel
theorem d7_20 : decode jdk_52_method_14_code 20 = .ok (.invokestatic 111, 3) := by decide +kernel
theorem d7_23 : decode jdk_52_method_14_code 23 = .ok (.iinc 1 1, 3) := by decide +kernel
theorem d7_26 : decode jdk_52_method_14_code 26 = .ok (.iinc 4 1, 3) := by decide +kernel
theorem d7_29 : decode jdk_52_method_14_code 29 = .ok (.goto (-21), 3) := by decide +kernel
theorem d7_32 : decode jdk_52_method_14_code 32 = .ok (.aload_n 3, 1) := by decide +kernel
theorem d7_33 : decode jdk_52_method_14_code 33 = .ok (.areturn, 1) := by decide +kernel
theorem d8_0 : decode jdk_52_method_2_code 0 = .ok (.iload_n 0, 1) := by decide +kernel
theorem d8_1 : decode jdk_52_method_2_code 1 = .ok (.invokestatic 11, 3) := by decide +kernel
theorem d8_4 : decode jdk_52_method_2_code 4 = .ok (.newarray .byte, 2) := by decide +kernel
theorem d8_6 : decode jdk_52_method_2_code 6 = .ok (.areturn, 1) := by decide +kernel
theorem d9_0 : decode jdk_52_method_3_code 0 = .ok (.iload_n 0, 1) := by decide +kernel
theorem d9_1 : decode jdk_52_method_3_code 1 = .ok (.ifCond .ge 11, 3) := by decide +kernel
theorem d9_4 : decode jdk_52_method_3_code 4 = .ok (.new 17, 3) := by decide +kernel
theorem d9_7 : decode jdk_52_method_3_code 7 = .ok (.dup, 1) := by decide +kernel
theorem d9_8 : decode jdk_52_method_3_code 8 = .ok (.invokespecial 19, 3) := by decide +kernel
theorem d9_11 : decode jdk_52_method_3_code 11 = .ok (.athrow, 1) := by decide +kernel
theorem d9_12 : decode jdk_52_method_3_code 12 = .ok (.iload_n 0, 1) := by decide +kernel
theorem d9_13 : decode jdk_52_method_3_code 13 = .ok (.ldc 20, 2) := by decide +kernel
theorem d9_15 : decode jdk_52_method_3_code 15 = .ok (.if_icmp .lt 40, 3) := by decide +kernel
theorem d9_18 : decode jdk_52_method_3_code 18 = .ok (.new 21, 3) := by decide +kernel
theorem d9_21 : decode jdk_52_method_3_code 21 = .ok (.dup, 1) := by decide +kernel
theorem d9_22 : decode jdk_52_method_3_code 22 = .ok (.new 23, 3) := by decide +kernel
theorem d9_25 : decode jdk_52_method_3_code 25 = .ok (.dup, 1) := by decide +kernel
theorem d9_26 : decode jdk_52_method_3_code 26 = .ok (.invokespecial 25, 3) := by decide +kernel
theorem d9_29 : decode jdk_52_method_3_code 29 = .ok (.ldc 26, 2) := by decide +kernel
theorem d9_31 : decode jdk_52_method_3_code 31 = .ok (.invokevirtual 28, 3) := by decide +kernel
theorem d9_34 : decode jdk_52_method_3_code 34 = .ok (.iload_n 0, 1) := by decide +kernel
theorem d9_35 : decode jdk_52_method_3_code 35 = .ok (.invokevirtual 32, 3) := by decide +kernel
theorem d9_38 : decode jdk_52_method_3_code 38 = .ok (.ldc 35, 2) := by decide +kernel
theorem d9_40 : decode jdk_52_method_3_code 40 = .ok (.invokevirtual 28, 3) := by decide +kernel
theorem d9_43 : decode jdk_52_method_3_code 43 = .ok (.ldc 20, 2) := by decide +kernel
theorem d9_45 : decode jdk_52_method_3_code 45 = .ok (.invokevirtual 32, 3) := by decide +kernel
theorem d9_48 : decode jdk_52_method_3_code 48 = .ok (.invokevirtual 37, 3) := by decide +kernel
theorem d9_51 : decode jdk_52_method_3_code 51 = .ok (.invokespecial 41, 3) := by decide +kernel
theorem d9_54 : decode jdk_52_method_3_code 54 = .ok (.athrow, 1) := by decide +kernel
theorem d9_55 : decode jdk_52_method_3_code 55 = .ok (.iload_n 0, 1) := by decide +kernel
theorem d9_56 : decode jdk_52_method_3_code 56 = .ok (.iconst 1, 1) := by decide +kernel
theorem d9_57 : decode jdk_52_method_3_code 57 = .ok (.ishl, 1) := by decide +kernel
theorem d9_58 : decode jdk_52_method_3_code 58 = .ok (.ireturn, 1) := by decide +kernel
theorem d10_0 : decode jdk_52_method_4_code 0 = .ok (.getstatic 44, 3) := by decide +kernel
theorem d10_3 : decode jdk_52_method_4_code 3 = .ok (.ifCond .ne 25, 3) := by decide +kernel
theorem d10_6 : decode jdk_52_method_4_code 6 = .ok (.iload_n 1, 1) := by decide +kernel
theorem d10_7 : decode jdk_52_method_4_code 7 = .ok (.ifCond .lt 11, 3) := by decide +kernel
theorem d10_10 : decode jdk_52_method_4_code 10 = .ok (.iload_n 1, 1) := by decide +kernel
theorem d10_11 : decode jdk_52_method_4_code 11 = .ok (.aload_n 0, 1) := by decide +kernel
theorem d10_12 : decode jdk_52_method_4_code 12 = .ok (.invokestatic 48, 3) := by decide +kernel
theorem d10_15 : decode jdk_52_method_4_code 15 = .ok (.if_icmp .lt 13, 3) := by decide +kernel
theorem d10_18 : decode jdk_52_method_4_code 18 = .ok (.new 52, 3) := by decide +kernel
theorem d10_21 : decode jdk_52_method_4_code 21 = .ok (.dup, 1) := by decide +kernel
theorem d10_22 : decode jdk_52_method_4_code 22 = .ok (.ldc 54, 2) := by decide +kernel
theorem d10_24 : decode jdk_52_method_4_code 24 = .ok (.invokespecial 56, 3) := by decide +kernel
theorem d10_27 : decode jdk_52_method_4_code 27 = .ok (.athrow, 1) := by decide +kernel
theorem d10_28 : decode jdk_52_method_4_code 28 = .ok (.iload_n 1, 1) := by decide +kernel
theorem d10_29 : decode jdk_52_method_4_code 29 = .ok (.iconst 1, 1) := by decide +kernel
theorem d10_30 : decode jdk_52_method_4_code 30 = .ok (.ishl, 1) := by decide +kernel
theorem d10_31 : decode jdk_52_method_4_code 31 = .ok (.istore_n 1, 1) := by decide +kernel
theorem d10_32 : decode jdk_52_method_4_code 32 = .ok (.aload_n 0, 1) := by decide +kernel
theorem d10_33 : decode jdk_52_method_4_code 33 = .ok (.iload_n 1, 1) := by decide +kernel
theorem d10_34 : decode jdk_52_method_4_code 34 = .ok (.iinc 1 1, 3) := by decide +kernel
theorem d10_37 : decode jdk_52_method_4_code 37 = .ok (.iload_n 2, 1) := by decide +kernel
theorem d10_38 : decode jdk_52_method_4_code 38 = .ok (.getstatic 59, 3) := by decide +kernel
theorem d10_41 : decode jdk_52_method_4_code 41 = .ok (.ishr, 1) := by decide +kernel
theorem d10_42 : decode jdk_52_method_4_code 42 = .ok (.i2b, 1) := by decide +kernel
theorem d10_43 : decode jdk_52_method_4_code 43 = .ok (.bastore, 1) := by decide +kernel
theorem d10_44 : decode jdk_52_method_4_code 44 = .ok (.aload_n 0, 1) := by decide +kernel
theorem d10_45 : decode jdk_52_method_4_code 45 = .ok (.iload_n 1, 1) := by decide +kernel
theorem d10_46 : decode jdk_52_method_4_code 46 = .ok (.iload_n 2, 1) := by decide +kernel
theorem d10_47 : decode jdk_52_method_4_code 47 = .ok (.getstatic 63, 3) := by decide +kernel
theorem d10_50 : decode jdk_52_method_4_code 50 = .ok (.ishr, 1) := by decide +kernel
theorem d10_51 : decode jdk_52_method_4_code 51 = .ok (.i2b, 1) := by decide +kernel
theorem d10_52 : decode jdk_52_method_4_code 52 = .ok (.bastore, 1) := by decide +kernel
theorem d10_53 : decode jdk_52_method_4_code 53 = .ok (.return_, 1) := by decide +kernel
theorem d11_0 : decode jdk_52_method_5_code 0 = .ok (.getstatic 44, 3) := by decide +kernel
theorem d11_3 : decode jdk_52_method_5_code 3 = .ok (.ifCond .ne 25, 3) := by decide +kernel
theorem d11_6 : decode jdk_52_method_5_code 6 = .ok (.iload_n 1, 1) := by decide +kernel
theorem d11_7 : decode jdk_52_method_5_code 7 = .ok (.ifCond .lt 11, 3) := by decide +kernel
theorem d11_10 : decode jdk_52_method_5_code 10 = .ok (.iload_n 1, 1) := by decide +kernel
theorem d11_11 : decode jdk_52_method_5_code 11 = .ok (.aload_n 0, 1) := by decide +kernel
theorem d11_12 : decode jdk_52_method_5_code 12 = .ok (.invokestatic 48, 3) := by decide +kernel
theorem d11_15 : decode jdk_52_method_5_code 15 = .ok (.if_icmp .lt 13, 3) := by decide +kernel
theorem d11_18 : decode jdk_52_method_5_code 18 = .ok (.new 52, 3) := by decide +kernel
theorem d11_21 : decode jdk_52_method_5_code 21 = .ok (.dup, 1) := by decide +kernel
theorem d11_22 : decode jdk_52_method_5_code 22 = .ok (.ldc 54, 2) := by decide +kernel
theorem d11_24 : decode jdk_52_method_5_code 24 = .ok (.invokespecial 56, 3) := by decide +kernel
theorem d11_27 : decode jdk_52_method_5_code 27 = .ok (.athrow, 1) := by decide +kernel
theorem d11_28 : decode jdk_52_method_5_code 28 = .ok (.iload_n 1, 1) := by decide +kernel
theorem d11_29 : decode jdk_52_method_5_code 29 = .ok (.iconst 1, 1) := by decide +kernel
theorem d11_30 : decode jdk_52_method_5_code 30 = .ok (.ishl, 1) := by decide +kernel
theorem d11_31 : decode jdk_52_method_5_code 31 = .ok (.istore_n 1, 1) := by decide +kernel
theorem d11_32 : decode jdk_52_method_5_code 32 = .ok (.aload_n 0, 1) := by decide +kernel
theorem d11_33 : decode jdk_52_method_5_code 33 = .ok (.iload_n 1, 1) := by decide +kernel
theorem d11_34 : decode jdk_52_method_5_code 34 = .ok (.iinc 1 1, 3) := by decide +kernel
theorem d11_37 : decode jdk_52_method_5_code 37 = .ok (.baload, 1) := by decide +kernel
theorem d11_38 : decode jdk_52_method_5_code 38 = .ok (.sipush 255, 3) := by decide +kernel
theorem d11_41 : decode jdk_52_method_5_code 41 = .ok (.iand, 1) := by decide +kernel
theorem d11_42 : decode jdk_52_method_5_code 42 = .ok (.getstatic 59, 3) := by decide +kernel
theorem d11_45 : decode jdk_52_method_5_code 45 = .ok (.ishl, 1) := by decide +kernel
theorem d11_46 : decode jdk_52_method_5_code 46 = .ok (.aload_n 0, 1) := by decide +kernel
theorem d11_47 : decode jdk_52_method_5_code 47 = .ok (.iload_n 1, 1) := by decide +kernel
theorem d11_48 : decode jdk_52_method_5_code 48 = .ok (.baload, 1) := by decide +kernel
theorem d11_49 : decode jdk_52_method_5_code 49 = .ok (.sipush 255, 3) := by decide +kernel
theorem d11_52 : decode jdk_52_method_5_code 52 = .ok (.iand, 1) := by decide +kernel
theorem d11_53 : decode jdk_52_method_5_code 53 = .ok (.getstatic 63, 3) := by decide +kernel
theorem d11_56 : decode jdk_52_method_5_code 56 = .ok (.ishl, 1) := by decide +kernel
theorem d11_57 : decode jdk_52_method_5_code 57 = .ok (.ior, 1) := by decide +kernel
theorem d11_58 : decode jdk_52_method_5_code 58 = .ok (.i2c, 1) := by decide +kernel
theorem d11_59 : decode jdk_52_method_5_code 59 = .ok (.ireturn, 1) := by decide +kernel
theorem d12_0 : decode jdk_52_method_15_code 0 = .ok (.iload_n 1, 1) := by decide +kernel
theorem d12_1 : decode jdk_52_method_15_code 1 = .ok (.aload_n 0, 1) := by decide +kernel
theorem d12_2 : decode jdk_52_method_15_code 2 = .ok (.arraylength, 1) := by decide +kernel
theorem d12_3 : decode jdk_52_method_15_code 3 = .ok (.isub, 1) := by decide +kernel
theorem d12_4 : decode jdk_52_method_15_code 4 = .ok (.bipush 31, 2) := by decide +kernel
theorem d12_6 : decode jdk_52_method_15_code 6 = .ok (.iushr, 1) := by decide +kernel
theorem d12_7 : decode jdk_52_method_15_code 7 = .ok (.i2b, 1) := by decide +kernel
theorem d12_8 : decode jdk_52_method_15_code 8 = .ok (.ireturn, 1) := by decide +kernel
theorem d13_0 : decode prog_4_method_1_code 0 = .ok (.aload_n 0, 1) := by decide +kernel
theorem d13_1 : decode prog_4_method_1_code 1 = .ok (.invokespecial 1, 3) := by decide +kernel
theorem d13_4 : decode prog_4_method_1_code 4 = .ok (.aload_n 0, 1) := by decide +kernel
theorem d13_5 : decode prog_4_method_1_code 5 = .ok (.aload_n 1, 1) := by decide +kernel
theorem d13_6 : decode prog_4_method_1_code 6 = .ok (.putfield 7, 3) := by decide +kernel
theorem d13_9 : decode prog_4_method_1_code 9 = .ok (.aload_n 0, 1) := by decide +kernel
theorem d13_10 : decode prog_4_method_1_code 10 = .ok (.aload_n 2, 1) := by decide +kernel
theorem d13_11 : decode prog_4_method_1_code 11 = .ok (.putfield 13, 3) := by decide +kernel
theorem d13_14 : decode prog_4_method_1_code 14 = .ok (.return_, 1) := by decide +kernel
theorem d14_0 : decode prog_4_method_4_code 0 = .ok (.aload_n 0, 1) := by decide +kernel
theorem d14_1 : decode prog_4_method_4_code 1 = .ok (.getfield 7, 3) := by decide +kernel
theorem d14_4 : decode prog_4_method_4_code 4 = .ok (.iconst 0, 1) := by decide +kernel
theorem d14_5 : decode prog_4_method_4_code 5 = .ok (.iload_n 1, 1) := by decide +kernel
theorem d14_6 : decode prog_4_method_4_code 6 = .ok (.invokevirtual 121, 3) := by decide +kernel
theorem d14_9 : decode prog_4_method_4_code 9 = .ok (.iconst 1, 1) := by decide +kernel
theorem d14_10 : decode prog_4_method_4_code 10 = .ok (.iadd, 1) := by decide +kernel
theorem d14_11 : decode prog_4_method_4_code 11 = .ok (.ireturn, 1) := by decide +kernel
theorem d15_0 : decode jdk_42_method_59_code 0 = .ok (.iload_n 1, 1) := by decide +kernel
theorem d15_1 : decode jdk_42_method_59_code 1 = .ok (.iload_n 2, 1) := by decide +kernel
theorem d15_2 : decode jdk_42_method_59_code 2 = .ok (.aload_n 0, 1) := by decide +kernel
theorem d15_3 : decode jdk_42_method_59_code 3 = .ok (.invokevirtual 505, 3) := by decide +kernel
theorem d15_6 : decode jdk_42_method_59_code 6 = .ok (.invokestatic 511, 3) := by decide +kernel
theorem d15_9 : decode jdk_42_method_59_code 9 = .ok (.pop, 1) := by decide +kernel
theorem d15_10 : decode jdk_42_method_59_code 10 = .ok (.aload_n 0, 1) := by decide +kernel
theorem d15_11 : decode jdk_42_method_59_code 11 = .ok (.invokevirtual 492, 3) := by decide +kernel
theorem d15_14 : decode jdk_42_method_59_code 14 = .ok (.ifCond .eq 7, 3) := by decide +kernel
theorem d15_17 : decode jdk_42_method_59_code 17 = .ok (.iload_n 2, 1) := by decide +kernel
theorem d15_18 : decode jdk_42_method_59_code 18 = .ok (.iload_n 1, 1) := by decide +kernel
theorem d15_19 : decode jdk_42_method_59_code 19 = .ok (.isub, 1) := by decide +kernel
theorem d15_20 : decode jdk_42_method_59_code 20 = .ok (.ireturn, 1) := by decide +kernel
theorem d15_21 : decode jdk_42_method_59_code 21 = .ok (.aload_n 0, 1) := by decide +kernel
theorem d15_22 : decode jdk_42_method_59_code 22 = .ok (.getfield 9, 3) := by decide +kernel
theorem d15_25 : decode jdk_42_method_59_code 25 = .ok (.iload_n 1, 1) := by decide +kernel
theorem d15_26 : decode jdk_42_method_59_code 26 = .ok (.iload_n 2, 1) := by decide +kernel
theorem d15_27 : decode jdk_42_method_59_code 27 = .ok (.invokestatic 514, 3) := by decide +kernel
theorem d15_30 : decode jdk_42_method_59_code 30 = .ok (.ireturn, 1) := by decide +kernel
theorem d16_0 : decode jdk_42_method_54_code 0 = .ok (.aload_n 0, 1) := by decide +kernel
theorem d16_1 : decode jdk_42_method_54_code 1 = .ok (.getfield 9, 3) := by decide +kernel
theorem d16_4 : decode jdk_42_method_54_code 4 = .ok (.arraylength, 1) := by decide +kernel
theorem d16_5 : decode jdk_42_method_54_code 5 = .ok (.aload_n 0, 1) := by decide +kernel
theorem d16_6 : decode jdk_42_method_54_code 6 = .ok (.invokevirtual 335, 3) := by decide +kernel
theorem d16_9 : decode jdk_42_method_54_code 9 = .ok (.ishr, 1) := by decide +kernel
theorem d16_10 : decode jdk_42_method_54_code 10 = .ok (.ireturn, 1) := by decide +kernel
theorem d17_0 : decode jdk_42_method_152_code 0 = .ok (.getstatic 38, 3) := by decide +kernel
theorem d17_3 : decode jdk_42_method_152_code 3 = .ok (.ifCond .eq 10, 3) := by decide +kernel
theorem d17_6 : decode jdk_42_method_152_code 6 = .ok (.aload_n 0, 1) := by decide +kernel
theorem d17_7 : decode jdk_42_method_152_code 7 = .ok (.getfield 15, 3) := by decide +kernel
theorem d17_10 : decode jdk_42_method_152_code 10 = .ok (.goto 4, 3) := by decide +kernel
theorem d17_13 : decode jdk_42_method_152_code 13 = .ok (.iconst 1, 1) := by decide +kernel
theorem d17_14 : decode jdk_42_method_152_code 14 = .ok (.ireturn, 1) := by decide +kernel
theorem d18_0 : decode jdk_31_method_18_code 0 = .ok (.iload_n 0, 1) := by decide +kernel
theorem d18_1 : decode jdk_31_method_18_code 1 = .ok (.iload_n 1, 1) := by decide +kernel
theorem d18_2 : decode jdk_31_method_18_code 2 = .ok (.iload_n 2, 1) := by decide +kernel
theorem d18_3 : decode jdk_31_method_18_code 3 = .ok (.aconst_null, 1) := by decide +kernel
theorem d18_4 : decode jdk_31_method_18_code 4 = .ok (.invokestatic 111, 3) := by decide +kernel
theorem d18_7 : decode jdk_31_method_18_code 7 = .ok (.ireturn, 1) := by decide +kernel
theorem d19_0 : decode jdk_41_method_12_code 0 = .ok (.iload_n 0, 1) := by decide +kernel
theorem d19_1 : decode jdk_41_method_12_code 1 = .ok (.ifCond .lt 13, 3) := by decide +kernel
theorem d19_4 : decode jdk_41_method_12_code 4 = .ok (.iload_n 0, 1) := by decide +kernel
theorem d19_5 : decode jdk_41_method_12_code 5 = .ok (.iload_n 1, 1) := by decide +kernel
theorem d19_6 : decode jdk_41_method_12_code 6 = .ok (.if_icmp .gt 8, 3) := by decide +kernel
theorem d19_9 : decode jdk_41_method_12_code 9 = .ok (.iload_n 1, 1) := by decide +kernel
theorem d19_10 : decode jdk_41_method_12_code 10 = .ok (.iload_n 2, 1) := by decide +kernel
theorem d19_11 : decode jdk_41_method_12_code 11 = .ok (.if_icmp .le 11, 3) := by decide +kernel
theorem d19_14 : decode jdk_41_method_12_code 14 = .ok (.aload_n 3, 1) := by decide +kernel
theorem d19_15 : decode jdk_41_method_12_code 15 = .ok (.iload_n 0, 1) := by decide +kernel
theorem d19_16 : decode jdk_41_method_12_code 16 = .ok (.iload_n 1, 1) := by decide +kernel
theorem d19_17 : decode jdk_41_method_12_code 17 = .ok (.iload_n 2, 1) := by decide +kernel
theorem d19_18 : decode jdk_41_method_12_code 18 = .ok (.invokestatic 99, 3) := by decide +kernel
theorem d19_21 : decode jdk_41_method_12_code 21 = .ok (.athrow, 1) := by decide +kernel
theorem d19_22 : decode jdk_41_method_12_code 22 = .ok (.iload_n 0, 1) := by decide +kernel
theorem d19_23 : decode jdk_41_method_12_code 23 = .ok (.ireturn, 1) := by decide +kernel
theorem d20_0 : decode jdk_42_method_154_code 0 = .ok (.getstatic 38, 3) := by decide +kernel
theorem d20_3 : decode jdk_42_method_154_code 3 = .ok (.ifCond .eq 14, 3) := by decide +kernel
theorem d20_6 : decode jdk_42_method_154_code 6 = .ok (.aload_n 0, 1) := by decide +kernel
theorem d20_7 : decode jdk_42_method_154_code 7 = .ok (.getfield 15, 3) := by decide +kernel
theorem d20_10 : decode jdk_42_method_154_code 10 = .ok (.ifCond .ne 7, 3) := by decide +kernel
theorem d20_13 : decode jdk_42_method_154_code 13 = .ok (.iconst 1, 1) := by decide +kernel
theorem d20_14 : decode jdk_42_method_154_code 14 = .ok (.goto 4, 3) := by decide +kernel
theorem d20_17 : decode jdk_42_method_154_code 17 = .ok (.iconst 0, 1) := by decide +kernel
theorem d20_18 : decode jdk_42_method_154_code 18 = .ok (.ireturn, 1) := by decide +kernel
theorem d21_0 : decode jdk_52_method_12_code 0 = .ok (.aload_n 0, 1) := by decide +kernel
theorem d21_1 : decode jdk_52_method_12_code 1 = .ok (.iload_n 1, 1) := by decide +kernel
theorem d21_2 : decode jdk_52_method_12_code 2 = .ok (.iload_n 2, 1) := by decide +kernel
theorem d21_3 : decode jdk_52_method_12_code 3 = .ok (.iconst 0, 1) := by decide +kernel
theorem d21_4 : decode jdk_52_method_12_code 4 = .ok (.invokestatic 100, 3) := by decide +kernel
theorem d21_7 : decode jdk_52_method_12_code 7 = .ok (.ireturn, 1) := by decide +kernel
theorem d22_0 : decode jdk_52_method_11_code 0 = .ok (.getstatic 44, 3) := by decide +kernel
theorem d22_3 : decode jdk_52_method_11_code 3 = .ok (.ifCond .ne 16, 3) := by decide +kernel
theorem d22_6 : decode jdk_52_method_11_code 6 = .ok (.iload_n 1, 1) := by decide +kernel
theorem d22_7 : decode jdk_52_method_11_code 7 = .ok (.iload_n 2, 1) := by decide +kernel
theorem d22_8 : decode jdk_52_method_11_code 8 = .ok (.if_icmp .le 11, 3) := by decide +kernel
theorem d22_11 : decode jdk_52_method_11_code 11 = .ok (.new 52, 3) := by decide +kernel
theorem d22_14 : decode jdk_52_method_11_code 14 = .ok (.dup, 1) := by decide +kernel
theorem d22_15 : decode jdk_52_method_11_code 15 = .ok (.invokespecial 66, 3) := by decide +kernel
theorem d22_18 : decode jdk_52_method_11_code 18 = .ok (.athrow, 1) := by decide +kernel
theorem d22_19 : decode jdk_52_method_11_code 19 = .ok (.iload_n 2, 1) := by decide +kernel
theorem d22_20 : decode jdk_52_method_11_code 20 = .ok (.iload_n 1, 1) := by decide +kernel
theorem d22_21 : decode jdk_52_method_11_code 21 = .ok (.isub, 1) := by decide +kernel
theorem d22_22 : decode jdk_52_method_11_code 22 = .ok (.istore 4, 2) := by decide +kernel
theorem d22_24 : decode jdk_52_method_11_code 24 = .ok (.iload_n 1, 1) := by decide +kernel
theorem d22_25 : decode jdk_52_method_11_code 25 = .ok (.istore 5, 2) := by decide +kernel
theorem d22_27 : decode jdk_52_method_11_code 27 = .ok (.iload_n 3, 1) := by decide +kernel
theorem d22_28 : decode jdk_52_method_11_code 28 = .ok (.ifCond .eq 16, 3) := by decide +kernel
theorem d22_31 : decode jdk_52_method_11_code 31 = .ok (.iload 5, 2) := by decide +kernel
theorem d22_33 : decode jdk_52_method_11_code 33 = .ok (.iload_n 2, 1) := by decide +kernel
theorem d22_34 : decode jdk_52_method_11_code 34 = .ok (.if_icmp .ge 10, 3) := by decide +kernel
theorem d22_37 : decode jdk_52_method_11_code 37 = .ok (.iload 5, 2) := by decide +kernel
theorem d22_39 : decode jdk_52_method_11_code 39 = .ok (.iload_n 2, 1) := by decide +kernel
theorem d22_40 : decode jdk_52_method_11_code 40 = .ok (.aload_n 0, 1) := by decide +kernel
theorem d22_41 : decode jdk_52_method_11_code 41 = .ok (.invokestatic 96, 3) := by decide +kernel
theorem d22_44 : decode jdk_52_method_11_code 44 = .ok (.iload 5, 2) := by decide +kernel
theorem d22_46 : decode jdk_52_method_11_code 46 = .ok (.iload_n 2, 1) := by decide +kernel
theorem d22_47 : decode jdk_52_method_11_code 47 = .ok (.iconst 1, 1) := by decide +kernel
theorem d22_48 : decode jdk_52_method_11_code 48 = .ok (.isub, 1) := by decide +kernel
theorem d22_49 : decode jdk_52_method_11_code 49 = .ok (.if_icmp .ge 39, 3) := by decide +kernel
theorem d22_52 : decode jdk_52_method_11_code 52 = .ok (.aload_n 0, 1) := by decide +kernel
theorem d22_53 : decode jdk_52_method_11_code 53 = .ok (.iload 5, 2) := by decide +kernel
theorem d22_55 : decode jdk_52_method_11_code 55 = .ok (.iinc 5 1, 3) := by decide +kernel
theorem d22_58 : decode jdk_52_method_11_code 58 = .ok (.invokestatic 71, 3) := by decide +kernel
theorem d22_61 : decode jdk_52_method_11_code 61 = .ok (.invokestatic 75, 3) := by decide +kernel
theorem d22_64 : decode jdk_52_method_11_code 64 = .ok (.ifCond .eq (-20), 3) := by decide +kernel
theorem d22_67 : decode jdk_52_method_11_code 67 = .ok (.aload_n 0, 1) := by decide +kernel
theorem d22_68 : decode jdk_52_method_11_code 68 = .ok (.iload 5, 2) := by decide +kernel
theorem d22_70 : decode jdk_52_method_11_code 70 = .ok (.invokestatic 71, 3) := by decide +kernel
theorem d22_73 : decode jdk_52_method_11_code 73 = .ok (.invokestatic 81, 3) := by decide +kernel
theorem d22_76 : decode jdk_52_method_11_code 76 = .ok (.ifCond .eq (-32), 3) := by decide +kernel
theorem d22_79 : decode jdk_52_method_11_code 79 = .ok (.iinc 4 (-1), 3) := by decide +kernel
theorem d22_82 : decode jdk_52_method_11_code 82 = .ok (.iinc 5 1, 3) := by decide +kernel
theorem d22_85 : decode jdk_52_method_11_code 85 = .ok (.goto (-41), 3) := by decide +kernel
theorem d22_88 : decode jdk_52_method_11_code 88 = .ok (.iload 4, 2) := by decide +kernel
theorem d22_90 : decode jdk_52_method_11_code 90 = .ok (.ireturn, 1) := by decide +kernel
theorem d23_0 : decode jdk_89_method_14_code 0 = .ok (.iload_n 0, 1) := by decide +kernel
theorem d23_1 : decode jdk_89_method_14_code 1 = .ok (.ldc 75, 2) := by decide +kernel
theorem d23_3 : decode jdk_89_method_14_code 3 = .ok (.if_icmp .lt 13, 3) := by decide +kernel
theorem d23_6 : decode jdk_89_method_14_code 6 = .ok (.iload_n 0, 1) := by decide +kernel
theorem d23_7 : decode jdk_89_method_14_code 7 = .ok (.ldc 76, 2) := by decide +kernel
theorem d23_9 : decode jdk_89_method_14_code 9 = .ok (.if_icmp .ge 7, 3) := by decide +kernel
theorem d23_12 : decode jdk_89_method_14_code 12 = .ok (.iconst 1, 1) := by decide +kernel
theorem d23_13 : decode jdk_89_method_14_code 13 = .ok (.goto 4, 3) := by decide +kernel
theorem d23_16 : decode jdk_89_method_14_code 16 = .ok (.iconst 0, 1) := by decide +kernel
theorem d23_17 : decode jdk_89_method_14_code 17 = .ok (.ireturn, 1) := by decide +kernel
theorem d24_0 : decode method_3_code 0 = .ok (.iload_n 0, 1) := by decide +kernel
theorem d24_1 : decode method_3_code 1 = .ok (.ldc 7, 2) := by decide +kernel
theorem d24_3 : decode method_3_code 3 = .ok (.if_icmp .lt 25, 3) := by decide +kernel
theorem d24_6 : decode method_3_code 6 = .ok (.iload_n 0, 1) := by decide +kernel
theorem d24_7 : decode method_3_code 7 = .ok (.ldc 9, 2) := by decide +kernel
theorem d24_9 : decode method_3_code 9 = .ok (.if_icmp .gt 19, 3) := by decide +kernel
theorem d24_12 : decode method_3_code 12 = .ok (.iload_n 1, 1) := by decide +kernel
theorem d24_13 : decode method_3_code 13 = .ok (.ldc 8, 2) := by decide +kernel
theorem d24_15 : decode method_3_code 15 = .ok (.if_icmp .lt 13, 3) := by decide +kernel
theorem d24_18 : decode method_3_code 18 = .ok (.iload_n 1, 1) := by decide +kernel
theorem d24_19 : decode method_3_code 19 = .ok (.ldc 10, 2) := by decide +kernel
theorem d24_21 : decode method_3_code 21 = .ok (.if_icmp .gt 7, 3) := by decide +kernel
theorem d24_24 : decode method_3_code 24 = .ok (.iconst 1, 1) := by decide +kernel
theorem d24_25 : decode method_3_code 25 = .ok (.goto 4, 3) := by decide +kernel
theorem d24_28 : decode method_3_code 28 = .ok (.iconst 0, 1) := by decide +kernel
theorem d24_29 : decode method_3_code 29 = .ok (.ireturn, 1) := by decide +kernel
theorem d25_0 : decode jdk_89_method_15_code 0 = .ok (.iload_n 0, 1) := by decide +kernel
theorem d25_1 : decode jdk_89_method_15_code 1 = .ok (.ldc 76, 2) := by decide +kernel
theorem d25_3 : decode jdk_89_method_15_code 3 = .ok (.if_icmp .lt 13, 3) := by decide +kernel
theorem d25_6 : decode jdk_89_method_15_code 6 = .ok (.iload_n 0, 1) := by decide +kernel
theorem d25_7 : decode jdk_89_method_15_code 7 = .ok (.ldc 77, 2) := by decide +kernel
theorem d25_9 : decode jdk_89_method_15_code 9 = .ok (.if_icmp .ge 7, 3) := by decide +kernel
theorem d25_12 : decode jdk_89_method_15_code 12 = .ok (.iconst 1, 1) := by decide +kernel
theorem d25_13 : decode jdk_89_method_15_code 13 = .ok (.goto 4, 3) := by decide +kernel
theorem d25_16 : decode jdk_89_method_15_code 16 = .ok (.iconst 0, 1) := by decide +kernel
theorem d25_17 : decode jdk_89_method_15_code 17 = .ok (.ireturn, 1) := by decide +kernel
theorem pd1 : parseMethodDescriptor "(IIIII)Z" = some ⟨[.int, .int, .int, .int, .int], some .boolean⟩ := by decide +kernel
theorem pd2 : parseMethodDescriptor "(I)C" = some ⟨[.int], some .char⟩ := by decide +kernel
theorem pd3 : parseMethodDescriptor "([C)V" = some ⟨[(.array .char)], none⟩ := by decide +kernel
theorem pd4 : parseMethodDescriptor "([CIILjava/lang/Void;)V" = some ⟨[(.array .char), .int, .int, (.object "java/lang/Void")], none⟩ := by decide +kernel
theorem pd5 : parseMethodDescriptor "()V" = some ⟨[], none⟩ := by decide +kernel
theorem pd6 : parseMethodDescriptor "([CII)[B" = some ⟨[(.array .char), .int, .int], (some (.array .byte))⟩ := by decide +kernel
theorem pd7 : parseMethodDescriptor "([CI[BII)I" = some ⟨[(.array .char), .int, (.array .byte), .int, .int], some .int⟩ := by decide +kernel
theorem pd8 : parseMethodDescriptor "(I)[B" = some ⟨[.int], (some (.array .byte))⟩ := by decide +kernel
theorem pd9 : parseMethodDescriptor "(I)I" = some ⟨[.int], some .int⟩ := by decide +kernel
theorem pd10 : parseMethodDescriptor "([BII)V" = some ⟨[(.array .byte), .int, .int], none⟩ := by decide +kernel
theorem pd11 : parseMethodDescriptor "([BI)C" = some ⟨[(.array .byte), .int], some .char⟩ := by decide +kernel
theorem pd12 : parseMethodDescriptor "([BI)B" = some ⟨[(.array .byte), .int], some .byte⟩ := by decide +kernel
theorem pd13 : parseMethodDescriptor "(Ljava/lang/String;Ljava/lang/String;)V" = some ⟨[(.object "java/lang/String"), (.object "java/lang/String")], none⟩ := by decide +kernel
theorem pd14 : parseMethodDescriptor "(II)I" = some ⟨[.int, .int], some .int⟩ := by decide +kernel
theorem pd15 : parseMethodDescriptor "()I" = some ⟨[], some .int⟩ := by decide +kernel
theorem pd16 : parseMethodDescriptor "()B" = some ⟨[], some .byte⟩ := by decide +kernel
theorem pd17 : parseMethodDescriptor "(III)I" = some ⟨[.int, .int, .int], some .int⟩ := by decide +kernel
theorem pd18 : parseMethodDescriptor "(IIILjava/util/function/BiFunction;)I" = some ⟨[.int, .int, .int, (.object "java/util/function/BiFunction")], some .int⟩ := by decide +kernel
theorem pd19 : parseMethodDescriptor "()Z" = some ⟨[], some .boolean⟩ := by decide +kernel
theorem pd20 : parseMethodDescriptor "([BII)I" = some ⟨[(.array .byte), .int, .int], some .int⟩ := by decide +kernel
theorem pd21 : parseMethodDescriptor "([BIIZ)I" = some ⟨[(.array .byte), .int, .int, .boolean], some .int⟩ := by decide +kernel
theorem pd22 : parseMethodDescriptor "(C)Z" = some ⟨[.char], some .boolean⟩ := by decide +kernel
theorem pd23 : parseMethodDescriptor "(CC)Z" = some ⟨[.char, .char], some .boolean⟩ := by decide +kernel
/-- the statics of StringUTF16 that its bodies read -/
def own_A16 (Z : State) : Prop := Sta Z Z.heap "java/lang/StringUTF16" "$assertionsDisabled" "Z" (.int 1) ∧ Sta Z Z.heap "java/lang/StringUTF16" "HI_BYTE_SHIFT" "I" (.int 0) ∧ Sta Z Z.heap "java/lang/StringUTF16" "LO_BYTE_SHIFT" "I" (.int 8)
theorem own_inj32 {i n : Nat} (hi : i < 2 ^ 31) (hn : n < 2 ^ 31) (h : Int32.ofNat i = Int32.ofNat n) : i = n := by
  have q := congrArg Int32.toInt h
  rw [Int32.toInt_ofNat_of_lt hi, Int32.toInt_ofNat_of_lt hn] at q
  exact Int.ofNat.inj q
theorem pn1 : plainName "java/lang/StringUTF16" = true := by first | (simp [plainName, overriddenIn]; done) | decide +kernel
def Q9 (Z : State) (n : Nat) (h0 : Heap) (n0 : Nat) (v : Option Value) (h : Heap) (L : List Loc) : Prop := v = some (.int (Int32.ofNat (2 * n))) ∧ Fr n0 L ∧ h0 = h
set_option maxRecDepth 65536 in
set_option maxHeartbeats 40000000 in
theorem rm9 (l : Launch) (Z : State) (a0 : Array Value) (hw : ∀ d ∈ tables_1, d.before a0 Z = true) (ws : List Jvm.Cond) (n : Nat) (h0 : Heap) (n0 : Nat) (Z0 : n0 ≤ h0.size) (hn : n ≤ 1000) :
    MetFree l (⟨"java/lang/StringUTF16", "newBytesLength", "(I)I"⟩ : MethodName) (head1 (Jvm.Cond.code (⟨"java/lang/StringUTF16", "newBytesLength", "(I)I"⟩ : MethodName) jdk_52_method_3_code 1 (some .int) :: ws) ({ frames := 0, cells := 0, slots := 0, locals := 0 } : Room)) (fun aa_ U => aa_ = #[(.int (Int32.ofNat n))] ∧ Z.Warmed39 U.vm ∧ U.heap = h0) (fun _ _ _ _ _ => True) (fun _ U o U' => ∃ v L, o = .returned v ∧ Q9 Z n h0 n0 v U'.heap L ∧ FrameEnd U o U' L ({ frames := 0, cells := 0, slots := 0, locals := 0 } : Room).cells ({ frames := 0, cells := 0, slots := 0, locals := 0 } : Room).slots) := by
  refine MetFree.of_bodySF (plainFor_of_name pn1) hisR ?_
  intro p e s m args below meth c s₁ Bd hml0 hP hK
  obtain ⟨rfl, hZ, hh⟩ := hP
  have hx := Bd.exec
  have hby := Bd.bytes
  have hml : c.maxLocals = 1 := hml0
  have hown : s.vm.findClass "java/lang/StringUTF16" = some m.cls := findClass_of_methodNamed Bd.named
  have hnm := (name_of_methodNamed Bd.named Bd.method).1
  have X0 : Stand p l e ({ frames := 0, cells := 0, slots := 0, locals := 0 } : Room) s m #[(.int (Int32.ofNat n))] below meth c s₁ [] 0 0 := Stand.of_body Bd
  have e0 : s₁.heap = h0 := by rw [← hh, Bd.state]; rfl
  have N0 := Fr.nil n0
  obtain ⟨G, hG⟩ : ∃ G, G = entryFrame m #[(.int (Int32.ofNat n))] 1 := ⟨_, rfl⟩
  have S0 : own_Go p e below s₁ G s₁ (mkF m 0 #[.val (.int (Int32.ofNat n))] []) := fun tg_ kk_ => castTop (by rw [hG]; first | rfl | simp [entryFrame, mkF, argsToLocals, Value.category, maxLocals]) kk_
  have S1 : own_Go p e below s₁ G s₁ (mkF m 58 #[.val (.int (Int32.ofNat n))] [(.int ((Int32.ofNat n) <<< ((1 : Int32) &&& 31)))]) := fun tg_ kk_ => S0 tg_ (by
    refine XS.iloadN X0.here hx rfl (hb hby d9_0) rfl ?_
    show Steps p.tables e below (s₁.setTop (mkF m 1 #[.val (.int (Int32.ofNat n))] [(.int (Int32.ofNat n))])) _
    refine XS.ifYes X0.here hx rfl (pc0 := 1) (pc' := 12) rfl (hb hby d9_1) rfl (XT.i0_ge_t (own_nn32 (by omega))) (by decide) (by decide) ?_
    show Steps p.tables e below (s₁.setTop (mkF m 12 #[.val (.int (Int32.ofNat n))] [])) _
    refine XS.iloadN X0.here hx rfl (hb hby d9_12) rfl ?_
    show Steps p.tables e below (s₁.setTop (mkF m 13 #[.val (.int (Int32.ofNat n))] [(.int (Int32.ofNat n))])) _
    refine X0.ldcInt hx hown (mvT hZ (hw _ (List.mem_of_getElem? (i := 38) rfl))) (g := (mkF m 13 #[.val (.int (Int32.ofNat n))] [(.int (Int32.ofNat n))])) rfl (hb hby d9_13) _ ?_
    show Steps p.tables e below (s₁.setTop (mkF m 15 #[.val (.int (Int32.ofNat n))] [(.int (1073741823 : Int32)), (.int (Int32.ofNat n))])) _
    refine XS.icmpYes X0.here hx rfl (pc0 := 15) (pc' := 55) rfl (hb hby d9_15) rfl (tlt (own_lt32 (i := n) (n := 1073741823) (by omega) (by decide))).1 (by decide) (by decide) ?_
    show Steps p.tables e below (s₁.setTop (mkF m 55 #[.val (.int (Int32.ofNat n))] [])) _
    refine XS.iloadN X0.here hx rfl (hb hby d9_55) rfl ?_
    show Steps p.tables e below (s₁.setTop (mkF m 56 #[.val (.int (Int32.ofNat n))] [(.int (Int32.ofNat n))])) _
    refine XS.iconst X0.here hx rfl (hb hby d9_56) ?_
    show Steps p.tables e below (s₁.setTop (mkF m 57 #[.val (.int (Int32.ofNat n))] [(.int (1 : Int32)), (.int (Int32.ofNat n))])) _
    refine XT.ishl X0.here hx rfl (hb hby d9_57) rfl ?_
    exact kk_)
  rw [own_shl1 (by omega)] at S1
  obtain ⟨fs, hr, hrun, hended, hW, hsame⟩ := X0.leave (v := some (.int (Int32.ofNat (2 * n)))) (fun h => by rw [Bd.returns] at h; cases h)
  refine ⟨_, _, ?_, hrun, hended, _, _, rfl, ?_, ⟨_, rfl⟩, hW, hsame.mono (by decide) (by decide)⟩
  · rw [← hG]; exact S1 _ (retI X0 hx Bd.returns (hb hby d9_58) hr)
  · show Q9 Z n h0 n0 _ s₁.heap _
    rw [e0]
    exact ⟨rfl, N0, rfl⟩
def Q8 (Z : State) (n : Nat) (h0 : Heap) (n0 : Nat) (v : Option Value) (h : Heap) (L : List Loc) : Prop := v = some (.ref h0.size) ∧ Fr n0 L ∧ Ext h0 h ∧ ∃ k, Arv Z h h0.size k .byte (Int32.ofNat (2 * n)) [] (.int 0)
set_option maxRecDepth 65536 in
set_option maxHeartbeats 40000000 in
theorem rm8 (l : Launch) (Z : State) (a0 : Array Value) (hw : ∀ d ∈ tables_1, d.before a0 Z = true) (ws : List Jvm.Cond) (n : Nat) (h0 : Heap) (n0 : Nat) (Z0 : n0 ≤ h0.size) (hn : n ≤ 4) :
    MetFree l (⟨"java/lang/StringUTF16", "newBytesFor", "(I)[B"⟩ : MethodName) (head1 (Jvm.Cond.code (⟨"java/lang/StringUTF16", "newBytesFor", "(I)[B"⟩ : MethodName) jdk_52_method_2_code 1 (some (.array .byte)) :: ws) ({ frames := 1, cells := 1, slots := 8, locals := 12 } : Room)) (fun aa_ U => aa_ = #[(.int (Int32.ofNat n))] ∧ Z.Warmed39 U.vm ∧ U.heap = h0) (fun _ _ _ _ _ => True) (fun _ U o U' => ∃ v L, o = .returned v ∧ Q8 Z n h0 n0 v U'.heap L ∧ FrameEnd U o U' L ({ frames := 1, cells := 1, slots := 8, locals := 12 } : Room).cells ({ frames := 1, cells := 1, slots := 8, locals := 12 } : Room).slots) := by
  refine MetFree.of_bodySF (plainFor_of_name pn1) hisR ?_
  intro p e s m args below meth c s₁ Bd hml0 hP hK
  obtain ⟨rfl, hZ, hh⟩ := hP
  have hx := Bd.exec
  have hby := Bd.bytes
  have hml : c.maxLocals = 1 := hml0
  have hown : s.vm.findClass "java/lang/StringUTF16" = some m.cls := findClass_of_methodNamed Bd.named
  have hnm := (name_of_methodNamed Bd.named Bd.method).1
  have X0 : Stand p l e ({ frames := 1, cells := 1, slots := 8, locals := 12 } : Room) s m #[(.int (Int32.ofNat n))] below meth c s₁ [] 0 0 := Stand.of_body Bd
  have e0 : s₁.heap = h0 := by rw [← hh, Bd.state]; rfl
  have N0 := Fr.nil n0
  obtain ⟨G, hG⟩ : ∃ G, G = entryFrame m #[(.int (Int32.ofNat n))] 1 := ⟨_, rfl⟩
  have S0 : own_Go p e below s₁ G s₁ (mkF m 0 #[.val (.int (Int32.ofNat n))] []) := fun tg_ kk_ => castTop (by rw [hG]; first | rfl | simp [entryFrame, mkF, argsToLocals, Value.category, maxLocals]) kk_
  have S2 : own_Go p e below s₁ G s₁ (mkF m 1 #[.val (.int (Int32.ofNat n))] [(.int (Int32.ofNat n))]) := fun tg_ kk_ => S0 tg_ (by
    refine XS.iloadN X0.here hx rfl (hb hby d8_0) rfl ?_
    exact kk_)
  obtain ⟨_, T3, h3, L3, X3, e3, hQ3, st3⟩ := own_callS X0 hx hZ (y := (⟨"java/lang/StringUTF16", "newBytesLength", "(I)I"⟩ : MethodName)) hown (hw _ (List.mem_of_getElem? (i := 35) rfl)) (hw _ (List.mem_of_getElem? (i := 36) rfl)) (hw _ (List.mem_of_getElem? (i := 23) rfl)) (hw _ (List.mem_of_getElem? (i := 37) rfl)) (by decide) 0 (g := (mkF m 1 #[.val (.int (Int32.ofNat n))] [(.int (Int32.ofNat n))])) rfl (by rw [hml]; rfl) [(.int (Int32.ofNat n))] [] (rm9 l Z a0 hw [] n h0 n0 Z0 (by omega)) (lenOf pd9 rfl) rfl (by show 2 * 0 + _ ≤ _; exact Nat.le_of_eq rfl) (hb hby d8_1) (by decide) (by decide) e0 (by decide) (by decide)
  obtain ⟨rfl, N3, rfl⟩ := hQ3
  have S4 : own_Go p e below s₁ G T3 (mkF m 4 #[.val (.int (Int32.ofNat n))] [(.int (Int32.ofNat (2 * n)))]) := fun tg_ kk_ => S2 tg_ (st3 tg_ kk_)
  have M1 := Fr.app N0 N3
  obtain ⟨Tp1, hp1, kp1, Xp1, ep1, Ep1, Ap1, stp1⟩ := newP X3 hx hZ (hw _ (List.mem_of_getElem? (i := 25) rfl)) e3 (g := (mkF m 4 #[.val (.int (Int32.ofNat n))] [(.int (Int32.ofNat (2 * n)))])) rfl (hb hby d8_4) rfl (own_nn32 (by omega)) (cap := 8) (by rw [own_n32 (by omega)]; omega) (by decide) (by decide) (by decide)
  have S5 : own_Go p e below s₁ G Tp1 (mkF m 6 #[.val (.int (Int32.ofNat n))] [(.ref h0.size)]) := fun tg_ kk_ => S4 tg_ (stp1 tg_ kk_)
  obtain ⟨fs, hr, hrun, hended, hW, hsame⟩ := Xp1.leave (v := some (.ref h0.size)) (fun h => by rw [Bd.returns] at h; cases h)
  refine ⟨_, _, ?_, hrun, hended, _, _, rfl, ?_, ⟨_, rfl⟩, hW, hsame.mono (by decide) (by decide)⟩
  · rw [← hG]; exact S5 _ (retOut Xp1 hx Bd.returns (by first | rfl | cases (.ref h0.size) <;> rfl) (Or.inr (Or.inr (Or.inr (Or.inr ⟨rfl, rfl, rfl⟩)))) (hb hby d8_6) hr)
  · show Q8 Z n h0 n0 _ Tp1.heap _
    rw [ep1]
    exact ⟨rfl, M1, Ep1, kp1, Arv.new Ap1 (own_nn32 (by omega))⟩
def Q10 (Z : State) (d : Addr) (i : Nat) (c0 : Int32) (kd : ClassId) (M : Nat) (vs : List Value) (h0 : Heap) (n0 : Nat) (v : Option Value) (h : Heap) (L : List Loc) : Prop := v = none ∧ Fr n0 L ∧ Keep h0 h [d] ∧ Arv Z h d kd .byte (Int32.ofNat M) (vs ++ [.int (own_lo c0), .int (own_hi c0)]) (.int 0)
set_option maxRecDepth 65536 in
set_option maxHeartbeats 40000000 in
theorem rm10 (l : Launch) (Z : State) (a0 : Array Value) (hw : ∀ d ∈ tables_1, d.before a0 Z = true) (ws : List Jvm.Cond) (d : Addr) (i : Nat) (c0 : Int32) (kd : ClassId) (M : Nat) (vs : List Value) (h0 : Heap) (n0 : Nat) (Z0 : n0 ≤ h0.size) (V : Arv Z h0 d kd .byte (Int32.ofNat M) vs (.int 0)) (hv : vs.length = 2 * i) (hM : 2 * i + 1 < M) (hM2 : M ≤ 2000) (hd0 : n0 ≤ d) (O : Old Z n0 h0) (A16 : own_A16 Z) :
    MetFree l (⟨"java/lang/StringUTF16", "putChar", "([BII)V"⟩ : MethodName) (head1 (Jvm.Cond.code (⟨"java/lang/StringUTF16", "putChar", "([BII)V"⟩ : MethodName) jdk_52_method_4_code 3 none :: ws) ({ frames := 0, cells := 0, slots := 0, locals := 0 } : Room)) (fun aa_ U => aa_ = #[(.ref d), (.int (Int32.ofNat i)), (.int c0)] ∧ Z.Warmed39 U.vm ∧ U.heap = h0) (fun _ _ _ _ _ => True) (fun _ U o U' => ∃ v L, o = .returned v ∧ Q10 Z d i c0 kd M vs h0 n0 v U'.heap L ∧ FrameEnd U o U' L ({ frames := 0, cells := 0, slots := 0, locals := 0 } : Room).cells ({ frames := 0, cells := 0, slots := 0, locals := 0 } : Room).slots) := by
  refine MetFree.of_bodySF (plainFor_of_name pn1) hisR ?_
  intro p e s m args below meth c s₁ Bd hml0 hP hK
  obtain ⟨rfl, hZ, hh⟩ := hP
  have hx := Bd.exec
  have hby := Bd.bytes
  have hml : c.maxLocals = 3 := hml0
  have hown : s.vm.findClass "java/lang/StringUTF16" = some m.cls := findClass_of_methodNamed Bd.named
  have hnm := (name_of_methodNamed Bd.named Bd.method).1
  have X0 : Stand p l e ({ frames := 0, cells := 0, slots := 0, locals := 0 } : Room) s m #[(.ref d), (.int (Int32.ofNat i)), (.int c0)] below meth c s₁ [] 0 0 := Stand.of_body Bd
  have e0 : s₁.heap = h0 := by rw [← hh, Bd.state]; rfl
  have N0 := Fr.nil n0
  obtain ⟨G, hG⟩ : ∃ G, G = entryFrame m #[(.ref d), (.int (Int32.ofNat i)), (.int c0)] 3 := ⟨_, rfl⟩
  have S0 : own_Go p e below s₁ G s₁ (mkF m 0 #[.val (.ref d), .val (.int (Int32.ofNat i)), .val (.int c0)] []) := fun tg_ kk_ => castTop (by rw [hG]; first | rfl | simp [entryFrame, mkF, argsToLocals, Value.category, maxLocals]) kk_
  obtain ⟨T6, X6, e6, st6⟩ := getS X0 hx hZ (host := "") hown (hw _ (List.mem_of_getElem? (i := 42) rfl)) Via.refl e0 (A16.1.ext O.2) (g := (mkF m 0 #[.val (.ref d), .val (.int (Int32.ofNat i)), .val (.int c0)] [])) rfl (hb hby d10_0)
  have S7 : own_Go p e below s₁ G T6 (mkF m 3 #[.val (.ref d), .val (.int (Int32.ofNat i)), .val (.int c0)] [(.int (1 : Int32))]) := fun tg_ kk_ => S0 tg_ (st6 tg_ kk_)
  have S8 : own_Go p e below s₁ G T6 (mkF m 31 #[.val (.ref d), .val (.int (Int32.ofNat i)), .val (.int c0)] [(.int ((Int32.ofNat i) <<< ((1 : Int32) &&& 31)))]) := fun tg_ kk_ => S7 tg_ (by
    refine XS.ifYes X6.here hx rfl (pc0 := 3) (pc' := 28) rfl (hb hby d10_3) rfl (by decide) (by decide) (by decide) ?_
    show Steps p.tables e below (T6.setTop (mkF m 28 #[.val (.ref d), .val (.int (Int32.ofNat i)), .val (.int c0)] [])) _
    refine XS.iloadN X6.here hx rfl (hb hby d10_28) rfl ?_
    show Steps p.tables e below (T6.setTop (mkF m 29 #[.val (.ref d), .val (.int (Int32.ofNat i)), .val (.int c0)] [(.int (Int32.ofNat i))])) _
    refine XS.iconst X6.here hx rfl (hb hby d10_29) ?_
    show Steps p.tables e below (T6.setTop (mkF m 30 #[.val (.ref d), .val (.int (Int32.ofNat i)), .val (.int c0)] [(.int (1 : Int32)), (.int (Int32.ofNat i))])) _
    refine XT.ishl X6.here hx rfl (hb hby d10_30) rfl ?_
    exact kk_)
  rw [own_shl1 (by omega)] at S8
  have S9 : own_Go p e below s₁ G T6 (mkF m 38 #[.val (.ref d), .val (.int ((Int32.ofNat (2 * i)) + (1 : Int32))), .val (.int c0)] [(.int c0), (.int (Int32.ofNat (2 * i))), (.ref d)]) := fun tg_ kk_ => S8 tg_ (by
    refine XS.istoreN X6.here hx rfl (hb hby d10_31) rfl (l' := #[.val (.ref d), .val (.int (Int32.ofNat (2 * i))), .val (.int c0)]) rfl ?_
    show Steps p.tables e below (T6.setTop (mkF m 32 #[.val (.ref d), .val (.int (Int32.ofNat (2 * i))), .val (.int c0)] [])) _
    refine XS.aloadN X6.here hx rfl (hb hby d10_32) rfl rfl ?_
    show Steps p.tables e below (T6.setTop (mkF m 33 #[.val (.ref d), .val (.int (Int32.ofNat (2 * i))), .val (.int c0)] [(.ref d)])) _
    refine XS.iloadN X6.here hx rfl (hb hby d10_33) rfl ?_
    show Steps p.tables e below (T6.setTop (mkF m 34 #[.val (.ref d), .val (.int (Int32.ofNat (2 * i))), .val (.int c0)] [(.int (Int32.ofNat (2 * i))), (.ref d)])) _
    refine XS.iinc X6.here hx rfl (hb hby d10_34) rfl (l' := #[.val (.ref d), .val (.int ((Int32.ofNat (2 * i)) + (1 : Int32))), .val (.int c0)]) rfl ?_
    show Steps p.tables e below (T6.setTop (mkF m 37 #[.val (.ref d), .val (.int ((Int32.ofNat (2 * i)) + (1 : Int32))), .val (.int c0)] [(.int (Int32.ofNat (2 * i))), (.ref d)])) _
    refine XS.iloadN X6.here hx rfl (hb hby d10_37) rfl ?_
    exact kk_)
  rw [own_suc] at S9
  obtain ⟨T10, X10, e10, st10⟩ := getS X6 hx hZ (host := "") hown (hw _ (List.mem_of_getElem? (i := 43) rfl)) Via.refl e6 (A16.2.1.ext O.2) (g := (mkF m 38 #[.val (.ref d), .val (.int (Int32.ofNat (2 * i + 1))), .val (.int c0)] [(.int c0), (.int (Int32.ofNat (2 * i))), (.ref d)])) rfl (hb hby d10_38)
  have S11 : own_Go p e below s₁ G T10 (mkF m 41 #[.val (.ref d), .val (.int (Int32.ofNat (2 * i + 1))), .val (.int c0)] [(.int (0 : Int32)), (.int c0), (.int (Int32.ofNat (2 * i))), (.ref d)]) := fun tg_ kk_ => S9 tg_ (st10 tg_ kk_)
  have S12 : own_Go p e below s₁ G T10 (mkF m 43 #[.val (.ref d), .val (.int (Int32.ofNat (2 * i + 1))), .val (.int c0)] [(.int ((c0 >>> ((0 : Int32) &&& 31)).toInt8.toInt32)), (.int (Int32.ofNat (2 * i))), (.ref d)]) := fun tg_ kk_ => S11 tg_ (by
    refine XT.ishr X10.here hx rfl (hb hby d10_41) rfl ?_
    show Steps p.tables e below (T10.setTop (mkF m 42 #[.val (.ref d), .val (.int (Int32.ofNat (2 * i + 1))), .val (.int c0)] [(.int (c0 >>> ((0 : Int32) &&& 31))), (.int (Int32.ofNat (2 * i))), (.ref d)])) _
    refine XT.i2b X10.here hx rfl (hb hby d10_42) rfl ?_
    exact kk_)
  have q1 : nar .byte ((c0 >>> ((0 : Int32) &&& 31)).toInt8.toInt32) = own_lo c0 := by rw [own_shr0]; exact own_nar_lo c0
  obtain ⟨cla, Ba, ba, za, ya, Ha, Fa⟩ := id V
  obtain ⟨Ua, ua, Ya, fa, Wa, sua⟩ := stB X10 hx hZ e10 Ba (j := (Int32.ofNat (2 * i))) (own_in32 za (by omega) (by omega)) (g := (mkF m 43 #[.val (.ref d), .val (.int (Int32.ofNat (2 * i + 1))), .val (.int c0)] [(.int ((c0 >>> ((0 : Int32) &&& 31)).toInt8.toInt32)), (.int (Int32.ofNat (2 * i))), (.ref d)])) rfl rfl (hb hby d10_43)
  have S13 : own_Go p e below s₁ G Ua (mkF m 44 #[.val (.ref d), .val (.int (Int32.ofNat (2 * i + 1))), .val (.int c0)] []) := fun tg_ kk_ => S12 tg_ (sua tg_ kk_)
  rw [q1] at Wa
  have Va := own_push V (own_fit_lo c0) Wa (by rw [own_n32 (by omega)]; omega)
  have Oa := O.wr Wa hd0
  have Na := Fr.snoc Ya N0 hd0
  have Ka : Keep h0 ua [d] := (Keep.refl h0 [d]).wr Wa (Or.inl (List.mem_of_getElem? (i := 0) rfl))
  have S14 : own_Go p e below s₁ G Ua (mkF m 47 #[.val (.ref d), .val (.int (Int32.ofNat (2 * i + 1))), .val (.int c0)] [(.int c0), (.int (Int32.ofNat (2 * i + 1))), (.ref d)]) := fun tg_ kk_ => S13 tg_ (by
    refine XS.aloadN Ya.here hx rfl (hb hby d10_44) rfl rfl ?_
    show Steps p.tables e below (Ua.setTop (mkF m 45 #[.val (.ref d), .val (.int (Int32.ofNat (2 * i + 1))), .val (.int c0)] [(.ref d)])) _
    refine XS.iloadN Ya.here hx rfl (hb hby d10_45) rfl ?_
    show Steps p.tables e below (Ua.setTop (mkF m 46 #[.val (.ref d), .val (.int (Int32.ofNat (2 * i + 1))), .val (.int c0)] [(.int (Int32.ofNat (2 * i + 1))), (.ref d)])) _
    refine XS.iloadN Ya.here hx rfl (hb hby d10_46) rfl ?_
    exact kk_)
  obtain ⟨T15, X15, e15, st15⟩ := getS Ya hx hZ (host := "") hown (hw _ (List.mem_of_getElem? (i := 44) rfl)) Via.refl fa (A16.2.2.ext Oa.2) (g := (mkF m 47 #[.val (.ref d), .val (.int (Int32.ofNat (2 * i + 1))), .val (.int c0)] [(.int c0), (.int (Int32.ofNat (2 * i + 1))), (.ref d)])) rfl (hb hby d10_47)
  have S16 : own_Go p e below s₁ G T15 (mkF m 50 #[.val (.ref d), .val (.int (Int32.ofNat (2 * i + 1))), .val (.int c0)] [(.int (8 : Int32)), (.int c0), (.int (Int32.ofNat (2 * i + 1))), (.ref d)]) := fun tg_ kk_ => S14 tg_ (st15 tg_ kk_)
  have S17 : own_Go p e below s₁ G T15 (mkF m 52 #[.val (.ref d), .val (.int (Int32.ofNat (2 * i + 1))), .val (.int c0)] [(.int ((c0 >>> ((8 : Int32) &&& 31)).toInt8.toInt32)), (.int (Int32.ofNat (2 * i + 1))), (.ref d)]) := fun tg_ kk_ => S16 tg_ (by
    refine XT.ishr X15.here hx rfl (hb hby d10_50) rfl ?_
    show Steps p.tables e below (T15.setTop (mkF m 51 #[.val (.ref d), .val (.int (Int32.ofNat (2 * i + 1))), .val (.int c0)] [(.int (c0 >>> ((8 : Int32) &&& 31))), (.int (Int32.ofNat (2 * i + 1))), (.ref d)])) _
    refine XT.i2b X15.here hx rfl (hb hby d10_51) rfl ?_
    exact kk_)
  have q2 : nar .byte ((c0 >>> ((8 : Int32) &&& 31)).toInt8.toInt32) = own_hi c0 := own_nar_hi c0
  obtain ⟨clb, Bb, bb, zb, yb, Hb, Fb⟩ := id Va
  obtain ⟨Ub, ub, Yb, fb, Wb, sub⟩ := stB X15 hx hZ e15 Bb (j := (Int32.ofNat (2 * i + 1))) (own_in32 zb (by omega) (by omega)) (g := (mkF m 52 #[.val (.ref d), .val (.int (Int32.ofNat (2 * i + 1))), .val (.int c0)] [(.int ((c0 >>> ((8 : Int32) &&& 31)).toInt8.toInt32)), (.int (Int32.ofNat (2 * i + 1))), (.ref d)])) rfl rfl (hb hby d10_52)
  have S18 : own_Go p e below s₁ G Ub (mkF m 53 #[.val (.ref d), .val (.int (Int32.ofNat (2 * i + 1))), .val (.int c0)] []) := fun tg_ kk_ => S17 tg_ (sub tg_ kk_)
  rw [q2] at Wb
  have Vb := own_push Va (own_fit_hi c0) Wb (by rw [own_n32 (by omega)]; simp; omega)
  have Ob := Oa.wr Wb hd0
  have Nb := Fr.snoc Yb Na hd0
  have Kb : Keep h0 ub [d] := Ka.wr Wb (Or.inl (List.mem_of_getElem? (i := 0) rfl))
  rw [List.append_assoc] at Vb
  obtain ⟨fs, hr, hrun, hended, hW, hsame⟩ := Yb.leave (v := none) (fun _ => rfl)
  refine ⟨_, _, ?_, hrun, hended, _, _, rfl, ?_, ⟨_, rfl⟩, hW, hsame.mono (by decide) (by decide)⟩
  · rw [← hG]; exact S18 _ (Yb.returnOut hx Bd.returns (hb hby d10_53) hr)
  · show Q10 Z d i c0 kd M vs h0 n0 _ Ub.heap _
    rw [fb]
    exact ⟨rfl, Nb, Kb, Vb⟩
def Q11 (Z : State) (t : Addr) (i : Nat) (cs : List Int32) (h0 : Heap) (n0 : Nat) (v : Option Value) (h : Heap) (L : List Loc) : Prop := v = some (.int (cs.getD i 0)) ∧ Fr n0 L ∧ h0 = h
set_option maxRecDepth 65536 in
set_option maxHeartbeats 40000000 in
theorem rm11 (l : Launch) (Z : State) (a0 : Array Value) (hw : ∀ d ∈ tables_1, d.before a0 Z = true) (ws : List Jvm.Cond) (t : Addr) (i : Nat) (cs : List Int32) (h0 : Heap) (n0 : Nat) (Z0 : n0 ≤ h0.size) (kt : ClassId) (V : Arv Z h0 t kt .byte (Int32.ofNat (2 * cs.length)) (own_wide cs) (.int 0)) (hi : i < cs.length) (hn : cs.length ≤ 1000) (hc : own_Ch (cs.getD i 0)) (O : Old Z n0 h0) (A16 : own_A16 Z) :
    MetFree l (⟨"java/lang/StringUTF16", "getChar", "([BI)C"⟩ : MethodName) (head1 (Jvm.Cond.code (⟨"java/lang/StringUTF16", "getChar", "([BI)C"⟩ : MethodName) jdk_52_method_5_code 2 (some .char) :: ws) ({ frames := 0, cells := 0, slots := 0, locals := 0 } : Room)) (fun aa_ U => aa_ = #[(.ref t), (.int (Int32.ofNat i))] ∧ Z.Warmed39 U.vm ∧ U.heap = h0) (fun _ _ _ _ _ => True) (fun _ U o U' => ∃ v L, o = .returned v ∧ Q11 Z t i cs h0 n0 v U'.heap L ∧ FrameEnd U o U' L ({ frames := 0, cells := 0, slots := 0, locals := 0 } : Room).cells ({ frames := 0, cells := 0, slots := 0, locals := 0 } : Room).slots) := by
  refine MetFree.of_bodySF (plainFor_of_name pn1) hisR ?_
  intro p e s m args below meth c s₁ Bd hml0 hP hK
  obtain ⟨rfl, hZ, hh⟩ := hP
  have hx := Bd.exec
  have hby := Bd.bytes
  have hml : c.maxLocals = 2 := hml0
  have hown : s.vm.findClass "java/lang/StringUTF16" = some m.cls := findClass_of_methodNamed Bd.named
  have hnm := (name_of_methodNamed Bd.named Bd.method).1
  have X0 : Stand p l e ({ frames := 0, cells := 0, slots := 0, locals := 0 } : Room) s m #[(.ref t), (.int (Int32.ofNat i))] below meth c s₁ [] 0 0 := Stand.of_body Bd
  have e0 : s₁.heap = h0 := by rw [← hh, Bd.state]; rfl
  have N0 := Fr.nil n0
  obtain ⟨G, hG⟩ : ∃ G, G = entryFrame m #[(.ref t), (.int (Int32.ofNat i))] 2 := ⟨_, rfl⟩
  have S0 : own_Go p e below s₁ G s₁ (mkF m 0 #[.val (.ref t), .val (.int (Int32.ofNat i))] []) := fun tg_ kk_ => castTop (by rw [hG]; first | rfl | simp [entryFrame, mkF, argsToLocals, Value.category, maxLocals]) kk_
  obtain ⟨cl, Ar, -, Sz, -, H, -⟩ := V
  have at1 : cl.slots[(Int32.ofNat (2 * i)).toNatClampNeg]? = some (.int (own_lo (cs.getD i 0))) := H.at (own_in32 Sz (by omega) (by omega)) (by rw [own_n32 (by omega)]; exact own_wide_lo _ cs i hi)
  have at2 : cl.slots[(Int32.ofNat (2 * i + 1)).toNatClampNeg]? = some (.int (own_hi (cs.getD i 0))) := H.at (own_in32 Sz (by omega) (by omega)) (by rw [own_n32 (by omega)]; exact own_wide_hi _ cs i hi)
  obtain ⟨T19, X19, e19, st19⟩ := getS X0 hx hZ (host := "") hown (hw _ (List.mem_of_getElem? (i := 42) rfl)) Via.refl e0 (A16.1.ext O.2) (g := (mkF m 0 #[.val (.ref t), .val (.int (Int32.ofNat i))] [])) rfl (hb hby d11_0)
  have S20 : own_Go p e below s₁ G T19 (mkF m 3 #[.val (.ref t), .val (.int (Int32.ofNat i))] [(.int (1 : Int32))]) := fun tg_ kk_ => S0 tg_ (st19 tg_ kk_)
  have S21 : own_Go p e below s₁ G T19 (mkF m 31 #[.val (.ref t), .val (.int (Int32.ofNat i))] [(.int ((Int32.ofNat i) <<< ((1 : Int32) &&& 31)))]) := fun tg_ kk_ => S20 tg_ (by
    refine XS.ifYes X19.here hx rfl (pc0 := 3) (pc' := 28) rfl (hb hby d11_3) rfl (by decide) (by decide) (by decide) ?_
    show Steps p.tables e below (T19.setTop (mkF m 28 #[.val (.ref t), .val (.int (Int32.ofNat i))] [])) _
    refine XS.iloadN X19.here hx rfl (hb hby d11_28) rfl ?_
    show Steps p.tables e below (T19.setTop (mkF m 29 #[.val (.ref t), .val (.int (Int32.ofNat i))] [(.int (Int32.ofNat i))])) _
    refine XS.iconst X19.here hx rfl (hb hby d11_29) ?_
    show Steps p.tables e below (T19.setTop (mkF m 30 #[.val (.ref t), .val (.int (Int32.ofNat i))] [(.int (1 : Int32)), (.int (Int32.ofNat i))])) _
    refine XT.ishl X19.here hx rfl (hb hby d11_30) rfl ?_
    exact kk_)
  rw [own_shl1 (by omega)] at S21
  have S22 : own_Go p e below s₁ G T19 (mkF m 37 #[.val (.ref t), .val (.int ((Int32.ofNat (2 * i)) + (1 : Int32)))] [(.int (Int32.ofNat (2 * i))), (.ref t)]) := fun tg_ kk_ => S21 tg_ (by
    refine XS.istoreN X19.here hx rfl (hb hby d11_31) rfl (l' := #[.val (.ref t), .val (.int (Int32.ofNat (2 * i)))]) rfl ?_
    show Steps p.tables e below (T19.setTop (mkF m 32 #[.val (.ref t), .val (.int (Int32.ofNat (2 * i)))] [])) _
    refine XS.aloadN X19.here hx rfl (hb hby d11_32) rfl rfl ?_
    show Steps p.tables e below (T19.setTop (mkF m 33 #[.val (.ref t), .val (.int (Int32.ofNat (2 * i)))] [(.ref t)])) _
    refine XS.iloadN X19.here hx rfl (hb hby d11_33) rfl ?_
    show Steps p.tables e below (T19.setTop (mkF m 34 #[.val (.ref t), .val (.int (Int32.ofNat (2 * i)))] [(.int (Int32.ofNat (2 * i))), (.ref t)])) _
    refine XS.iinc X19.here hx rfl (hb hby d11_34) rfl (l' := #[.val (.ref t), .val (.int ((Int32.ofNat (2 * i)) + (1 : Int32)))]) rfl ?_
    exact kk_)
  rw [own_suc] at S22
  have S23 : own_Go p e below s₁ G T19 (mkF m 42 #[.val (.ref t), .val (.int (Int32.ofNat (2 * i + 1)))] [(.int ((own_lo (cs.getD i 0)) &&& (255 : Int32)))]) := fun tg_ kk_ => S22 tg_ (by
    refine X19.baloadBytes hx (j := (Int32.ofNat (2 * i))) (v := (.int (own_lo (cs.getD i 0)))) (cell := cl) (by rw [e19]; exact Ar.1) (State.isArrayOf_alike hZ.alike Ar.2.1) Ar.2.2 (own_in32 Sz (by omega) (by omega)) at1 (g := (mkF m 37 #[.val (.ref t), .val (.int (Int32.ofNat (2 * i + 1)))] [(.int (Int32.ofNat (2 * i))), (.ref t)])) rfl rfl (hb hby d11_37) _ ?_
    show Steps p.tables e below (T19.setTop (mkF m 38 #[.val (.ref t), .val (.int (Int32.ofNat (2 * i + 1)))] [(.int (own_lo (cs.getD i 0)))])) _
    refine XS.sipush X19.here hx rfl (hb hby d11_38) ?_
    show Steps p.tables e below (T19.setTop (mkF m 41 #[.val (.ref t), .val (.int (Int32.ofNat (2 * i + 1)))] [(.int (255 : Int32)), (.int (own_lo (cs.getD i 0)))])) _
    refine XS.iand X19.here hx rfl (hb hby d11_41) rfl ?_
    exact kk_)
  obtain ⟨T24, X24, e24, st24⟩ := getS X19 hx hZ (host := "") hown (hw _ (List.mem_of_getElem? (i := 43) rfl)) Via.refl e19 (A16.2.1.ext O.2) (g := (mkF m 42 #[.val (.ref t), .val (.int (Int32.ofNat (2 * i + 1)))] [(.int ((own_lo (cs.getD i 0)) &&& (255 : Int32)))])) rfl (hb hby d11_42)
  have S25 : own_Go p e below s₁ G T24 (mkF m 45 #[.val (.ref t), .val (.int (Int32.ofNat (2 * i + 1)))] [(.int (0 : Int32)), (.int ((own_lo (cs.getD i 0)) &&& (255 : Int32)))]) := fun tg_ kk_ => S23 tg_ (st24 tg_ kk_)
  have S26 : own_Go p e below s₁ G T24 (mkF m 53 #[.val (.ref t), .val (.int (Int32.ofNat (2 * i + 1)))] [(.int ((own_hi (cs.getD i 0)) &&& (255 : Int32))), (.int (((own_lo (cs.getD i 0)) &&& (255 : Int32)) <<< ((0 : Int32) &&& 31)))]) := fun tg_ kk_ => S25 tg_ (by
    refine XT.ishl X24.here hx rfl (hb hby d11_45) rfl ?_
    show Steps p.tables e below (T24.setTop (mkF m 46 #[.val (.ref t), .val (.int (Int32.ofNat (2 * i + 1)))] [(.int (((own_lo (cs.getD i 0)) &&& (255 : Int32)) <<< ((0 : Int32) &&& 31)))])) _
    refine XS.aloadN X24.here hx rfl (hb hby d11_46) rfl rfl ?_
    show Steps p.tables e below (T24.setTop (mkF m 47 #[.val (.ref t), .val (.int (Int32.ofNat (2 * i + 1)))] [(.ref t), (.int (((own_lo (cs.getD i 0)) &&& (255 : Int32)) <<< ((0 : Int32) &&& 31)))])) _
    refine XS.iloadN X24.here hx rfl (hb hby d11_47) rfl ?_
    show Steps p.tables e below (T24.setTop (mkF m 48 #[.val (.ref t), .val (.int (Int32.ofNat (2 * i + 1)))] [(.int (Int32.ofNat (2 * i + 1))), (.ref t), (.int (((own_lo (cs.getD i 0)) &&& (255 : Int32)) <<< ((0 : Int32) &&& 31)))])) _
    refine X24.baloadBytes hx (j := (Int32.ofNat (2 * i + 1))) (v := (.int (own_hi (cs.getD i 0)))) (cell := cl) (by rw [e24]; exact Ar.1) (State.isArrayOf_alike hZ.alike Ar.2.1) Ar.2.2 (own_in32 Sz (by omega) (by omega)) at2 (g := (mkF m 48 #[.val (.ref t), .val (.int (Int32.ofNat (2 * i + 1)))] [(.int (Int32.ofNat (2 * i + 1))), (.ref t), (.int (((own_lo (cs.getD i 0)) &&& (255 : Int32)) <<< ((0 : Int32) &&& 31)))])) rfl rfl (hb hby d11_48) _ ?_
    show Steps p.tables e below (T24.setTop (mkF m 49 #[.val (.ref t), .val (.int (Int32.ofNat (2 * i + 1)))] [(.int (own_hi (cs.getD i 0))), (.int (((own_lo (cs.getD i 0)) &&& (255 : Int32)) <<< ((0 : Int32) &&& 31)))])) _
    refine XS.sipush X24.here hx rfl (hb hby d11_49) ?_
    show Steps p.tables e below (T24.setTop (mkF m 52 #[.val (.ref t), .val (.int (Int32.ofNat (2 * i + 1)))] [(.int (255 : Int32)), (.int (own_hi (cs.getD i 0))), (.int (((own_lo (cs.getD i 0)) &&& (255 : Int32)) <<< ((0 : Int32) &&& 31)))])) _
    refine XS.iand X24.here hx rfl (hb hby d11_52) rfl ?_
    exact kk_)
  obtain ⟨T27, X27, e27, st27⟩ := getS X24 hx hZ (host := "") hown (hw _ (List.mem_of_getElem? (i := 44) rfl)) Via.refl e24 (A16.2.2.ext O.2) (g := (mkF m 53 #[.val (.ref t), .val (.int (Int32.ofNat (2 * i + 1)))] [(.int ((own_hi (cs.getD i 0)) &&& (255 : Int32))), (.int (((own_lo (cs.getD i 0)) &&& (255 : Int32)) <<< ((0 : Int32) &&& 31)))])) rfl (hb hby d11_53)
  have S28 : own_Go p e below s₁ G T27 (mkF m 56 #[.val (.ref t), .val (.int (Int32.ofNat (2 * i + 1)))] [(.int (8 : Int32)), (.int ((own_hi (cs.getD i 0)) &&& (255 : Int32))), (.int (((own_lo (cs.getD i 0)) &&& (255 : Int32)) <<< ((0 : Int32) &&& 31)))]) := fun tg_ kk_ => S26 tg_ (st27 tg_ kk_)
  have S29 : own_Go p e below s₁ G T27 (mkF m 59 #[.val (.ref t), .val (.int (Int32.ofNat (2 * i + 1)))] [(.int (((((own_lo (cs.getD i 0)) &&& (255 : Int32)) <<< ((0 : Int32) &&& 31)) ||| (((own_hi (cs.getD i 0)) &&& (255 : Int32)) <<< ((8 : Int32) &&& 31))).toUInt32.toUInt16.toUInt32.toInt32))]) := fun tg_ kk_ => S28 tg_ (by
    refine XT.ishl X27.here hx rfl (hb hby d11_56) rfl ?_
    show Steps p.tables e below (T27.setTop (mkF m 57 #[.val (.ref t), .val (.int (Int32.ofNat (2 * i + 1)))] [(.int (((own_hi (cs.getD i 0)) &&& (255 : Int32)) <<< ((8 : Int32) &&& 31))), (.int (((own_lo (cs.getD i 0)) &&& (255 : Int32)) <<< ((0 : Int32) &&& 31)))])) _
    refine XT.ior X27.here hx rfl (hb hby d11_57) rfl ?_
    show Steps p.tables e below (T27.setTop (mkF m 58 #[.val (.ref t), .val (.int (Int32.ofNat (2 * i + 1)))] [(.int ((((own_lo (cs.getD i 0)) &&& (255 : Int32)) <<< ((0 : Int32) &&& 31)) ||| (((own_hi (cs.getD i 0)) &&& (255 : Int32)) <<< ((8 : Int32) &&& 31))))])) _
    refine XT.i2c X27.here hx rfl (hb hby d11_58) rfl ?_
    exact kk_)
  rw [own_pair hc] at S29
  obtain ⟨fs, hr, hrun, hended, hW, hsame⟩ := X27.leave (v := some (.int (nar .char (cs.getD i 0)))) (fun h => by rw [Bd.returns] at h; cases h)
  refine ⟨_, _, ?_, hrun, hended, _, _, rfl, ?_, ⟨_, rfl⟩, hW, hsame.mono (by decide) (by decide)⟩
  · rw [← hG]; exact S29 _ (retN X27 hx (t := .char) Bd.returns (by simp) (hb hby d11_59) hr)
  · show Q11 Z t i cs h0 n0 _ T27.heap _
    rw [e27]
    exact ⟨by rw [own_nar_char hc], N0, rfl⟩
set_option maxRecDepth 65536 in
set_option maxHeartbeats 40000000 in
theorem own_c5turn {p : Program} {l : Launch} {e : Env} {R : Room} {s : State} {m : MethodId} {args : Array Value} {below : List Frame} {meth : Method} {c : Code} {locs : List Loc} {cells slots : Nat} {Z : State} {T0 : State} {h : Heap} (b d : Addr) (i N c0 : Int32) (s6 : Slot) (hs : One s6) (clb cld : Cell) (X0 : Stand p l e R s m args below meth c T0 locs cells slots) (hx : p.tables.exec = Jvm.exec) (hZ : Z.Warmed39 s.vm) (hby : c.code = jdk_52_method_21_code) (e0 : T0.heap = h) (Ab : Arr Z h b clb .char) (Ad : Arr Z h d cld .byte) (hc : i < N) (hinb : ¬ (i < 0 ∨ clb.slots.size ≤ i.toNatClampNeg)) (hatb : clb.slots[i.toNatClampNeg]? = some (.int c0)) (h255 : ¬ (255 : Int32) < c0) (hind : ¬ (i < 0 ∨ cld.slots.size ≤ i.toNatClampNeg)) :
    ∃ T' h', Stand p l e R s m args below meth c T' (locs ++ [⟨d, i.toNatClampNeg⟩]) cells slots ∧ T'.heap = h' ∧ Wr h h' d i.toNatClampNeg (.int (nar .byte (c0).toInt8.toInt32)) ∧ own_Go p e below T0 (mkF m 3 #[.val (.ref b), .val (.int i), .val (.ref d), .val (.int i), .val (.int N), .val (.int i), s6] []) T' (mkF m 3 #[.val (.ref b), .val (.int (i + (1 : Int32))), .val (.ref d), .val (.int (i + (1 : Int32))), .val (.int N), .val (.int (i + (1 : Int32))), .val (.int c0)] []) := by
  have S30 : own_Go p e below T0 (mkF m 3 #[.val (.ref b), .val (.int i), .val (.ref d), .val (.int i), .val (.int N), .val (.int i), s6] []) T0 (mkF m 31 #[.val (.ref b), .val (.int i), .val (.ref d), .val (.int i), .val (.int N), .val (.int i), .val (.int c0)] [(.int ((c0).toInt8.toInt32)), (.int i), (.ref d)]) := fun tg_ kk_ => (own_Go.refl T0 _) tg_ (by
    refine XS.iload X0.here hx rfl (hb hby d6_3) rfl ?_
    show Steps p.tables e below (T0.setTop (mkF m 5 #[.val (.ref b), .val (.int i), .val (.ref d), .val (.int i), .val (.int N), .val (.int i), s6] [(.int i)])) _
    refine XS.iload X0.here hx rfl (hb hby d6_5) rfl ?_
    show Steps p.tables e below (T0.setTop (mkF m 7 #[.val (.ref b), .val (.int i), .val (.ref d), .val (.int i), .val (.int N), .val (.int i), s6] [(.int N), (.int i)])) _
    refine XS.icmpNo X0.here hx rfl (hb hby d6_7) rfl (tlt hc).2.1 ?_
    show Steps p.tables e below (T0.setTop (mkF m 10 #[.val (.ref b), .val (.int i), .val (.ref d), .val (.int i), .val (.int N), .val (.int i), s6] [])) _
    refine XS.aloadN X0.here hx rfl (hb hby d6_10) rfl rfl ?_
    show Steps p.tables e below (T0.setTop (mkF m 11 #[.val (.ref b), .val (.int i), .val (.ref d), .val (.int i), .val (.int N), .val (.int i), s6] [(.ref b)])) _
    refine XS.iloadN X0.here hx rfl (hb hby d6_11) rfl ?_
    show Steps p.tables e below (T0.setTop (mkF m 12 #[.val (.ref b), .val (.int i), .val (.ref d), .val (.int i), .val (.int N), .val (.int i), s6] [(.int i), (.ref b)])) _
    refine X0.caload hx (j := i) (v := (.int c0)) (cell := clb) (by rw [e0]; exact Ab.1) (State.isArrayOf_alike hZ.alike Ab.2.1) Ab.2.2 hinb hatb (g := (mkF m 12 #[.val (.ref b), .val (.int i), .val (.ref d), .val (.int i), .val (.int N), .val (.int i), s6] [(.int i), (.ref b)])) rfl rfl (hb hby d6_12) _ ?_
    show Steps p.tables e below (T0.setTop (mkF m 13 #[.val (.ref b), .val (.int i), .val (.ref d), .val (.int i), .val (.int N), .val (.int i), s6] [(.int c0)])) _
    refine XS.istore X0.here hx rfl (hb hby d6_13) rfl (l' := #[.val (.ref b), .val (.int i), .val (.ref d), .val (.int i), .val (.int N), .val (.int i), .val (.int c0)]) (XS.store1 rfl hs rfl) ?_
    show Steps p.tables e below (T0.setTop (mkF m 15 #[.val (.ref b), .val (.int i), .val (.ref d), .val (.int i), .val (.int N), .val (.int i), .val (.int c0)] [])) _
    refine XS.iload X0.here hx rfl (hb hby d6_15) rfl ?_
    show Steps p.tables e below (T0.setTop (mkF m 17 #[.val (.ref b), .val (.int i), .val (.ref d), .val (.int i), .val (.int N), .val (.int i), .val (.int c0)] [(.int c0)])) _
    refine XS.sipush X0.here hx rfl (hb hby d6_17) ?_
    show Steps p.tables e below (T0.setTop (mkF m 20 #[.val (.ref b), .val (.int i), .val (.ref d), .val (.int i), .val (.int N), .val (.int i), .val (.int c0)] [(.int (255 : Int32)), (.int c0)])) _
    refine XS.icmpYes X0.here hx rfl (pc0 := 20) (pc' := 26) rfl (hb hby d6_20) rfl (flt h255).2.2.2 (by decide) (by decide) ?_
    show Steps p.tables e below (T0.setTop (mkF m 26 #[.val (.ref b), .val (.int i), .val (.ref d), .val (.int i), .val (.int N), .val (.int i), .val (.int c0)] [])) _
    refine XS.aloadN X0.here hx rfl (hb hby d6_26) rfl rfl ?_
    show Steps p.tables e below (T0.setTop (mkF m 27 #[.val (.ref b), .val (.int i), .val (.ref d), .val (.int i), .val (.int N), .val (.int i), .val (.int c0)] [(.ref d)])) _
    refine XS.iloadN X0.here hx rfl (hb hby d6_27) rfl ?_
    show Steps p.tables e below (T0.setTop (mkF m 28 #[.val (.ref b), .val (.int i), .val (.ref d), .val (.int i), .val (.int N), .val (.int i), .val (.int c0)] [(.int i), (.ref d)])) _
    refine XS.iload X0.here hx rfl (hb hby d6_28) rfl ?_
    show Steps p.tables e below (T0.setTop (mkF m 30 #[.val (.ref b), .val (.int i), .val (.ref d), .val (.int i), .val (.int N), .val (.int i), .val (.int c0)] [(.int c0), (.int i), (.ref d)])) _
    refine XT.i2b X0.here hx rfl (hb hby d6_30) rfl ?_
    exact kk_)
  obtain ⟨T1, h1, X1, e1, W1, st1⟩ := stB X0 hx hZ e0 Ad (j := i) hind (g := (mkF m 31 #[.val (.ref b), .val (.int i), .val (.ref d), .val (.int i), .val (.int N), .val (.int i), .val (.int c0)] [(.int ((c0).toInt8.toInt32)), (.int i), (.ref d)])) rfl rfl (hb hby d6_31)
  have S31 : own_Go p e below T0 (mkF m 3 #[.val (.ref b), .val (.int i), .val (.ref d), .val (.int i), .val (.int N), .val (.int i), s6] []) T1 (mkF m 32 #[.val (.ref b), .val (.int i), .val (.ref d), .val (.int i), .val (.int N), .val (.int i), .val (.int c0)] []) := fun tg_ kk_ => S30 tg_ (st1 tg_ kk_)
  have S32 : own_Go p e below T0 (mkF m 3 #[.val (.ref b), .val (.int i), .val (.ref d), .val (.int i), .val (.int N), .val (.int i), s6] []) T1 (mkF m 3 #[.val (.ref b), .val (.int (i + (1 : Int32))), .val (.ref d), .val (.int (i + (1 : Int32))), .val (.int N), .val (.int (i + (1 : Int32))), .val (.int c0)] []) := fun tg_ kk_ => S31 tg_ (by
    refine XS.iinc X1.here hx rfl (hb hby d6_32) rfl (l' := #[.val (.ref b), .val (.int (i + (1 : Int32))), .val (.ref d), .val (.int i), .val (.int N), .val (.int i), .val (.int c0)]) rfl ?_
    show Steps p.tables e below (T1.setTop (mkF m 35 #[.val (.ref b), .val (.int (i + (1 : Int32))), .val (.ref d), .val (.int i), .val (.int N), .val (.int i), .val (.int c0)] [])) _
    refine XS.iinc X1.here hx rfl (hb hby d6_35) rfl (l' := #[.val (.ref b), .val (.int (i + (1 : Int32))), .val (.ref d), .val (.int (i + (1 : Int32))), .val (.int N), .val (.int i), .val (.int c0)]) rfl ?_
    show Steps p.tables e below (T1.setTop (mkF m 38 #[.val (.ref b), .val (.int (i + (1 : Int32))), .val (.ref d), .val (.int (i + (1 : Int32))), .val (.int N), .val (.int i), .val (.int c0)] [])) _
    refine XS.iinc X1.here hx rfl (hb hby d6_38) rfl (l' := #[.val (.ref b), .val (.int (i + (1 : Int32))), .val (.ref d), .val (.int (i + (1 : Int32))), .val (.int N), .val (.int (i + (1 : Int32))), .val (.int c0)]) rfl ?_
    show Steps p.tables e below (T1.setTop (mkF m 41 #[.val (.ref b), .val (.int (i + (1 : Int32))), .val (.ref d), .val (.int (i + (1 : Int32))), .val (.int N), .val (.int (i + (1 : Int32))), .val (.int c0)] [])) _
    refine XS.goto X1.here hx rfl (pc0 := 41) (pc' := 3) rfl (hb hby d6_41) (by decide) (by decide) ?_
    exact kk_)
  exact ⟨T1, h1, X1, e1, W1, S32⟩
set_option maxRecDepth 65536 in
set_option maxHeartbeats 40000000 in
theorem own_c5mid {p : Program} {l : Launch} {e : Env} {R : Room} {s : State} {m : MethodId} {args : Array Value} {below : List Frame} {meth : Method} {c : Code} {locs : List Loc} {cells slots : Nat} {Z : State} {T0 : State} {h : Heap} (b d : Addr) (i N c0 : Int32) (s6 : Slot) (hs : One s6) (clb cld : Cell) (X0 : Stand p l e R s m args below meth c T0 locs cells slots) (hx : p.tables.exec = Jvm.exec) (hZ : Z.Warmed39 s.vm) (hby : c.code = jdk_52_method_21_code) (e0 : T0.heap = h) (Ab : Arr Z h b clb .char) (hc : i < N) (hinb : ¬ (i < 0 ∨ clb.slots.size ≤ i.toNatClampNeg)) (hatb : clb.slots[i.toNatClampNeg]? = some (.int c0)) (h255 : (255 : Int32) < c0) :
    own_Go p e below T0 (mkF m 3 #[.val (.ref b), .val (.int i), .val (.ref d), .val (.int i), .val (.int N), .val (.int i), s6] []) T0 (mkF m 25 #[.val (.ref b), .val (.int i), .val (.ref d), .val (.int i), .val (.int N), .val (.int i), .val (.int c0)] [(.int i)]) := by
  have S33 : own_Go p e below T0 (mkF m 3 #[.val (.ref b), .val (.int i), .val (.ref d), .val (.int i), .val (.int N), .val (.int i), s6] []) T0 (mkF m 25 #[.val (.ref b), .val (.int i), .val (.ref d), .val (.int i), .val (.int N), .val (.int i), .val (.int c0)] [(.int i)]) := fun tg_ kk_ => (own_Go.refl T0 _) tg_ (by
    refine XS.iload X0.here hx rfl (hb hby d6_3) rfl ?_
    show Steps p.tables e below (T0.setTop (mkF m 5 #[.val (.ref b), .val (.int i), .val (.ref d), .val (.int i), .val (.int N), .val (.int i), s6] [(.int i)])) _
    refine XS.iload X0.here hx rfl (hb hby d6_5) rfl ?_
    show Steps p.tables e below (T0.setTop (mkF m 7 #[.val (.ref b), .val (.int i), .val (.ref d), .val (.int i), .val (.int N), .val (.int i), s6] [(.int N), (.int i)])) _
    refine XS.icmpNo X0.here hx rfl (hb hby d6_7) rfl (tlt hc).2.1 ?_
    show Steps p.tables e below (T0.setTop (mkF m 10 #[.val (.ref b), .val (.int i), .val (.ref d), .val (.int i), .val (.int N), .val (.int i), s6] [])) _
    refine XS.aloadN X0.here hx rfl (hb hby d6_10) rfl rfl ?_
    show Steps p.tables e below (T0.setTop (mkF m 11 #[.val (.ref b), .val (.int i), .val (.ref d), .val (.int i), .val (.int N), .val (.int i), s6] [(.ref b)])) _
    refine XS.iloadN X0.here hx rfl (hb hby d6_11) rfl ?_
    show Steps p.tables e below (T0.setTop (mkF m 12 #[.val (.ref b), .val (.int i), .val (.ref d), .val (.int i), .val (.int N), .val (.int i), s6] [(.int i), (.ref b)])) _
    refine X0.caload hx (j := i) (v := (.int c0)) (cell := clb) (by rw [e0]; exact Ab.1) (State.isArrayOf_alike hZ.alike Ab.2.1) Ab.2.2 hinb hatb (g := (mkF m 12 #[.val (.ref b), .val (.int i), .val (.ref d), .val (.int i), .val (.int N), .val (.int i), s6] [(.int i), (.ref b)])) rfl rfl (hb hby d6_12) _ ?_
    show Steps p.tables e below (T0.setTop (mkF m 13 #[.val (.ref b), .val (.int i), .val (.ref d), .val (.int i), .val (.int N), .val (.int i), s6] [(.int c0)])) _
    refine XS.istore X0.here hx rfl (hb hby d6_13) rfl (l' := #[.val (.ref b), .val (.int i), .val (.ref d), .val (.int i), .val (.int N), .val (.int i), .val (.int c0)]) (XS.store1 rfl hs rfl) ?_
    show Steps p.tables e below (T0.setTop (mkF m 15 #[.val (.ref b), .val (.int i), .val (.ref d), .val (.int i), .val (.int N), .val (.int i), .val (.int c0)] [])) _
    refine XS.iload X0.here hx rfl (hb hby d6_15) rfl ?_
    show Steps p.tables e below (T0.setTop (mkF m 17 #[.val (.ref b), .val (.int i), .val (.ref d), .val (.int i), .val (.int N), .val (.int i), .val (.int c0)] [(.int c0)])) _
    refine XS.sipush X0.here hx rfl (hb hby d6_17) ?_
    show Steps p.tables e below (T0.setTop (mkF m 20 #[.val (.ref b), .val (.int i), .val (.ref d), .val (.int i), .val (.int N), .val (.int i), .val (.int c0)] [(.int (255 : Int32)), (.int c0)])) _
    refine XS.icmpNo X0.here hx rfl (hb hby d6_20) rfl (tlt h255).2.2.2 ?_
    show Steps p.tables e below (T0.setTop (mkF m 23 #[.val (.ref b), .val (.int i), .val (.ref d), .val (.int i), .val (.int N), .val (.int i), .val (.int c0)] [])) _
    refine XS.iload X0.here hx rfl (hb hby d6_23) rfl ?_
    exact kk_)
  exact S33
set_option maxRecDepth 65536 in
set_option maxHeartbeats 40000000 in
theorem own_c5end {p : Program} {l : Launch} {e : Env} {R : Room} {s : State} {m : MethodId} {args : Array Value} {below : List Frame} {meth : Method} {c : Code} {locs : List Loc} {cells slots : Nat} {T0 : State} (b d : Addr) (i N : Int32) (s6 : Slot) (X0 : Stand p l e R s m args below meth c T0 locs cells slots) (hx : p.tables.exec = Jvm.exec) (hby : c.code = jdk_52_method_21_code) (hc : ¬ i < N) :
    own_Go p e below T0 (mkF m 3 #[.val (.ref b), .val (.int i), .val (.ref d), .val (.int i), .val (.int N), .val (.int i), s6] []) T0 (mkF m 46 #[.val (.ref b), .val (.int i), .val (.ref d), .val (.int i), .val (.int N), .val (.int i), s6] [(.int N)]) := by
  have S34 : own_Go p e below T0 (mkF m 3 #[.val (.ref b), .val (.int i), .val (.ref d), .val (.int i), .val (.int N), .val (.int i), s6] []) T0 (mkF m 46 #[.val (.ref b), .val (.int i), .val (.ref d), .val (.int i), .val (.int N), .val (.int i), s6] [(.int N)]) := fun tg_ kk_ => (own_Go.refl T0 _) tg_ (by
    refine XS.iload X0.here hx rfl (hb hby d6_3) rfl ?_
    show Steps p.tables e below (T0.setTop (mkF m 5 #[.val (.ref b), .val (.int i), .val (.ref d), .val (.int i), .val (.int N), .val (.int i), s6] [(.int i)])) _
    refine XS.iload X0.here hx rfl (hb hby d6_5) rfl ?_
    show Steps p.tables e below (T0.setTop (mkF m 7 #[.val (.ref b), .val (.int i), .val (.ref d), .val (.int i), .val (.int N), .val (.int i), s6] [(.int N), (.int i)])) _
    refine XS.icmpYes X0.here hx rfl (pc0 := 7) (pc' := 44) rfl (hb hby d6_7) rfl (flt hc).2.1 (by decide) (by decide) ?_
    show Steps p.tables e below (T0.setTop (mkF m 44 #[.val (.ref b), .val (.int i), .val (.ref d), .val (.int i), .val (.int N), .val (.int i), s6] [])) _
    refine XS.iload X0.here hx rfl (hb hby d6_44) rfl ?_
    exact kk_)
  exact S34
/-- **compress's loop, whole**: it stops at the first char above 255, or behind the last -/
theorem own_c5 {p : Program} {l : Launch} {e : Env} {R : Room} {s : State} {m : MethodId} {args : Array Value} {below : List Frame} {meth : Method} {c : Code} {cells slots : Nat} {Z : State} {h0 : Heap} {n0 : Nat} (b d : Addr) (kb kd : ClassId) (cs : List Int32) (hn : cs.length ≤ 1000) (hbd : b ≠ d) (hd0 : n0 ≤ d) (hx : p.tables.exec = Jvm.exec) (hZ : Z.Warmed39 s.vm) (hby : c.code = jdk_52_method_21_code) :
    ∀ (k i : Nat) (T0 : State) (h : Heap) (locs : List Loc) (s6 : Slot), i + k = cs.length → One s6 → Stand p l e R s m args below meth c T0 locs cells slots → T0.heap = h → Fr n0 locs → Keep h0 h [d] →
      Arv Z h b kb .char (Int32.ofNat cs.length) (cs.map Value.int) (.int 0) → Arv Z h d kd .byte (Int32.ofNat cs.length) ((cs.take i).map own_vb) (.int 0) → (∀ j, j < i → ¬ (255 : Int32) < cs.getD j 0) →
      ∃ (j : Nat) (T' : State) (h' : Heap) (locs' : List Loc) (s6' : Slot) (pc : Nat), j ≤ cs.length ∧ (∀ q, q < j → ¬ (255 : Int32) < cs.getD q 0) ∧ (j < cs.length → (255 : Int32) < cs.getD j 0) ∧ (pc = 25 ∨ pc = 46) ∧
        Stand p l e R s m args below meth c T' locs' cells slots ∧ T'.heap = h' ∧ Fr n0 locs' ∧ Keep h0 h' [d] ∧ Arv Z h' d kd .byte (Int32.ofNat cs.length) ((cs.take j).map own_vb) (.int 0) ∧
        own_Go p e below T0 (mkF m 3 #[.val (.ref b), .val (.int (Int32.ofNat i)), .val (.ref d), .val (.int (Int32.ofNat i)), .val (.int (Int32.ofNat cs.length)), .val (.int (Int32.ofNat i)), s6] []) T' (mkF m pc #[.val (.ref b), .val (.int (Int32.ofNat j)), .val (.ref d), .val (.int (Int32.ofNat j)), .val (.int (Int32.ofNat cs.length)), .val (.int (Int32.ofNat j)), s6'] [(.int (Int32.ofNat j))]) := by
  intro k
  induction k with
  | zero =>
    intro i T0 h locs s6 hi hs X0 e0 N K Vb Vd hp
    have hi' : i = cs.length := by omega
    subst hi'
    exact ⟨cs.length, T0, h, locs, s6, 46, Nat.le_refl _, hp, fun q => absurd q (Nat.lt_irrefl _), Or.inr rfl, X0, e0, N, K, Vd, own_c5end b d _ _ s6 X0 hx hby Int32.lt_irrefl⟩
  | succ k ih =>
    intro i T0 h locs s6 hi hs X0 e0 N K Vb Vd hp
    have hil : i < cs.length := by omega
    obtain ⟨clb, Ab, -, Sb, -, Hb, -⟩ := id Vb
    obtain ⟨cld, Ad, -, Sd, -, -, -⟩ := id Vd
    have hat : clb.slots[(Int32.ofNat i).toNatClampNeg]? = some (.int (cs.getD i 0)) := Hb.at (own_in32 Sb hil (by omega)) (by rw [own_n32 (by omega)]; exact own_getI cs i hil _)
    by_cases h255 : (255 : Int32) < cs.getD i 0
    · exact ⟨i, T0, h, locs, _, 25, by omega, hp, fun _ => h255, Or.inl rfl, X0, e0, N, K, Vd, own_c5mid b d (Int32.ofNat i) (Int32.ofNat cs.length) (cs.getD i 0) s6 hs clb cld X0 hx hZ hby e0 Ab (own_lt32 hil (by omega)) (own_in32 Sb hil (by omega)) hat h255⟩
    · obtain ⟨T1, h1, X1, e1, W1, g1⟩ := own_c5turn b d (Int32.ofNat i) (Int32.ofNat cs.length) (cs.getD i 0) s6 hs clb cld X0 hx hZ hby e0 Ab Ad (own_lt32 hil (by omega)) (own_in32 Sb hil (by omega)) hat h255 (own_in32 Sd hil (by omega))
      have W2 : Wr h h1 d (Int32.ofNat i).toNatClampNeg (.int (own_lo (cs.getD i 0))) := by rw [← own_nar_lo]; exact W1
      have Vd1 := own_push Vd (own_fit_lo _) W2 (by rw [own_n32 (by omega)]; simp; omega)
      rw [own_takeB cs i hil] at Vd1
      rw [own_suc] at g1
      obtain ⟨j, T', h', locs', s6', pc, r1, r2, r3, r4, r5, r6, r7, r8, r9, g2⟩ := ih (i + 1) T1 h1 _ (.val (.int (cs.getD i 0))) (by omega) (One.val rfl) X1 e1 (Fr.snoc X1 N hd0) (K.wr W2 (Or.inl (List.mem_of_getElem? (i := 0) rfl))) (Vb.other W2 hbd) Vd1 (fun j hj => by
        by_cases q : j < i
        · exact hp j q
        · have : j = i := by omega
          subst this; exact h255)
      exact ⟨j, T', h', locs', s6', pc, r1, r2, r3, r4, r5, r6, r7, r8, r9, g1.trans g2⟩
def Q6 (Z : State) (b : Addr) (d : Addr) (kd : ClassId) (cs : List Int32) (h0 : Heap) (n0 : Nat) (v : Option Value) (h : Heap) (L : List Loc) : Prop := ∃ j, v = some (.int (Int32.ofNat j)) ∧ j ≤ cs.length ∧ (∀ q, q < j → ¬ (255 : Int32) < cs.getD q 0) ∧ (j < cs.length → (255 : Int32) < cs.getD j 0) ∧ Fr n0 L ∧ Keep h0 h [d] ∧ Arv Z h d kd .byte (Int32.ofNat cs.length) ((cs.take j).map own_vb) (.int 0)
set_option maxRecDepth 65536 in
set_option maxHeartbeats 40000000 in
theorem rm6 (l : Launch) (Z : State) (a0 : Array Value) (hw : ∀ d ∈ tables_1, d.before a0 Z = true) (ws : List Jvm.Cond) (b : Addr) (d : Addr) (kd : ClassId) (cs : List Int32) (h0 : Heap) (n0 : Nat) (Z0 : n0 ≤ h0.size) (kb : ClassId) (hn : cs.length ≤ 1000) (hbd : b ≠ d) (hd0 : n0 ≤ d) (Vb : Arv Z h0 b kb .char (Int32.ofNat cs.length) (cs.map Value.int) (.int 0)) (Vd : Arv Z h0 d kd .byte (Int32.ofNat cs.length) [] (.int 0)) :
    MetFree l (⟨"java/lang/StringUTF16", "compress", "([CI[BII)I"⟩ : MethodName) (head1 (Jvm.Cond.code (⟨"java/lang/StringUTF16", "compress", "([CI[BII)I"⟩ : MethodName) jdk_52_method_21_code 7 (some .int) :: ws) ({ frames := 0, cells := 0, slots := 0, locals := 0 } : Room)) (fun aa_ U => aa_ = #[(.ref b), (.int (0 : Int32)), (.ref d), (.int (0 : Int32)), (.int (Int32.ofNat cs.length))] ∧ Z.Warmed39 U.vm ∧ U.heap = h0) (fun _ _ _ _ _ => True) (fun _ U o U' => ∃ v L, o = .returned v ∧ Q6 Z b d kd cs h0 n0 v U'.heap L ∧ FrameEnd U o U' L ({ frames := 0, cells := 0, slots := 0, locals := 0 } : Room).cells ({ frames := 0, cells := 0, slots := 0, locals := 0 } : Room).slots) := by
  refine MetFree.of_bodySF (plainFor_of_name pn1) hisR ?_
  intro p e s m args below meth c s₁ Bd hml0 hP hK
  obtain ⟨rfl, hZ, hh⟩ := hP
  have hx := Bd.exec
  have hby := Bd.bytes
  have hml : c.maxLocals = 7 := hml0
  have hown : s.vm.findClass "java/lang/StringUTF16" = some m.cls := findClass_of_methodNamed Bd.named
  have hnm := (name_of_methodNamed Bd.named Bd.method).1
  have X0 : Stand p l e ({ frames := 0, cells := 0, slots := 0, locals := 0 } : Room) s m #[(.ref b), (.int (0 : Int32)), (.ref d), (.int (0 : Int32)), (.int (Int32.ofNat cs.length))] below meth c s₁ [] 0 0 := Stand.of_body Bd
  have e0 : s₁.heap = h0 := by rw [← hh, Bd.state]; rfl
  have N0 := Fr.nil n0
  obtain ⟨G, hG⟩ : ∃ G, G = entryFrame m #[(.ref b), (.int (0 : Int32)), (.ref d), (.int (0 : Int32)), (.int (Int32.ofNat cs.length))] 7 := ⟨_, rfl⟩
  have S0 : own_Go p e below s₁ G s₁ (mkF m 0 #[.val (.ref b), .val (.int (0 : Int32)), .val (.ref d), .val (.int (0 : Int32)), .val (.int (Int32.ofNat cs.length)), .unset, .unset] []) := fun tg_ kk_ => castTop (by rw [hG]; first | rfl | simp [entryFrame, mkF, argsToLocals, Value.category, maxLocals]) kk_
  have S35 : own_Go p e below s₁ G s₁ (mkF m 3 #[.val (.ref b), .val (.int (0 : Int32)), .val (.ref d), .val (.int (0 : Int32)), .val (.int (Int32.ofNat cs.length)), .val (.int (0 : Int32)), .unset] []) := fun tg_ kk_ => S0 tg_ (by
    refine XS.iconst X0.here hx rfl (hb hby d6_0) ?_
    show Steps p.tables e below (s₁.setTop (mkF m 1 #[.val (.ref b), .val (.int (0 : Int32)), .val (.ref d), .val (.int (0 : Int32)), .val (.int (Int32.ofNat cs.length)), .unset, .unset] [(.int (0 : Int32))])) _
    refine XS.istore X0.here hx rfl (hb hby d6_1) rfl (l' := #[.val (.ref b), .val (.int (0 : Int32)), .val (.ref d), .val (.int (0 : Int32)), .val (.int (Int32.ofNat cs.length)), .val (.int (0 : Int32)), .unset]) rfl ?_
    exact kk_)
  obtain ⟨j, T', h', locs', s6', pc, r1, r2, r3, r4, X1, e1, r7, r8, r9, g2⟩ := own_c5 (h0 := h0) b d kb kd cs hn hbd hd0 hx hZ hby cs.length 0 s₁ h0 [] .unset (by omega) One.u X0 e0 N0 (Keep.refl _ _) Vb Vd (fun j hj => absurd hj (Nat.not_lt_zero j))
  have SL := own_Go.trans S35 g2
  rcases r4 with rfl | rfl
  · have _ := r1
    obtain ⟨fs, hr, hrun, hended, hW, hsame⟩ := X1.leave (v := some (.int (Int32.ofNat j))) (fun h => by rw [Bd.returns] at h; cases h)
    refine ⟨_, _, ?_, hrun, hended, _, _, rfl, ?_, ⟨_, rfl⟩, hW, hsame.mono (by decide) (by decide)⟩
    · rw [← hG]; exact SL _ (retI X1 hx Bd.returns (hb hby d6_25) hr)
    · show Q6 Z b d kd cs h0 n0 _ T'.heap _
      rw [e1]
      exact ⟨j, rfl, r1, r2, r3, r7, r8, r9⟩
  · have _ := r1
    obtain ⟨fs, hr, hrun, hended, hW, hsame⟩ := X1.leave (v := some (.int (Int32.ofNat j))) (fun h => by rw [Bd.returns] at h; cases h)
    refine ⟨_, _, ?_, hrun, hended, _, _, rfl, ?_, ⟨_, rfl⟩, hW, hsame.mono (by decide) (by decide)⟩
    · rw [← hG]; exact SL _ (retI X1 hx Bd.returns (hb hby d6_46) hr)
    · show Q6 Z b d kd cs h0 n0 _ T'.heap _
      rw [e1]
      exact ⟨j, rfl, r1, r2, r3, r7, r8, r9⟩
set_option maxRecDepth 65536 in
set_option maxHeartbeats 40000000 in
theorem own_tbturn {p : Program} {l : Launch} {e : Env} {s : State} {m : MethodId} {args : Array Value} {below : List Frame} {meth : Method} {c : Code} {locs : List Loc} {Z : State} {a0 : Array Value} {h0 : Heap} {n0 : Nat} {T0 : State} {h : Heap} (b d : Addr) (kb kd : ClassId) (cs : List Int32) (i : Nat) (hil : i < cs.length) (hn : cs.length ≤ 4) (hbd : b ≠ d) (hd0 : n0 ≤ d) (X0 : Stand p l e ({ frames := 2, cells := 1, slots := 8, locals := 40 } : Room) s m args below meth c T0 locs 1 8) (hx : p.tables.exec = Jvm.exec) (hZ : Z.Warmed39 s.vm) (hw : ∀ q ∈ tables_1, q.before a0 Z = true) (hby : c.code = jdk_52_method_14_code) (hml : c.maxLocals = 5) (hown : s.vm.findClass "java/lang/StringUTF16" = some m.cls) (e0 : T0.heap = h) (Z0 : n0 ≤ h.size) (A16 : own_A16 Z) (O : Old Z n0 h) (N : Fr n0 locs) (Vb : Arv Z h b kb .char (Int32.ofNat cs.length) (cs.map Value.int) (.int 0)) (Vd : Arv Z h d kd .byte (Int32.ofNat (2 * cs.length)) (own_wide (cs.take i)) (.int 0)) :
    ∃ T' h' L, Stand p l e ({ frames := 2, cells := 1, slots := 8, locals := 40 } : Room) s m args below meth c T' (locs ++ L) 1 8 ∧ T'.heap = h' ∧ Fr n0 (locs ++ L) ∧ Keep h h' [d] ∧ Arv Z h' d kd .byte (Int32.ofNat (2 * cs.length)) (own_wide (cs.take (i + 1))) (.int 0) ∧ own_Go p e below T0 (mkF m 8 #[.val (.ref b), .val (.int (Int32.ofNat i)), .val (.int (Int32.ofNat cs.length)), .val (.ref d), .val (.int (Int32.ofNat i))] []) T' (mkF m 8 #[.val (.ref b), .val (.int (Int32.ofNat (i + 1))), .val (.int (Int32.ofNat cs.length)), .val (.ref d), .val (.int (Int32.ofNat (i + 1)))] []) := by
  obtain ⟨clb, Ab, -, Sb, -, Hb, -⟩ := id Vb
  have hat : clb.slots[(Int32.ofNat i).toNatClampNeg]? = some (.int (cs.getD i 0)) := Hb.at (own_in32 Sb hil (by omega)) (by rw [own_n32 (by omega)]; exact own_getI cs i hil _)
  have S36 : own_Go p e below T0 (mkF m 8 #[.val (.ref b), .val (.int (Int32.ofNat i)), .val (.int (Int32.ofNat cs.length)), .val (.ref d), .val (.int (Int32.ofNat i))] []) T0 (mkF m 20 #[.val (.ref b), .val (.int (Int32.ofNat i)), .val (.int (Int32.ofNat cs.length)), .val (.ref d), .val (.int (Int32.ofNat i))] [(.int (cs.getD i 0)), (.int (Int32.ofNat i)), (.ref d)]) := fun tg_ kk_ => (own_Go.refl T0 _) tg_ (by
    refine XS.iload X0.here hx rfl (hb hby d7_8) rfl ?_
    show Steps p.tables e below (T0.setTop (mkF m 10 #[.val (.ref b), .val (.int (Int32.ofNat i)), .val (.int (Int32.ofNat cs.length)), .val (.ref d), .val (.int (Int32.ofNat i))] [(.int (Int32.ofNat i))])) _
    refine XS.iloadN X0.here hx rfl (hb hby d7_10) rfl ?_
    show Steps p.tables e below (T0.setTop (mkF m 11 #[.val (.ref b), .val (.int (Int32.ofNat i)), .val (.int (Int32.ofNat cs.length)), .val (.ref d), .val (.int (Int32.ofNat i))] [(.int (Int32.ofNat cs.length)), (.int (Int32.ofNat i))])) _
    refine XS.icmpNo X0.here hx rfl (hb hby d7_11) rfl (tlt (own_lt32 hil (by omega))).2.1 ?_
    show Steps p.tables e below (T0.setTop (mkF m 14 #[.val (.ref b), .val (.int (Int32.ofNat i)), .val (.int (Int32.ofNat cs.length)), .val (.ref d), .val (.int (Int32.ofNat i))] [])) _
    refine XS.aloadN X0.here hx rfl (hb hby d7_14) rfl rfl ?_
    show Steps p.tables e below (T0.setTop (mkF m 15 #[.val (.ref b), .val (.int (Int32.ofNat i)), .val (.int (Int32.ofNat cs.length)), .val (.ref d), .val (.int (Int32.ofNat i))] [(.ref d)])) _
    refine XS.iload X0.here hx rfl (hb hby d7_15) rfl ?_
    show Steps p.tables e below (T0.setTop (mkF m 17 #[.val (.ref b), .val (.int (Int32.ofNat i)), .val (.int (Int32.ofNat cs.length)), .val (.ref d), .val (.int (Int32.ofNat i))] [(.int (Int32.ofNat i)), (.ref d)])) _
    refine XS.aloadN X0.here hx rfl (hb hby d7_17) rfl rfl ?_
    show Steps p.tables e below (T0.setTop (mkF m 18 #[.val (.ref b), .val (.int (Int32.ofNat i)), .val (.int (Int32.ofNat cs.length)), .val (.ref d), .val (.int (Int32.ofNat i))] [(.ref b), (.int (Int32.ofNat i)), (.ref d)])) _
    refine XS.iloadN X0.here hx rfl (hb hby d7_18) rfl ?_
    show Steps p.tables e below (T0.setTop (mkF m 19 #[.val (.ref b), .val (.int (Int32.ofNat i)), .val (.int (Int32.ofNat cs.length)), .val (.ref d), .val (.int (Int32.ofNat i))] [(.int (Int32.ofNat i)), (.ref b), (.int (Int32.ofNat i)), (.ref d)])) _
    refine X0.caload hx (j := (Int32.ofNat i)) (v := (.int (cs.getD i 0))) (cell := clb) (by rw [e0]; exact Ab.1) (State.isArrayOf_alike hZ.alike Ab.2.1) Ab.2.2 (own_in32 Sb hil (by omega)) hat (g := (mkF m 19 #[.val (.ref b), .val (.int (Int32.ofNat i)), .val (.int (Int32.ofNat cs.length)), .val (.ref d), .val (.int (Int32.ofNat i))] [(.int (Int32.ofNat i)), (.ref b), (.int (Int32.ofNat i)), (.ref d)])) rfl rfl (hb hby d7_19) _ ?_
    exact kk_)
  obtain ⟨_, T37, h37, L37, X37, e37, hQ37, st37⟩ := own_callS X0 hx hZ (y := (⟨"java/lang/StringUTF16", "putChar", "([BII)V"⟩ : MethodName)) hown (hw _ (List.mem_of_getElem? (i := 39) rfl)) (hw _ (List.mem_of_getElem? (i := 40) rfl)) (hw _ (List.mem_of_getElem? (i := 23) rfl)) (hw _ (List.mem_of_getElem? (i := 41) rfl)) (by decide) 0 (g := (mkF m 20 #[.val (.ref b), .val (.int (Int32.ofNat i)), .val (.int (Int32.ofNat cs.length)), .val (.ref d), .val (.int (Int32.ofNat i))] [(.int (cs.getD i 0)), (.int (Int32.ofNat i)), (.ref d)])) rfl (by rw [hml]; rfl) [(.ref d), (.int (Int32.ofNat i)), (.int (cs.getD i 0))] [] (rm10 l Z a0 hw [] d i (cs.getD i 0) kd (2 * cs.length) (own_wide (cs.take i)) h n0 Z0 Vd (by rw [own_wide_len, List.length_take]; omega) (by omega) (by omega) hd0 O A16) (lenOf pd10 rfl) rfl (by show 2 * 0 + _ ≤ _; exact Nat.le_of_eq rfl) (hb hby d7_20) (by decide) (by decide) e0 (by decide) (by decide)
  obtain ⟨rfl, N37, K37, V37⟩ := hQ37
  have S38 : own_Go p e below T0 (mkF m 8 #[.val (.ref b), .val (.int (Int32.ofNat i)), .val (.int (Int32.ofNat cs.length)), .val (.ref d), .val (.int (Int32.ofNat i))] []) T37 (mkF m 23 #[.val (.ref b), .val (.int (Int32.ofNat i)), .val (.int (Int32.ofNat cs.length)), .val (.ref d), .val (.int (Int32.ofNat i))] []) := fun tg_ kk_ => S36 tg_ (st37 tg_ kk_)
  rw [own_takeW cs i hil] at V37
  have S39 : own_Go p e below T0 (mkF m 8 #[.val (.ref b), .val (.int (Int32.ofNat i)), .val (.int (Int32.ofNat cs.length)), .val (.ref d), .val (.int (Int32.ofNat i))] []) T37 (mkF m 8 #[.val (.ref b), .val (.int ((Int32.ofNat i) + (1 : Int32))), .val (.int (Int32.ofNat cs.length)), .val (.ref d), .val (.int ((Int32.ofNat i) + (1 : Int32)))] []) := fun tg_ kk_ => S38 tg_ (by
    refine XS.iinc X37.here hx rfl (hb hby d7_23) rfl (l' := #[.val (.ref b), .val (.int ((Int32.ofNat i) + (1 : Int32))), .val (.int (Int32.ofNat cs.length)), .val (.ref d), .val (.int (Int32.ofNat i))]) rfl ?_
    show Steps p.tables e below (T37.setTop (mkF m 26 #[.val (.ref b), .val (.int ((Int32.ofNat i) + (1 : Int32))), .val (.int (Int32.ofNat cs.length)), .val (.ref d), .val (.int (Int32.ofNat i))] [])) _
    refine XS.iinc X37.here hx rfl (hb hby d7_26) rfl (l' := #[.val (.ref b), .val (.int ((Int32.ofNat i) + (1 : Int32))), .val (.int (Int32.ofNat cs.length)), .val (.ref d), .val (.int ((Int32.ofNat i) + (1 : Int32)))]) rfl ?_
    show Steps p.tables e below (T37.setTop (mkF m 29 #[.val (.ref b), .val (.int ((Int32.ofNat i) + (1 : Int32))), .val (.int (Int32.ofNat cs.length)), .val (.ref d), .val (.int ((Int32.ofNat i) + (1 : Int32)))] [])) _
    refine XS.goto X37.here hx rfl (pc0 := 29) (pc' := 8) rfl (hb hby d7_29) (by decide) (by decide) ?_
    exact kk_)
  rw [own_suc] at S39
  exact ⟨T37, h37, L37, X37, e37, Fr.app N N37, K37, V37, S39⟩
set_option maxRecDepth 65536 in
set_option maxHeartbeats 40000000 in
theorem own_tbend {p : Program} {l : Launch} {e : Env} {R : Room} {s : State} {m : MethodId} {args : Array Value} {below : List Frame} {meth : Method} {c : Code} {locs : List Loc} {cells slots : Nat} {T0 : State} (b d : Addr) (i N : Int32) (X0 : Stand p l e R s m args below meth c T0 locs cells slots) (hx : p.tables.exec = Jvm.exec) (hby : c.code = jdk_52_method_14_code) (hc : ¬ i < N) :
    own_Go p e below T0 (mkF m 8 #[.val (.ref b), .val (.int i), .val (.int N), .val (.ref d), .val (.int i)] []) T0 (mkF m 33 #[.val (.ref b), .val (.int i), .val (.int N), .val (.ref d), .val (.int i)] [(.ref d)]) := by
  have S40 : own_Go p e below T0 (mkF m 8 #[.val (.ref b), .val (.int i), .val (.int N), .val (.ref d), .val (.int i)] []) T0 (mkF m 33 #[.val (.ref b), .val (.int i), .val (.int N), .val (.ref d), .val (.int i)] [(.ref d)]) := fun tg_ kk_ => (own_Go.refl T0 _) tg_ (by
    refine XS.iload X0.here hx rfl (hb hby d7_8) rfl ?_
    show Steps p.tables e below (T0.setTop (mkF m 10 #[.val (.ref b), .val (.int i), .val (.int N), .val (.ref d), .val (.int i)] [(.int i)])) _
    refine XS.iloadN X0.here hx rfl (hb hby d7_10) rfl ?_
    show Steps p.tables e below (T0.setTop (mkF m 11 #[.val (.ref b), .val (.int i), .val (.int N), .val (.ref d), .val (.int i)] [(.int N), (.int i)])) _
    refine XS.icmpYes X0.here hx rfl (pc0 := 11) (pc' := 32) rfl (hb hby d7_11) rfl (flt hc).2.1 (by decide) (by decide) ?_
    show Steps p.tables e below (T0.setTop (mkF m 32 #[.val (.ref b), .val (.int i), .val (.int N), .val (.ref d), .val (.int i)] [])) _
    refine XS.aloadN X0.here hx rfl (hb hby d7_32) rfl rfl ?_
    exact kk_)
  exact S40
theorem own_tb {p : Program} {l : Launch} {e : Env} {s : State} {m : MethodId} {args : Array Value} {below : List Frame} {meth : Method} {c : Code} {Z : State} {a0 : Array Value} {h0 : Heap} {n0 : Nat} (b d : Addr) (kb kd : ClassId) (cs : List Int32) (hn : cs.length ≤ 4) (hbd : b ≠ d) (hd0 : n0 ≤ d) (hx : p.tables.exec = Jvm.exec) (hZ : Z.Warmed39 s.vm) (hw : ∀ q ∈ tables_1, q.before a0 Z = true) (hby : c.code = jdk_52_method_14_code) (hml : c.maxLocals = 5) (hown : s.vm.findClass "java/lang/StringUTF16" = some m.cls) (A16 : own_A16 Z) :
    ∀ (k i : Nat) (T0 : State) (h : Heap) (locs : List Loc), i + k = cs.length → Stand p l e ({ frames := 2, cells := 1, slots := 8, locals := 40 } : Room) s m args below meth c T0 locs 1 8 → T0.heap = h → n0 ≤ h.size → Old Z n0 h → Fr n0 locs → Keep h0 h [d] →
      Arv Z h b kb .char (Int32.ofNat cs.length) (cs.map Value.int) (.int 0) → Arv Z h d kd .byte (Int32.ofNat (2 * cs.length)) (own_wide (cs.take i)) (.int 0) →
      ∃ (T' : State) (h' : Heap) (locs' : List Loc), Stand p l e ({ frames := 2, cells := 1, slots := 8, locals := 40 } : Room) s m args below meth c T' locs' 1 8 ∧ T'.heap = h' ∧ Fr n0 locs' ∧ Keep h0 h' [d] ∧ Arv Z h' d kd .byte (Int32.ofNat (2 * cs.length)) (own_wide cs) (.int 0) ∧
        own_Go p e below T0 (mkF m 8 #[.val (.ref b), .val (.int (Int32.ofNat i)), .val (.int (Int32.ofNat cs.length)), .val (.ref d), .val (.int (Int32.ofNat i))] []) T' (mkF m 33 #[.val (.ref b), .val (.int (Int32.ofNat cs.length)), .val (.int (Int32.ofNat cs.length)), .val (.ref d), .val (.int (Int32.ofNat cs.length))] [(.ref d)]) := by
  intro k
  induction k with
  | zero =>
    intro i T0 h locs hi X0 e0 Z0 O N K Vb Vd
    have hi' : i = cs.length := by omega
    subst hi'
    rw [List.take_length] at Vd
    exact ⟨T0, h, locs, X0, e0, N, K, Vd, own_tbend b d _ _ X0 hx hby Int32.lt_irrefl⟩
  | succ k ih =>
    intro i T0 h locs hi X0 e0 Z0 O N K Vb Vd
    obtain ⟨T1, h1, L1, X1, e1, N1, K1, V1, g1⟩ := own_tbturn (h0 := h0) b d kb kd cs i (by omega) hn hbd hd0 X0 hx hZ hw hby hml hown e0 Z0 A16 O N Vb Vd
    obtain ⟨T', h', locs', r1, r2, r3, r4, r5, g2⟩ := ih (i + 1) T1 h1 _ (by omega) X1 e1 (Nat.le_trans Z0 K1.1) (O.keep K1 (allS hd0 all0)) N1 (K.trans K1 (fun x hx => Or.inl hx)) (Vb.keep K1 (ninS hbd nin0)) V1
    exact ⟨T', h', locs', r1, r2, r3, r4, r5, g1.trans g2⟩
def Q7 (Z : State) (b : Addr) (cs : List Int32) (h0 : Heap) (n0 : Nat) (v : Option Value) (h : Heap) (L : List Loc) : Prop := v = some (.ref h0.size) ∧ Fr n0 L ∧ Ext h0 h ∧ ∃ k, Arv Z h h0.size k .byte (Int32.ofNat (2 * cs.length)) (own_wide cs) (.int 0)
set_option maxRecDepth 65536 in
set_option maxHeartbeats 40000000 in
theorem rm7 (l : Launch) (Z : State) (a0 : Array Value) (hw : ∀ d ∈ tables_1, d.before a0 Z = true) (ws : List Jvm.Cond) (b : Addr) (cs : List Int32) (h0 : Heap) (n0 : Nat) (Z0 : n0 ≤ h0.size) (kb : ClassId) (hn : cs.length ≤ 4) (Vb : Arv Z h0 b kb .char (Int32.ofNat cs.length) (cs.map Value.int) (.int 0)) (O : Old Z n0 h0) (A16 : own_A16 Z) :
    MetFree l (⟨"java/lang/StringUTF16", "toBytes", "([CII)[B"⟩ : MethodName) (head1 (Jvm.Cond.code (⟨"java/lang/StringUTF16", "toBytes", "([CII)[B"⟩ : MethodName) jdk_52_method_14_code 5 (some (.array .byte)) :: ws) ({ frames := 2, cells := 1, slots := 8, locals := 40 } : Room)) (fun aa_ U => aa_ = #[(.ref b), (.int (0 : Int32)), (.int (Int32.ofNat cs.length))] ∧ Z.Warmed39 U.vm ∧ U.heap = h0) (fun _ _ _ _ _ => True) (fun _ U o U' => ∃ v L, o = .returned v ∧ Q7 Z b cs h0 n0 v U'.heap L ∧ FrameEnd U o U' L ({ frames := 2, cells := 1, slots := 8, locals := 40 } : Room).cells ({ frames := 2, cells := 1, slots := 8, locals := 40 } : Room).slots) := by
  refine MetFree.of_bodySF (plainFor_of_name pn1) hisR ?_
  intro p e s m args below meth c s₁ Bd hml0 hP hK
  obtain ⟨rfl, hZ, hh⟩ := hP
  have hx := Bd.exec
  have hby := Bd.bytes
  have hml : c.maxLocals = 5 := hml0
  have hown : s.vm.findClass "java/lang/StringUTF16" = some m.cls := findClass_of_methodNamed Bd.named
  have hnm := (name_of_methodNamed Bd.named Bd.method).1
  have X0 : Stand p l e ({ frames := 2, cells := 1, slots := 8, locals := 40 } : Room) s m #[(.ref b), (.int (0 : Int32)), (.int (Int32.ofNat cs.length))] below meth c s₁ [] 0 0 := Stand.of_body Bd
  have e0 : s₁.heap = h0 := by rw [← hh, Bd.state]; rfl
  have N0 := Fr.nil n0
  obtain ⟨G, hG⟩ : ∃ G, G = entryFrame m #[(.ref b), (.int (0 : Int32)), (.int (Int32.ofNat cs.length))] 5 := ⟨_, rfl⟩
  have S0 : own_Go p e below s₁ G s₁ (mkF m 0 #[.val (.ref b), .val (.int (0 : Int32)), .val (.int (Int32.ofNat cs.length)), .unset, .unset] []) := fun tg_ kk_ => castTop (by rw [hG]; first | rfl | simp [entryFrame, mkF, argsToLocals, Value.category, maxLocals]) kk_
  have S41 : own_Go p e below s₁ G s₁ (mkF m 1 #[.val (.ref b), .val (.int (0 : Int32)), .val (.int (Int32.ofNat cs.length)), .unset, .unset] [(.int (Int32.ofNat cs.length))]) := fun tg_ kk_ => S0 tg_ (by
    refine XS.iloadN X0.here hx rfl (hb hby d7_0) rfl ?_
    exact kk_)
  obtain ⟨_, T42, h42, L42, X42, e42, hQ42, st42⟩ := own_callS X0 hx hZ (y := (⟨"java/lang/StringUTF16", "newBytesFor", "(I)[B"⟩ : MethodName)) hown (hw _ (List.mem_of_getElem? (i := 32) rfl)) (hw _ (List.mem_of_getElem? (i := 33) rfl)) (hw _ (List.mem_of_getElem? (i := 23) rfl)) (hw _ (List.mem_of_getElem? (i := 34) rfl)) (by decide) 0 (g := (mkF m 1 #[.val (.ref b), .val (.int (0 : Int32)), .val (.int (Int32.ofNat cs.length)), .unset, .unset] [(.int (Int32.ofNat cs.length))])) rfl (by rw [hml]; rfl) [(.int (Int32.ofNat cs.length))] [] (rm8 l Z a0 hw [] cs.length h0 n0 Z0 hn) (lenOf pd8 rfl) rfl (by show 2 * 0 + _ ≤ _; exact Nat.le_of_eq rfl) (hb hby d7_1) (by decide) (by decide) e0 (by decide) (by decide)
  obtain ⟨rfl, N42, E42, k42, V42⟩ := hQ42
  have S43 : own_Go p e below s₁ G T42 (mkF m 4 #[.val (.ref b), .val (.int (0 : Int32)), .val (.int (Int32.ofNat cs.length)), .unset, .unset] [(.ref h0.size)]) := fun tg_ kk_ => S41 tg_ (st42 tg_ kk_)
  have M1 := Fr.app N0 N42
  obtain ⟨d, gd⟩ : ∃ z, z = h0.size := ⟨_, rfl⟩
  rw [← gd] at S43
  rw [← gd] at V42
  have hbd : b ≠ d := Nat.ne_of_lt (Nat.lt_of_lt_of_le Vb.lt (Nat.le_of_eq gd.symm))
  have hd0 : n0 ≤ d := Nat.le_trans Z0 (Nat.le_of_eq gd.symm)
  have S44 : own_Go p e below s₁ G T42 (mkF m 8 #[.val (.ref b), .val (.int (0 : Int32)), .val (.int (Int32.ofNat cs.length)), .val (.ref d), .val (.int (0 : Int32))] []) := fun tg_ kk_ => S43 tg_ (by
    refine XS.astoreN X42.here hx rfl (hb hby d7_4) rfl rfl (l' := #[.val (.ref b), .val (.int (0 : Int32)), .val (.int (Int32.ofNat cs.length)), .val (.ref d), .unset]) rfl ?_
    show Steps p.tables e below (T42.setTop (mkF m 5 #[.val (.ref b), .val (.int (0 : Int32)), .val (.int (Int32.ofNat cs.length)), .val (.ref d), .unset] [])) _
    refine XS.iconst X42.here hx rfl (hb hby d7_5) ?_
    show Steps p.tables e below (T42.setTop (mkF m 6 #[.val (.ref b), .val (.int (0 : Int32)), .val (.int (Int32.ofNat cs.length)), .val (.ref d), .unset] [(.int (0 : Int32))])) _
    refine XS.istore X42.here hx rfl (hb hby d7_6) rfl (l' := #[.val (.ref b), .val (.int (0 : Int32)), .val (.int (Int32.ofNat cs.length)), .val (.ref d), .val (.int (0 : Int32))]) rfl ?_
    exact kk_)
  obtain ⟨T', h', locs', r1, r2, r3, r4, r5, g2⟩ := own_tb (h0 := h42) b d kb k42 cs hn hbd hd0 hx hZ hw hby hml hown A16 cs.length 0 T42 h42 _ (by omega) X42 e42 (own_sub Z0 E42) (O.ext E42) M1 (Keep.refl _ _) (Vb.ext E42) V42
  have SL := own_Go.trans S44 g2
  have E2 : Ext h0 h' := ⟨Nat.le_trans E42.1 r4.1, fun a c q => r4.2.1 a c (E42.2 a c q) (ninS (Nat.ne_of_lt (Nat.lt_of_lt_of_le (Array.getElem?_eq_some_iff.mp q).1 (Nat.le_of_eq gd.symm))) nin0)⟩
  subst gd
  obtain ⟨fs, hr, hrun, hended, hW, hsame⟩ := r1.leave (v := some (.ref h0.size)) (fun h => by rw [Bd.returns] at h; cases h)
  refine ⟨_, _, ?_, hrun, hended, _, _, rfl, ?_, ⟨_, rfl⟩, hW, hsame.mono (by decide) (by decide)⟩
  · rw [← hG]; exact SL _ (retOut r1 hx Bd.returns (by first | rfl | cases (.ref h0.size) <;> rfl) (Or.inr (Or.inr (Or.inr (Or.inr ⟨rfl, rfl, rfl⟩)))) (hb hby d7_33) hr)
  · show Q7 Z b cs h0 n0 _ T'.heap _
    rw [r2]
    exact ⟨rfl, r3, E2, _, r5⟩
theorem own_coder {n M : Nat} {cd : Int32} (hn : 1 ≤ n ∧ n ≤ 1000) (hcd : (cd = 0 ∧ M = n) ∨ (cd = 1 ∧ M = 2 * n)) : ((XT.ushr ((Int32.ofNat n) - (Int32.ofNat M)) (31 : Int32)).toInt8.toInt32) = cd := by
  rcases hcd with ⟨rfl, rfl⟩ | ⟨rfl, rfl⟩
  · rw [Int32.sub_self]; decide
  · have h1 := c_isub (Int32.ofNat n) (Int32.ofNat (2 * n))
    have r1 := rng32 (Int32.ofNat n - Int32.ofNat (2 * n))
    rw [Int32.toInt_ofNat_of_lt (by omega), Int32.toInt_ofNat_of_lt (by omega)] at h1
    have h2 := c_iushr (Int32.ofNat n - Int32.ofNat (2 * n)) 31 31 (by decide) (by decide)
    have h3 := c_i2b (XT.ushr (Int32.ofNat n - Int32.ofNat (2 * n)) 31)
    have e : (XT.ushr (Int32.ofNat n - Int32.ofNat (2 * n)) 31).toInt = ((Int32.ofNat n - Int32.ofNat (2 * n)).toUInt32 >>> ((31 : Int32) &&& 31).toUInt32).toInt32.toInt := rfl
    refine Int32.toInt_inj.mp ?_
    have e1 : (1 : Int32).toInt = 1 := rfl
    omega
def Q12 (Z : State) (t : Addr) (n : Nat) (cd : Int32) (h0 : Heap) (n0 : Nat) (v : Option Value) (h : Heap) (L : List Loc) : Prop := v = some (.int cd) ∧ Fr n0 L ∧ h0 = h
set_option maxRecDepth 65536 in
set_option maxHeartbeats 40000000 in
theorem rm12 (l : Launch) (Z : State) (a0 : Array Value) (hw : ∀ d ∈ tables_1, d.before a0 Z = true) (ws : List Jvm.Cond) (t : Addr) (n : Nat) (cd : Int32) (h0 : Heap) (n0 : Nat) (Z0 : n0 ≤ h0.size) (kt : ClassId) (M : Nat) (vs : List Value) (V : Arv Z h0 t kt .byte (Int32.ofNat M) vs (.int 0)) (hM : M ≤ 2000) (hn : 1 ≤ n ∧ n ≤ 1000) (hcd : (cd = 0 ∧ M = n) ∨ (cd = 1 ∧ M = 2 * n)) :
    MetFree l (⟨"java/lang/StringUTF16", "coderFromArrayLen", "([BI)B"⟩ : MethodName) (head1 (Jvm.Cond.code (⟨"java/lang/StringUTF16", "coderFromArrayLen", "([BI)B"⟩ : MethodName) jdk_52_method_15_code 2 (some .byte) :: ws) ({ frames := 0, cells := 0, slots := 0, locals := 0 } : Room)) (fun aa_ U => aa_ = #[(.ref t), (.int (Int32.ofNat n))] ∧ Z.Warmed39 U.vm ∧ U.heap = h0) (fun _ _ _ _ _ => True) (fun _ U o U' => ∃ v L, o = .returned v ∧ Q12 Z t n cd h0 n0 v U'.heap L ∧ FrameEnd U o U' L ({ frames := 0, cells := 0, slots := 0, locals := 0 } : Room).cells ({ frames := 0, cells := 0, slots := 0, locals := 0 } : Room).slots) := by
  refine MetFree.of_bodySF (plainFor_of_name pn1) hisR ?_
  intro p e s m args below meth c s₁ Bd hml0 hP hK
  obtain ⟨rfl, hZ, hh⟩ := hP
  have hx := Bd.exec
  have hby := Bd.bytes
  have hml : c.maxLocals = 2 := hml0
  have hown : s.vm.findClass "java/lang/StringUTF16" = some m.cls := findClass_of_methodNamed Bd.named
  have hnm := (name_of_methodNamed Bd.named Bd.method).1
  have X0 : Stand p l e ({ frames := 0, cells := 0, slots := 0, locals := 0 } : Room) s m #[(.ref t), (.int (Int32.ofNat n))] below meth c s₁ [] 0 0 := Stand.of_body Bd
  have e0 : s₁.heap = h0 := by rw [← hh, Bd.state]; rfl
  have N0 := Fr.nil n0
  obtain ⟨G, hG⟩ : ∃ G, G = entryFrame m #[(.ref t), (.int (Int32.ofNat n))] 2 := ⟨_, rfl⟩
  have S0 : own_Go p e below s₁ G s₁ (mkF m 0 #[.val (.ref t), .val (.int (Int32.ofNat n))] []) := fun tg_ kk_ => castTop (by rw [hG]; first | rfl | simp [entryFrame, mkF, argsToLocals, Value.category, maxLocals]) kk_
  obtain ⟨cl, Ar, -, Sz, Mn, H, -⟩ := V
  have S45 : own_Go p e below s₁ G s₁ (mkF m 8 #[.val (.ref t), .val (.int (Int32.ofNat n))] [(.int ((XT.ushr ((Int32.ofNat n) - (Int32.ofNat M)) (31 : Int32)).toInt8.toInt32))]) := fun tg_ kk_ => S0 tg_ (by
    refine XS.iloadN X0.here hx rfl (hb hby d12_0) rfl ?_
    show Steps p.tables e below (s₁.setTop (mkF m 1 #[.val (.ref t), .val (.int (Int32.ofNat n))] [(.int (Int32.ofNat n))])) _
    refine XS.aloadN X0.here hx rfl (hb hby d12_1) rfl rfl ?_
    show Steps p.tables e below (s₁.setTop (mkF m 2 #[.val (.ref t), .val (.int (Int32.ofNat n))] [(.ref t), (.int (Int32.ofNat n))])) _
    refine X0.arraylength hx (cell := cl) (by rw [e0]; exact Ar.1) (State.isArrayOf_alike hZ.alike Ar.2.1) (g := (mkF m 2 #[.val (.ref t), .val (.int (Int32.ofNat n))] [(.ref t), (.int (Int32.ofNat n))])) rfl (rest := [(.int (Int32.ofNat n))]) rfl (hb hby d12_2) _ ?_
    rw [len_of Sz Mn]
    show Steps p.tables e below (s₁.setTop (mkF m 3 #[.val (.ref t), .val (.int (Int32.ofNat n))] [(.int (Int32.ofNat M)), (.int (Int32.ofNat n))])) _
    refine XS.isub X0.here hx rfl (hb hby d12_3) rfl ?_
    show Steps p.tables e below (s₁.setTop (mkF m 4 #[.val (.ref t), .val (.int (Int32.ofNat n))] [(.int ((Int32.ofNat n) - (Int32.ofNat M)))])) _
    refine XS.bipush X0.here hx rfl (hb hby d12_4) ?_
    show Steps p.tables e below (s₁.setTop (mkF m 6 #[.val (.ref t), .val (.int (Int32.ofNat n))] [(.int (31 : Int32)), (.int ((Int32.ofNat n) - (Int32.ofNat M)))])) _
    refine XT.iushr X0.here hx rfl (hb hby d12_6) rfl ?_
    show Steps p.tables e below (s₁.setTop (mkF m 7 #[.val (.ref t), .val (.int (Int32.ofNat n))] [(.int (XT.ushr ((Int32.ofNat n) - (Int32.ofNat M)) (31 : Int32)))])) _
    refine XT.i2b X0.here hx rfl (hb hby d12_7) rfl ?_
    exact kk_)
  have hq : ((XT.ushr ((Int32.ofNat n) - (Int32.ofNat M)) (31 : Int32)).toInt8.toInt32) = cd := own_coder hn hcd
  rw [hq] at S45
  rcases hcd with ⟨rfl, -⟩ | ⟨rfl, -⟩
  · have _ := N0
    obtain ⟨fs, hr, hrun, hended, hW, hsame⟩ := X0.leave (v := some (.int (0 : Int32))) (fun h => by rw [Bd.returns] at h; cases h)
    refine ⟨_, _, ?_, hrun, hended, _, _, rfl, ?_, ⟨_, rfl⟩, hW, hsame.mono (by decide) (by decide)⟩
    · rw [← hG]; exact S45 _ (retN X0 hx (t := .byte) Bd.returns (by simp) (hb hby d12_8) hr)
    · show Q12 Z t n (0 : Int32) h0 n0 _ s₁.heap _
      rw [e0]
      exact ⟨rfl, N0, rfl⟩
  · have _ := N0
    obtain ⟨fs, hr, hrun, hended, hW, hsame⟩ := X0.leave (v := some (.int (1 : Int32))) (fun h => by rw [Bd.returns] at h; cases h)
    refine ⟨_, _, ?_, hrun, hended, _, _, rfl, ?_, ⟨_, rfl⟩, hW, hsame.mono (by decide) (by decide)⟩
    · rw [← hG]; exact S45 _ (retN X0 hx (t := .byte) Bd.returns (by simp) (hb hby d12_8) hr)
    · show Q12 Z t n (1 : Int32) h0 n0 _ s₁.heap _
      rw [e0]
      exact ⟨rfl, N0, rfl⟩
def Q5 (Z : State) (b : Addr) (cs : List Int32) (h0 : Heap) (n0 : Nat) (v : Option Value) (h : Heap) (L : List Loc) : Prop := ∃ t, v = some (.ref t) ∧ h0.size ≤ t ∧ Fr n0 L ∧ Ext h0 h ∧ ((∃ k, Arv Z h t k .byte (Int32.ofNat cs.length) (cs.map own_vb) (.int 0)) ∧ (∀ j, j < cs.length → ¬ (255 : Int32) < cs.getD j 0) ∨ (∃ k, Arv Z h t k .byte (Int32.ofNat (2 * cs.length)) (own_wide cs) (.int 0)) ∧ ∃ j, j < cs.length ∧ (255 : Int32) < cs.getD j 0)
set_option maxRecDepth 65536 in
set_option maxHeartbeats 40000000 in
theorem rm5 (l : Launch) (Z : State) (a0 : Array Value) (hw : ∀ d ∈ tables_1, d.before a0 Z = true) (ws : List Jvm.Cond) (b : Addr) (cs : List Int32) (h0 : Heap) (n0 : Nat) (Z0 : n0 ≤ h0.size) (kb : ClassId) (hn : cs.length ≤ 4) (Vb : Arv Z h0 b kb .char (Int32.ofNat cs.length) (cs.map Value.int) (.int 0)) (O : Old Z n0 h0) (A16 : own_A16 Z) (hch : ∀ j, j < cs.length → own_Ch (cs.getD j 0)) :
    MetFree l (⟨"java/lang/StringUTF16", "compress", "([CII)[B"⟩ : MethodName) (head1 (Jvm.Cond.code (⟨"java/lang/StringUTF16", "compress", "([CII)[B"⟩ : MethodName) jdk_52_method_16_code 6 (some (.array .byte)) :: ws) ({ frames := 3, cells := 2, slots := 12, locals := 60 } : Room)) (fun aa_ U => aa_ = #[(.ref b), (.int (0 : Int32)), (.int (Int32.ofNat cs.length))] ∧ Z.Warmed39 U.vm ∧ U.heap = h0) (fun _ _ _ _ _ => True) (fun _ U o U' => ∃ v L, o = .returned v ∧ Q5 Z b cs h0 n0 v U'.heap L ∧ FrameEnd U o U' L ({ frames := 3, cells := 2, slots := 12, locals := 60 } : Room).cells ({ frames := 3, cells := 2, slots := 12, locals := 60 } : Room).slots) := by
  refine MetFree.of_bodySF (plainFor_of_name pn1) hisR ?_
  intro p e s m args below meth c s₁ Bd hml0 hP hK
  obtain ⟨rfl, hZ, hh⟩ := hP
  have hx := Bd.exec
  have hby := Bd.bytes
  have hml : c.maxLocals = 6 := hml0
  have hown : s.vm.findClass "java/lang/StringUTF16" = some m.cls := findClass_of_methodNamed Bd.named
  have hnm := (name_of_methodNamed Bd.named Bd.method).1
  have X0 : Stand p l e ({ frames := 3, cells := 2, slots := 12, locals := 60 } : Room) s m #[(.ref b), (.int (0 : Int32)), (.int (Int32.ofNat cs.length))] below meth c s₁ [] 0 0 := Stand.of_body Bd
  have e0 : s₁.heap = h0 := by rw [← hh, Bd.state]; rfl
  have N0 := Fr.nil n0
  obtain ⟨G, hG⟩ : ∃ G, G = entryFrame m #[(.ref b), (.int (0 : Int32)), (.int (Int32.ofNat cs.length))] 6 := ⟨_, rfl⟩
  have S0 : own_Go p e below s₁ G s₁ (mkF m 0 #[.val (.ref b), .val (.int (0 : Int32)), .val (.int (Int32.ofNat cs.length)), .unset, .unset, .unset] []) := fun tg_ kk_ => castTop (by rw [hG]; first | rfl | simp [entryFrame, mkF, argsToLocals, Value.category, maxLocals]) kk_
  have S46 : own_Go p e below s₁ G s₁ (mkF m 1 #[.val (.ref b), .val (.int (0 : Int32)), .val (.int (Int32.ofNat cs.length)), .unset, .unset, .unset] [(.int (Int32.ofNat cs.length))]) := fun tg_ kk_ => S0 tg_ (by
    refine XS.iloadN X0.here hx rfl (hb hby d5_0) rfl ?_
    exact kk_)
  obtain ⟨Tp1, hp1, kp1, Xp1, ep1, Ep1, Ap1, stp1⟩ := newP X0 hx hZ (hw _ (List.mem_of_getElem? (i := 25) rfl)) e0 (g := (mkF m 1 #[.val (.ref b), .val (.int (0 : Int32)), .val (.int (Int32.ofNat cs.length)), .unset, .unset, .unset] [(.int (Int32.ofNat cs.length))])) rfl (hb hby d5_1) rfl (own_nn32 (by omega)) (cap := 4) (by rw [own_n32 (by omega)]; omega) (by decide) (by decide) (by decide)
  have S47 : own_Go p e below s₁ G Tp1 (mkF m 3 #[.val (.ref b), .val (.int (0 : Int32)), .val (.int (Int32.ofNat cs.length)), .unset, .unset, .unset] [(.ref h0.size)]) := fun tg_ kk_ => S46 tg_ (stp1 tg_ kk_)
  obtain ⟨d, gd⟩ : ∃ z, z = h0.size := ⟨_, rfl⟩
  rw [← gd] at S47
  rw [← gd] at Ap1
  have hbd : b ≠ d := Nat.ne_of_lt (Nat.lt_of_lt_of_le Vb.lt (Nat.le_of_eq gd.symm))
  have hd0 : n0 ≤ d := Nat.le_trans Z0 (Nat.le_of_eq gd.symm)
  have Vd0 : Arv Z hp1 d kp1 .byte (Int32.ofNat cs.length) [] (.int 0) := Arv.new Ap1 (own_nn32 (by omega))
  have S48 : own_Go p e below s₁ G Tp1 (mkF m 9 #[.val (.ref b), .val (.int (0 : Int32)), .val (.int (Int32.ofNat cs.length)), .val (.ref d), .unset, .unset] [(.int (Int32.ofNat cs.length)), (.int (0 : Int32)), (.ref d), (.int (0 : Int32)), (.ref b)]) := fun tg_ kk_ => S47 tg_ (by
    refine XS.astoreN Xp1.here hx rfl (hb hby d5_3) rfl rfl (l' := #[.val (.ref b), .val (.int (0 : Int32)), .val (.int (Int32.ofNat cs.length)), .val (.ref d), .unset, .unset]) rfl ?_
    show Steps p.tables e below (Tp1.setTop (mkF m 4 #[.val (.ref b), .val (.int (0 : Int32)), .val (.int (Int32.ofNat cs.length)), .val (.ref d), .unset, .unset] [])) _
    refine XS.aloadN Xp1.here hx rfl (hb hby d5_4) rfl rfl ?_
    show Steps p.tables e below (Tp1.setTop (mkF m 5 #[.val (.ref b), .val (.int (0 : Int32)), .val (.int (Int32.ofNat cs.length)), .val (.ref d), .unset, .unset] [(.ref b)])) _
    refine XS.iloadN Xp1.here hx rfl (hb hby d5_5) rfl ?_
    show Steps p.tables e below (Tp1.setTop (mkF m 6 #[.val (.ref b), .val (.int (0 : Int32)), .val (.int (Int32.ofNat cs.length)), .val (.ref d), .unset, .unset] [(.int (0 : Int32)), (.ref b)])) _
    refine XS.aloadN Xp1.here hx rfl (hb hby d5_6) rfl rfl ?_
    show Steps p.tables e below (Tp1.setTop (mkF m 7 #[.val (.ref b), .val (.int (0 : Int32)), .val (.int (Int32.ofNat cs.length)), .val (.ref d), .unset, .unset] [(.ref d), (.int (0 : Int32)), (.ref b)])) _
    refine XS.iconst Xp1.here hx rfl (hb hby d5_7) ?_
    show Steps p.tables e below (Tp1.setTop (mkF m 8 #[.val (.ref b), .val (.int (0 : Int32)), .val (.int (Int32.ofNat cs.length)), .val (.ref d), .unset, .unset] [(.int (0 : Int32)), (.ref d), (.int (0 : Int32)), (.ref b)])) _
    refine XS.iloadN Xp1.here hx rfl (hb hby d5_8) rfl ?_
    exact kk_)
  obtain ⟨_, T49, h49, L49, X49, e49, hQ49, st49⟩ := own_callS Xp1 hx hZ (y := (⟨"java/lang/StringUTF16", "compress", "([CI[BII)I"⟩ : MethodName)) hown (hw _ (List.mem_of_getElem? (i := 26) rfl)) (hw _ (List.mem_of_getElem? (i := 27) rfl)) (hw _ (List.mem_of_getElem? (i := 23) rfl)) (hw _ (List.mem_of_getElem? (i := 28) rfl)) (by decide) 0 (g := (mkF m 9 #[.val (.ref b), .val (.int (0 : Int32)), .val (.int (Int32.ofNat cs.length)), .val (.ref d), .unset, .unset] [(.int (Int32.ofNat cs.length)), (.int (0 : Int32)), (.ref d), (.int (0 : Int32)), (.ref b)])) rfl (by rw [hml]; rfl) [(.ref b), (.int (0 : Int32)), (.ref d), (.int (0 : Int32)), (.int (Int32.ofNat cs.length))] [] (rm6 l Z a0 hw [] b d kp1 cs hp1 n0 (own_sub Z0 Ep1) kb (by omega) hbd hd0 (Vb.ext Ep1) Vd0) (lenOf pd7 rfl) rfl (by show 2 * 0 + _ ≤ _; exact Nat.le_of_eq rfl) (hb hby d5_9) (by decide) (by decide) ep1 (by decide) (by decide)
  obtain ⟨j, rfl, j1, j2, j3, N49, K49, V49⟩ := hQ49
  have S50 : own_Go p e below s₁ G T49 (mkF m 12 #[.val (.ref b), .val (.int (0 : Int32)), .val (.int (Int32.ofNat cs.length)), .val (.ref d), .unset, .unset] [(.int (Int32.ofNat j))]) := fun tg_ kk_ => S48 tg_ (st49 tg_ kk_)
  have M1 := Fr.app N0 N49
  have E2 : Ext h0 h49 := ⟨Nat.le_trans Ep1.1 K49.1, fun a c q => K49.2.1 a c (Ep1.2 a c q) (ninS (Nat.ne_of_lt (Nat.lt_of_lt_of_le (Array.getElem?_eq_some_iff.mp q).1 (Nat.le_of_eq gd.symm))) nin0)⟩
  have S51 : own_Go p e below s₁ G T49 (mkF m 17 #[.val (.ref b), .val (.int (0 : Int32)), .val (.int (Int32.ofNat cs.length)), .val (.ref d), .val (.int (Int32.ofNat j)), .unset] [(.int (Int32.ofNat cs.length)), (.int (Int32.ofNat j))]) := fun tg_ kk_ => S50 tg_ (by
    refine XS.istore X49.here hx rfl (hb hby d5_12) rfl (l' := #[.val (.ref b), .val (.int (0 : Int32)), .val (.int (Int32.ofNat cs.length)), .val (.ref d), .val (.int (Int32.ofNat j)), .unset]) rfl ?_
    show Steps p.tables e below (T49.setTop (mkF m 14 #[.val (.ref b), .val (.int (0 : Int32)), .val (.int (Int32.ofNat cs.length)), .val (.ref d), .val (.int (Int32.ofNat j)), .unset] [])) _
    refine XS.iload X49.here hx rfl (hb hby d5_14) rfl ?_
    show Steps p.tables e below (T49.setTop (mkF m 16 #[.val (.ref b), .val (.int (0 : Int32)), .val (.int (Int32.ofNat cs.length)), .val (.ref d), .val (.int (Int32.ofNat j)), .unset] [(.int (Int32.ofNat j))])) _
    refine XS.iloadN X49.here hx rfl (hb hby d5_16) rfl ?_
    exact kk_)
  by_cases hj : j = cs.length
  · subst hj
    rw [List.take_length] at V49
    have S52 : own_Go p e below s₁ G T49 (mkF m 58 #[.val (.ref b), .val (.int (0 : Int32)), .val (.int (Int32.ofNat cs.length)), .val (.ref d), .val (.int (Int32.ofNat cs.length)), .unset] [(.ref d)]) := fun tg_ kk_ => S51 tg_ (by
      refine XS.icmpYes X49.here hx rfl (pc0 := 17) (pc' := 57) rfl (hb hby d5_17) rfl (teq rfl).1 (by decide) (by decide) ?_
      show Steps p.tables e below (T49.setTop (mkF m 57 #[.val (.ref b), .val (.int (0 : Int32)), .val (.int (Int32.ofNat cs.length)), .val (.ref d), .val (.int (Int32.ofNat cs.length)), .unset] [])) _
      refine XS.aloadN X49.here hx rfl (hb hby d5_57) rfl rfl ?_
      exact kk_)
    obtain ⟨fs, hr, hrun, hended, hW, hsame⟩ := X49.leave (v := some (.ref d)) (fun h => by rw [Bd.returns] at h; cases h)
    refine ⟨_, _, ?_, hrun, hended, _, _, rfl, ?_, ⟨_, rfl⟩, hW, hsame.mono (by decide) (by decide)⟩
    · rw [← hG]; exact S52 _ (retOut X49 hx Bd.returns (by first | rfl | cases (.ref d) <;> rfl) (Or.inr (Or.inr (Or.inr (Or.inr ⟨rfl, rfl, rfl⟩)))) (hb hby d5_58) hr)
    · show Q5 Z b cs h0 n0 _ T49.heap _
      rw [e49]
      exact ⟨d, rfl, Nat.le_of_eq gd.symm, M1, E2, Or.inl ⟨⟨_, V49⟩, j2⟩⟩
  · have hjl : j < cs.length := by omega
    have O2 := O.ext E2
    have S53 : own_Go p e below s₁ G T49 (mkF m 23 #[.val (.ref b), .val (.int (0 : Int32)), .val (.int (Int32.ofNat cs.length)), .val (.ref d), .val (.int (Int32.ofNat j)), .unset] [(.int (Int32.ofNat cs.length)), (.int (0 : Int32)), (.ref b)]) := fun tg_ kk_ => S51 tg_ (by
      refine XS.icmpNo X49.here hx rfl (hb hby d5_17) rfl (feq (fun q => hj (own_inj32 (by omega) (by omega) q))).1 ?_
      show Steps p.tables e below (T49.setTop (mkF m 20 #[.val (.ref b), .val (.int (0 : Int32)), .val (.int (Int32.ofNat cs.length)), .val (.ref d), .val (.int (Int32.ofNat j)), .unset] [])) _
      refine XS.aloadN X49.here hx rfl (hb hby d5_20) rfl rfl ?_
      show Steps p.tables e below (T49.setTop (mkF m 21 #[.val (.ref b), .val (.int (0 : Int32)), .val (.int (Int32.ofNat cs.length)), .val (.ref d), .val (.int (Int32.ofNat j)), .unset] [(.ref b)])) _
      refine XS.iloadN X49.here hx rfl (hb hby d5_21) rfl ?_
      show Steps p.tables e below (T49.setTop (mkF m 22 #[.val (.ref b), .val (.int (0 : Int32)), .val (.int (Int32.ofNat cs.length)), .val (.ref d), .val (.int (Int32.ofNat j)), .unset] [(.int (0 : Int32)), (.ref b)])) _
      refine XS.iloadN X49.here hx rfl (hb hby d5_22) rfl ?_
      exact kk_)
    obtain ⟨_, T54, h54, L54, X54, e54, hQ54, st54⟩ := own_callS X49 hx hZ (y := (⟨"java/lang/StringUTF16", "toBytes", "([CII)[B"⟩ : MethodName)) hown (hw _ (List.mem_of_getElem? (i := 29) rfl)) (hw _ (List.mem_of_getElem? (i := 30) rfl)) (hw _ (List.mem_of_getElem? (i := 23) rfl)) (hw _ (List.mem_of_getElem? (i := 31) rfl)) (by decide) 0 (g := (mkF m 23 #[.val (.ref b), .val (.int (0 : Int32)), .val (.int (Int32.ofNat cs.length)), .val (.ref d), .val (.int (Int32.ofNat j)), .unset] [(.int (Int32.ofNat cs.length)), (.int (0 : Int32)), (.ref b)])) rfl (by rw [hml]; rfl) [(.ref b), (.int (0 : Int32)), (.int (Int32.ofNat cs.length))] [] (rm7 l Z a0 hw [] b cs h49 n0 (own_sub Z0 E2) kb hn (Vb.ext E2) O2 A16) (lenOf pd6 rfl) rfl (by show 2 * 0 + _ ≤ _; exact Nat.le_of_eq rfl) (hb hby d5_23) (by decide) (by decide) e49 (by decide) (by decide)
    obtain ⟨rfl, N54, E54, k54, V54⟩ := hQ54
    have S55 : own_Go p e below s₁ G T54 (mkF m 26 #[.val (.ref b), .val (.int (0 : Int32)), .val (.int (Int32.ofNat cs.length)), .val (.ref d), .val (.int (Int32.ofNat j)), .unset] [(.ref h49.size)]) := fun tg_ kk_ => S53 tg_ (st54 tg_ kk_)
    obtain ⟨t, gt⟩ : ∃ z, z = h49.size := ⟨_, rfl⟩
    rw [← gt] at S55
    rw [← gt] at V54
    have M2 := Fr.app M1 N54
    have S56 : own_Go p e below s₁ G T54 (mkF m 32 #[.val (.ref b), .val (.int (0 : Int32)), .val (.int (Int32.ofNat cs.length)), .val (.ref d), .val (.int (Int32.ofNat j)), .val (.ref t)] [(.int (Int32.ofNat j)), (.ref t)]) := fun tg_ kk_ => S55 tg_ (by
      refine XS.astore X54.here hx rfl (hb hby d5_26) rfl rfl (l' := #[.val (.ref b), .val (.int (0 : Int32)), .val (.int (Int32.ofNat cs.length)), .val (.ref d), .val (.int (Int32.ofNat j)), .val (.ref t)]) rfl ?_
      show Steps p.tables e below (T54.setTop (mkF m 28 #[.val (.ref b), .val (.int (0 : Int32)), .val (.int (Int32.ofNat cs.length)), .val (.ref d), .val (.int (Int32.ofNat j)), .val (.ref t)] [])) _
      refine XS.aload X54.here hx rfl (hb hby d5_28) rfl rfl ?_
      show Steps p.tables e below (T54.setTop (mkF m 30 #[.val (.ref b), .val (.int (0 : Int32)), .val (.int (Int32.ofNat cs.length)), .val (.ref d), .val (.int (Int32.ofNat j)), .val (.ref t)] [(.ref t)])) _
      refine XS.iload X54.here hx rfl (hb hby d5_30) rfl ?_
      exact kk_)
    obtain ⟨_, T57, h57, L57, X57, e57, hQ57, st57⟩ := own_callS X54 hx hZ (y := (⟨"java/lang/StringUTF16", "getChar", "([BI)C"⟩ : MethodName)) hown (hw _ (List.mem_of_getElem? (i := 45) rfl)) (hw _ (List.mem_of_getElem? (i := 46) rfl)) (hw _ (List.mem_of_getElem? (i := 23) rfl)) (hw _ (List.mem_of_getElem? (i := 47) rfl)) (by decide) 0 (g := (mkF m 32 #[.val (.ref b), .val (.int (0 : Int32)), .val (.int (Int32.ofNat cs.length)), .val (.ref d), .val (.int (Int32.ofNat j)), .val (.ref t)] [(.int (Int32.ofNat j)), (.ref t)])) rfl (by rw [hml]; rfl) [(.ref t), (.int (Int32.ofNat j))] [] (rm11 l Z a0 hw [] t j cs h54 n0 (own_sub (own_sub Z0 E2) E54) k54 V54 hjl (by omega) (hch j hjl) (O2.ext E54) A16) (lenOf pd11 rfl) rfl (by show 2 * 0 + _ ≤ _; exact Nat.le_of_eq rfl) (hb hby d5_32) (by decide) (by decide) e54 (by decide) (by decide)
    obtain ⟨rfl, N57, rfl⟩ := hQ57
    have S58 : own_Go p e below s₁ G T57 (mkF m 35 #[.val (.ref b), .val (.int (0 : Int32)), .val (.int (Int32.ofNat cs.length)), .val (.ref d), .val (.int (Int32.ofNat j)), .val (.ref t)] [(.int (cs.getD j 0))]) := fun tg_ kk_ => S56 tg_ (st57 tg_ kk_)
    have M3 := Fr.app M2 N57
    have S59 : own_Go p e below s₁ G T57 (mkF m 56 #[.val (.ref b), .val (.int (0 : Int32)), .val (.int (Int32.ofNat cs.length)), .val (.ref d), .val (.int (Int32.ofNat j)), .val (.ref t)] [(.ref t)]) := fun tg_ kk_ => S58 tg_ (by
      refine XS.sipush X57.here hx rfl (hb hby d5_35) ?_
      show Steps p.tables e below (T57.setTop (mkF m 38 #[.val (.ref b), .val (.int (0 : Int32)), .val (.int (Int32.ofNat cs.length)), .val (.ref d), .val (.int (Int32.ofNat j)), .val (.ref t)] [(.int (255 : Int32)), (.int (cs.getD j 0))])) _
      refine XS.icmpYes X57.here hx rfl (pc0 := 38) (pc' := 54) rfl (hb hby d5_38) rfl (tlt (j3 hjl)).2.2.1 (by decide) (by decide) ?_
      show Steps p.tables e below (T57.setTop (mkF m 54 #[.val (.ref b), .val (.int (0 : Int32)), .val (.int (Int32.ofNat cs.length)), .val (.ref d), .val (.int (Int32.ofNat j)), .val (.ref t)] [])) _
      refine XS.aload X57.here hx rfl (hb hby d5_54) rfl rfl ?_
      exact kk_)
    obtain ⟨fs, hr, hrun, hended, hW, hsame⟩ := X57.leave (v := some (.ref t)) (fun h => by rw [Bd.returns] at h; cases h)
    refine ⟨_, _, ?_, hrun, hended, _, _, rfl, ?_, ⟨_, rfl⟩, hW, hsame.mono (by decide) (by decide)⟩
    · rw [← hG]; exact S59 _ (retOut X57 hx Bd.returns (by first | rfl | cases (.ref t) <;> rfl) (Or.inr (Or.inr (Or.inr (Or.inr ⟨rfl, rfl, rfl⟩)))) (hb hby d5_56) hr)
    · show Q5 Z b cs h0 n0 _ T57.heap _
      rw [e57]
      exact ⟨t, rfl, Nat.le_trans E2.1 (Nat.le_of_eq gt.symm), M3, ⟨Nat.le_trans E2.1 E54.1, fun a c q => E54.2 a c (E2.2 a c q)⟩, Or.inr ⟨⟨_, V54⟩, j, hjl, j3 hjl⟩⟩
theorem pn2 : plainName "java/lang/String" = true := by first | (simp [plainName, overriddenIn]; done) | decide +kernel
def Q3 (Z : State) (x : Addr) (b : Addr) (cs : List Int32) (h0 : Heap) (n0 : Nat) (v : Option Value) (h : Heap) (L : List Loc) : Prop := v = none ∧ Fr n0 L ∧ Keep h0 h [x] ∧ ∃ t, h0.size ≤ t ∧ own_Str Z h x t cs
set_option maxRecDepth 65536 in
set_option maxHeartbeats 40000000 in
theorem rm3 (l : Launch) (Z : State) (a0 : Array Value) (hw : ∀ d ∈ tables_1, d.before a0 Z = true) (ws : List Jvm.Cond) (x : Addr) (b : Addr) (cs : List Int32) (h0 : Heap) (n0 : Nat) (Z0 : n0 ≤ h0.size) (z : Int32) (kb : ClassId) (hn : 1 ≤ cs.length ∧ cs.length ≤ 4) (Ex : Exa Z h0 x "java/lang/String") (Fv : Fld Z h0 x "java/lang/String" "value" "[B" .null) (Fc : Fld Z h0 x "java/lang/String" "coder" "B" (.int 0)) (hx0 : n0 ≤ x) (Vb : Arv Z h0 b kb .char (Int32.ofNat cs.length) (cs.map Value.int) (.int 0)) (O : Old Z n0 h0) (O2 : Sta Z Z.heap "java/lang/String" "COMPACT_STRINGS" "Z" (.int z)) (P5 : ¬ z = 0) (A16 : own_A16 Z) (hch : ∀ j, j < cs.length → own_Ch (cs.getD j 0)) :
    MetFree l (⟨"java/lang/String", "<init>", "([CIILjava/lang/Void;)V"⟩ : MethodName) (head1 (Jvm.Cond.code (⟨"java/lang/String", "<init>", "([CIILjava/lang/Void;)V"⟩ : MethodName) jdk_42_method_149_code 6 none :: ws) ({ frames := 4, cells := 2, slots := 12, locals := 80 } : Room)) (fun aa_ U => aa_ = #[(.ref x), (.ref b), (.int (0 : Int32)), (.int (Int32.ofNat cs.length)), .null] ∧ Z.Warmed39 U.vm ∧ U.heap = h0) (fun _ _ _ _ _ => True) (fun _ U o U' => ∃ v L, o = .returned v ∧ Q3 Z x b cs h0 n0 v U'.heap L ∧ FrameEnd U o U' L ({ frames := 4, cells := 2, slots := 12, locals := 80 } : Room).cells ({ frames := 4, cells := 2, slots := 12, locals := 80 } : Room).slots) := by
  refine MetFree.of_bodySF (plainFor_of_name pn2) hisR ?_
  intro p e s m args below meth c s₁ Bd hml0 hP hK
  obtain ⟨rfl, hZ, hh⟩ := hP
  have hx := Bd.exec
  have hby := Bd.bytes
  have hml : c.maxLocals = 6 := hml0
  have hown : s.vm.findClass "java/lang/String" = some m.cls := findClass_of_methodNamed Bd.named
  have hnm := (name_of_methodNamed Bd.named Bd.method).1
  have X0 : Stand p l e ({ frames := 4, cells := 2, slots := 12, locals := 80 } : Room) s m #[(.ref x), (.ref b), (.int (0 : Int32)), (.int (Int32.ofNat cs.length)), .null] below meth c s₁ [] 0 0 := Stand.of_body Bd
  have e0 : s₁.heap = h0 := by rw [← hh, Bd.state]; rfl
  have N0 := Fr.nil n0
  obtain ⟨G, hG⟩ : ∃ G, G = entryFrame m #[(.ref x), (.ref b), (.int (0 : Int32)), (.int (Int32.ofNat cs.length)), .null] 6 := ⟨_, rfl⟩
  have S0 : own_Go p e below s₁ G s₁ (mkF m 0 #[.val (.ref x), .val (.ref b), .val (.int (0 : Int32)), .val (.int (Int32.ofNat cs.length)), .val .null, .unset] []) := fun tg_ kk_ => castTop (by rw [hG]; first | rfl | simp [entryFrame, mkF, argsToLocals, Value.category, maxLocals]) kk_
  have S60 : own_Go p e below s₁ G s₁ (mkF m 1 #[.val (.ref x), .val (.ref b), .val (.int (0 : Int32)), .val (.int (Int32.ofNat cs.length)), .val .null, .unset] [(.ref x)]) := fun tg_ kk_ => S0 tg_ (by
    refine XS.aloadN X0.here hx rfl (hb hby d3_0) rfl rfl ?_
    exact kk_)
  obtain ⟨T61, X61, e61, st61⟩ := initO X0 hx hZ hown (hw _ (List.mem_of_getElem? (i := 17) rfl)) (hw _ (List.mem_of_getElem? (i := 18) rfl)) (hw _ (List.mem_of_getElem? (i := 19) rfl)) e0 (g := (mkF m 1 #[.val (.ref x), .val (.ref b), .val (.int (0 : Int32)), .val (.int (Int32.ofNat cs.length)), .val .null, .unset] [(.ref x)])) rfl (by rw [hml]; rfl) rfl (hb hby d3_1) (by decide) (W := 0) (by show 2 * 0 + _ ≤ _; exact Nat.le_of_eq rfl) (by decide)
  have S62 : own_Go p e below s₁ G T61 (mkF m 4 #[.val (.ref x), .val (.ref b), .val (.int (0 : Int32)), .val (.int (Int32.ofNat cs.length)), .val .null, .unset] []) := fun tg_ kk_ => S60 tg_ (st61 tg_ kk_)
  have S63 : own_Go p e below s₁ G T61 (mkF m 27 #[.val (.ref x), .val (.ref b), .val (.int (0 : Int32)), .val (.int (Int32.ofNat cs.length)), .val .null, .unset] []) := fun tg_ kk_ => S62 tg_ (by
    refine XS.iloadN X61.here hx rfl (hb hby d3_4) rfl ?_
    show Steps p.tables e below (T61.setTop (mkF m 5 #[.val (.ref x), .val (.ref b), .val (.int (0 : Int32)), .val (.int (Int32.ofNat cs.length)), .val .null, .unset] [(.int (Int32.ofNat cs.length))])) _
    refine XS.ifYes X61.here hx rfl (pc0 := 5) (pc' := 27) rfl (hb hby d3_5) rfl (XT.i0_ne_t (fun q => absurd (own_inj32 (n := 0) (by omega) (by omega) q) (by omega))) (by decide) (by decide) ?_
    exact kk_)
  obtain ⟨T64, X64, e64, st64⟩ := getS X61 hx hZ (host := "") hown (hw _ (List.mem_of_getElem? (i := 20) rfl)) Via.refl e61 (O2.ext O.2) (g := (mkF m 27 #[.val (.ref x), .val (.ref b), .val (.int (0 : Int32)), .val (.int (Int32.ofNat cs.length)), .val .null, .unset] [])) rfl (hb hby d3_27)
  have S65 : own_Go p e below s₁ G T64 (mkF m 30 #[.val (.ref x), .val (.ref b), .val (.int (0 : Int32)), .val (.int (Int32.ofNat cs.length)), .val .null, .unset] [(.int z)]) := fun tg_ kk_ => S63 tg_ (st64 tg_ kk_)
  have S66 : own_Go p e below s₁ G T64 (mkF m 36 #[.val (.ref x), .val (.ref b), .val (.int (0 : Int32)), .val (.int (Int32.ofNat cs.length)), .val .null, .unset] [(.int (Int32.ofNat cs.length)), (.int (0 : Int32)), (.ref b)]) := fun tg_ kk_ => S65 tg_ (by
    refine XS.ifNo X64.here hx rfl (hb hby d3_30) rfl (XT.i0_eq_f P5) ?_
    show Steps p.tables e below (T64.setTop (mkF m 33 #[.val (.ref x), .val (.ref b), .val (.int (0 : Int32)), .val (.int (Int32.ofNat cs.length)), .val .null, .unset] [])) _
    refine XS.aloadN X64.here hx rfl (hb hby d3_33) rfl rfl ?_
    show Steps p.tables e below (T64.setTop (mkF m 34 #[.val (.ref x), .val (.ref b), .val (.int (0 : Int32)), .val (.int (Int32.ofNat cs.length)), .val .null, .unset] [(.ref b)])) _
    refine XS.iloadN X64.here hx rfl (hb hby d3_34) rfl ?_
    show Steps p.tables e below (T64.setTop (mkF m 35 #[.val (.ref x), .val (.ref b), .val (.int (0 : Int32)), .val (.int (Int32.ofNat cs.length)), .val .null, .unset] [(.int (0 : Int32)), (.ref b)])) _
    refine XS.iloadN X64.here hx rfl (hb hby d3_35) rfl ?_
    exact kk_)
  obtain ⟨_, T67, h67, L67, X67, e67, hQ67, st67⟩ := own_callS X64 hx hZ (y := (⟨"java/lang/StringUTF16", "compress", "([CII)[B"⟩ : MethodName)) hown (hw _ (List.mem_of_getElem? (i := 21) rfl)) (hw _ (List.mem_of_getElem? (i := 22) rfl)) (hw _ (List.mem_of_getElem? (i := 23) rfl)) (hw _ (List.mem_of_getElem? (i := 24) rfl)) (by decide) 0 (g := (mkF m 36 #[.val (.ref x), .val (.ref b), .val (.int (0 : Int32)), .val (.int (Int32.ofNat cs.length)), .val .null, .unset] [(.int (Int32.ofNat cs.length)), (.int (0 : Int32)), (.ref b)])) rfl (by rw [hml]; rfl) [(.ref b), (.int (0 : Int32)), (.int (Int32.ofNat cs.length))] [] (rm5 l Z a0 hw [] b cs h0 n0 Z0 kb hn.2 Vb O A16 hch) (lenOf pd6 rfl) rfl (by show 2 * 0 + _ ≤ _; exact Nat.le_of_eq rfl) (hb hby d3_36) (by decide) (by decide) e64 (by decide) (by decide)
  obtain ⟨t, rfl, ht, N67, E67, V67⟩ := hQ67
  have S68 : own_Go p e below s₁ G T67 (mkF m 39 #[.val (.ref x), .val (.ref b), .val (.int (0 : Int32)), .val (.int (Int32.ofNat cs.length)), .val .null, .unset] [(.ref t)]) := fun tg_ kk_ => S66 tg_ (st67 tg_ kk_)
  have M1 := Fr.app N0 N67
  have hcd : ∃ (cd : Int32) (M : Nat) (vs : List Value) (k : ClassId), Arv Z h67 t k .byte (Int32.ofNat M) vs (.int 0) ∧ M ≤ 2000 ∧ ((cd = 0 ∧ M = cs.length) ∨ (cd = 1 ∧ M = 2 * cs.length)) ∧ ((cd = 0 ∧ M = cs.length ∧ vs = cs.map own_vb ∧ ∀ j, j < cs.length → ¬ (255 : Int32) < cs.getD j 0) ∨ (cd = 1 ∧ M = 2 * cs.length ∧ vs = own_wide cs ∧ ∃ j, j < cs.length ∧ (255 : Int32) < cs.getD j 0)) := by
    rcases V67 with ⟨⟨k, V⟩, q⟩ | ⟨⟨k, V⟩, q⟩
    · exact ⟨0, _, _, k, V, by omega, Or.inl ⟨rfl, rfl⟩, Or.inl ⟨rfl, rfl, rfl, q⟩⟩
    · exact ⟨1, _, _, k, V, by omega, Or.inr ⟨rfl, rfl⟩, Or.inr ⟨rfl, rfl, rfl, q⟩⟩
  obtain ⟨cd, M, vs, kt, Vt, hM, hcM, hall⟩ := hcd
  have S69 : own_Go p e below s₁ G T67 (mkF m 45 #[.val (.ref x), .val (.ref b), .val (.int (0 : Int32)), .val (.int (Int32.ofNat cs.length)), .val .null, .val (.ref t)] [(.int (Int32.ofNat cs.length)), (.ref t), (.ref x)]) := fun tg_ kk_ => S68 tg_ (by
    refine XS.astore X67.here hx rfl (hb hby d3_39) rfl rfl (l' := #[.val (.ref x), .val (.ref b), .val (.int (0 : Int32)), .val (.int (Int32.ofNat cs.length)), .val .null, .val (.ref t)]) rfl ?_
    show Steps p.tables e below (T67.setTop (mkF m 41 #[.val (.ref x), .val (.ref b), .val (.int (0 : Int32)), .val (.int (Int32.ofNat cs.length)), .val .null, .val (.ref t)] [])) _
    refine XS.aloadN X67.here hx rfl (hb hby d3_41) rfl rfl ?_
    show Steps p.tables e below (T67.setTop (mkF m 42 #[.val (.ref x), .val (.ref b), .val (.int (0 : Int32)), .val (.int (Int32.ofNat cs.length)), .val .null, .val (.ref t)] [(.ref x)])) _
    refine XS.aload X67.here hx rfl (hb hby d3_42) rfl rfl ?_
    show Steps p.tables e below (T67.setTop (mkF m 44 #[.val (.ref x), .val (.ref b), .val (.int (0 : Int32)), .val (.int (Int32.ofNat cs.length)), .val .null, .val (.ref t)] [(.ref t), (.ref x)])) _
    refine XS.iloadN X67.here hx rfl (hb hby d3_44) rfl ?_
    exact kk_)
  obtain ⟨_, T70, h70, L70, X70, e70, hQ70, st70⟩ := own_callS X67 hx hZ (y := (⟨"java/lang/StringUTF16", "coderFromArrayLen", "([BI)B"⟩ : MethodName)) hown (hw _ (List.mem_of_getElem? (i := 48) rfl)) (hw _ (List.mem_of_getElem? (i := 49) rfl)) (hw _ (List.mem_of_getElem? (i := 23) rfl)) (hw _ (List.mem_of_getElem? (i := 50) rfl)) (by decide) 1 (g := (mkF m 45 #[.val (.ref x), .val (.ref b), .val (.int (0 : Int32)), .val (.int (Int32.ofNat cs.length)), .val .null, .val (.ref t)] [(.int (Int32.ofNat cs.length)), (.ref t), (.ref x)])) rfl (by rw [hml]; rfl) [(.ref t), (.int (Int32.ofNat cs.length))] [(.ref x)] (rm12 l Z a0 hw [] t cs.length cd h67 n0 (own_sub Z0 E67) kt M vs Vt hM (by omega) hcM) (lenOf pd12 rfl) rfl (by show 2 * 0 + _ ≤ _; exact Nat.le_of_eq rfl) (hb hby d3_45) (by decide) (by decide) e67 (by decide) (by decide)
  obtain ⟨rfl, N70, rfl⟩ := hQ70
  have S71 : own_Go p e below s₁ G T70 (mkF m 48 #[.val (.ref x), .val (.ref b), .val (.int (0 : Int32)), .val (.int (Int32.ofNat cs.length)), .val .null, .val (.ref t)] [(.int cd), (.ref x)]) := fun tg_ kk_ => S69 tg_ (st70 tg_ kk_)
  have M2 := Fr.app M1 N70
  have htx : t ≠ x := Nat.ne_of_gt (Nat.lt_of_lt_of_le Ex.lt ht)
  have Ex1 := Ex.ext E67
  obtain ⟨T72, h72, X72, e72, W72, st72⟩ := putF X70 hx hZ hown (host := "") (Or.inl (hw _ (List.mem_of_getElem? (i := 51) rfl))) Via.refl e70 (Fc.ext E67) Ex1 (Or.inr ⟨(hw _ (List.mem_of_getElem? (i := 52) rfl)), rfl, hnm⟩) (hw _ (List.mem_of_getElem? (i := 8) rfl)) (ty := .byte) (by decide) (by rcases hcM with ⟨rfl, -⟩ | ⟨rfl, -⟩ <;> rfl) (by rcases hcM with ⟨rfl, -⟩ | ⟨rfl, -⟩ <;> rfl) (g := (mkF m 48 #[.val (.ref x), .val (.ref b), .val (.int (0 : Int32)), .val (.int (Int32.ofNat cs.length)), .val .null, .val (.ref t)] [(.int cd), (.ref x)])) rfl rfl (hb hby d3_48)
  have S73 : own_Go p e below s₁ G T72 (mkF m 51 #[.val (.ref x), .val (.ref b), .val (.int (0 : Int32)), .val (.int (Int32.ofNat cs.length)), .val .null, .val (.ref t)] []) := fun tg_ kk_ => S71 tg_ (st72 tg_ kk_)
  have Fc1 := (Fc.ext E67).same W72
  have Fv1 := (Fv.ext E67).other W72 (Or.inr (slot_ne (C := "java/lang/String") (a0 := a0) (Or.inr (hw _ (List.mem_of_getElem? (i := 54) rfl))) (Or.inr (hw _ (List.mem_of_getElem? (i := 52) rfl))) (by decide) (t := .array .byte) (by decide) (t' := .byte) (by decide)))
  have Vt1 := Vt.other W72 htx
  have M3 := Fr.snoc X72 M2 hx0
  have K1 : Keep h0 h72 [x] := ((Keep.refl h0 [x]).ext E67).wr W72 (Or.inl (List.mem_of_getElem? (i := 0) rfl))
  have S74 : own_Go p e below s₁ G T72 (mkF m 54 #[.val (.ref x), .val (.ref b), .val (.int (0 : Int32)), .val (.int (Int32.ofNat cs.length)), .val .null, .val (.ref t)] [(.ref t), (.ref x)]) := fun tg_ kk_ => S73 tg_ (by
    refine XS.aloadN X72.here hx rfl (hb hby d3_51) rfl rfl ?_
    show Steps p.tables e below (T72.setTop (mkF m 52 #[.val (.ref x), .val (.ref b), .val (.int (0 : Int32)), .val (.int (Int32.ofNat cs.length)), .val .null, .val (.ref t)] [(.ref x)])) _
    refine XS.aload X72.here hx rfl (hb hby d3_52) rfl rfl ?_
    exact kk_)
  obtain ⟨T75, h75, X75, e75, W75, st75⟩ := putF X72 hx hZ hown (host := "") (Or.inl (hw _ (List.mem_of_getElem? (i := 53) rfl))) Via.refl e72 Fv1 (Ex1.wr W72) (Or.inr ⟨(hw _ (List.mem_of_getElem? (i := 54) rfl)), rfl, hnm⟩) (hw _ (List.mem_of_getElem? (i := 8) rfl)) (ty := (.array .byte)) (by decide) rfl rfl (g := (mkF m 54 #[.val (.ref x), .val (.ref b), .val (.int (0 : Int32)), .val (.int (Int32.ofNat cs.length)), .val .null, .val (.ref t)] [(.ref t), (.ref x)])) rfl rfl (hb hby d3_54)
  have S76 : own_Go p e below s₁ G T75 (mkF m 57 #[.val (.ref x), .val (.ref b), .val (.int (0 : Int32)), .val (.int (Int32.ofNat cs.length)), .val .null, .val (.ref t)] []) := fun tg_ kk_ => S74 tg_ (st75 tg_ kk_)
  have M4 := Fr.snoc X75 M3 hx0
  have K2 : Keep h0 h75 [x] := K1.wr W75 (Or.inl (List.mem_of_getElem? (i := 0) rfl))
  have SS : own_Str Z h75 x t cs := ⟨(Ex1.wr W72).wr W75, Fv1.same W75, by
    have Fc2 := Fc1.other W75 (Or.inr (slot_ne (C := "java/lang/String") (a0 := a0) (Or.inr (hw _ (List.mem_of_getElem? (i := 52) rfl))) (Or.inr (hw _ (List.mem_of_getElem? (i := 54) rfl))) (by decide) (t := .byte) (by decide) (t' := .array .byte) (by decide)))
    have Vt2 := Vt1.other W75 htx
    rcases hall with ⟨rfl, rfl, rfl, q⟩ | ⟨rfl, rfl, rfl, q⟩
    · exact Or.inl ⟨Fc2, ⟨_, Vt2⟩, q⟩
    · exact Or.inr ⟨Fc2, ⟨_, Vt2⟩, q⟩⟩
  obtain ⟨fs, hr, hrun, hended, hW, hsame⟩ := X75.leave (v := none) (fun _ => rfl)
  refine ⟨_, _, ?_, hrun, hended, _, _, rfl, ?_, ⟨_, rfl⟩, hW, hsame.mono (by decide) (by decide)⟩
  · rw [← hG]; exact S76 _ (X75.returnOut hx Bd.returns (hb hby d3_57) hr)
  · show Q3 Z x b cs h0 n0 _ T75.heap _
    rw [e75]
    exact ⟨rfl, M4, K2, t, ht, SS⟩
def Q2 (Z : State) (x : Addr) (b : Addr) (cs : List Int32) (h0 : Heap) (n0 : Nat) (v : Option Value) (h : Heap) (L : List Loc) : Prop := v = none ∧ Fr n0 L ∧ Keep h0 h [x] ∧ ∃ t, h0.size ≤ t ∧ own_Str Z h x t cs
set_option maxRecDepth 65536 in
set_option maxHeartbeats 40000000 in
theorem rm2 (l : Launch) (Z : State) (a0 : Array Value) (hw : ∀ d ∈ tables_1, d.before a0 Z = true) (ws : List Jvm.Cond) (x : Addr) (b : Addr) (cs : List Int32) (h0 : Heap) (n0 : Nat) (Z0 : n0 ≤ h0.size) (z : Int32) (kb : ClassId) (hn : 1 ≤ cs.length ∧ cs.length ≤ 4) (Ex : Exa Z h0 x "java/lang/String") (Fv : Fld Z h0 x "java/lang/String" "value" "[B" .null) (Fc : Fld Z h0 x "java/lang/String" "coder" "B" (.int 0)) (hx0 : n0 ≤ x) (Vb : Arv Z h0 b kb .char (Int32.ofNat cs.length) (cs.map Value.int) (.int 0)) (O : Old Z n0 h0) (O2 : Sta Z Z.heap "java/lang/String" "COMPACT_STRINGS" "Z" (.int z)) (P5 : ¬ z = 0) (A16 : own_A16 Z) (hch : ∀ j, j < cs.length → own_Ch (cs.getD j 0)) :
    MetFree l (⟨"java/lang/String", "<init>", "([C)V"⟩ : MethodName) (head1 (Jvm.Cond.code (⟨"java/lang/String", "<init>", "([C)V"⟩ : MethodName) jdk_42_method_3_code 2 none :: ws) ({ frames := 5, cells := 2, slots := 12, locals := 97 } : Room)) (fun aa_ U => aa_ = #[(.ref x), (.ref b)] ∧ Z.Warmed39 U.vm ∧ U.heap = h0) (fun _ _ _ _ _ => True) (fun _ U o U' => ∃ v L, o = .returned v ∧ Q2 Z x b cs h0 n0 v U'.heap L ∧ FrameEnd U o U' L ({ frames := 5, cells := 2, slots := 12, locals := 97 } : Room).cells ({ frames := 5, cells := 2, slots := 12, locals := 97 } : Room).slots) := by
  refine MetFree.of_bodySF (plainFor_of_name pn2) hisR ?_
  intro p e s m args below meth c s₁ Bd hml0 hP hK
  obtain ⟨rfl, hZ, hh⟩ := hP
  have hx := Bd.exec
  have hby := Bd.bytes
  have hml : c.maxLocals = 2 := hml0
  have hown : s.vm.findClass "java/lang/String" = some m.cls := findClass_of_methodNamed Bd.named
  have hnm := (name_of_methodNamed Bd.named Bd.method).1
  have X0 : Stand p l e ({ frames := 5, cells := 2, slots := 12, locals := 97 } : Room) s m #[(.ref x), (.ref b)] below meth c s₁ [] 0 0 := Stand.of_body Bd
  have e0 : s₁.heap = h0 := by rw [← hh, Bd.state]; rfl
  have N0 := Fr.nil n0
  obtain ⟨G, hG⟩ : ∃ G, G = entryFrame m #[(.ref x), (.ref b)] 2 := ⟨_, rfl⟩
  have S0 : own_Go p e below s₁ G s₁ (mkF m 0 #[.val (.ref x), .val (.ref b)] []) := fun tg_ kk_ => castTop (by rw [hG]; first | rfl | simp [entryFrame, mkF, argsToLocals, Value.category, maxLocals]) kk_
  obtain ⟨cl, Ar, -, Sz, Mn, H, -⟩ := id Vb
  have S77 : own_Go p e below s₁ G s₁ (mkF m 6 #[.val (.ref x), .val (.ref b)] [.null, (.int (Int32.ofNat cs.length)), (.int (0 : Int32)), (.ref b), (.ref x)]) := fun tg_ kk_ => S0 tg_ (by
    refine XS.aloadN X0.here hx rfl (hb hby d2_0) rfl rfl ?_
    show Steps p.tables e below (s₁.setTop (mkF m 1 #[.val (.ref x), .val (.ref b)] [(.ref x)])) _
    refine XS.aloadN X0.here hx rfl (hb hby d2_1) rfl rfl ?_
    show Steps p.tables e below (s₁.setTop (mkF m 2 #[.val (.ref x), .val (.ref b)] [(.ref b), (.ref x)])) _
    refine XS.iconst X0.here hx rfl (hb hby d2_2) ?_
    show Steps p.tables e below (s₁.setTop (mkF m 3 #[.val (.ref x), .val (.ref b)] [(.int (0 : Int32)), (.ref b), (.ref x)])) _
    refine XS.aloadN X0.here hx rfl (hb hby d2_3) rfl rfl ?_
    show Steps p.tables e below (s₁.setTop (mkF m 4 #[.val (.ref x), .val (.ref b)] [(.ref b), (.int (0 : Int32)), (.ref b), (.ref x)])) _
    refine X0.arraylength hx (cell := cl) (by rw [e0]; exact Ar.1) (State.isArrayOf_alike hZ.alike Ar.2.1) (g := (mkF m 4 #[.val (.ref x), .val (.ref b)] [(.ref b), (.int (0 : Int32)), (.ref b), (.ref x)])) rfl (rest := [(.int (0 : Int32)), (.ref b), (.ref x)]) rfl (hb hby d2_4) _ ?_
    rw [len_of Sz Mn]
    show Steps p.tables e below (s₁.setTop (mkF m 5 #[.val (.ref x), .val (.ref b)] [(.int (Int32.ofNat cs.length)), (.int (0 : Int32)), (.ref b), (.ref x)])) _
    refine XS.aconstNull X0.here hx rfl (hb hby d2_5) ?_
    exact kk_)
  obtain ⟨_, T78, h78, L78, X78, e78, hQ78, st78⟩ := own_callI X0 hx hZ (y := (⟨"java/lang/String", "<init>", "([CIILjava/lang/Void;)V"⟩ : MethodName)) rfl hown (hw _ (List.mem_of_getElem? (i := 13) rfl)) (hw _ (List.mem_of_getElem? (i := 14) rfl)) (hw _ (List.mem_of_getElem? (i := 9) rfl)) (hw _ (List.mem_of_getElem? (i := 16) rfl)) (by decide) 0 (g := (mkF m 6 #[.val (.ref x), .val (.ref b)] [.null, (.int (Int32.ofNat cs.length)), (.int (0 : Int32)), (.ref b), (.ref x)])) rfl (by rw [hml]; rfl) x [(.ref b), (.int (0 : Int32)), (.int (Int32.ofNat cs.length)), .null] [] (rm3 l Z a0 hw [] x b cs h0 n0 Z0 z kb hn Ex Fv Fc hx0 Vb O O2 P5 A16 hch) (lenOf pd4 rfl) rfl (by show 2 * 0 + _ ≤ _; exact Nat.le_of_eq rfl) (hb hby d2_6) (by decide) (by decide) e0 (by decide) (by decide)
  obtain ⟨rfl, N78, K78, t, ht, SS⟩ := hQ78
  have S79 : own_Go p e below s₁ G T78 (mkF m 9 #[.val (.ref x), .val (.ref b)] []) := fun tg_ kk_ => S77 tg_ (st78 tg_ kk_)
  have M1 := Fr.app N0 N78
  obtain ⟨fs, hr, hrun, hended, hW, hsame⟩ := X78.leave (v := none) (fun _ => rfl)
  refine ⟨_, _, ?_, hrun, hended, _, _, rfl, ?_, ⟨_, rfl⟩, hW, hsame.mono (by decide) (by decide)⟩
  · rw [← hG]; exact S79 _ (X78.returnOut hx Bd.returns (hb hby d2_9) hr)
  · show Q2 Z x b cs h0 n0 _ T78.heap _
    rw [e78]
    exact ⟨rfl, M1, K78, t, ht, SS⟩
theorem own_ch_nar (x : Int32) : own_Ch (nar .char x) := by
  have h := c_i2c x
  have e : (nar .char x).toInt = (x.toUInt32.toUInt16.toUInt32.toInt32).toInt := rfl
  have e1 : (0 : Int32).toInt = 0 := rfl
  have e2 : (65535 : Int32).toInt = 65535 := rfl
  constructor <;> (rw [Int32.lt_iff_toInt_lt]; omega)
/-- a high surrogate, then a low one -/
def own_pr (a b : Int32) : Prop := ¬ a < 55296 ∧ a < 56320 ∧ ¬ b < 56320 ∧ b < 57344
theorem own_gt {a : Int32} {n : Int32} {m : Int32} (h : n.toInt + 1 = m.toInt) : n < a ↔ ¬ a < m := by
  rw [Int32.lt_iff_toInt_lt, Int32.lt_iff_toInt_lt]; omega
theorem pn3 : plainName "com/example/kept_triples/kepttriples/model/LabelLexerColumnPinLaw" = true := by first | (simp [plainName, overriddenIn]; done) | decide +kernel
def Q1 (Z : State) (x : Int32) (h0 : Heap) (n0 : Nat) (v : Option Value) (h : Heap) (L : List Loc) : Prop := ∃ c, own_Ch c ∧ v = some (.int c) ∧ Fr n0 L ∧ h0 = h
set_option maxRecDepth 65536 in
set_option maxHeartbeats 40000000 in
theorem rm1 (l : Launch) (Z : State) (a0 : Array Value) (hw : ∀ d ∈ tables_1, d.before a0 Z = true) (ws : List Jvm.Cond) (x : Int32) (h0 : Heap) (n0 : Nat) (Z0 : n0 ≤ h0.size)  :
    MetFree l (⟨"com/example/kept_triples/kepttriples/model/LabelLexerColumnPinLaw", "draw", "(I)C"⟩ : MethodName) (head1 (Jvm.Cond.code (⟨"com/example/kept_triples/kepttriples/model/LabelLexerColumnPinLaw", "draw", "(I)C"⟩ : MethodName) method_2_code 3 (some .char) :: ws) ({ frames := 0, cells := 0, slots := 0, locals := 0 } : Room)) (fun aa_ U => aa_ = #[(.int x)] ∧ Z.Warmed39 U.vm ∧ U.heap = h0) (fun _ _ _ _ _ => True) (fun _ U o U' => ∃ v L, o = .returned v ∧ Q1 Z x h0 n0 v U'.heap L ∧ FrameEnd U o U' L ({ frames := 0, cells := 0, slots := 0, locals := 0 } : Room).cells ({ frames := 0, cells := 0, slots := 0, locals := 0 } : Room).slots) := by
  refine MetFree.of_bodySF (plainFor_of_name pn3) hisR ?_
  intro p e s m args below meth c s₁ Bd hml0 hP hK
  obtain ⟨rfl, hZ, hh⟩ := hP
  have hx := Bd.exec
  have hby := Bd.bytes
  have hml : c.maxLocals = 3 := hml0
  have hown : s.vm.findClass "com/example/kept_triples/kepttriples/model/LabelLexerColumnPinLaw" = some m.cls := findClass_of_methodNamed Bd.named
  have hnm := (name_of_methodNamed Bd.named Bd.method).1
  have X0 : Stand p l e ({ frames := 0, cells := 0, slots := 0, locals := 0 } : Room) s m #[(.int x)] below meth c s₁ [] 0 0 := Stand.of_body Bd
  have e0 : s₁.heap = h0 := by rw [← hh, Bd.state]; rfl
  have N0 := Fr.nil n0
  obtain ⟨G, hG⟩ : ∃ G, G = entryFrame m #[(.int x)] 3 := ⟨_, rfl⟩
  have S0 : own_Go p e below s₁ G s₁ (mkF m 0 #[.val (.int x), .unset, .unset] []) := fun tg_ kk_ => castTop (by rw [hG]; first | rfl | simp [entryFrame, mkF, argsToLocals, Value.category, maxLocals]) kk_
  have S80 : own_Go p e below s₁ G s₁ (mkF m 9 #[.val (.int x), .val (.int (x &&& (3 : Int32))), .val (.int (XT.ushr x (2 : Int32)))] [(.int (x &&& (3 : Int32)))]) := fun tg_ kk_ => S0 tg_ (by
    refine XS.iloadN X0.here hx rfl (hb hby d1_0) rfl ?_
    show Steps p.tables e below (s₁.setTop (mkF m 1 #[.val (.int x), .unset, .unset] [(.int x)])) _
    refine XS.iconst X0.here hx rfl (hb hby d1_1) ?_
    show Steps p.tables e below (s₁.setTop (mkF m 2 #[.val (.int x), .unset, .unset] [(.int (3 : Int32)), (.int x)])) _
    refine XS.iand X0.here hx rfl (hb hby d1_2) rfl ?_
    show Steps p.tables e below (s₁.setTop (mkF m 3 #[.val (.int x), .unset, .unset] [(.int (x &&& (3 : Int32)))])) _
    refine XS.istoreN X0.here hx rfl (hb hby d1_3) rfl (l' := #[.val (.int x), .val (.int (x &&& (3 : Int32))), .unset]) rfl ?_
    show Steps p.tables e below (s₁.setTop (mkF m 4 #[.val (.int x), .val (.int (x &&& (3 : Int32))), .unset] [])) _
    refine XS.iloadN X0.here hx rfl (hb hby d1_4) rfl ?_
    show Steps p.tables e below (s₁.setTop (mkF m 5 #[.val (.int x), .val (.int (x &&& (3 : Int32))), .unset] [(.int x)])) _
    refine XS.iconst X0.here hx rfl (hb hby d1_5) ?_
    show Steps p.tables e below (s₁.setTop (mkF m 6 #[.val (.int x), .val (.int (x &&& (3 : Int32))), .unset] [(.int (2 : Int32)), (.int x)])) _
    refine XT.iushr X0.here hx rfl (hb hby d1_6) rfl ?_
    show Steps p.tables e below (s₁.setTop (mkF m 7 #[.val (.int x), .val (.int (x &&& (3 : Int32))), .unset] [(.int (XT.ushr x (2 : Int32)))])) _
    refine XS.istoreN X0.here hx rfl (hb hby d1_7) rfl (l' := #[.val (.int x), .val (.int (x &&& (3 : Int32))), .val (.int (XT.ushr x (2 : Int32)))]) rfl ?_
    show Steps p.tables e below (s₁.setTop (mkF m 8 #[.val (.int x), .val (.int (x &&& (3 : Int32))), .val (.int (XT.ushr x (2 : Int32)))] [])) _
    refine XS.iloadN X0.here hx rfl (hb hby d1_8) rfl ?_
    exact kk_)
  by_cases hc81 : (x &&& (3 : Int32)) = 0
  · have _ := N0
    have S82 : own_Go p e below s₁ G s₁ (mkF m 18 #[.val (.int x), .val (.int (x &&& (3 : Int32))), .val (.int (XT.ushr x (2 : Int32)))] [(.int (((XT.ushr x (2 : Int32)) &&& (255 : Int32)).toUInt32.toUInt16.toUInt32.toInt32))]) := fun tg_ kk_ => S80 tg_ (by
      refine XS.ifNo X0.here hx rfl (hb hby d1_9) rfl (XT.i0_ne_f hc81) ?_
      show Steps p.tables e below (s₁.setTop (mkF m 12 #[.val (.int x), .val (.int (x &&& (3 : Int32))), .val (.int (XT.ushr x (2 : Int32)))] [])) _
      refine XS.iloadN X0.here hx rfl (hb hby d1_12) rfl ?_
      show Steps p.tables e below (s₁.setTop (mkF m 13 #[.val (.int x), .val (.int (x &&& (3 : Int32))), .val (.int (XT.ushr x (2 : Int32)))] [(.int (XT.ushr x (2 : Int32)))])) _
      refine XS.sipush X0.here hx rfl (hb hby d1_13) ?_
      show Steps p.tables e below (s₁.setTop (mkF m 16 #[.val (.int x), .val (.int (x &&& (3 : Int32))), .val (.int (XT.ushr x (2 : Int32)))] [(.int (255 : Int32)), (.int (XT.ushr x (2 : Int32)))])) _
      refine XS.iand X0.here hx rfl (hb hby d1_16) rfl ?_
      show Steps p.tables e below (s₁.setTop (mkF m 17 #[.val (.int x), .val (.int (x &&& (3 : Int32))), .val (.int (XT.ushr x (2 : Int32)))] [(.int ((XT.ushr x (2 : Int32)) &&& (255 : Int32)))])) _
      refine XT.i2c X0.here hx rfl (hb hby d1_17) rfl ?_
      exact kk_)
    obtain ⟨fs, hr, hrun, hended, hW, hsame⟩ := X0.leave (v := some (.int (nar .char (((XT.ushr x (2 : Int32)) &&& (255 : Int32)).toUInt32.toUInt16.toUInt32.toInt32)))) (fun h => by rw [Bd.returns] at h; cases h)
    refine ⟨_, _, ?_, hrun, hended, _, _, rfl, ?_, ⟨_, rfl⟩, hW, hsame.mono (by decide) (by decide)⟩
    · rw [← hG]; exact S82 _ (retN X0 hx (t := .char) Bd.returns (by simp) (hb hby d1_18) hr)
    · show Q1 Z x h0 n0 _ s₁.heap _
      rw [e0]
      exact ⟨_, own_ch_nar _, rfl, N0, rfl⟩
  · have _ := N0
    have S83 : own_Go p e below s₁ G s₁ (mkF m 21 #[.val (.int x), .val (.int (x &&& (3 : Int32))), .val (.int (XT.ushr x (2 : Int32)))] [(.int (1 : Int32)), (.int (x &&& (3 : Int32)))]) := fun tg_ kk_ => S80 tg_ (by
      refine XS.ifYes X0.here hx rfl (pc0 := 9) (pc' := 19) rfl (hb hby d1_9) rfl (XT.i0_ne_t hc81) (by decide) (by decide) ?_
      show Steps p.tables e below (s₁.setTop (mkF m 19 #[.val (.int x), .val (.int (x &&& (3 : Int32))), .val (.int (XT.ushr x (2 : Int32)))] [])) _
      refine XS.iloadN X0.here hx rfl (hb hby d1_19) rfl ?_
      show Steps p.tables e below (s₁.setTop (mkF m 20 #[.val (.int x), .val (.int (x &&& (3 : Int32))), .val (.int (XT.ushr x (2 : Int32)))] [(.int (x &&& (3 : Int32)))])) _
      refine XS.iconst X0.here hx rfl (hb hby d1_20) ?_
      exact kk_)
    by_cases hc84 : (x &&& (3 : Int32)) = (1 : Int32)
    · have _ := N0
      have S85 : own_Go p e below s₁ G s₁ (mkF m 33 #[.val (.int x), .val (.int (x &&& (3 : Int32))), .val (.int (XT.ushr x (2 : Int32)))] [(.int (((55296 : Int32) + ((XT.ushr x (2 : Int32)) &&& (1023 : Int32))).toUInt32.toUInt16.toUInt32.toInt32))]) := fun tg_ kk_ => S83 tg_ (by
        refine XS.icmpNo X0.here hx rfl (hb hby d1_21) rfl (XT.ii_ne_f hc84) ?_
        show Steps p.tables e below (s₁.setTop (mkF m 24 #[.val (.int x), .val (.int (x &&& (3 : Int32))), .val (.int (XT.ushr x (2 : Int32)))] [])) _
        refine X0.ldcInt hx hown (mvT hZ (hw _ (List.mem_of_getElem? (i := 6) rfl))) (g := (mkF m 24 #[.val (.int x), .val (.int (x &&& (3 : Int32))), .val (.int (XT.ushr x (2 : Int32)))] [])) rfl (hb hby d1_24) _ ?_
        show Steps p.tables e below (s₁.setTop (mkF m 26 #[.val (.int x), .val (.int (x &&& (3 : Int32))), .val (.int (XT.ushr x (2 : Int32)))] [(.int (55296 : Int32))])) _
        refine XS.iloadN X0.here hx rfl (hb hby d1_26) rfl ?_
        show Steps p.tables e below (s₁.setTop (mkF m 27 #[.val (.int x), .val (.int (x &&& (3 : Int32))), .val (.int (XT.ushr x (2 : Int32)))] [(.int (XT.ushr x (2 : Int32))), (.int (55296 : Int32))])) _
        refine XS.sipush X0.here hx rfl (hb hby d1_27) ?_
        show Steps p.tables e below (s₁.setTop (mkF m 30 #[.val (.int x), .val (.int (x &&& (3 : Int32))), .val (.int (XT.ushr x (2 : Int32)))] [(.int (1023 : Int32)), (.int (XT.ushr x (2 : Int32))), (.int (55296 : Int32))])) _
        refine XS.iand X0.here hx rfl (hb hby d1_30) rfl ?_
        show Steps p.tables e below (s₁.setTop (mkF m 31 #[.val (.int x), .val (.int (x &&& (3 : Int32))), .val (.int (XT.ushr x (2 : Int32)))] [(.int ((XT.ushr x (2 : Int32)) &&& (1023 : Int32))), (.int (55296 : Int32))])) _
        refine XS.iadd X0.here hx rfl (hb hby d1_31) rfl ?_
        show Steps p.tables e below (s₁.setTop (mkF m 32 #[.val (.int x), .val (.int (x &&& (3 : Int32))), .val (.int (XT.ushr x (2 : Int32)))] [(.int ((55296 : Int32) + ((XT.ushr x (2 : Int32)) &&& (1023 : Int32))))])) _
        refine XT.i2c X0.here hx rfl (hb hby d1_32) rfl ?_
        exact kk_)
      obtain ⟨fs, hr, hrun, hended, hW, hsame⟩ := X0.leave (v := some (.int (nar .char (((55296 : Int32) + ((XT.ushr x (2 : Int32)) &&& (1023 : Int32))).toUInt32.toUInt16.toUInt32.toInt32)))) (fun h => by rw [Bd.returns] at h; cases h)
      refine ⟨_, _, ?_, hrun, hended, _, _, rfl, ?_, ⟨_, rfl⟩, hW, hsame.mono (by decide) (by decide)⟩
      · rw [← hG]; exact S85 _ (retN X0 hx (t := .char) Bd.returns (by simp) (hb hby d1_33) hr)
      · show Q1 Z x h0 n0 _ s₁.heap _
        rw [e0]
        exact ⟨_, own_ch_nar _, rfl, N0, rfl⟩
    · have _ := N0
      have S86 : own_Go p e below s₁ G s₁ (mkF m 36 #[.val (.int x), .val (.int (x &&& (3 : Int32))), .val (.int (XT.ushr x (2 : Int32)))] [(.int (2 : Int32)), (.int (x &&& (3 : Int32)))]) := fun tg_ kk_ => S83 tg_ (by
        refine XS.icmpYes X0.here hx rfl (pc0 := 21) (pc' := 34) rfl (hb hby d1_21) rfl (XT.ii_ne_t hc84) (by decide) (by decide) ?_
        show Steps p.tables e below (s₁.setTop (mkF m 34 #[.val (.int x), .val (.int (x &&& (3 : Int32))), .val (.int (XT.ushr x (2 : Int32)))] [])) _
        refine XS.iloadN X0.here hx rfl (hb hby d1_34) rfl ?_
        show Steps p.tables e below (s₁.setTop (mkF m 35 #[.val (.int x), .val (.int (x &&& (3 : Int32))), .val (.int (XT.ushr x (2 : Int32)))] [(.int (x &&& (3 : Int32)))])) _
        refine XS.iconst X0.here hx rfl (hb hby d1_35) ?_
        exact kk_)
      by_cases hc87 : (x &&& (3 : Int32)) = (2 : Int32)
      · have _ := N0
        have S88 : own_Go p e below s₁ G s₁ (mkF m 48 #[.val (.int x), .val (.int (x &&& (3 : Int32))), .val (.int (XT.ushr x (2 : Int32)))] [(.int (((56320 : Int32) + ((XT.ushr x (2 : Int32)) &&& (1023 : Int32))).toUInt32.toUInt16.toUInt32.toInt32))]) := fun tg_ kk_ => S86 tg_ (by
          refine XS.icmpNo X0.here hx rfl (hb hby d1_36) rfl (XT.ii_ne_f hc87) ?_
          show Steps p.tables e below (s₁.setTop (mkF m 39 #[.val (.int x), .val (.int (x &&& (3 : Int32))), .val (.int (XT.ushr x (2 : Int32)))] [])) _
          refine X0.ldcInt hx hown (mvT hZ (hw _ (List.mem_of_getElem? (i := 5) rfl))) (g := (mkF m 39 #[.val (.int x), .val (.int (x &&& (3 : Int32))), .val (.int (XT.ushr x (2 : Int32)))] [])) rfl (hb hby d1_39) _ ?_
          show Steps p.tables e below (s₁.setTop (mkF m 41 #[.val (.int x), .val (.int (x &&& (3 : Int32))), .val (.int (XT.ushr x (2 : Int32)))] [(.int (56320 : Int32))])) _
          refine XS.iloadN X0.here hx rfl (hb hby d1_41) rfl ?_
          show Steps p.tables e below (s₁.setTop (mkF m 42 #[.val (.int x), .val (.int (x &&& (3 : Int32))), .val (.int (XT.ushr x (2 : Int32)))] [(.int (XT.ushr x (2 : Int32))), (.int (56320 : Int32))])) _
          refine XS.sipush X0.here hx rfl (hb hby d1_42) ?_
          show Steps p.tables e below (s₁.setTop (mkF m 45 #[.val (.int x), .val (.int (x &&& (3 : Int32))), .val (.int (XT.ushr x (2 : Int32)))] [(.int (1023 : Int32)), (.int (XT.ushr x (2 : Int32))), (.int (56320 : Int32))])) _
          refine XS.iand X0.here hx rfl (hb hby d1_45) rfl ?_
          show Steps p.tables e below (s₁.setTop (mkF m 46 #[.val (.int x), .val (.int (x &&& (3 : Int32))), .val (.int (XT.ushr x (2 : Int32)))] [(.int ((XT.ushr x (2 : Int32)) &&& (1023 : Int32))), (.int (56320 : Int32))])) _
          refine XS.iadd X0.here hx rfl (hb hby d1_46) rfl ?_
          show Steps p.tables e below (s₁.setTop (mkF m 47 #[.val (.int x), .val (.int (x &&& (3 : Int32))), .val (.int (XT.ushr x (2 : Int32)))] [(.int ((56320 : Int32) + ((XT.ushr x (2 : Int32)) &&& (1023 : Int32))))])) _
          refine XT.i2c X0.here hx rfl (hb hby d1_47) rfl ?_
          exact kk_)
        obtain ⟨fs, hr, hrun, hended, hW, hsame⟩ := X0.leave (v := some (.int (nar .char (((56320 : Int32) + ((XT.ushr x (2 : Int32)) &&& (1023 : Int32))).toUInt32.toUInt16.toUInt32.toInt32)))) (fun h => by rw [Bd.returns] at h; cases h)
        refine ⟨_, _, ?_, hrun, hended, _, _, rfl, ?_, ⟨_, rfl⟩, hW, hsame.mono (by decide) (by decide)⟩
        · rw [← hG]; exact S88 _ (retN X0 hx (t := .char) Bd.returns (by simp) (hb hby d1_48) hr)
        · show Q1 Z x h0 n0 _ s₁.heap _
          rw [e0]
          exact ⟨_, own_ch_nar _, rfl, N0, rfl⟩
      · have _ := N0
        have S89 : own_Go p e below s₁ G s₁ (mkF m 51 #[.val (.int x), .val (.int (x &&& (3 : Int32))), .val (.int (XT.ushr x (2 : Int32)))] [(.int ((XT.ushr x (2 : Int32)).toUInt32.toUInt16.toUInt32.toInt32))]) := fun tg_ kk_ => S86 tg_ (by
          refine XS.icmpYes X0.here hx rfl (pc0 := 36) (pc' := 49) rfl (hb hby d1_36) rfl (XT.ii_ne_t hc87) (by decide) (by decide) ?_
          show Steps p.tables e below (s₁.setTop (mkF m 49 #[.val (.int x), .val (.int (x &&& (3 : Int32))), .val (.int (XT.ushr x (2 : Int32)))] [])) _
          refine XS.iloadN X0.here hx rfl (hb hby d1_49) rfl ?_
          show Steps p.tables e below (s₁.setTop (mkF m 50 #[.val (.int x), .val (.int (x &&& (3 : Int32))), .val (.int (XT.ushr x (2 : Int32)))] [(.int (XT.ushr x (2 : Int32)))])) _
          refine XT.i2c X0.here hx rfl (hb hby d1_50) rfl ?_
          exact kk_)
        obtain ⟨fs, hr, hrun, hended, hW, hsame⟩ := X0.leave (v := some (.int (nar .char ((XT.ushr x (2 : Int32)).toUInt32.toUInt16.toUInt32.toInt32)))) (fun h => by rw [Bd.returns] at h; cases h)
        refine ⟨_, _, ?_, hrun, hended, _, _, rfl, ?_, ⟨_, rfl⟩, hW, hsame.mono (by decide) (by decide)⟩
        · rw [← hG]; exact S89 _ (retN X0 hx (t := .char) Bd.returns (by simp) (hb hby d1_51) hr)
        · show Q1 Z x h0 n0 _ s₁.heap _
          rw [e0]
          exact ⟨_, own_ch_nar _, rfl, N0, rfl⟩
def Q24 (Z : State) (a : Int32) (b : Int32) (h0 : Heap) (n0 : Nat) (v : Option Value) (h : Heap) (L : List Loc) : Prop := ((own_pr a b ∧ v = some (.int 1)) ∨ (¬ own_pr a b ∧ v = some (.int 0))) ∧ Fr n0 L ∧ h0 = h
set_option maxRecDepth 65536 in
set_option maxHeartbeats 40000000 in
theorem rm24 (l : Launch) (Z : State) (a0 : Array Value) (hw : ∀ d ∈ tables_1, d.before a0 Z = true) (ws : List Jvm.Cond) (a : Int32) (b : Int32) (h0 : Heap) (n0 : Nat) (Z0 : n0 ≤ h0.size)  :
    MetFree l (⟨"com/example/kept_triples/kepttriples/model/LabelLexerColumnPinLaw", "pair", "(CC)Z"⟩ : MethodName) (head1 (Jvm.Cond.code (⟨"com/example/kept_triples/kepttriples/model/LabelLexerColumnPinLaw", "pair", "(CC)Z"⟩ : MethodName) method_3_code 2 (some .boolean) :: ws) ({ frames := 0, cells := 0, slots := 0, locals := 0 } : Room)) (fun aa_ U => aa_ = #[(.int a), (.int b)] ∧ Z.Warmed39 U.vm ∧ U.heap = h0) (fun _ _ _ _ _ => True) (fun _ U o U' => ∃ v L, o = .returned v ∧ Q24 Z a b h0 n0 v U'.heap L ∧ FrameEnd U o U' L ({ frames := 0, cells := 0, slots := 0, locals := 0 } : Room).cells ({ frames := 0, cells := 0, slots := 0, locals := 0 } : Room).slots) := by
  refine MetFree.of_bodySF (plainFor_of_name pn3) hisR ?_
  intro p e s m args below meth c s₁ Bd hml0 hP hK
  obtain ⟨rfl, hZ, hh⟩ := hP
  have hx := Bd.exec
  have hby := Bd.bytes
  have hml : c.maxLocals = 2 := hml0
  have hown : s.vm.findClass "com/example/kept_triples/kepttriples/model/LabelLexerColumnPinLaw" = some m.cls := findClass_of_methodNamed Bd.named
  have hnm := (name_of_methodNamed Bd.named Bd.method).1
  have X0 : Stand p l e ({ frames := 0, cells := 0, slots := 0, locals := 0 } : Room) s m #[(.int a), (.int b)] below meth c s₁ [] 0 0 := Stand.of_body Bd
  have e0 : s₁.heap = h0 := by rw [← hh, Bd.state]; rfl
  have N0 := Fr.nil n0
  obtain ⟨G, hG⟩ : ∃ G, G = entryFrame m #[(.int a), (.int b)] 2 := ⟨_, rfl⟩
  have S0 : own_Go p e below s₁ G s₁ (mkF m 0 #[.val (.int a), .val (.int b)] []) := fun tg_ kk_ => castTop (by rw [hG]; first | rfl | simp [entryFrame, mkF, argsToLocals, Value.category, maxLocals]) kk_
  have q1 : (56319 : Int32) < a ↔ ¬ a < 56320 := own_gt rfl
  have q2 : (57343 : Int32) < b ↔ ¬ b < 57344 := own_gt rfl
  have S90 : own_Go p e below s₁ G s₁ (mkF m 3 #[.val (.int a), .val (.int b)] [(.int (55296 : Int32)), (.int a)]) := fun tg_ kk_ => S0 tg_ (by
    refine XS.iloadN X0.here hx rfl (hb hby d24_0) rfl ?_
    show Steps p.tables e below (s₁.setTop (mkF m 1 #[.val (.int a), .val (.int b)] [(.int a)])) _
    refine X0.ldcInt hx hown (mvT hZ (hw _ (List.mem_of_getElem? (i := 6) rfl))) (g := (mkF m 1 #[.val (.int a), .val (.int b)] [(.int a)])) rfl (hb hby d24_1) _ ?_
    exact kk_)
  by_cases hc91 : a < (55296 : Int32)
  · have _ := N0
    have S92 : own_Go p e below s₁ G s₁ (mkF m 29 #[.val (.int a), .val (.int b)] [(.int (0 : Int32))]) := fun tg_ kk_ => S90 tg_ (by
      refine XS.icmpYes X0.here hx rfl (pc0 := 3) (pc' := 28) rfl (hb hby d24_3) rfl (XT.ii_lt_t hc91) (by decide) (by decide) ?_
      show Steps p.tables e below (s₁.setTop (mkF m 28 #[.val (.int a), .val (.int b)] [])) _
      refine XS.iconst X0.here hx rfl (hb hby d24_28) ?_
      exact kk_)
    obtain ⟨fs, hr, hrun, hended, hW, hsame⟩ := X0.leave (v := some (.int (0 : Int32))) (fun h => by rw [Bd.returns] at h; cases h)
    refine ⟨_, _, ?_, hrun, hended, _, _, rfl, ?_, ⟨_, rfl⟩, hW, hsame.mono (by decide) (by decide)⟩
    · rw [← hG]; exact S92 _ (retN X0 hx (t := .boolean) Bd.returns (by simp) (hb hby d24_29) hr)
    · show Q24 Z a b h0 n0 _ s₁.heap _
      rw [e0]
      exact ⟨Or.inr ⟨fun q => q.1 hc91, rfl⟩, N0, rfl⟩
  · have _ := N0
    have S93 : own_Go p e below s₁ G s₁ (mkF m 9 #[.val (.int a), .val (.int b)] [(.int (56319 : Int32)), (.int a)]) := fun tg_ kk_ => S90 tg_ (by
      refine XS.icmpNo X0.here hx rfl (hb hby d24_3) rfl (XT.ii_lt_f hc91) ?_
      show Steps p.tables e below (s₁.setTop (mkF m 6 #[.val (.int a), .val (.int b)] [])) _
      refine XS.iloadN X0.here hx rfl (hb hby d24_6) rfl ?_
      show Steps p.tables e below (s₁.setTop (mkF m 7 #[.val (.int a), .val (.int b)] [(.int a)])) _
      refine X0.ldcInt hx hown (mvT hZ (hw _ (List.mem_of_getElem? (i := 118) rfl))) (g := (mkF m 7 #[.val (.int a), .val (.int b)] [(.int a)])) rfl (hb hby d24_7) _ ?_
      exact kk_)
    by_cases hc94 : (56319 : Int32) < a
    · have _ := N0
      have S95 : own_Go p e below s₁ G s₁ (mkF m 29 #[.val (.int a), .val (.int b)] [(.int (0 : Int32))]) := fun tg_ kk_ => S93 tg_ (by
        refine XS.icmpYes X0.here hx rfl (pc0 := 9) (pc' := 28) rfl (hb hby d24_9) rfl (XT.ii_gt_t hc94) (by decide) (by decide) ?_
        show Steps p.tables e below (s₁.setTop (mkF m 28 #[.val (.int a), .val (.int b)] [])) _
        refine XS.iconst X0.here hx rfl (hb hby d24_28) ?_
        exact kk_)
      obtain ⟨fs, hr, hrun, hended, hW, hsame⟩ := X0.leave (v := some (.int (0 : Int32))) (fun h => by rw [Bd.returns] at h; cases h)
      refine ⟨_, _, ?_, hrun, hended, _, _, rfl, ?_, ⟨_, rfl⟩, hW, hsame.mono (by decide) (by decide)⟩
      · rw [← hG]; exact S95 _ (retN X0 hx (t := .boolean) Bd.returns (by simp) (hb hby d24_29) hr)
      · show Q24 Z a b h0 n0 _ s₁.heap _
        rw [e0]
        exact ⟨Or.inr ⟨fun q => q1.mp hc94 q.2.1, rfl⟩, N0, rfl⟩
    · have _ := N0
      have S96 : own_Go p e below s₁ G s₁ (mkF m 15 #[.val (.int a), .val (.int b)] [(.int (56320 : Int32)), (.int b)]) := fun tg_ kk_ => S93 tg_ (by
        refine XS.icmpNo X0.here hx rfl (hb hby d24_9) rfl (XT.ii_gt_f hc94) ?_
        show Steps p.tables e below (s₁.setTop (mkF m 12 #[.val (.int a), .val (.int b)] [])) _
        refine XS.iloadN X0.here hx rfl (hb hby d24_12) rfl ?_
        show Steps p.tables e below (s₁.setTop (mkF m 13 #[.val (.int a), .val (.int b)] [(.int b)])) _
        refine X0.ldcInt hx hown (mvT hZ (hw _ (List.mem_of_getElem? (i := 5) rfl))) (g := (mkF m 13 #[.val (.int a), .val (.int b)] [(.int b)])) rfl (hb hby d24_13) _ ?_
        exact kk_)
      by_cases hc97 : b < (56320 : Int32)
      · have _ := N0
        have S98 : own_Go p e below s₁ G s₁ (mkF m 29 #[.val (.int a), .val (.int b)] [(.int (0 : Int32))]) := fun tg_ kk_ => S96 tg_ (by
          refine XS.icmpYes X0.here hx rfl (pc0 := 15) (pc' := 28) rfl (hb hby d24_15) rfl (XT.ii_lt_t hc97) (by decide) (by decide) ?_
          show Steps p.tables e below (s₁.setTop (mkF m 28 #[.val (.int a), .val (.int b)] [])) _
          refine XS.iconst X0.here hx rfl (hb hby d24_28) ?_
          exact kk_)
        obtain ⟨fs, hr, hrun, hended, hW, hsame⟩ := X0.leave (v := some (.int (0 : Int32))) (fun h => by rw [Bd.returns] at h; cases h)
        refine ⟨_, _, ?_, hrun, hended, _, _, rfl, ?_, ⟨_, rfl⟩, hW, hsame.mono (by decide) (by decide)⟩
        · rw [← hG]; exact S98 _ (retN X0 hx (t := .boolean) Bd.returns (by simp) (hb hby d24_29) hr)
        · show Q24 Z a b h0 n0 _ s₁.heap _
          rw [e0]
          exact ⟨Or.inr ⟨fun q => q.2.2.1 hc97, rfl⟩, N0, rfl⟩
      · have _ := N0
        have S99 : own_Go p e below s₁ G s₁ (mkF m 21 #[.val (.int a), .val (.int b)] [(.int (57343 : Int32)), (.int b)]) := fun tg_ kk_ => S96 tg_ (by
          refine XS.icmpNo X0.here hx rfl (hb hby d24_15) rfl (XT.ii_lt_f hc97) ?_
          show Steps p.tables e below (s₁.setTop (mkF m 18 #[.val (.int a), .val (.int b)] [])) _
          refine XS.iloadN X0.here hx rfl (hb hby d24_18) rfl ?_
          show Steps p.tables e below (s₁.setTop (mkF m 19 #[.val (.int a), .val (.int b)] [(.int b)])) _
          refine X0.ldcInt hx hown (mvT hZ (hw _ (List.mem_of_getElem? (i := 123) rfl))) (g := (mkF m 19 #[.val (.int a), .val (.int b)] [(.int b)])) rfl (hb hby d24_19) _ ?_
          exact kk_)
        by_cases hc100 : (57343 : Int32) < b
        · have _ := N0
          have S101 : own_Go p e below s₁ G s₁ (mkF m 29 #[.val (.int a), .val (.int b)] [(.int (0 : Int32))]) := fun tg_ kk_ => S99 tg_ (by
            refine XS.icmpYes X0.here hx rfl (pc0 := 21) (pc' := 28) rfl (hb hby d24_21) rfl (XT.ii_gt_t hc100) (by decide) (by decide) ?_
            show Steps p.tables e below (s₁.setTop (mkF m 28 #[.val (.int a), .val (.int b)] [])) _
            refine XS.iconst X0.here hx rfl (hb hby d24_28) ?_
            exact kk_)
          obtain ⟨fs, hr, hrun, hended, hW, hsame⟩ := X0.leave (v := some (.int (0 : Int32))) (fun h => by rw [Bd.returns] at h; cases h)
          refine ⟨_, _, ?_, hrun, hended, _, _, rfl, ?_, ⟨_, rfl⟩, hW, hsame.mono (by decide) (by decide)⟩
          · rw [← hG]; exact S101 _ (retN X0 hx (t := .boolean) Bd.returns (by simp) (hb hby d24_29) hr)
          · show Q24 Z a b h0 n0 _ s₁.heap _
            rw [e0]
            exact ⟨Or.inr ⟨fun q => q2.mp hc100 q.2.2.2, rfl⟩, N0, rfl⟩
        · have _ := N0
          have S102 : own_Go p e below s₁ G s₁ (mkF m 29 #[.val (.int a), .val (.int b)] [(.int (1 : Int32))]) := fun tg_ kk_ => S99 tg_ (by
            refine XS.icmpNo X0.here hx rfl (hb hby d24_21) rfl (XT.ii_gt_f hc100) ?_
            show Steps p.tables e below (s₁.setTop (mkF m 24 #[.val (.int a), .val (.int b)] [])) _
            refine XS.iconst X0.here hx rfl (hb hby d24_24) ?_
            show Steps p.tables e below (s₁.setTop (mkF m 25 #[.val (.int a), .val (.int b)] [(.int (1 : Int32))])) _
            refine XS.goto X0.here hx rfl (pc0 := 25) (pc' := 29) rfl (hb hby d24_25) (by decide) (by decide) ?_
            exact kk_)
          obtain ⟨fs, hr, hrun, hended, hW, hsame⟩ := X0.leave (v := some (.int (1 : Int32))) (fun h => by rw [Bd.returns] at h; cases h)
          refine ⟨_, _, ?_, hrun, hended, _, _, rfl, ?_, ⟨_, rfl⟩, hW, hsame.mono (by decide) (by decide)⟩
          · rw [← hG]; exact S102 _ (retN X0 hx (t := .boolean) Bd.returns (by simp) (hb hby d24_29) hr)
          · show Q24 Z a b h0 n0 _ s₁.heap _
            rw [e0]
            exact ⟨Or.inl ⟨⟨hc91, (by simpa using (not_congr q1).mp hc94), hc97, (by simpa using (not_congr q2).mp hc100)⟩, rfl⟩, N0, rfl⟩
theorem pn4 : plainName "java/lang/Character" = true := by first | (simp [plainName, overriddenIn]; done) | decide +kernel
def Q23 (Z : State) (a : Int32) (h0 : Heap) (n0 : Nat) (v : Option Value) (h : Heap) (L : List Loc) : Prop := ((¬ a < 55296 ∧ a < 56320) ∧ v = some (.int 1) ∨ ¬ (¬ a < 55296 ∧ a < 56320) ∧ v = some (.int 0)) ∧ Fr n0 L ∧ h0 = h
set_option maxRecDepth 65536 in
set_option maxHeartbeats 40000000 in
theorem rm23 (l : Launch) (Z : State) (a0 : Array Value) (hw : ∀ d ∈ tables_1, d.before a0 Z = true) (ws : List Jvm.Cond) (a : Int32) (h0 : Heap) (n0 : Nat) (Z0 : n0 ≤ h0.size)  :
    MetFree l (⟨"java/lang/Character", "isHighSurrogate", "(C)Z"⟩ : MethodName) (head1 (Jvm.Cond.code (⟨"java/lang/Character", "isHighSurrogate", "(C)Z"⟩ : MethodName) jdk_89_method_14_code 1 (some .boolean) :: ws) ({ frames := 0, cells := 0, slots := 0, locals := 0 } : Room)) (fun aa_ U => aa_ = #[(.int a)] ∧ Z.Warmed39 U.vm ∧ U.heap = h0) (fun _ _ _ _ _ => True) (fun _ U o U' => ∃ v L, o = .returned v ∧ Q23 Z a h0 n0 v U'.heap L ∧ FrameEnd U o U' L ({ frames := 0, cells := 0, slots := 0, locals := 0 } : Room).cells ({ frames := 0, cells := 0, slots := 0, locals := 0 } : Room).slots) := by
  refine MetFree.of_bodySF (plainFor_of_name pn4) hisR ?_
  intro p e s m args below meth c s₁ Bd hml0 hP hK
  obtain ⟨rfl, hZ, hh⟩ := hP
  have hx := Bd.exec
  have hby := Bd.bytes
  have hml : c.maxLocals = 1 := hml0
  have hown : s.vm.findClass "java/lang/Character" = some m.cls := findClass_of_methodNamed Bd.named
  have hnm := (name_of_methodNamed Bd.named Bd.method).1
  have X0 : Stand p l e ({ frames := 0, cells := 0, slots := 0, locals := 0 } : Room) s m #[(.int a)] below meth c s₁ [] 0 0 := Stand.of_body Bd
  have e0 : s₁.heap = h0 := by rw [← hh, Bd.state]; rfl
  have N0 := Fr.nil n0
  obtain ⟨G, hG⟩ : ∃ G, G = entryFrame m #[(.int a)] 1 := ⟨_, rfl⟩
  have S0 : own_Go p e below s₁ G s₁ (mkF m 0 #[.val (.int a)] []) := fun tg_ kk_ => castTop (by rw [hG]; first | rfl | simp [entryFrame, mkF, argsToLocals, Value.category, maxLocals]) kk_
  have S103 : own_Go p e below s₁ G s₁ (mkF m 3 #[.val (.int a)] [(.int (55296 : Int32)), (.int a)]) := fun tg_ kk_ => S0 tg_ (by
    refine XS.iloadN X0.here hx rfl (hb hby d23_0) rfl ?_
    show Steps p.tables e below (s₁.setTop (mkF m 1 #[.val (.int a)] [(.int a)])) _
    refine X0.ldcInt hx hown (mvT hZ (hw _ (List.mem_of_getElem? (i := 113) rfl))) (g := (mkF m 1 #[.val (.int a)] [(.int a)])) rfl (hb hby d23_1) _ ?_
    exact kk_)
  by_cases hc104 : a < (55296 : Int32)
  · have _ := N0
    have S105 : own_Go p e below s₁ G s₁ (mkF m 17 #[.val (.int a)] [(.int (0 : Int32))]) := fun tg_ kk_ => S103 tg_ (by
      refine XS.icmpYes X0.here hx rfl (pc0 := 3) (pc' := 16) rfl (hb hby d23_3) rfl (XT.ii_lt_t hc104) (by decide) (by decide) ?_
      show Steps p.tables e below (s₁.setTop (mkF m 16 #[.val (.int a)] [])) _
      refine XS.iconst X0.here hx rfl (hb hby d23_16) ?_
      exact kk_)
    obtain ⟨fs, hr, hrun, hended, hW, hsame⟩ := X0.leave (v := some (.int (0 : Int32))) (fun h => by rw [Bd.returns] at h; cases h)
    refine ⟨_, _, ?_, hrun, hended, _, _, rfl, ?_, ⟨_, rfl⟩, hW, hsame.mono (by decide) (by decide)⟩
    · rw [← hG]; exact S105 _ (retN X0 hx (t := .boolean) Bd.returns (by simp) (hb hby d23_17) hr)
    · show Q23 Z a h0 n0 _ s₁.heap _
      rw [e0]
      exact ⟨Or.inr ⟨fun q => q.1 hc104, rfl⟩, N0, rfl⟩
  · have _ := N0
    have S106 : own_Go p e below s₁ G s₁ (mkF m 9 #[.val (.int a)] [(.int (56320 : Int32)), (.int a)]) := fun tg_ kk_ => S103 tg_ (by
      refine XS.icmpNo X0.here hx rfl (hb hby d23_3) rfl (XT.ii_lt_f hc104) ?_
      show Steps p.tables e below (s₁.setTop (mkF m 6 #[.val (.int a)] [])) _
      refine XS.iloadN X0.here hx rfl (hb hby d23_6) rfl ?_
      show Steps p.tables e below (s₁.setTop (mkF m 7 #[.val (.int a)] [(.int a)])) _
      refine X0.ldcInt hx hown (mvT hZ (hw _ (List.mem_of_getElem? (i := 117) rfl))) (g := (mkF m 7 #[.val (.int a)] [(.int a)])) rfl (hb hby d23_7) _ ?_
      exact kk_)
    by_cases hc107 : a < (56320 : Int32)
    · have _ := N0
      have S108 : own_Go p e below s₁ G s₁ (mkF m 17 #[.val (.int a)] [(.int (1 : Int32))]) := fun tg_ kk_ => S106 tg_ (by
        refine XS.icmpNo X0.here hx rfl (hb hby d23_9) rfl (XT.ii_ge_f hc107) ?_
        show Steps p.tables e below (s₁.setTop (mkF m 12 #[.val (.int a)] [])) _
        refine XS.iconst X0.here hx rfl (hb hby d23_12) ?_
        show Steps p.tables e below (s₁.setTop (mkF m 13 #[.val (.int a)] [(.int (1 : Int32))])) _
        refine XS.goto X0.here hx rfl (pc0 := 13) (pc' := 17) rfl (hb hby d23_13) (by decide) (by decide) ?_
        exact kk_)
      obtain ⟨fs, hr, hrun, hended, hW, hsame⟩ := X0.leave (v := some (.int (1 : Int32))) (fun h => by rw [Bd.returns] at h; cases h)
      refine ⟨_, _, ?_, hrun, hended, _, _, rfl, ?_, ⟨_, rfl⟩, hW, hsame.mono (by decide) (by decide)⟩
      · rw [← hG]; exact S108 _ (retN X0 hx (t := .boolean) Bd.returns (by simp) (hb hby d23_17) hr)
      · show Q23 Z a h0 n0 _ s₁.heap _
        rw [e0]
        exact ⟨Or.inl ⟨⟨hc104, hc107⟩, rfl⟩, N0, rfl⟩
    · have _ := N0
      have S109 : own_Go p e below s₁ G s₁ (mkF m 17 #[.val (.int a)] [(.int (0 : Int32))]) := fun tg_ kk_ => S106 tg_ (by
        refine XS.icmpYes X0.here hx rfl (pc0 := 9) (pc' := 16) rfl (hb hby d23_9) rfl (XT.ii_ge_t hc107) (by decide) (by decide) ?_
        show Steps p.tables e below (s₁.setTop (mkF m 16 #[.val (.int a)] [])) _
        refine XS.iconst X0.here hx rfl (hb hby d23_16) ?_
        exact kk_)
      obtain ⟨fs, hr, hrun, hended, hW, hsame⟩ := X0.leave (v := some (.int (0 : Int32))) (fun h => by rw [Bd.returns] at h; cases h)
      refine ⟨_, _, ?_, hrun, hended, _, _, rfl, ?_, ⟨_, rfl⟩, hW, hsame.mono (by decide) (by decide)⟩
      · rw [← hG]; exact S109 _ (retN X0 hx (t := .boolean) Bd.returns (by simp) (hb hby d23_17) hr)
      · show Q23 Z a h0 n0 _ s₁.heap _
        rw [e0]
        exact ⟨Or.inr ⟨fun q => hc107 q.2, rfl⟩, N0, rfl⟩
def Q25 (Z : State) (a : Int32) (h0 : Heap) (n0 : Nat) (v : Option Value) (h : Heap) (L : List Loc) : Prop := ((¬ a < 56320 ∧ a < 57344) ∧ v = some (.int 1) ∨ ¬ (¬ a < 56320 ∧ a < 57344) ∧ v = some (.int 0)) ∧ Fr n0 L ∧ h0 = h
set_option maxRecDepth 65536 in
set_option maxHeartbeats 40000000 in
theorem rm25 (l : Launch) (Z : State) (a0 : Array Value) (hw : ∀ d ∈ tables_1, d.before a0 Z = true) (ws : List Jvm.Cond) (a : Int32) (h0 : Heap) (n0 : Nat) (Z0 : n0 ≤ h0.size)  :
    MetFree l (⟨"java/lang/Character", "isLowSurrogate", "(C)Z"⟩ : MethodName) (head1 (Jvm.Cond.code (⟨"java/lang/Character", "isLowSurrogate", "(C)Z"⟩ : MethodName) jdk_89_method_15_code 1 (some .boolean) :: ws) ({ frames := 0, cells := 0, slots := 0, locals := 0 } : Room)) (fun aa_ U => aa_ = #[(.int a)] ∧ Z.Warmed39 U.vm ∧ U.heap = h0) (fun _ _ _ _ _ => True) (fun _ U o U' => ∃ v L, o = .returned v ∧ Q25 Z a h0 n0 v U'.heap L ∧ FrameEnd U o U' L ({ frames := 0, cells := 0, slots := 0, locals := 0 } : Room).cells ({ frames := 0, cells := 0, slots := 0, locals := 0 } : Room).slots) := by
  refine MetFree.of_bodySF (plainFor_of_name pn4) hisR ?_
  intro p e s m args below meth c s₁ Bd hml0 hP hK
  obtain ⟨rfl, hZ, hh⟩ := hP
  have hx := Bd.exec
  have hby := Bd.bytes
  have hml : c.maxLocals = 1 := hml0
  have hown : s.vm.findClass "java/lang/Character" = some m.cls := findClass_of_methodNamed Bd.named
  have hnm := (name_of_methodNamed Bd.named Bd.method).1
  have X0 : Stand p l e ({ frames := 0, cells := 0, slots := 0, locals := 0 } : Room) s m #[(.int a)] below meth c s₁ [] 0 0 := Stand.of_body Bd
  have e0 : s₁.heap = h0 := by rw [← hh, Bd.state]; rfl
  have N0 := Fr.nil n0
  obtain ⟨G, hG⟩ : ∃ G, G = entryFrame m #[(.int a)] 1 := ⟨_, rfl⟩
  have S0 : own_Go p e below s₁ G s₁ (mkF m 0 #[.val (.int a)] []) := fun tg_ kk_ => castTop (by rw [hG]; first | rfl | simp [entryFrame, mkF, argsToLocals, Value.category, maxLocals]) kk_
  have S110 : own_Go p e below s₁ G s₁ (mkF m 3 #[.val (.int a)] [(.int (56320 : Int32)), (.int a)]) := fun tg_ kk_ => S0 tg_ (by
    refine XS.iloadN X0.here hx rfl (hb hby d25_0) rfl ?_
    show Steps p.tables e below (s₁.setTop (mkF m 1 #[.val (.int a)] [(.int a)])) _
    refine X0.ldcInt hx hown (mvT hZ (hw _ (List.mem_of_getElem? (i := 117) rfl))) (g := (mkF m 1 #[.val (.int a)] [(.int a)])) rfl (hb hby d25_1) _ ?_
    exact kk_)
  by_cases hc111 : a < (56320 : Int32)
  · have _ := N0
    have S112 : own_Go p e below s₁ G s₁ (mkF m 17 #[.val (.int a)] [(.int (0 : Int32))]) := fun tg_ kk_ => S110 tg_ (by
      refine XS.icmpYes X0.here hx rfl (pc0 := 3) (pc' := 16) rfl (hb hby d25_3) rfl (XT.ii_lt_t hc111) (by decide) (by decide) ?_
      show Steps p.tables e below (s₁.setTop (mkF m 16 #[.val (.int a)] [])) _
      refine XS.iconst X0.here hx rfl (hb hby d25_16) ?_
      exact kk_)
    obtain ⟨fs, hr, hrun, hended, hW, hsame⟩ := X0.leave (v := some (.int (0 : Int32))) (fun h => by rw [Bd.returns] at h; cases h)
    refine ⟨_, _, ?_, hrun, hended, _, _, rfl, ?_, ⟨_, rfl⟩, hW, hsame.mono (by decide) (by decide)⟩
    · rw [← hG]; exact S112 _ (retN X0 hx (t := .boolean) Bd.returns (by simp) (hb hby d25_17) hr)
    · show Q25 Z a h0 n0 _ s₁.heap _
      rw [e0]
      exact ⟨Or.inr ⟨fun q => q.1 hc111, rfl⟩, N0, rfl⟩
  · have _ := N0
    have S113 : own_Go p e below s₁ G s₁ (mkF m 9 #[.val (.int a)] [(.int (57344 : Int32)), (.int a)]) := fun tg_ kk_ => S110 tg_ (by
      refine XS.icmpNo X0.here hx rfl (hb hby d25_3) rfl (XT.ii_lt_f hc111) ?_
      show Steps p.tables e below (s₁.setTop (mkF m 6 #[.val (.int a)] [])) _
      refine XS.iloadN X0.here hx rfl (hb hby d25_6) rfl ?_
      show Steps p.tables e below (s₁.setTop (mkF m 7 #[.val (.int a)] [(.int a)])) _
      refine X0.ldcInt hx hown (mvT hZ (hw _ (List.mem_of_getElem? (i := 122) rfl))) (g := (mkF m 7 #[.val (.int a)] [(.int a)])) rfl (hb hby d25_7) _ ?_
      exact kk_)
    by_cases hc114 : a < (57344 : Int32)
    · have _ := N0
      have S115 : own_Go p e below s₁ G s₁ (mkF m 17 #[.val (.int a)] [(.int (1 : Int32))]) := fun tg_ kk_ => S113 tg_ (by
        refine XS.icmpNo X0.here hx rfl (hb hby d25_9) rfl (XT.ii_ge_f hc114) ?_
        show Steps p.tables e below (s₁.setTop (mkF m 12 #[.val (.int a)] [])) _
        refine XS.iconst X0.here hx rfl (hb hby d25_12) ?_
        show Steps p.tables e below (s₁.setTop (mkF m 13 #[.val (.int a)] [(.int (1 : Int32))])) _
        refine XS.goto X0.here hx rfl (pc0 := 13) (pc' := 17) rfl (hb hby d25_13) (by decide) (by decide) ?_
        exact kk_)
      obtain ⟨fs, hr, hrun, hended, hW, hsame⟩ := X0.leave (v := some (.int (1 : Int32))) (fun h => by rw [Bd.returns] at h; cases h)
      refine ⟨_, _, ?_, hrun, hended, _, _, rfl, ?_, ⟨_, rfl⟩, hW, hsame.mono (by decide) (by decide)⟩
      · rw [← hG]; exact S115 _ (retN X0 hx (t := .boolean) Bd.returns (by simp) (hb hby d25_17) hr)
      · show Q25 Z a h0 n0 _ s₁.heap _
        rw [e0]
        exact ⟨Or.inl ⟨⟨hc111, hc114⟩, rfl⟩, N0, rfl⟩
    · have _ := N0
      have S116 : own_Go p e below s₁ G s₁ (mkF m 17 #[.val (.int a)] [(.int (0 : Int32))]) := fun tg_ kk_ => S113 tg_ (by
        refine XS.icmpYes X0.here hx rfl (pc0 := 9) (pc' := 16) rfl (hb hby d25_9) rfl (XT.ii_ge_t hc114) (by decide) (by decide) ?_
        show Steps p.tables e below (s₁.setTop (mkF m 16 #[.val (.int a)] [])) _
        refine XS.iconst X0.here hx rfl (hb hby d25_16) ?_
        exact kk_)
      obtain ⟨fs, hr, hrun, hended, hW, hsame⟩ := X0.leave (v := some (.int (0 : Int32))) (fun h => by rw [Bd.returns] at h; cases h)
      refine ⟨_, _, ?_, hrun, hended, _, _, rfl, ?_, ⟨_, rfl⟩, hW, hsame.mono (by decide) (by decide)⟩
      · rw [← hG]; exact S116 _ (retN X0 hx (t := .boolean) Bd.returns (by simp) (hb hby d25_17) hr)
      · show Q25 Z a h0 n0 _ s₁.heap _
        rw [e0]
        exact ⟨Or.inr ⟨fun q => hc114 q.2, rfl⟩, N0, rfl⟩
def Q17 (Z : State) (x : Addr) (cd : Int32) (h0 : Heap) (n0 : Nat) (v : Option Value) (h : Heap) (L : List Loc) : Prop := v = some (.int cd) ∧ Fr n0 L ∧ h0 = h
set_option maxRecDepth 65536 in
set_option maxHeartbeats 40000000 in
theorem rm17 (l : Launch) (Z : State) (a0 : Array Value) (hw : ∀ d ∈ tables_1, d.before a0 Z = true) (ws : List Jvm.Cond) (x : Addr) (cd : Int32) (h0 : Heap) (n0 : Nat) (Z0 : n0 ≤ h0.size) (z : Int32) (O : Old Z n0 h0) (O2 : Sta Z Z.heap "java/lang/String" "COMPACT_STRINGS" "Z" (.int z)) (P5 : ¬ z = 0) (Fc : Fld Z h0 x "java/lang/String" "coder" "B" (.int cd)) (hcd : cd = 0 ∨ cd = 1) :
    MetFree l (⟨"java/lang/String", "coder", "()B"⟩ : MethodName) (head1 (Jvm.Cond.code (⟨"java/lang/String", "coder", "()B"⟩ : MethodName) jdk_42_method_152_code 1 (some .byte) :: ws) ({ frames := 0, cells := 0, slots := 0, locals := 0 } : Room)) (fun aa_ U => aa_ = #[(.ref x)] ∧ Z.Warmed39 U.vm ∧ U.heap = h0) (fun _ _ _ _ _ => True) (fun _ U o U' => ∃ v L, o = .returned v ∧ Q17 Z x cd h0 n0 v U'.heap L ∧ FrameEnd U o U' L ({ frames := 0, cells := 0, slots := 0, locals := 0 } : Room).cells ({ frames := 0, cells := 0, slots := 0, locals := 0 } : Room).slots) := by
  refine MetFree.of_bodySF (plainFor_of_name pn2) hisR ?_
  intro p e s m args below meth c s₁ Bd hml0 hP hK
  obtain ⟨rfl, hZ, hh⟩ := hP
  have hx := Bd.exec
  have hby := Bd.bytes
  have hml : c.maxLocals = 1 := hml0
  have hown : s.vm.findClass "java/lang/String" = some m.cls := findClass_of_methodNamed Bd.named
  have hnm := (name_of_methodNamed Bd.named Bd.method).1
  have X0 : Stand p l e ({ frames := 0, cells := 0, slots := 0, locals := 0 } : Room) s m #[(.ref x)] below meth c s₁ [] 0 0 := Stand.of_body Bd
  have e0 : s₁.heap = h0 := by rw [← hh, Bd.state]; rfl
  have N0 := Fr.nil n0
  obtain ⟨G, hG⟩ : ∃ G, G = entryFrame m #[(.ref x)] 1 := ⟨_, rfl⟩
  have S0 : own_Go p e below s₁ G s₁ (mkF m 0 #[.val (.ref x)] []) := fun tg_ kk_ => castTop (by rw [hG]; first | rfl | simp [entryFrame, mkF, argsToLocals, Value.category, maxLocals]) kk_
  obtain ⟨T117, X117, e117, st117⟩ := getS X0 hx hZ (host := "") hown (hw _ (List.mem_of_getElem? (i := 20) rfl)) Via.refl e0 (O2.ext O.2) (g := (mkF m 0 #[.val (.ref x)] [])) rfl (hb hby d17_0)
  have S118 : own_Go p e below s₁ G T117 (mkF m 3 #[.val (.ref x)] [(.int z)]) := fun tg_ kk_ => S0 tg_ (st117 tg_ kk_)
  have S119 : own_Go p e below s₁ G T117 (mkF m 7 #[.val (.ref x)] [(.ref x)]) := fun tg_ kk_ => S118 tg_ (by
    refine XS.ifNo X117.here hx rfl (hb hby d17_3) rfl (XT.i0_eq_f P5) ?_
    show Steps p.tables e below (T117.setTop (mkF m 6 #[.val (.ref x)] [])) _
    refine XS.aloadN X117.here hx rfl (hb hby d17_6) rfl rfl ?_
    exact kk_)
  obtain ⟨T120, X120, e120, st120⟩ := getF X117 hx hZ hown (host := "") (Or.inl (hw _ (List.mem_of_getElem? (i := 51) rfl))) Via.refl e117 Fc (g := (mkF m 7 #[.val (.ref x)] [(.ref x)])) rfl rfl (hb hby d17_7)
  have S121 : own_Go p e below s₁ G T120 (mkF m 10 #[.val (.ref x)] [(.int cd)]) := fun tg_ kk_ => S119 tg_ (st120 tg_ kk_)
  have S122 : own_Go p e below s₁ G T120 (mkF m 14 #[.val (.ref x)] [(.int cd)]) := fun tg_ kk_ => S121 tg_ (by
    refine XS.goto X120.here hx rfl (pc0 := 10) (pc' := 14) rfl (hb hby d17_10) (by decide) (by decide) ?_
    exact kk_)
  rcases hcd with rfl | rfl
  · have _ := N0
    obtain ⟨fs, hr, hrun, hended, hW, hsame⟩ := X120.leave (v := some (.int (0 : Int32))) (fun h => by rw [Bd.returns] at h; cases h)
    refine ⟨_, _, ?_, hrun, hended, _, _, rfl, ?_, ⟨_, rfl⟩, hW, hsame.mono (by decide) (by decide)⟩
    · rw [← hG]; exact S122 _ (retN X120 hx (t := .byte) Bd.returns (by simp) (hb hby d17_14) hr)
    · show Q17 Z x (0 : Int32) h0 n0 _ T120.heap _
      rw [e120]
      exact ⟨rfl, N0, rfl⟩
  · have _ := N0
    obtain ⟨fs, hr, hrun, hended, hW, hsame⟩ := X120.leave (v := some (.int (1 : Int32))) (fun h => by rw [Bd.returns] at h; cases h)
    refine ⟨_, _, ?_, hrun, hended, _, _, rfl, ?_, ⟨_, rfl⟩, hW, hsame.mono (by decide) (by decide)⟩
    · rw [← hG]; exact S122 _ (retN X120 hx (t := .byte) Bd.returns (by simp) (hb hby d17_14) hr)
    · show Q17 Z x (1 : Int32) h0 n0 _ T120.heap _
      rw [e120]
      exact ⟨rfl, N0, rfl⟩
def Q20 (Z : State) (x : Addr) (cd : Int32) (h0 : Heap) (n0 : Nat) (v : Option Value) (h : Heap) (L : List Loc) : Prop := v = some (.int (1 - cd)) ∧ Fr n0 L ∧ h0 = h
set_option maxRecDepth 65536 in
set_option maxHeartbeats 40000000 in
theorem rm20 (l : Launch) (Z : State) (a0 : Array Value) (hw : ∀ d ∈ tables_1, d.before a0 Z = true) (ws : List Jvm.Cond) (x : Addr) (cd : Int32) (h0 : Heap) (n0 : Nat) (Z0 : n0 ≤ h0.size) (z : Int32) (O : Old Z n0 h0) (O2 : Sta Z Z.heap "java/lang/String" "COMPACT_STRINGS" "Z" (.int z)) (P5 : ¬ z = 0) (Fc : Fld Z h0 x "java/lang/String" "coder" "B" (.int cd)) (hcd : cd = 0 ∨ cd = 1) :
    MetFree l (⟨"java/lang/String", "isLatin1", "()Z"⟩ : MethodName) (head1 (Jvm.Cond.code (⟨"java/lang/String", "isLatin1", "()Z"⟩ : MethodName) jdk_42_method_154_code 1 (some .boolean) :: ws) ({ frames := 0, cells := 0, slots := 0, locals := 0 } : Room)) (fun aa_ U => aa_ = #[(.ref x)] ∧ Z.Warmed39 U.vm ∧ U.heap = h0) (fun _ _ _ _ _ => True) (fun _ U o U' => ∃ v L, o = .returned v ∧ Q20 Z x cd h0 n0 v U'.heap L ∧ FrameEnd U o U' L ({ frames := 0, cells := 0, slots := 0, locals := 0 } : Room).cells ({ frames := 0, cells := 0, slots := 0, locals := 0 } : Room).slots) := by
  refine MetFree.of_bodySF (plainFor_of_name pn2) hisR ?_
  intro p e s m args below meth c s₁ Bd hml0 hP hK
  obtain ⟨rfl, hZ, hh⟩ := hP
  have hx := Bd.exec
  have hby := Bd.bytes
  have hml : c.maxLocals = 1 := hml0
  have hown : s.vm.findClass "java/lang/String" = some m.cls := findClass_of_methodNamed Bd.named
  have hnm := (name_of_methodNamed Bd.named Bd.method).1
  have X0 : Stand p l e ({ frames := 0, cells := 0, slots := 0, locals := 0 } : Room) s m #[(.ref x)] below meth c s₁ [] 0 0 := Stand.of_body Bd
  have e0 : s₁.heap = h0 := by rw [← hh, Bd.state]; rfl
  have N0 := Fr.nil n0
  obtain ⟨G, hG⟩ : ∃ G, G = entryFrame m #[(.ref x)] 1 := ⟨_, rfl⟩
  have S0 : own_Go p e below s₁ G s₁ (mkF m 0 #[.val (.ref x)] []) := fun tg_ kk_ => castTop (by rw [hG]; first | rfl | simp [entryFrame, mkF, argsToLocals, Value.category, maxLocals]) kk_
  obtain ⟨T123, X123, e123, st123⟩ := getS X0 hx hZ (host := "") hown (hw _ (List.mem_of_getElem? (i := 20) rfl)) Via.refl e0 (O2.ext O.2) (g := (mkF m 0 #[.val (.ref x)] [])) rfl (hb hby d20_0)
  have S124 : own_Go p e below s₁ G T123 (mkF m 3 #[.val (.ref x)] [(.int z)]) := fun tg_ kk_ => S0 tg_ (st123 tg_ kk_)
  have S125 : own_Go p e below s₁ G T123 (mkF m 7 #[.val (.ref x)] [(.ref x)]) := fun tg_ kk_ => S124 tg_ (by
    refine XS.ifNo X123.here hx rfl (hb hby d20_3) rfl (XT.i0_eq_f P5) ?_
    show Steps p.tables e below (T123.setTop (mkF m 6 #[.val (.ref x)] [])) _
    refine XS.aloadN X123.here hx rfl (hb hby d20_6) rfl rfl ?_
    exact kk_)
  obtain ⟨T126, X126, e126, st126⟩ := getF X123 hx hZ hown (host := "") (Or.inl (hw _ (List.mem_of_getElem? (i := 51) rfl))) Via.refl e123 Fc (g := (mkF m 7 #[.val (.ref x)] [(.ref x)])) rfl rfl (hb hby d20_7)
  have S127 : own_Go p e below s₁ G T126 (mkF m 10 #[.val (.ref x)] [(.int cd)]) := fun tg_ kk_ => S125 tg_ (st126 tg_ kk_)
  rcases hcd with rfl | rfl
  · have _ := N0
    have S128 : own_Go p e below s₁ G T126 (mkF m 18 #[.val (.ref x)] [(.int (1 : Int32))]) := fun tg_ kk_ => S127 tg_ (by
      refine XS.ifNo X126.here hx rfl (hb hby d20_10) rfl (XT.i0_ne_f (by decide)) ?_
      show Steps p.tables e below (T126.setTop (mkF m 13 #[.val (.ref x)] [])) _
      refine XS.iconst X126.here hx rfl (hb hby d20_13) ?_
      show Steps p.tables e below (T126.setTop (mkF m 14 #[.val (.ref x)] [(.int (1 : Int32))])) _
      refine XS.goto X126.here hx rfl (pc0 := 14) (pc' := 18) rfl (hb hby d20_14) (by decide) (by decide) ?_
      exact kk_)
    obtain ⟨fs, hr, hrun, hended, hW, hsame⟩ := X126.leave (v := some (.int (1 : Int32))) (fun h => by rw [Bd.returns] at h; cases h)
    refine ⟨_, _, ?_, hrun, hended, _, _, rfl, ?_, ⟨_, rfl⟩, hW, hsame.mono (by decide) (by decide)⟩
    · rw [← hG]; exact S128 _ (retN X126 hx (t := .boolean) Bd.returns (by simp) (hb hby d20_18) hr)
    · show Q20 Z x (0 : Int32) h0 n0 _ T126.heap _
      rw [e126]
      exact ⟨rfl, N0, rfl⟩
  · have _ := N0
    have S129 : own_Go p e below s₁ G T126 (mkF m 18 #[.val (.ref x)] [(.int (0 : Int32))]) := fun tg_ kk_ => S127 tg_ (by
      refine XS.ifYes X126.here hx rfl (pc0 := 10) (pc' := 17) rfl (hb hby d20_10) rfl (XT.i0_ne_t (by decide)) (by decide) (by decide) ?_
      show Steps p.tables e below (T126.setTop (mkF m 17 #[.val (.ref x)] [])) _
      refine XS.iconst X126.here hx rfl (hb hby d20_17) ?_
      exact kk_)
    obtain ⟨fs, hr, hrun, hended, hW, hsame⟩ := X126.leave (v := some (.int (0 : Int32))) (fun h => by rw [Bd.returns] at h; cases h)
    refine ⟨_, _, ?_, hrun, hended, _, _, rfl, ?_, ⟨_, rfl⟩, hW, hsame.mono (by decide) (by decide)⟩
    · rw [← hG]; exact S129 _ (retN X126 hx (t := .boolean) Bd.returns (by simp) (hb hby d20_18) hr)
    · show Q20 Z x (1 : Int32) h0 n0 _ T126.heap _
      rw [e126]
      exact ⟨rfl, N0, rfl⟩
def Q16 (Z : State) (x : Addr) (t : Addr) (cs : List Int32) (h0 : Heap) (n0 : Nat) (v : Option Value) (h : Heap) (L : List Loc) : Prop := v = some (.int (Int32.ofNat cs.length)) ∧ Fr n0 L ∧ h0 = h
set_option maxRecDepth 65536 in
set_option maxHeartbeats 40000000 in
theorem rm16 (l : Launch) (Z : State) (a0 : Array Value) (hw : ∀ d ∈ tables_1, d.before a0 Z = true) (ws : List Jvm.Cond) (x : Addr) (t : Addr) (cs : List Int32) (h0 : Heap) (n0 : Nat) (Z0 : n0 ≤ h0.size) (z : Int32) (O : Old Z n0 h0) (O2 : Sta Z Z.heap "java/lang/String" "COMPACT_STRINGS" "Z" (.int z)) (P5 : ¬ z = 0) (S : own_Str Z h0 x t cs) (hn : cs.length ≤ 1000) :
    MetFree l (⟨"java/lang/String", "length", "()I"⟩ : MethodName) (head1 (Jvm.Cond.code (⟨"java/lang/String", "length", "()I"⟩ : MethodName) jdk_42_method_54_code 1 (some .int) :: ws) ({ frames := 1, cells := 0, slots := 0, locals := 14 } : Room)) (fun aa_ U => aa_ = #[(.ref x)] ∧ Z.Warmed39 U.vm ∧ U.heap = h0) (fun _ _ _ _ _ => True) (fun _ U o U' => ∃ v L, o = .returned v ∧ Q16 Z x t cs h0 n0 v U'.heap L ∧ FrameEnd U o U' L ({ frames := 1, cells := 0, slots := 0, locals := 14 } : Room).cells ({ frames := 1, cells := 0, slots := 0, locals := 14 } : Room).slots) := by
  refine MetFree.of_bodySF (plainFor_of_name pn2) hisR ?_
  intro p e s m args below meth c s₁ Bd hml0 hP hK
  obtain ⟨rfl, hZ, hh⟩ := hP
  have hx := Bd.exec
  have hby := Bd.bytes
  have hml : c.maxLocals = 1 := hml0
  have hown : s.vm.findClass "java/lang/String" = some m.cls := findClass_of_methodNamed Bd.named
  have hnm := (name_of_methodNamed Bd.named Bd.method).1
  have X0 : Stand p l e ({ frames := 1, cells := 0, slots := 0, locals := 14 } : Room) s m #[(.ref x)] below meth c s₁ [] 0 0 := Stand.of_body Bd
  have e0 : s₁.heap = h0 := by rw [← hh, Bd.state]; rfl
  have N0 := Fr.nil n0
  obtain ⟨G, hG⟩ : ∃ G, G = entryFrame m #[(.ref x)] 1 := ⟨_, rfl⟩
  have S0 : own_Go p e below s₁ G s₁ (mkF m 0 #[.val (.ref x)] []) := fun tg_ kk_ => castTop (by rw [hG]; first | rfl | simp [entryFrame, mkF, argsToLocals, Value.category, maxLocals]) kk_
  rcases S.2.2 with ⟨Fc, ⟨kt, V⟩, -⟩ | ⟨Fc, ⟨kt, V⟩, -⟩
  · obtain ⟨cl, Ar, -, Sz, Mn, -, -⟩ := V
    have S130 : own_Go p e below s₁ G s₁ (mkF m 1 #[.val (.ref x)] [(.ref x)]) := fun tg_ kk_ => S0 tg_ (by
      refine XS.aloadN X0.here hx rfl (hb hby d16_0) rfl rfl ?_
      exact kk_)
    obtain ⟨T131, X131, e131, st131⟩ := getF X0 hx hZ hown (host := "") (Or.inl (hw _ (List.mem_of_getElem? (i := 53) rfl))) Via.refl e0 S.2.1 (g := (mkF m 1 #[.val (.ref x)] [(.ref x)])) rfl rfl (hb hby d16_1)
    have S132 : own_Go p e below s₁ G T131 (mkF m 4 #[.val (.ref x)] [(.ref t)]) := fun tg_ kk_ => S130 tg_ (st131 tg_ kk_)
    have S133 : own_Go p e below s₁ G T131 (mkF m 6 #[.val (.ref x)] [(.ref x), (.int (Int32.ofNat cs.length))]) := fun tg_ kk_ => S132 tg_ (by
      refine X131.arraylength hx (cell := cl) (by rw [e131]; exact Ar.1) (State.isArrayOf_alike hZ.alike Ar.2.1) (g := (mkF m 4 #[.val (.ref x)] [(.ref t)])) rfl (rest := []) rfl (hb hby d16_4) _ ?_
      rw [len_of Sz Mn]
      show Steps p.tables e below (T131.setTop (mkF m 5 #[.val (.ref x)] [(.int (Int32.ofNat cs.length))])) _
      refine XS.aloadN X131.here hx rfl (hb hby d16_5) rfl rfl ?_
      exact kk_)
    obtain ⟨_, T134, h134, L134, X134, e134, hQ134, st134⟩ := own_callV X131 hx hZ (y := (⟨"java/lang/String", "coder", "()B"⟩ : MethodName)) hown (hw _ (List.mem_of_getElem? (i := 85) rfl)) (hw _ (List.mem_of_getElem? (i := 86) rfl)) (hw _ (List.mem_of_getElem? (i := 88) rfl)) (hw _ (List.mem_of_getElem? (i := 87) rfl)) (hw _ (List.mem_of_getElem? (i := 9) rfl)) (hw _ (List.mem_of_getElem? (i := 89) rfl)) (by decide) 1 (g := (mkF m 6 #[.val (.ref x)] [(.ref x), (.int (Int32.ofNat cs.length))])) rfl (by rw [hml]; rfl) x S.1 [] [(.int (Int32.ofNat cs.length))] (rm17 l Z a0 hw [] x (0 : Int32) h0 n0 Z0 z O O2 P5 Fc (Or.inl rfl)) (lenOf pd16 rfl) rfl (by show 2 * 0 + _ ≤ _; exact Nat.le_of_eq rfl) (hb hby d16_6) (by decide) (by decide) e131 (by decide) (by decide)
    obtain ⟨rfl, N134, rfl⟩ := hQ134
    have S135 : own_Go p e below s₁ G T134 (mkF m 9 #[.val (.ref x)] [(.int (0 : Int32)), (.int (Int32.ofNat cs.length))]) := fun tg_ kk_ => S133 tg_ (st134 tg_ kk_)
    have M1 := Fr.app N0 N134
    have S136 : own_Go p e below s₁ G T134 (mkF m 10 #[.val (.ref x)] [(.int ((Int32.ofNat cs.length) >>> ((0 : Int32) &&& 31)))]) := fun tg_ kk_ => S135 tg_ (by
      refine XT.ishr X134.here hx rfl (hb hby d16_9) rfl ?_
      exact kk_)
    rw [own_shr0] at S136
    obtain ⟨fs, hr, hrun, hended, hW, hsame⟩ := X134.leave (v := some (.int (Int32.ofNat cs.length))) (fun h => by rw [Bd.returns] at h; cases h)
    refine ⟨_, _, ?_, hrun, hended, _, _, rfl, ?_, ⟨_, rfl⟩, hW, hsame.mono (by decide) (by decide)⟩
    · rw [← hG]; exact S136 _ (retI X134 hx Bd.returns (hb hby d16_10) hr)
    · show Q16 Z x t cs h0 n0 _ T134.heap _
      rw [e134]
      exact ⟨rfl, M1, rfl⟩
  · obtain ⟨cl, Ar, -, Sz, Mn, -, -⟩ := V
    have S137 : own_Go p e below s₁ G s₁ (mkF m 1 #[.val (.ref x)] [(.ref x)]) := fun tg_ kk_ => S0 tg_ (by
      refine XS.aloadN X0.here hx rfl (hb hby d16_0) rfl rfl ?_
      exact kk_)
    obtain ⟨T138, X138, e138, st138⟩ := getF X0 hx hZ hown (host := "") (Or.inl (hw _ (List.mem_of_getElem? (i := 53) rfl))) Via.refl e0 S.2.1 (g := (mkF m 1 #[.val (.ref x)] [(.ref x)])) rfl rfl (hb hby d16_1)
    have S139 : own_Go p e below s₁ G T138 (mkF m 4 #[.val (.ref x)] [(.ref t)]) := fun tg_ kk_ => S137 tg_ (st138 tg_ kk_)
    have S140 : own_Go p e below s₁ G T138 (mkF m 6 #[.val (.ref x)] [(.ref x), (.int (Int32.ofNat (2 * cs.length)))]) := fun tg_ kk_ => S139 tg_ (by
      refine X138.arraylength hx (cell := cl) (by rw [e138]; exact Ar.1) (State.isArrayOf_alike hZ.alike Ar.2.1) (g := (mkF m 4 #[.val (.ref x)] [(.ref t)])) rfl (rest := []) rfl (hb hby d16_4) _ ?_
      rw [len_of Sz Mn]
      show Steps p.tables e below (T138.setTop (mkF m 5 #[.val (.ref x)] [(.int (Int32.ofNat (2 * cs.length)))])) _
      refine XS.aloadN X138.here hx rfl (hb hby d16_5) rfl rfl ?_
      exact kk_)
    obtain ⟨_, T141, h141, L141, X141, e141, hQ141, st141⟩ := own_callV X138 hx hZ (y := (⟨"java/lang/String", "coder", "()B"⟩ : MethodName)) hown (hw _ (List.mem_of_getElem? (i := 85) rfl)) (hw _ (List.mem_of_getElem? (i := 86) rfl)) (hw _ (List.mem_of_getElem? (i := 88) rfl)) (hw _ (List.mem_of_getElem? (i := 87) rfl)) (hw _ (List.mem_of_getElem? (i := 9) rfl)) (hw _ (List.mem_of_getElem? (i := 89) rfl)) (by decide) 1 (g := (mkF m 6 #[.val (.ref x)] [(.ref x), (.int (Int32.ofNat (2 * cs.length)))])) rfl (by rw [hml]; rfl) x S.1 [] [(.int (Int32.ofNat (2 * cs.length)))] (rm17 l Z a0 hw [] x (1 : Int32) h0 n0 Z0 z O O2 P5 Fc (Or.inr rfl)) (lenOf pd16 rfl) rfl (by show 2 * 0 + _ ≤ _; exact Nat.le_of_eq rfl) (hb hby d16_6) (by decide) (by decide) e138 (by decide) (by decide)
    obtain ⟨rfl, N141, rfl⟩ := hQ141
    have S142 : own_Go p e below s₁ G T141 (mkF m 9 #[.val (.ref x)] [(.int (1 : Int32)), (.int (Int32.ofNat (2 * cs.length)))]) := fun tg_ kk_ => S140 tg_ (st141 tg_ kk_)
    have M1 := Fr.app N0 N141
    have S143 : own_Go p e below s₁ G T141 (mkF m 10 #[.val (.ref x)] [(.int ((Int32.ofNat (2 * cs.length)) >>> ((1 : Int32) &&& 31)))]) := fun tg_ kk_ => S142 tg_ (by
      refine XT.ishr X141.here hx rfl (hb hby d16_9) rfl ?_
      exact kk_)
    rw [own_shr1 (by omega)] at S143
    obtain ⟨fs, hr, hrun, hended, hW, hsame⟩ := X141.leave (v := some (.int (Int32.ofNat cs.length))) (fun h => by rw [Bd.returns] at h; cases h)
    refine ⟨_, _, ?_, hrun, hended, _, _, rfl, ?_, ⟨_, rfl⟩, hW, hsame.mono (by decide) (by decide)⟩
    · rw [← hG]; exact S143 _ (retI X141 hx Bd.returns (hb hby d16_10) hr)
    · show Q16 Z x t cs h0 n0 _ T141.heap _
      rw [e141]
      exact ⟨rfl, M1, rfl⟩
theorem pn5 : plainName "jdk/internal/util/Preconditions" = true := by first | (simp [plainName, overriddenIn]; done) | decide +kernel
def Q19 (Z : State) (y : Int32) (n : Int32) (h0 : Heap) (n0 : Nat) (v : Option Value) (h : Heap) (L : List Loc) : Prop := v = some (.int 0) ∧ Fr n0 L ∧ h0 = h
set_option maxRecDepth 65536 in
set_option maxHeartbeats 40000000 in
theorem rm19 (l : Launch) (Z : State) (a0 : Array Value) (hw : ∀ d ∈ tables_1, d.before a0 Z = true) (ws : List Jvm.Cond) (y : Int32) (n : Int32) (h0 : Heap) (n0 : Nat) (Z0 : n0 ≤ h0.size) (h1 : ¬ y < 0) (h2 : ¬ n < y) :
    MetFree l (⟨"jdk/internal/util/Preconditions", "checkFromToIndex", "(IIILjava/util/function/BiFunction;)I"⟩ : MethodName) (head1 (Jvm.Cond.code (⟨"jdk/internal/util/Preconditions", "checkFromToIndex", "(IIILjava/util/function/BiFunction;)I"⟩ : MethodName) jdk_41_method_12_code 4 (some .int) :: ws) ({ frames := 0, cells := 0, slots := 0, locals := 0 } : Room)) (fun aa_ U => aa_ = #[(.int (0 : Int32)), (.int y), (.int n), .null] ∧ Z.Warmed39 U.vm ∧ U.heap = h0) (fun _ _ _ _ _ => True) (fun _ U o U' => ∃ v L, o = .returned v ∧ Q19 Z y n h0 n0 v U'.heap L ∧ FrameEnd U o U' L ({ frames := 0, cells := 0, slots := 0, locals := 0 } : Room).cells ({ frames := 0, cells := 0, slots := 0, locals := 0 } : Room).slots) := by
  refine MetFree.of_bodySF (plainFor_of_name pn5) hisR ?_
  intro p e s m args below meth c s₁ Bd hml0 hP hK
  obtain ⟨rfl, hZ, hh⟩ := hP
  have hx := Bd.exec
  have hby := Bd.bytes
  have hml : c.maxLocals = 4 := hml0
  have hown : s.vm.findClass "jdk/internal/util/Preconditions" = some m.cls := findClass_of_methodNamed Bd.named
  have hnm := (name_of_methodNamed Bd.named Bd.method).1
  have X0 : Stand p l e ({ frames := 0, cells := 0, slots := 0, locals := 0 } : Room) s m #[(.int (0 : Int32)), (.int y), (.int n), .null] below meth c s₁ [] 0 0 := Stand.of_body Bd
  have e0 : s₁.heap = h0 := by rw [← hh, Bd.state]; rfl
  have N0 := Fr.nil n0
  obtain ⟨G, hG⟩ : ∃ G, G = entryFrame m #[(.int (0 : Int32)), (.int y), (.int n), .null] 4 := ⟨_, rfl⟩
  have S0 : own_Go p e below s₁ G s₁ (mkF m 0 #[.val (.int (0 : Int32)), .val (.int y), .val (.int n), .val .null] []) := fun tg_ kk_ => castTop (by rw [hG]; first | rfl | simp [entryFrame, mkF, argsToLocals, Value.category, maxLocals]) kk_
  have S144 : own_Go p e below s₁ G s₁ (mkF m 23 #[.val (.int (0 : Int32)), .val (.int y), .val (.int n), .val .null] [(.int (0 : Int32))]) := fun tg_ kk_ => S0 tg_ (by
    refine XS.iloadN X0.here hx rfl (hb hby d19_0) rfl ?_
    show Steps p.tables e below (s₁.setTop (mkF m 1 #[.val (.int (0 : Int32)), .val (.int y), .val (.int n), .val .null] [(.int (0 : Int32))])) _
    refine XS.ifNo X0.here hx rfl (hb hby d19_1) rfl (XT.i0_lt_f (by decide)) ?_
    show Steps p.tables e below (s₁.setTop (mkF m 4 #[.val (.int (0 : Int32)), .val (.int y), .val (.int n), .val .null] [])) _
    refine XS.iloadN X0.here hx rfl (hb hby d19_4) rfl ?_
    show Steps p.tables e below (s₁.setTop (mkF m 5 #[.val (.int (0 : Int32)), .val (.int y), .val (.int n), .val .null] [(.int (0 : Int32))])) _
    refine XS.iloadN X0.here hx rfl (hb hby d19_5) rfl ?_
    show Steps p.tables e below (s₁.setTop (mkF m 6 #[.val (.int (0 : Int32)), .val (.int y), .val (.int n), .val .null] [(.int y), (.int (0 : Int32))])) _
    refine XS.icmpNo X0.here hx rfl (hb hby d19_6) rfl (XT.ii_gt_f h1) ?_
    show Steps p.tables e below (s₁.setTop (mkF m 9 #[.val (.int (0 : Int32)), .val (.int y), .val (.int n), .val .null] [])) _
    refine XS.iloadN X0.here hx rfl (hb hby d19_9) rfl ?_
    show Steps p.tables e below (s₁.setTop (mkF m 10 #[.val (.int (0 : Int32)), .val (.int y), .val (.int n), .val .null] [(.int y)])) _
    refine XS.iloadN X0.here hx rfl (hb hby d19_10) rfl ?_
    show Steps p.tables e below (s₁.setTop (mkF m 11 #[.val (.int (0 : Int32)), .val (.int y), .val (.int n), .val .null] [(.int n), (.int y)])) _
    refine XS.icmpYes X0.here hx rfl (pc0 := 11) (pc' := 22) rfl (hb hby d19_11) rfl (XT.ii_le_t h2) (by decide) (by decide) ?_
    show Steps p.tables e below (s₁.setTop (mkF m 22 #[.val (.int (0 : Int32)), .val (.int y), .val (.int n), .val .null] [])) _
    refine XS.iloadN X0.here hx rfl (hb hby d19_22) rfl ?_
    exact kk_)
  obtain ⟨fs, hr, hrun, hended, hW, hsame⟩ := X0.leave (v := some (.int (0 : Int32))) (fun h => by rw [Bd.returns] at h; cases h)
  refine ⟨_, _, ?_, hrun, hended, _, _, rfl, ?_, ⟨_, rfl⟩, hW, hsame.mono (by decide) (by decide)⟩
  · rw [← hG]; exact S144 _ (retI X0 hx Bd.returns (hb hby d19_23) hr)
  · show Q19 Z y n h0 n0 _ s₁.heap _
    rw [e0]
    exact ⟨rfl, N0, rfl⟩
theorem pn6 : plainName "java/util/Objects" = true := by first | (simp [plainName, overriddenIn]; done) | decide +kernel
def Q18 (Z : State) (y : Int32) (n : Int32) (h0 : Heap) (n0 : Nat) (v : Option Value) (h : Heap) (L : List Loc) : Prop := v = some (.int 0) ∧ Fr n0 L ∧ h0 = h
set_option maxRecDepth 65536 in
set_option maxHeartbeats 40000000 in
theorem rm18 (l : Launch) (Z : State) (a0 : Array Value) (hw : ∀ d ∈ tables_1, d.before a0 Z = true) (ws : List Jvm.Cond) (y : Int32) (n : Int32) (h0 : Heap) (n0 : Nat) (Z0 : n0 ≤ h0.size) (h1 : ¬ y < 0) (h2 : ¬ n < y) :
    MetFree l (⟨"java/util/Objects", "checkFromToIndex", "(III)I"⟩ : MethodName) (head1 (Jvm.Cond.code (⟨"java/util/Objects", "checkFromToIndex", "(III)I"⟩ : MethodName) jdk_31_method_18_code 3 (some .int) :: ws) ({ frames := 1, cells := 0, slots := 0, locals := 15 } : Room)) (fun aa_ U => aa_ = #[(.int (0 : Int32)), (.int y), (.int n)] ∧ Z.Warmed39 U.vm ∧ U.heap = h0) (fun _ _ _ _ _ => True) (fun _ U o U' => ∃ v L, o = .returned v ∧ Q18 Z y n h0 n0 v U'.heap L ∧ FrameEnd U o U' L ({ frames := 1, cells := 0, slots := 0, locals := 15 } : Room).cells ({ frames := 1, cells := 0, slots := 0, locals := 15 } : Room).slots) := by
  refine MetFree.of_bodySF (plainFor_of_name pn6) hisR ?_
  intro p e s m args below meth c s₁ Bd hml0 hP hK
  obtain ⟨rfl, hZ, hh⟩ := hP
  have hx := Bd.exec
  have hby := Bd.bytes
  have hml : c.maxLocals = 3 := hml0
  have hown : s.vm.findClass "java/util/Objects" = some m.cls := findClass_of_methodNamed Bd.named
  have hnm := (name_of_methodNamed Bd.named Bd.method).1
  have X0 : Stand p l e ({ frames := 1, cells := 0, slots := 0, locals := 15 } : Room) s m #[(.int (0 : Int32)), (.int y), (.int n)] below meth c s₁ [] 0 0 := Stand.of_body Bd
  have e0 : s₁.heap = h0 := by rw [← hh, Bd.state]; rfl
  have N0 := Fr.nil n0
  obtain ⟨G, hG⟩ : ∃ G, G = entryFrame m #[(.int (0 : Int32)), (.int y), (.int n)] 3 := ⟨_, rfl⟩
  have S0 : own_Go p e below s₁ G s₁ (mkF m 0 #[.val (.int (0 : Int32)), .val (.int y), .val (.int n)] []) := fun tg_ kk_ => castTop (by rw [hG]; first | rfl | simp [entryFrame, mkF, argsToLocals, Value.category, maxLocals]) kk_
  have S145 : own_Go p e below s₁ G s₁ (mkF m 4 #[.val (.int (0 : Int32)), .val (.int y), .val (.int n)] [.null, (.int n), (.int y), (.int (0 : Int32))]) := fun tg_ kk_ => S0 tg_ (by
    refine XS.iloadN X0.here hx rfl (hb hby d18_0) rfl ?_
    show Steps p.tables e below (s₁.setTop (mkF m 1 #[.val (.int (0 : Int32)), .val (.int y), .val (.int n)] [(.int (0 : Int32))])) _
    refine XS.iloadN X0.here hx rfl (hb hby d18_1) rfl ?_
    show Steps p.tables e below (s₁.setTop (mkF m 2 #[.val (.int (0 : Int32)), .val (.int y), .val (.int n)] [(.int y), (.int (0 : Int32))])) _
    refine XS.iloadN X0.here hx rfl (hb hby d18_2) rfl ?_
    show Steps p.tables e below (s₁.setTop (mkF m 3 #[.val (.int (0 : Int32)), .val (.int y), .val (.int n)] [(.int n), (.int y), (.int (0 : Int32))])) _
    refine XS.aconstNull X0.here hx rfl (hb hby d18_3) ?_
    exact kk_)
  obtain ⟨_, T146, h146, L146, X146, e146, hQ146, st146⟩ := own_callS X0 hx hZ (y := (⟨"jdk/internal/util/Preconditions", "checkFromToIndex", "(IIILjava/util/function/BiFunction;)I"⟩ : MethodName)) hown (hw _ (List.mem_of_getElem? (i := 94) rfl)) (hw _ (List.mem_of_getElem? (i := 95) rfl)) (hw _ (List.mem_of_getElem? (i := 96) rfl)) (hw _ (List.mem_of_getElem? (i := 97) rfl)) (by decide) 0 (g := (mkF m 4 #[.val (.int (0 : Int32)), .val (.int y), .val (.int n)] [.null, (.int n), (.int y), (.int (0 : Int32))])) rfl (by rw [hml]; rfl) [(.int (0 : Int32)), (.int y), (.int n), .null] [] (rm19 l Z a0 hw [] y n h0 n0 Z0 h1 h2) (lenOf pd18 rfl) rfl (by show 2 * 0 + _ ≤ _; exact Nat.le_of_eq rfl) (hb hby d18_4) (by decide) (by decide) e0 (by decide) (by decide)
  obtain ⟨rfl, N146, rfl⟩ := hQ146
  have S147 : own_Go p e below s₁ G T146 (mkF m 7 #[.val (.int (0 : Int32)), .val (.int y), .val (.int n)] [(.int (0 : Int32))]) := fun tg_ kk_ => S145 tg_ (st146 tg_ kk_)
  have M1 := Fr.app N0 N146
  obtain ⟨fs, hr, hrun, hended, hW, hsame⟩ := X146.leave (v := some (.int (0 : Int32))) (fun h => by rw [Bd.returns] at h; cases h)
  refine ⟨_, _, ?_, hrun, hended, _, _, rfl, ?_, ⟨_, rfl⟩, hW, hsame.mono (by decide) (by decide)⟩
  · rw [← hG]; exact S147 _ (retI X146 hx Bd.returns (hb hby d18_7) hr)
  · show Q18 Z y n h0 n0 _ T146.heap _
    rw [e146]
    exact ⟨rfl, M1, rfl⟩
/-- how many pairs the loop finds from place i on, before place e -/
def own_cnt (cs : List Int32) (e : Nat) : Nat → Nat → Nat
  | 0, _ => 0
  | f + 1, i => if i + 1 < e then (if (¬ cs.getD i 0 < 55296 ∧ cs.getD i 0 < 56320) then (if (¬ cs.getD (i + 1) 0 < 56320 ∧ cs.getD (i + 1) 0 < 57344) then own_cnt cs e f (i + 2) + 1 else own_cnt cs e f (i + 1)) else own_cnt cs e f (i + 1)) else 0
theorem own_cnt_in {cs : List Int32} {e f i : Nat} (h : i + 1 < e) : own_cnt cs e (f + 1) i = if (¬ cs.getD i 0 < 55296 ∧ cs.getD i 0 < 56320) then (if (¬ cs.getD (i + 1) 0 < 56320 ∧ cs.getD (i + 1) 0 < 57344) then own_cnt cs e f (i + 2) + 1 else own_cnt cs e f (i + 1)) else own_cnt cs e f (i + 1) := if_pos h
theorem own_cnt_out {cs : List Int32} {e f i : Nat} (h : ¬ i + 1 < e) : own_cnt cs e f i = 0 := by
  cases f with
  | zero => rfl
  | succ f => exact if_neg h
theorem own_lt1 {i e : Nat} (h : i + 1 < e) (he : e ≤ 1000) : Int32.ofNat i < Int32.ofNat e - 1 := by
  have q := c_isub (Int32.ofNat e) 1
  have r := rng32 (Int32.ofNat e - 1)
  rw [Int32.toInt_ofNat_of_lt (by omega)] at q
  have e1 : (1 : Int32).toInt = 1 := rfl
  rw [Int32.lt_iff_toInt_lt, Int32.toInt_ofNat_of_lt (by omega)]
  omega
theorem own_ge1 {i e : Nat} (h : ¬ i + 1 < e) (hi : i ≤ 2000) (he : e ≤ 1000) : ¬ Int32.ofNat i < Int32.ofNat e - 1 := by
  have q := c_isub (Int32.ofNat e) 1
  have r := rng32 (Int32.ofNat e - 1)
  rw [Int32.toInt_ofNat_of_lt (by omega)] at q
  have e1 : (1 : Int32).toInt = 1 := rfl
  rw [Int32.lt_iff_toInt_lt, Int32.toInt_ofNat_of_lt (by omega)]
  omega
theorem own_sub1 (c : Int32) (k : Nat) : (c + (-1 : Int32)) - Int32.ofNat k = c - Int32.ofNat (k + 1) := by
  rw [Int32.ofNat_add]
  refine Int32.toInt_inj.mp ?_
  have a1 := c_iadd c (-1); have a2 := c_isub (c + (-1 : Int32)) (Int32.ofNat k); have a3 := c_iadd (Int32.ofNat k) (Int32.ofNat 1); have a4 := c_isub c (Int32.ofNat k + Int32.ofNat 1)
  have r1 := rng32 ((c + (-1 : Int32)) - Int32.ofNat k); have r2 := rng32 (c - (Int32.ofNat k + Int32.ofNat 1))
  have e1 : (-1 : Int32).toInt = -1 := rfl
  have e2 : (Int32.ofNat 1).toInt = 1 := rfl
  omega
set_option maxRecDepth 65536 in
set_option maxHeartbeats 40000000 in
theorem own_cpc {p : Program} {l : Launch} {e : Env} {s : State} {m : MethodId} {args : Array Value} {below : List Frame} {meth : Method} {c : Code} {Z : State} {a0 : Array Value} {h0 : Heap} {n0 : Nat} (Z0 : n0 ≤ h0.size) (t : Addr) (kt : ClassId) (cs : List Int32) (en : Nat) (hn : cs.length ≤ 1000) (hen : en ≤ cs.length) (hch : ∀ j, j < cs.length → own_Ch (cs.getD j 0)) (V : Arv Z h0 t kt .byte (Int32.ofNat (2 * cs.length)) (own_wide cs) (.int 0)) (O : Old Z n0 h0) (A16 : own_A16 Z) (hx : p.tables.exec = Jvm.exec) (hZ : Z.Warmed39 s.vm) (hw : ∀ q ∈ tables_1, q.before a0 Z = true) (hby : c.code = jdk_52_method_11_code) (hml : c.maxLocals = 6) (hown : s.vm.findClass "java/lang/StringUTF16" = some m.cls) :
    ∀ (f i : Nat) (T0 : State) (locs : List Loc) (cc : Int32), en ≤ i + f → i ≤ en + 1 → Stand p l e ({ frames := 1, cells := 0, slots := 0, locals := 30 } : Room) s m args below meth c T0 locs 0 0 → T0.heap = h0 → Fr n0 locs →
      ∃ (T' : State) (locs' : List Loc) (i' : Nat) (c9 : Int32), Stand p l e ({ frames := 1, cells := 0, slots := 0, locals := 30 } : Room) s m args below meth c T' locs' 0 0 ∧ T'.heap = h0 ∧ Fr n0 locs' ∧ own_Go p e below T0 (mkF m 44 #[.val (.ref t), .val (.int (0 : Int32)), .val (.int (Int32.ofNat en)), .val (.int (0 : Int32)), .val (.int cc), .val (.int (Int32.ofNat i))] []) T' (mkF m 90 #[.val (.ref t), .val (.int (0 : Int32)), .val (.int (Int32.ofNat en)), .val (.int (0 : Int32)), .val (.int c9), .val (.int (Int32.ofNat i'))] [(.int (cc - Int32.ofNat (own_cnt cs en f i)))]) := by
  intro f
  induction f with
  | zero =>
    intro i T0 locs cc hf hle X0 e0 N
    have hi : ¬ i + 1 < en := by omega
    have S148 : own_Go p e below T0 (mkF m 44 #[.val (.ref t), .val (.int (0 : Int32)), .val (.int (Int32.ofNat en)), .val (.int (0 : Int32)), .val (.int cc), .val (.int (Int32.ofNat i))] []) T0 (mkF m 90 #[.val (.ref t), .val (.int (0 : Int32)), .val (.int (Int32.ofNat en)), .val (.int (0 : Int32)), .val (.int cc), .val (.int (Int32.ofNat i))] [(.int cc)]) := fun tg_ kk_ => (own_Go.refl T0 _) tg_ (by
      refine XS.iload X0.here hx rfl (hb hby d22_44) rfl ?_
      show Steps p.tables e below (T0.setTop (mkF m 46 #[.val (.ref t), .val (.int (0 : Int32)), .val (.int (Int32.ofNat en)), .val (.int (0 : Int32)), .val (.int cc), .val (.int (Int32.ofNat i))] [(.int (Int32.ofNat i))])) _
      refine XS.iloadN X0.here hx rfl (hb hby d22_46) rfl ?_
      show Steps p.tables e below (T0.setTop (mkF m 47 #[.val (.ref t), .val (.int (0 : Int32)), .val (.int (Int32.ofNat en)), .val (.int (0 : Int32)), .val (.int cc), .val (.int (Int32.ofNat i))] [(.int (Int32.ofNat en)), (.int (Int32.ofNat i))])) _
      refine XS.iconst X0.here hx rfl (hb hby d22_47) ?_
      show Steps p.tables e below (T0.setTop (mkF m 48 #[.val (.ref t), .val (.int (0 : Int32)), .val (.int (Int32.ofNat en)), .val (.int (0 : Int32)), .val (.int cc), .val (.int (Int32.ofNat i))] [(.int (1 : Int32)), (.int (Int32.ofNat en)), (.int (Int32.ofNat i))])) _
      refine XS.isub X0.here hx rfl (hb hby d22_48) rfl ?_
      show Steps p.tables e below (T0.setTop (mkF m 49 #[.val (.ref t), .val (.int (0 : Int32)), .val (.int (Int32.ofNat en)), .val (.int (0 : Int32)), .val (.int cc), .val (.int (Int32.ofNat i))] [(.int ((Int32.ofNat en) - (1 : Int32))), (.int (Int32.ofNat i))])) _
      refine XS.icmpYes X0.here hx rfl (pc0 := 49) (pc' := 88) rfl (hb hby d22_49) rfl (flt (own_ge1 hi (by omega) (by omega))).2.1 (by decide) (by decide) ?_
      show Steps p.tables e below (T0.setTop (mkF m 88 #[.val (.ref t), .val (.int (0 : Int32)), .val (.int (Int32.ofNat en)), .val (.int (0 : Int32)), .val (.int cc), .val (.int (Int32.ofNat i))] [])) _
      refine XS.iload X0.here hx rfl (hb hby d22_88) rfl ?_
      exact kk_)
    rw [own_cnt_out hi]
    have hz : cc - Int32.ofNat 0 = cc := by refine Int32.toInt_inj.mp ?_; have a := c_isub cc (Int32.ofNat 0); have r := rng32 (cc - Int32.ofNat 0); have r2 := rng32 cc; have e1 : (Int32.ofNat 0).toInt = 0 := rfl; omega
    rw [hz]
    exact ⟨T0, locs, i, cc, X0, e0, N, S148⟩
  | succ f ih =>
    intro i T0 locs cc hf hle X0 e0 N
    by_cases hi : i + 1 < en
    · have hlt : Int32.ofNat i < Int32.ofNat en - (1 : Int32) := own_lt1 hi (by omega)
      have S149 : own_Go p e below T0 (mkF m 44 #[.val (.ref t), .val (.int (0 : Int32)), .val (.int (Int32.ofNat en)), .val (.int (0 : Int32)), .val (.int cc), .val (.int (Int32.ofNat i))] []) T0 (mkF m 58 #[.val (.ref t), .val (.int (0 : Int32)), .val (.int (Int32.ofNat en)), .val (.int (0 : Int32)), .val (.int cc), .val (.int ((Int32.ofNat i) + (1 : Int32)))] [(.int (Int32.ofNat i)), (.ref t)]) := fun tg_ kk_ => (own_Go.refl T0 _) tg_ (by
        refine XS.iload X0.here hx rfl (hb hby d22_44) rfl ?_
        show Steps p.tables e below (T0.setTop (mkF m 46 #[.val (.ref t), .val (.int (0 : Int32)), .val (.int (Int32.ofNat en)), .val (.int (0 : Int32)), .val (.int cc), .val (.int (Int32.ofNat i))] [(.int (Int32.ofNat i))])) _
        refine XS.iloadN X0.here hx rfl (hb hby d22_46) rfl ?_
        show Steps p.tables e below (T0.setTop (mkF m 47 #[.val (.ref t), .val (.int (0 : Int32)), .val (.int (Int32.ofNat en)), .val (.int (0 : Int32)), .val (.int cc), .val (.int (Int32.ofNat i))] [(.int (Int32.ofNat en)), (.int (Int32.ofNat i))])) _
        refine XS.iconst X0.here hx rfl (hb hby d22_47) ?_
        show Steps p.tables e below (T0.setTop (mkF m 48 #[.val (.ref t), .val (.int (0 : Int32)), .val (.int (Int32.ofNat en)), .val (.int (0 : Int32)), .val (.int cc), .val (.int (Int32.ofNat i))] [(.int (1 : Int32)), (.int (Int32.ofNat en)), (.int (Int32.ofNat i))])) _
        refine XS.isub X0.here hx rfl (hb hby d22_48) rfl ?_
        show Steps p.tables e below (T0.setTop (mkF m 49 #[.val (.ref t), .val (.int (0 : Int32)), .val (.int (Int32.ofNat en)), .val (.int (0 : Int32)), .val (.int cc), .val (.int (Int32.ofNat i))] [(.int ((Int32.ofNat en) - (1 : Int32))), (.int (Int32.ofNat i))])) _
        refine XS.icmpNo X0.here hx rfl (hb hby d22_49) rfl (tlt hlt).2.1 ?_
        show Steps p.tables e below (T0.setTop (mkF m 52 #[.val (.ref t), .val (.int (0 : Int32)), .val (.int (Int32.ofNat en)), .val (.int (0 : Int32)), .val (.int cc), .val (.int (Int32.ofNat i))] [])) _
        refine XS.aloadN X0.here hx rfl (hb hby d22_52) rfl rfl ?_
        show Steps p.tables e below (T0.setTop (mkF m 53 #[.val (.ref t), .val (.int (0 : Int32)), .val (.int (Int32.ofNat en)), .val (.int (0 : Int32)), .val (.int cc), .val (.int (Int32.ofNat i))] [(.ref t)])) _
        refine XS.iload X0.here hx rfl (hb hby d22_53) rfl ?_
        show Steps p.tables e below (T0.setTop (mkF m 55 #[.val (.ref t), .val (.int (0 : Int32)), .val (.int (Int32.ofNat en)), .val (.int (0 : Int32)), .val (.int cc), .val (.int (Int32.ofNat i))] [(.int (Int32.ofNat i)), (.ref t)])) _
        refine XS.iinc X0.here hx rfl (hb hby d22_55) rfl (l' := #[.val (.ref t), .val (.int (0 : Int32)), .val (.int (Int32.ofNat en)), .val (.int (0 : Int32)), .val (.int cc), .val (.int ((Int32.ofNat i) + (1 : Int32)))]) rfl ?_
        exact kk_)
      rw [own_suc] at S149
      obtain ⟨_, T150, h150, L150, X150, e150, hQ150, st150⟩ := own_callS X0 hx hZ (y := (⟨"java/lang/StringUTF16", "getChar", "([BI)C"⟩ : MethodName)) hown (hw _ (List.mem_of_getElem? (i := 45) rfl)) (hw _ (List.mem_of_getElem? (i := 46) rfl)) (hw _ (List.mem_of_getElem? (i := 23) rfl)) (hw _ (List.mem_of_getElem? (i := 47) rfl)) (by decide) 0 (g := (mkF m 58 #[.val (.ref t), .val (.int (0 : Int32)), .val (.int (Int32.ofNat en)), .val (.int (0 : Int32)), .val (.int cc), .val (.int (Int32.ofNat (i + 1)))] [(.int (Int32.ofNat i)), (.ref t)])) rfl (by rw [hml]; rfl) [(.ref t), (.int (Int32.ofNat i))] [] (rm11 l Z a0 hw [] t i cs h0 n0 Z0 kt V (by omega) hn (hch i (by omega)) O A16) (lenOf pd11 rfl) rfl (by show 2 * 0 + _ ≤ _; exact Nat.le_of_eq rfl) (hb hby d22_58) (by decide) (by decide) e0 (by decide) (by decide)
      obtain ⟨rfl, N150, rfl⟩ := hQ150
      have S151 : own_Go p e below T0 (mkF m 44 #[.val (.ref t), .val (.int (0 : Int32)), .val (.int (Int32.ofNat en)), .val (.int (0 : Int32)), .val (.int cc), .val (.int (Int32.ofNat i))] []) T150 (mkF m 61 #[.val (.ref t), .val (.int (0 : Int32)), .val (.int (Int32.ofNat en)), .val (.int (0 : Int32)), .val (.int cc), .val (.int (Int32.ofNat (i + 1)))] [(.int (cs.getD i 0))]) := fun tg_ kk_ => S149 tg_ (st150 tg_ kk_)
      have N1 := Fr.app N N150
      obtain ⟨_, T152, h152, L152, X152, e152, hQ152, st152⟩ := own_callS X150 hx hZ (y := (⟨"java/lang/Character", "isHighSurrogate", "(C)Z"⟩ : MethodName)) hown (hw _ (List.mem_of_getElem? (i := 109) rfl)) (hw _ (List.mem_of_getElem? (i := 110) rfl)) (hw _ (List.mem_of_getElem? (i := 111) rfl)) (hw _ (List.mem_of_getElem? (i := 112) rfl)) (by decide) 0 (g := (mkF m 61 #[.val (.ref t), .val (.int (0 : Int32)), .val (.int (Int32.ofNat en)), .val (.int (0 : Int32)), .val (.int cc), .val (.int (Int32.ofNat (i + 1)))] [(.int (cs.getD i 0))])) rfl (by rw [hml]; rfl) [(.int (cs.getD i 0))] [] (rm23 l Z a0 hw [] (cs.getD i 0) h0 n0 Z0) (lenOf pd22 rfl) rfl (by show 2 * 0 + _ ≤ _; exact Nat.le_of_eq rfl) (hb hby d22_61) (by decide) (by decide) e150 (by decide) (by decide)
      rcases hQ152 with ⟨⟨hhi, rfl⟩ | ⟨hhi, rfl⟩, N152, rfl⟩
      · have _ := e152
        have S153 : own_Go p e below T0 (mkF m 44 #[.val (.ref t), .val (.int (0 : Int32)), .val (.int (Int32.ofNat en)), .val (.int (0 : Int32)), .val (.int cc), .val (.int (Int32.ofNat i))] []) T152 (mkF m 64 #[.val (.ref t), .val (.int (0 : Int32)), .val (.int (Int32.ofNat en)), .val (.int (0 : Int32)), .val (.int cc), .val (.int (Int32.ofNat (i + 1)))] [(.int (1 : Int32))]) := fun tg_ kk_ => S151 tg_ (st152 tg_ kk_)
        have N2 := Fr.app N1 N152
        have S154 : own_Go p e below T0 (mkF m 44 #[.val (.ref t), .val (.int (0 : Int32)), .val (.int (Int32.ofNat en)), .val (.int (0 : Int32)), .val (.int cc), .val (.int (Int32.ofNat i))] []) T152 (mkF m 70 #[.val (.ref t), .val (.int (0 : Int32)), .val (.int (Int32.ofNat en)), .val (.int (0 : Int32)), .val (.int cc), .val (.int (Int32.ofNat (i + 1)))] [(.int (Int32.ofNat (i + 1))), (.ref t)]) := fun tg_ kk_ => S153 tg_ (by
          refine XS.ifNo X152.here hx rfl (hb hby d22_64) rfl (by decide) ?_
          show Steps p.tables e below (T152.setTop (mkF m 67 #[.val (.ref t), .val (.int (0 : Int32)), .val (.int (Int32.ofNat en)), .val (.int (0 : Int32)), .val (.int cc), .val (.int (Int32.ofNat (i + 1)))] [])) _
          refine XS.aloadN X152.here hx rfl (hb hby d22_67) rfl rfl ?_
          show Steps p.tables e below (T152.setTop (mkF m 68 #[.val (.ref t), .val (.int (0 : Int32)), .val (.int (Int32.ofNat en)), .val (.int (0 : Int32)), .val (.int cc), .val (.int (Int32.ofNat (i + 1)))] [(.ref t)])) _
          refine XS.iload X152.here hx rfl (hb hby d22_68) rfl ?_
          exact kk_)
        obtain ⟨_, T155, h155, L155, X155, e155, hQ155, st155⟩ := own_callS X152 hx hZ (y := (⟨"java/lang/StringUTF16", "getChar", "([BI)C"⟩ : MethodName)) hown (hw _ (List.mem_of_getElem? (i := 45) rfl)) (hw _ (List.mem_of_getElem? (i := 46) rfl)) (hw _ (List.mem_of_getElem? (i := 23) rfl)) (hw _ (List.mem_of_getElem? (i := 47) rfl)) (by decide) 0 (g := (mkF m 70 #[.val (.ref t), .val (.int (0 : Int32)), .val (.int (Int32.ofNat en)), .val (.int (0 : Int32)), .val (.int cc), .val (.int (Int32.ofNat (i + 1)))] [(.int (Int32.ofNat (i + 1))), (.ref t)])) rfl (by rw [hml]; rfl) [(.ref t), (.int (Int32.ofNat (i + 1)))] [] (rm11 l Z a0 hw [] t (i + 1) cs h0 n0 Z0 kt V (by omega) hn (hch (i + 1) (by omega)) O A16) (lenOf pd11 rfl) rfl (by show 2 * 0 + _ ≤ _; exact Nat.le_of_eq rfl) (hb hby d22_70) (by decide) (by decide) e152 (by decide) (by decide)
        obtain ⟨rfl, N155, rfl⟩ := hQ155
        have S156 : own_Go p e below T0 (mkF m 44 #[.val (.ref t), .val (.int (0 : Int32)), .val (.int (Int32.ofNat en)), .val (.int (0 : Int32)), .val (.int cc), .val (.int (Int32.ofNat i))] []) T155 (mkF m 73 #[.val (.ref t), .val (.int (0 : Int32)), .val (.int (Int32.ofNat en)), .val (.int (0 : Int32)), .val (.int cc), .val (.int (Int32.ofNat (i + 1)))] [(.int (cs.getD (i + 1) 0))]) := fun tg_ kk_ => S154 tg_ (st155 tg_ kk_)
        have N3 := Fr.app N2 N155
        obtain ⟨_, T157, h157, L157, X157, e157, hQ157, st157⟩ := own_callS X155 hx hZ (y := (⟨"java/lang/Character", "isLowSurrogate", "(C)Z"⟩ : MethodName)) hown (hw _ (List.mem_of_getElem? (i := 119) rfl)) (hw _ (List.mem_of_getElem? (i := 120) rfl)) (hw _ (List.mem_of_getElem? (i := 111) rfl)) (hw _ (List.mem_of_getElem? (i := 121) rfl)) (by decide) 0 (g := (mkF m 73 #[.val (.ref t), .val (.int (0 : Int32)), .val (.int (Int32.ofNat en)), .val (.int (0 : Int32)), .val (.int cc), .val (.int (Int32.ofNat (i + 1)))] [(.int (cs.getD (i + 1) 0))])) rfl (by rw [hml]; rfl) [(.int (cs.getD (i + 1) 0))] [] (rm25 l Z a0 hw [] (cs.getD (i + 1) 0) h0 n0 Z0) (lenOf pd22 rfl) rfl (by show 2 * 0 + _ ≤ _; exact Nat.le_of_eq rfl) (hb hby d22_73) (by decide) (by decide) e155 (by decide) (by decide)
        rcases hQ157 with ⟨⟨hlo, rfl⟩ | ⟨hlo, rfl⟩, N157, rfl⟩
        · have _ := e157
          have S158 : own_Go p e below T0 (mkF m 44 #[.val (.ref t), .val (.int (0 : Int32)), .val (.int (Int32.ofNat en)), .val (.int (0 : Int32)), .val (.int cc), .val (.int (Int32.ofNat i))] []) T157 (mkF m 76 #[.val (.ref t), .val (.int (0 : Int32)), .val (.int (Int32.ofNat en)), .val (.int (0 : Int32)), .val (.int cc), .val (.int (Int32.ofNat (i + 1)))] [(.int (1 : Int32))]) := fun tg_ kk_ => S156 tg_ (st157 tg_ kk_)
          have N4 := Fr.app N3 N157
          have S159 : own_Go p e below T0 (mkF m 44 #[.val (.ref t), .val (.int (0 : Int32)), .val (.int (Int32.ofNat en)), .val (.int (0 : Int32)), .val (.int cc), .val (.int (Int32.ofNat i))] []) T157 (mkF m 44 #[.val (.ref t), .val (.int (0 : Int32)), .val (.int (Int32.ofNat en)), .val (.int (0 : Int32)), .val (.int (cc + (-1 : Int32))), .val (.int ((Int32.ofNat (i + 1)) + (1 : Int32)))] []) := fun tg_ kk_ => S158 tg_ (by
            refine XS.ifNo X157.here hx rfl (hb hby d22_76) rfl (by decide) ?_
            show Steps p.tables e below (T157.setTop (mkF m 79 #[.val (.ref t), .val (.int (0 : Int32)), .val (.int (Int32.ofNat en)), .val (.int (0 : Int32)), .val (.int cc), .val (.int (Int32.ofNat (i + 1)))] [])) _
            refine XS.iinc X157.here hx rfl (hb hby d22_79) rfl (l' := #[.val (.ref t), .val (.int (0 : Int32)), .val (.int (Int32.ofNat en)), .val (.int (0 : Int32)), .val (.int (cc + (-1 : Int32))), .val (.int (Int32.ofNat (i + 1)))]) rfl ?_
            show Steps p.tables e below (T157.setTop (mkF m 82 #[.val (.ref t), .val (.int (0 : Int32)), .val (.int (Int32.ofNat en)), .val (.int (0 : Int32)), .val (.int (cc + (-1 : Int32))), .val (.int (Int32.ofNat (i + 1)))] [])) _
            refine XS.iinc X157.here hx rfl (hb hby d22_82) rfl (l' := #[.val (.ref t), .val (.int (0 : Int32)), .val (.int (Int32.ofNat en)), .val (.int (0 : Int32)), .val (.int (cc + (-1 : Int32))), .val (.int ((Int32.ofNat (i + 1)) + (1 : Int32)))]) rfl ?_
            show Steps p.tables e below (T157.setTop (mkF m 85 #[.val (.ref t), .val (.int (0 : Int32)), .val (.int (Int32.ofNat en)), .val (.int (0 : Int32)), .val (.int (cc + (-1 : Int32))), .val (.int ((Int32.ofNat (i + 1)) + (1 : Int32)))] [])) _
            refine XS.goto X157.here hx rfl (pc0 := 85) (pc' := 44) rfl (hb hby d22_85) (by decide) (by decide) ?_
            exact kk_)
          rw [own_suc] at S159
          obtain ⟨T9, L9, i9, c9, X9, e9, N9, g9⟩ := ih (i + 2) T157 _ (cc + (-1 : Int32)) (by omega) (by omega) X157 e157 N4
          rw [own_sub1] at g9
          rw [own_cnt_in hi, if_pos hhi, if_pos hlo]
          exact ⟨T9, L9, i9, c9, X9, e9, N9, own_Go.trans S159 g9⟩
        · have _ := e157
          have S160 : own_Go p e below T0 (mkF m 44 #[.val (.ref t), .val (.int (0 : Int32)), .val (.int (Int32.ofNat en)), .val (.int (0 : Int32)), .val (.int cc), .val (.int (Int32.ofNat i))] []) T157 (mkF m 76 #[.val (.ref t), .val (.int (0 : Int32)), .val (.int (Int32.ofNat en)), .val (.int (0 : Int32)), .val (.int cc), .val (.int (Int32.ofNat (i + 1)))] [(.int (0 : Int32))]) := fun tg_ kk_ => S156 tg_ (st157 tg_ kk_)
          have N4 := Fr.app N3 N157
          have S161 : own_Go p e below T0 (mkF m 44 #[.val (.ref t), .val (.int (0 : Int32)), .val (.int (Int32.ofNat en)), .val (.int (0 : Int32)), .val (.int cc), .val (.int (Int32.ofNat i))] []) T157 (mkF m 44 #[.val (.ref t), .val (.int (0 : Int32)), .val (.int (Int32.ofNat en)), .val (.int (0 : Int32)), .val (.int cc), .val (.int (Int32.ofNat (i + 1)))] []) := fun tg_ kk_ => S160 tg_ (by
            refine XS.ifYes X157.here hx rfl (pc0 := 76) (pc' := 44) rfl (hb hby d22_76) rfl (by decide) (by decide) (by decide) ?_
            exact kk_)
          obtain ⟨T9, L9, i9, c9, X9, e9, N9, g9⟩ := ih (i + 1) T157 _ cc (by omega) (by omega) X157 e157 N4
          rw [own_cnt_in hi, if_pos hhi, if_neg hlo]
          exact ⟨T9, L9, i9, c9, X9, e9, N9, own_Go.trans S161 g9⟩
      · have _ := e152
        have S162 : own_Go p e below T0 (mkF m 44 #[.val (.ref t), .val (.int (0 : Int32)), .val (.int (Int32.ofNat en)), .val (.int (0 : Int32)), .val (.int cc), .val (.int (Int32.ofNat i))] []) T152 (mkF m 64 #[.val (.ref t), .val (.int (0 : Int32)), .val (.int (Int32.ofNat en)), .val (.int (0 : Int32)), .val (.int cc), .val (.int (Int32.ofNat (i + 1)))] [(.int (0 : Int32))]) := fun tg_ kk_ => S151 tg_ (st152 tg_ kk_)
        have N2 := Fr.app N1 N152
        have S163 : own_Go p e below T0 (mkF m 44 #[.val (.ref t), .val (.int (0 : Int32)), .val (.int (Int32.ofNat en)), .val (.int (0 : Int32)), .val (.int cc), .val (.int (Int32.ofNat i))] []) T152 (mkF m 44 #[.val (.ref t), .val (.int (0 : Int32)), .val (.int (Int32.ofNat en)), .val (.int (0 : Int32)), .val (.int cc), .val (.int (Int32.ofNat (i + 1)))] []) := fun tg_ kk_ => S162 tg_ (by
          refine XS.ifYes X152.here hx rfl (pc0 := 64) (pc' := 44) rfl (hb hby d22_64) rfl (by decide) (by decide) (by decide) ?_
          exact kk_)
        obtain ⟨T9, L9, i9, c9, X9, e9, N9, g9⟩ := ih (i + 1) T152 _ cc (by omega) (by omega) X152 e152 N2
        rw [own_cnt_in hi, if_neg hhi]
        exact ⟨T9, L9, i9, c9, X9, e9, N9, own_Go.trans S163 g9⟩
    · have _ := e0
      have S164 : own_Go p e below T0 (mkF m 44 #[.val (.ref t), .val (.int (0 : Int32)), .val (.int (Int32.ofNat en)), .val (.int (0 : Int32)), .val (.int cc), .val (.int (Int32.ofNat i))] []) T0 (mkF m 90 #[.val (.ref t), .val (.int (0 : Int32)), .val (.int (Int32.ofNat en)), .val (.int (0 : Int32)), .val (.int cc), .val (.int (Int32.ofNat i))] [(.int cc)]) := fun tg_ kk_ => (own_Go.refl T0 _) tg_ (by
        refine XS.iload X0.here hx rfl (hb hby d22_44) rfl ?_
        show Steps p.tables e below (T0.setTop (mkF m 46 #[.val (.ref t), .val (.int (0 : Int32)), .val (.int (Int32.ofNat en)), .val (.int (0 : Int32)), .val (.int cc), .val (.int (Int32.ofNat i))] [(.int (Int32.ofNat i))])) _
        refine XS.iloadN X0.here hx rfl (hb hby d22_46) rfl ?_
        show Steps p.tables e below (T0.setTop (mkF m 47 #[.val (.ref t), .val (.int (0 : Int32)), .val (.int (Int32.ofNat en)), .val (.int (0 : Int32)), .val (.int cc), .val (.int (Int32.ofNat i))] [(.int (Int32.ofNat en)), (.int (Int32.ofNat i))])) _
        refine XS.iconst X0.here hx rfl (hb hby d22_47) ?_
        show Steps p.tables e below (T0.setTop (mkF m 48 #[.val (.ref t), .val (.int (0 : Int32)), .val (.int (Int32.ofNat en)), .val (.int (0 : Int32)), .val (.int cc), .val (.int (Int32.ofNat i))] [(.int (1 : Int32)), (.int (Int32.ofNat en)), (.int (Int32.ofNat i))])) _
        refine XS.isub X0.here hx rfl (hb hby d22_48) rfl ?_
        show Steps p.tables e below (T0.setTop (mkF m 49 #[.val (.ref t), .val (.int (0 : Int32)), .val (.int (Int32.ofNat en)), .val (.int (0 : Int32)), .val (.int cc), .val (.int (Int32.ofNat i))] [(.int ((Int32.ofNat en) - (1 : Int32))), (.int (Int32.ofNat i))])) _
        refine XS.icmpYes X0.here hx rfl (pc0 := 49) (pc' := 88) rfl (hb hby d22_49) rfl (flt (own_ge1 hi (by omega) (by omega))).2.1 (by decide) (by decide) ?_
        show Steps p.tables e below (T0.setTop (mkF m 88 #[.val (.ref t), .val (.int (0 : Int32)), .val (.int (Int32.ofNat en)), .val (.int (0 : Int32)), .val (.int cc), .val (.int (Int32.ofNat i))] [])) _
        refine XS.iload X0.here hx rfl (hb hby d22_88) rfl ?_
        exact kk_)
      rw [own_cnt_out hi]
      have hz : cc - Int32.ofNat 0 = cc := by refine Int32.toInt_inj.mp ?_; have a := c_isub cc (Int32.ofNat 0); have r := rng32 (cc - Int32.ofNat 0); have r2 := rng32 cc; have e1 : (Int32.ofNat 0).toInt = 0 := rfl; omega
      rw [hz]
      exact ⟨T0, locs, i, cc, X0, e0, N, S164⟩
def Q22 (Z : State) (t : Addr) (cs : List Int32) (en : Nat) (h0 : Heap) (n0 : Nat) (v : Option Value) (h : Heap) (L : List Loc) : Prop := v = some (.int (Int32.ofNat en - Int32.ofNat (own_cnt cs en en 0))) ∧ Fr n0 L ∧ h0 = h
set_option maxRecDepth 65536 in
set_option maxHeartbeats 40000000 in
theorem rm22 (l : Launch) (Z : State) (a0 : Array Value) (hw : ∀ d ∈ tables_1, d.before a0 Z = true) (ws : List Jvm.Cond) (t : Addr) (cs : List Int32) (en : Nat) (h0 : Heap) (n0 : Nat) (Z0 : n0 ≤ h0.size) (kt : ClassId) (hn : cs.length ≤ 1000) (hen : en ≤ cs.length) (hch : ∀ j, j < cs.length → own_Ch (cs.getD j 0)) (V : Arv Z h0 t kt .byte (Int32.ofNat (2 * cs.length)) (own_wide cs) (.int 0)) (O : Old Z n0 h0) (A16 : own_A16 Z) :
    MetFree l (⟨"java/lang/StringUTF16", "codePointCount", "([BIIZ)I"⟩ : MethodName) (head1 (Jvm.Cond.code (⟨"java/lang/StringUTF16", "codePointCount", "([BIIZ)I"⟩ : MethodName) jdk_52_method_11_code 6 (some .int) :: ws) ({ frames := 1, cells := 0, slots := 0, locals := 30 } : Room)) (fun aa_ U => aa_ = #[(.ref t), (.int (0 : Int32)), (.int (Int32.ofNat en)), (.int (0 : Int32))] ∧ Z.Warmed39 U.vm ∧ U.heap = h0) (fun _ _ _ _ _ => True) (fun _ U o U' => ∃ v L, o = .returned v ∧ Q22 Z t cs en h0 n0 v U'.heap L ∧ FrameEnd U o U' L ({ frames := 1, cells := 0, slots := 0, locals := 30 } : Room).cells ({ frames := 1, cells := 0, slots := 0, locals := 30 } : Room).slots) := by
  refine MetFree.of_bodySF (plainFor_of_name pn1) hisR ?_
  intro p e s m args below meth c s₁ Bd hml0 hP hK
  obtain ⟨rfl, hZ, hh⟩ := hP
  have hx := Bd.exec
  have hby := Bd.bytes
  have hml : c.maxLocals = 6 := hml0
  have hown : s.vm.findClass "java/lang/StringUTF16" = some m.cls := findClass_of_methodNamed Bd.named
  have hnm := (name_of_methodNamed Bd.named Bd.method).1
  have X0 : Stand p l e ({ frames := 1, cells := 0, slots := 0, locals := 30 } : Room) s m #[(.ref t), (.int (0 : Int32)), (.int (Int32.ofNat en)), (.int (0 : Int32))] below meth c s₁ [] 0 0 := Stand.of_body Bd
  have e0 : s₁.heap = h0 := by rw [← hh, Bd.state]; rfl
  have N0 := Fr.nil n0
  obtain ⟨G, hG⟩ : ∃ G, G = entryFrame m #[(.ref t), (.int (0 : Int32)), (.int (Int32.ofNat en)), (.int (0 : Int32))] 6 := ⟨_, rfl⟩
  have S0 : own_Go p e below s₁ G s₁ (mkF m 0 #[.val (.ref t), .val (.int (0 : Int32)), .val (.int (Int32.ofNat en)), .val (.int (0 : Int32)), .unset, .unset] []) := fun tg_ kk_ => castTop (by rw [hG]; first | rfl | simp [entryFrame, mkF, argsToLocals, Value.category, maxLocals]) kk_
  obtain ⟨T165, X165, e165, st165⟩ := getS X0 hx hZ (host := "") hown (hw _ (List.mem_of_getElem? (i := 42) rfl)) Via.refl e0 (A16.1.ext O.2) (g := (mkF m 0 #[.val (.ref t), .val (.int (0 : Int32)), .val (.int (Int32.ofNat en)), .val (.int (0 : Int32)), .unset, .unset] [])) rfl (hb hby d22_0)
  have S166 : own_Go p e below s₁ G T165 (mkF m 3 #[.val (.ref t), .val (.int (0 : Int32)), .val (.int (Int32.ofNat en)), .val (.int (0 : Int32)), .unset, .unset] [(.int (1 : Int32))]) := fun tg_ kk_ => S0 tg_ (st165 tg_ kk_)
  have S167 : own_Go p e below s₁ G T165 (mkF m 44 #[.val (.ref t), .val (.int (0 : Int32)), .val (.int (Int32.ofNat en)), .val (.int (0 : Int32)), .val (.int ((Int32.ofNat en) - (0 : Int32))), .val (.int (0 : Int32))] []) := fun tg_ kk_ => S166 tg_ (by
    refine XS.ifYes X165.here hx rfl (pc0 := 3) (pc' := 19) rfl (hb hby d22_3) rfl (by decide) (by decide) (by decide) ?_
    show Steps p.tables e below (T165.setTop (mkF m 19 #[.val (.ref t), .val (.int (0 : Int32)), .val (.int (Int32.ofNat en)), .val (.int (0 : Int32)), .unset, .unset] [])) _
    refine XS.iloadN X165.here hx rfl (hb hby d22_19) rfl ?_
    show Steps p.tables e below (T165.setTop (mkF m 20 #[.val (.ref t), .val (.int (0 : Int32)), .val (.int (Int32.ofNat en)), .val (.int (0 : Int32)), .unset, .unset] [(.int (Int32.ofNat en))])) _
    refine XS.iloadN X165.here hx rfl (hb hby d22_20) rfl ?_
    show Steps p.tables e below (T165.setTop (mkF m 21 #[.val (.ref t), .val (.int (0 : Int32)), .val (.int (Int32.ofNat en)), .val (.int (0 : Int32)), .unset, .unset] [(.int (0 : Int32)), (.int (Int32.ofNat en))])) _
    refine XS.isub X165.here hx rfl (hb hby d22_21) rfl ?_
    show Steps p.tables e below (T165.setTop (mkF m 22 #[.val (.ref t), .val (.int (0 : Int32)), .val (.int (Int32.ofNat en)), .val (.int (0 : Int32)), .unset, .unset] [(.int ((Int32.ofNat en) - (0 : Int32)))])) _
    refine XS.istore X165.here hx rfl (hb hby d22_22) rfl (l' := #[.val (.ref t), .val (.int (0 : Int32)), .val (.int (Int32.ofNat en)), .val (.int (0 : Int32)), .val (.int ((Int32.ofNat en) - (0 : Int32))), .unset]) rfl ?_
    show Steps p.tables e below (T165.setTop (mkF m 24 #[.val (.ref t), .val (.int (0 : Int32)), .val (.int (Int32.ofNat en)), .val (.int (0 : Int32)), .val (.int ((Int32.ofNat en) - (0 : Int32))), .unset] [])) _
    refine XS.iloadN X165.here hx rfl (hb hby d22_24) rfl ?_
    show Steps p.tables e below (T165.setTop (mkF m 25 #[.val (.ref t), .val (.int (0 : Int32)), .val (.int (Int32.ofNat en)), .val (.int (0 : Int32)), .val (.int ((Int32.ofNat en) - (0 : Int32))), .unset] [(.int (0 : Int32))])) _
    refine XS.istore X165.here hx rfl (hb hby d22_25) rfl (l' := #[.val (.ref t), .val (.int (0 : Int32)), .val (.int (Int32.ofNat en)), .val (.int (0 : Int32)), .val (.int ((Int32.ofNat en) - (0 : Int32))), .val (.int (0 : Int32))]) rfl ?_
    show Steps p.tables e below (T165.setTop (mkF m 27 #[.val (.ref t), .val (.int (0 : Int32)), .val (.int (Int32.ofNat en)), .val (.int (0 : Int32)), .val (.int ((Int32.ofNat en) - (0 : Int32))), .val (.int (0 : Int32))] [])) _
    refine XS.iloadN X165.here hx rfl (hb hby d22_27) rfl ?_
    show Steps p.tables e below (T165.setTop (mkF m 28 #[.val (.ref t), .val (.int (0 : Int32)), .val (.int (Int32.ofNat en)), .val (.int (0 : Int32)), .val (.int ((Int32.ofNat en) - (0 : Int32))), .val (.int (0 : Int32))] [(.int (0 : Int32))])) _
    refine XS.ifYes X165.here hx rfl (pc0 := 28) (pc' := 44) rfl (hb hby d22_28) rfl (by decide) (by decide) (by decide) ?_
    exact kk_)
  have hz : Int32.ofNat en - (0 : Int32) = Int32.ofNat en := by refine Int32.toInt_inj.mp ?_; have a := c_isub (Int32.ofNat en) 0; have r := rng32 (Int32.ofNat en - 0); have r2 := rng32 (Int32.ofNat en); have e1 : (0 : Int32).toInt = 0 := rfl; omega
  rw [hz] at S167
  obtain ⟨T', locs', i', c9, X9, e9, N9, g9⟩ := own_cpc Z0 t kt cs en hn hen hch V O A16 hx hZ hw hby hml hown en 0 T165 _ (Int32.ofNat en) (by omega) (by omega) X165 e165 N0
  have SL := own_Go.trans S167 g9
  obtain ⟨fs, hr, hrun, hended, hW, hsame⟩ := X9.leave (v := some (.int (Int32.ofNat en - Int32.ofNat (own_cnt cs en en 0)))) (fun h => by rw [Bd.returns] at h; cases h)
  refine ⟨_, _, ?_, hrun, hended, _, _, rfl, ?_, ⟨_, rfl⟩, hW, hsame.mono (by decide) (by decide)⟩
  · rw [← hG]; exact SL _ (retI X9 hx Bd.returns (hb hby d22_90) hr)
  · show Q22 Z t cs en h0 n0 _ T'.heap _
    rw [e9]
    exact ⟨rfl, N9, rfl⟩
def Q21 (Z : State) (t : Addr) (cs : List Int32) (en : Nat) (h0 : Heap) (n0 : Nat) (v : Option Value) (h : Heap) (L : List Loc) : Prop := v = some (.int (Int32.ofNat en - Int32.ofNat (own_cnt cs en en 0))) ∧ Fr n0 L ∧ h0 = h
set_option maxRecDepth 65536 in
set_option maxHeartbeats 40000000 in
theorem rm21 (l : Launch) (Z : State) (a0 : Array Value) (hw : ∀ d ∈ tables_1, d.before a0 Z = true) (ws : List Jvm.Cond) (t : Addr) (cs : List Int32) (en : Nat) (h0 : Heap) (n0 : Nat) (Z0 : n0 ≤ h0.size) (kt : ClassId) (hn : cs.length ≤ 1000) (hen : en ≤ cs.length) (hch : ∀ j, j < cs.length → own_Ch (cs.getD j 0)) (V : Arv Z h0 t kt .byte (Int32.ofNat (2 * cs.length)) (own_wide cs) (.int 0)) (O : Old Z n0 h0) (A16 : own_A16 Z) :
    MetFree l (⟨"java/lang/StringUTF16", "codePointCount", "([BII)I"⟩ : MethodName) (head1 (Jvm.Cond.code (⟨"java/lang/StringUTF16", "codePointCount", "([BII)I"⟩ : MethodName) jdk_52_method_12_code 3 (some .int) :: ws) ({ frames := 2, cells := 0, slots := 0, locals := 47 } : Room)) (fun aa_ U => aa_ = #[(.ref t), (.int (0 : Int32)), (.int (Int32.ofNat en))] ∧ Z.Warmed39 U.vm ∧ U.heap = h0) (fun _ _ _ _ _ => True) (fun _ U o U' => ∃ v L, o = .returned v ∧ Q21 Z t cs en h0 n0 v U'.heap L ∧ FrameEnd U o U' L ({ frames := 2, cells := 0, slots := 0, locals := 47 } : Room).cells ({ frames := 2, cells := 0, slots := 0, locals := 47 } : Room).slots) := by
  refine MetFree.of_bodySF (plainFor_of_name pn1) hisR ?_
  intro p e s m args below meth c s₁ Bd hml0 hP hK
  obtain ⟨rfl, hZ, hh⟩ := hP
  have hx := Bd.exec
  have hby := Bd.bytes
  have hml : c.maxLocals = 3 := hml0
  have hown : s.vm.findClass "java/lang/StringUTF16" = some m.cls := findClass_of_methodNamed Bd.named
  have hnm := (name_of_methodNamed Bd.named Bd.method).1
  have X0 : Stand p l e ({ frames := 2, cells := 0, slots := 0, locals := 47 } : Room) s m #[(.ref t), (.int (0 : Int32)), (.int (Int32.ofNat en))] below meth c s₁ [] 0 0 := Stand.of_body Bd
  have e0 : s₁.heap = h0 := by rw [← hh, Bd.state]; rfl
  have N0 := Fr.nil n0
  obtain ⟨G, hG⟩ : ∃ G, G = entryFrame m #[(.ref t), (.int (0 : Int32)), (.int (Int32.ofNat en))] 3 := ⟨_, rfl⟩
  have S0 : own_Go p e below s₁ G s₁ (mkF m 0 #[.val (.ref t), .val (.int (0 : Int32)), .val (.int (Int32.ofNat en))] []) := fun tg_ kk_ => castTop (by rw [hG]; first | rfl | simp [entryFrame, mkF, argsToLocals, Value.category, maxLocals]) kk_
  have S168 : own_Go p e below s₁ G s₁ (mkF m 4 #[.val (.ref t), .val (.int (0 : Int32)), .val (.int (Int32.ofNat en))] [(.int (0 : Int32)), (.int (Int32.ofNat en)), (.int (0 : Int32)), (.ref t)]) := fun tg_ kk_ => S0 tg_ (by
    refine XS.aloadN X0.here hx rfl (hb hby d21_0) rfl rfl ?_
    show Steps p.tables e below (s₁.setTop (mkF m 1 #[.val (.ref t), .val (.int (0 : Int32)), .val (.int (Int32.ofNat en))] [(.ref t)])) _
    refine XS.iloadN X0.here hx rfl (hb hby d21_1) rfl ?_
    show Steps p.tables e below (s₁.setTop (mkF m 2 #[.val (.ref t), .val (.int (0 : Int32)), .val (.int (Int32.ofNat en))] [(.int (0 : Int32)), (.ref t)])) _
    refine XS.iloadN X0.here hx rfl (hb hby d21_2) rfl ?_
    show Steps p.tables e below (s₁.setTop (mkF m 3 #[.val (.ref t), .val (.int (0 : Int32)), .val (.int (Int32.ofNat en))] [(.int (Int32.ofNat en)), (.int (0 : Int32)), (.ref t)])) _
    refine XS.iconst X0.here hx rfl (hb hby d21_3) ?_
    exact kk_)
  obtain ⟨_, T169, h169, L169, X169, e169, hQ169, st169⟩ := own_callS X0 hx hZ (y := (⟨"java/lang/StringUTF16", "codePointCount", "([BIIZ)I"⟩ : MethodName)) hown (hw _ (List.mem_of_getElem? (i := 106) rfl)) (hw _ (List.mem_of_getElem? (i := 107) rfl)) (hw _ (List.mem_of_getElem? (i := 23) rfl)) (hw _ (List.mem_of_getElem? (i := 108) rfl)) (by decide) 0 (g := (mkF m 4 #[.val (.ref t), .val (.int (0 : Int32)), .val (.int (Int32.ofNat en))] [(.int (0 : Int32)), (.int (Int32.ofNat en)), (.int (0 : Int32)), (.ref t)])) rfl (by rw [hml]; rfl) [(.ref t), (.int (0 : Int32)), (.int (Int32.ofNat en)), (.int (0 : Int32))] [] (rm22 l Z a0 hw [] t cs en h0 n0 Z0 kt hn hen hch V O A16) (lenOf pd21 rfl) rfl (by show 2 * 0 + _ ≤ _; exact Nat.le_of_eq rfl) (hb hby d21_4) (by decide) (by decide) e0 (by decide) (by decide)
  obtain ⟨rfl, N169, rfl⟩ := hQ169
  have S170 : own_Go p e below s₁ G T169 (mkF m 7 #[.val (.ref t), .val (.int (0 : Int32)), .val (.int (Int32.ofNat en))] [(.int (Int32.ofNat en - Int32.ofNat (own_cnt cs en en 0)))]) := fun tg_ kk_ => S168 tg_ (st169 tg_ kk_)
  have M1 := Fr.app N0 N169
  obtain ⟨fs, hr, hrun, hended, hW, hsame⟩ := X169.leave (v := some (.int (Int32.ofNat en - Int32.ofNat (own_cnt cs en en 0)))) (fun h => by rw [Bd.returns] at h; cases h)
  refine ⟨_, _, ?_, hrun, hended, _, _, rfl, ?_, ⟨_, rfl⟩, hW, hsame.mono (by decide) (by decide)⟩
  · rw [← hG]; exact S170 _ (retI X169 hx Bd.returns (hb hby d21_7) hr)
  · show Q21 Z t cs en h0 n0 _ T169.heap _
    rw [e169]
    exact ⟨rfl, M1, rfl⟩
theorem own_cnt_lat {cs : List Int32} (h : ∀ j, j < cs.length → ¬ (255 : Int32) < cs.getD j 0) {e : Nat} (he : e ≤ cs.length) : ∀ f i, own_cnt cs e f i = 0
  | 0, _ => rfl
  | f + 1, i => by
    by_cases hi : i + 1 < e
    · rw [own_cnt_in hi, if_neg]
      · exact own_cnt_lat h he f (i + 1)
      · intro q
        have h1 := h i (by omega)
        have h2 := q.1
        rw [Int32.lt_iff_toInt_lt] at h1 h2
        have e1 : (255 : Int32).toInt = 255 := rfl
        have e2 : (55296 : Int32).toInt = 55296 := rfl
        omega
    · exact own_cnt_out hi
theorem own_sub0 (x : Int32) : x - 0 = x - Int32.ofNat 0 := rfl
theorem own_le32 {i n : Nat} (h : i ≤ n) (hn : n < 2 ^ 31) : ¬ Int32.ofNat n < Int32.ofNat i := by
  rw [Int32.lt_iff_toInt_lt, Int32.toInt_ofNat_of_lt hn, Int32.toInt_ofNat_of_lt (by omega)]; omega
def Q15 (Z : State) (x : Addr) (t : Addr) (cs : List Int32) (en : Nat) (h0 : Heap) (n0 : Nat) (v : Option Value) (h : Heap) (L : List Loc) : Prop := v = some (.int (Int32.ofNat en - Int32.ofNat (own_cnt cs en en 0))) ∧ Fr n0 L ∧ h0 = h
set_option maxRecDepth 65536 in
set_option maxHeartbeats 40000000 in
theorem rm15 (l : Launch) (Z : State) (a0 : Array Value) (hw : ∀ d ∈ tables_1, d.before a0 Z = true) (ws : List Jvm.Cond) (x : Addr) (t : Addr) (cs : List Int32) (en : Nat) (h0 : Heap) (n0 : Nat) (Z0 : n0 ≤ h0.size) (z : Int32) (O : Old Z n0 h0) (O2 : Sta Z Z.heap "java/lang/String" "COMPACT_STRINGS" "Z" (.int z)) (P5 : ¬ z = 0) (S : own_Str Z h0 x t cs) (hn : cs.length ≤ 1000) (hen : en ≤ cs.length) (hch : ∀ j, j < cs.length → own_Ch (cs.getD j 0)) (A16 : own_A16 Z) :
    MetFree l (⟨"java/lang/String", "codePointCount", "(II)I"⟩ : MethodName) (head1 (Jvm.Cond.code (⟨"java/lang/String", "codePointCount", "(II)I"⟩ : MethodName) jdk_42_method_59_code 3 (some .int) :: ws) ({ frames := 3, cells := 0, slots := 0, locals := 63 } : Room)) (fun aa_ U => aa_ = #[(.ref x), (.int (0 : Int32)), (.int (Int32.ofNat en))] ∧ Z.Warmed39 U.vm ∧ U.heap = h0) (fun _ _ _ _ _ => True) (fun _ U o U' => ∃ v L, o = .returned v ∧ Q15 Z x t cs en h0 n0 v U'.heap L ∧ FrameEnd U o U' L ({ frames := 3, cells := 0, slots := 0, locals := 63 } : Room).cells ({ frames := 3, cells := 0, slots := 0, locals := 63 } : Room).slots) := by
  refine MetFree.of_bodySF (plainFor_of_name pn2) hisR ?_
  intro p e s m args below meth c s₁ Bd hml0 hP hK
  obtain ⟨rfl, hZ, hh⟩ := hP
  have hx := Bd.exec
  have hby := Bd.bytes
  have hml : c.maxLocals = 3 := hml0
  have hown : s.vm.findClass "java/lang/String" = some m.cls := findClass_of_methodNamed Bd.named
  have hnm := (name_of_methodNamed Bd.named Bd.method).1
  have X0 : Stand p l e ({ frames := 3, cells := 0, slots := 0, locals := 63 } : Room) s m #[(.ref x), (.int (0 : Int32)), (.int (Int32.ofNat en))] below meth c s₁ [] 0 0 := Stand.of_body Bd
  have e0 : s₁.heap = h0 := by rw [← hh, Bd.state]; rfl
  have N0 := Fr.nil n0
  obtain ⟨G, hG⟩ : ∃ G, G = entryFrame m #[(.ref x), (.int (0 : Int32)), (.int (Int32.ofNat en))] 3 := ⟨_, rfl⟩
  have S0 : own_Go p e below s₁ G s₁ (mkF m 0 #[.val (.ref x), .val (.int (0 : Int32)), .val (.int (Int32.ofNat en))] []) := fun tg_ kk_ => castTop (by rw [hG]; first | rfl | simp [entryFrame, mkF, argsToLocals, Value.category, maxLocals]) kk_
  have S171 : own_Go p e below s₁ G s₁ (mkF m 3 #[.val (.ref x), .val (.int (0 : Int32)), .val (.int (Int32.ofNat en))] [(.ref x), (.int (Int32.ofNat en)), (.int (0 : Int32))]) := fun tg_ kk_ => S0 tg_ (by
    refine XS.iloadN X0.here hx rfl (hb hby d15_0) rfl ?_
    show Steps p.tables e below (s₁.setTop (mkF m 1 #[.val (.ref x), .val (.int (0 : Int32)), .val (.int (Int32.ofNat en))] [(.int (0 : Int32))])) _
    refine XS.iloadN X0.here hx rfl (hb hby d15_1) rfl ?_
    show Steps p.tables e below (s₁.setTop (mkF m 2 #[.val (.ref x), .val (.int (0 : Int32)), .val (.int (Int32.ofNat en))] [(.int (Int32.ofNat en)), (.int (0 : Int32))])) _
    refine XS.aloadN X0.here hx rfl (hb hby d15_2) rfl rfl ?_
    exact kk_)
  obtain ⟨_, T172, h172, L172, X172, e172, hQ172, st172⟩ := own_callV X0 hx hZ (y := (⟨"java/lang/String", "length", "()I"⟩ : MethodName)) hown (hw _ (List.mem_of_getElem? (i := 80) rfl)) (hw _ (List.mem_of_getElem? (i := 81) rfl)) (hw _ (List.mem_of_getElem? (i := 83) rfl)) (hw _ (List.mem_of_getElem? (i := 82) rfl)) (hw _ (List.mem_of_getElem? (i := 9) rfl)) (hw _ (List.mem_of_getElem? (i := 84) rfl)) (by decide) 2 (g := (mkF m 3 #[.val (.ref x), .val (.int (0 : Int32)), .val (.int (Int32.ofNat en))] [(.ref x), (.int (Int32.ofNat en)), (.int (0 : Int32))])) rfl (by rw [hml]; rfl) x S.1 [] [(.int (Int32.ofNat en)), (.int (0 : Int32))] (rm16 l Z a0 hw [] x t cs h0 n0 Z0 z O O2 P5 S hn) (lenOf pd15 rfl) rfl (by show 2 * 0 + _ ≤ _; exact Nat.le_of_eq rfl) (hb hby d15_3) (by decide) (by decide) e0 (by decide) (by decide)
  obtain ⟨rfl, N172, rfl⟩ := hQ172
  have S173 : own_Go p e below s₁ G T172 (mkF m 6 #[.val (.ref x), .val (.int (0 : Int32)), .val (.int (Int32.ofNat en))] [(.int (Int32.ofNat cs.length)), (.int (Int32.ofNat en)), (.int (0 : Int32))]) := fun tg_ kk_ => S171 tg_ (st172 tg_ kk_)
  have M1 := Fr.app N0 N172
  obtain ⟨_, T174, h174, L174, X174, e174, hQ174, st174⟩ := own_callS X172 hx hZ (y := (⟨"java/util/Objects", "checkFromToIndex", "(III)I"⟩ : MethodName)) hown (hw _ (List.mem_of_getElem? (i := 90) rfl)) (hw _ (List.mem_of_getElem? (i := 91) rfl)) (hw _ (List.mem_of_getElem? (i := 92) rfl)) (hw _ (List.mem_of_getElem? (i := 93) rfl)) (by decide) 0 (g := (mkF m 6 #[.val (.ref x), .val (.int (0 : Int32)), .val (.int (Int32.ofNat en))] [(.int (Int32.ofNat cs.length)), (.int (Int32.ofNat en)), (.int (0 : Int32))])) rfl (by rw [hml]; rfl) [(.int (0 : Int32)), (.int (Int32.ofNat en)), (.int (Int32.ofNat cs.length))] [] (rm18 l Z a0 hw [] (Int32.ofNat en) (Int32.ofNat cs.length) h0 n0 Z0 (own_nn32 (by omega)) (own_le32 hen (by omega))) (lenOf pd17 rfl) rfl (by show 2 * 0 + _ ≤ _; exact Nat.le_of_eq rfl) (hb hby d15_6) (by decide) (by decide) e172 (by decide) (by decide)
  obtain ⟨rfl, N174, rfl⟩ := hQ174
  have S175 : own_Go p e below s₁ G T174 (mkF m 9 #[.val (.ref x), .val (.int (0 : Int32)), .val (.int (Int32.ofNat en))] [(.int (0 : Int32))]) := fun tg_ kk_ => S173 tg_ (st174 tg_ kk_)
  have M2 := Fr.app M1 N174
  have S176 : own_Go p e below s₁ G T174 (mkF m 11 #[.val (.ref x), .val (.int (0 : Int32)), .val (.int (Int32.ofNat en))] [(.ref x)]) := fun tg_ kk_ => S175 tg_ (by
    refine XT.pop X174.here hx rfl (hb hby d15_9) rfl rfl ?_
    show Steps p.tables e below (T174.setTop (mkF m 10 #[.val (.ref x), .val (.int (0 : Int32)), .val (.int (Int32.ofNat en))] [])) _
    refine XS.aloadN X174.here hx rfl (hb hby d15_10) rfl rfl ?_
    exact kk_)
  rcases S.2.2 with ⟨Fc, ⟨kt, V⟩, hl⟩ | ⟨Fc, ⟨kt, V⟩, hl⟩
  · have _ := N0
    obtain ⟨_, T177, h177, L177, X177, e177, hQ177, st177⟩ := own_callV X174 hx hZ (y := (⟨"java/lang/String", "isLatin1", "()Z"⟩ : MethodName)) hown (hw _ (List.mem_of_getElem? (i := 98) rfl)) (hw _ (List.mem_of_getElem? (i := 99) rfl)) (hw _ (List.mem_of_getElem? (i := 101) rfl)) (hw _ (List.mem_of_getElem? (i := 100) rfl)) (hw _ (List.mem_of_getElem? (i := 9) rfl)) (hw _ (List.mem_of_getElem? (i := 102) rfl)) (by decide) 0 (g := (mkF m 11 #[.val (.ref x), .val (.int (0 : Int32)), .val (.int (Int32.ofNat en))] [(.ref x)])) rfl (by rw [hml]; rfl) x S.1 [] [] (rm20 l Z a0 hw [] x (0 : Int32) h0 n0 Z0 z O O2 P5 Fc (Or.inl rfl)) (lenOf pd19 rfl) rfl (by show 2 * 0 + _ ≤ _; exact Nat.le_of_eq rfl) (hb hby d15_11) (by decide) (by decide) e174 (by decide) (by decide)
    obtain ⟨rfl, N177, rfl⟩ := hQ177
    have S178 : own_Go p e below s₁ G T177 (mkF m 14 #[.val (.ref x), .val (.int (0 : Int32)), .val (.int (Int32.ofNat en))] [(.int (1 : Int32))]) := fun tg_ kk_ => S176 tg_ (st177 tg_ kk_)
    have M3 := Fr.app M2 N177
    have S179 : own_Go p e below s₁ G T177 (mkF m 20 #[.val (.ref x), .val (.int (0 : Int32)), .val (.int (Int32.ofNat en))] [(.int ((Int32.ofNat en) - (0 : Int32)))]) := fun tg_ kk_ => S178 tg_ (by
      refine XS.ifNo X177.here hx rfl (hb hby d15_14) rfl (by decide) ?_
      show Steps p.tables e below (T177.setTop (mkF m 17 #[.val (.ref x), .val (.int (0 : Int32)), .val (.int (Int32.ofNat en))] [])) _
      refine XS.iloadN X177.here hx rfl (hb hby d15_17) rfl ?_
      show Steps p.tables e below (T177.setTop (mkF m 18 #[.val (.ref x), .val (.int (0 : Int32)), .val (.int (Int32.ofNat en))] [(.int (Int32.ofNat en))])) _
      refine XS.iloadN X177.here hx rfl (hb hby d15_18) rfl ?_
      show Steps p.tables e below (T177.setTop (mkF m 19 #[.val (.ref x), .val (.int (0 : Int32)), .val (.int (Int32.ofNat en))] [(.int (0 : Int32)), (.int (Int32.ofNat en))])) _
      refine XS.isub X177.here hx rfl (hb hby d15_19) rfl ?_
      exact kk_)
    obtain ⟨fs, hr, hrun, hended, hW, hsame⟩ := X177.leave (v := some (.int ((Int32.ofNat en) - (0 : Int32)))) (fun h => by rw [Bd.returns] at h; cases h)
    refine ⟨_, _, ?_, hrun, hended, _, _, rfl, ?_, ⟨_, rfl⟩, hW, hsame.mono (by decide) (by decide)⟩
    · rw [← hG]; exact S179 _ (retI X177 hx Bd.returns (hb hby d15_20) hr)
    · show Q15 Z x t cs en h0 n0 _ T177.heap _
      rw [e177]
      exact ⟨by rw [own_cnt_lat hl hen]; rfl, M3, rfl⟩
  · have _ := N0
    obtain ⟨_, T180, h180, L180, X180, e180, hQ180, st180⟩ := own_callV X174 hx hZ (y := (⟨"java/lang/String", "isLatin1", "()Z"⟩ : MethodName)) hown (hw _ (List.mem_of_getElem? (i := 98) rfl)) (hw _ (List.mem_of_getElem? (i := 99) rfl)) (hw _ (List.mem_of_getElem? (i := 101) rfl)) (hw _ (List.mem_of_getElem? (i := 100) rfl)) (hw _ (List.mem_of_getElem? (i := 9) rfl)) (hw _ (List.mem_of_getElem? (i := 102) rfl)) (by decide) 0 (g := (mkF m 11 #[.val (.ref x), .val (.int (0 : Int32)), .val (.int (Int32.ofNat en))] [(.ref x)])) rfl (by rw [hml]; rfl) x S.1 [] [] (rm20 l Z a0 hw [] x (1 : Int32) h0 n0 Z0 z O O2 P5 Fc (Or.inr rfl)) (lenOf pd19 rfl) rfl (by show 2 * 0 + _ ≤ _; exact Nat.le_of_eq rfl) (hb hby d15_11) (by decide) (by decide) e174 (by decide) (by decide)
    obtain ⟨rfl, N180, rfl⟩ := hQ180
    have S181 : own_Go p e below s₁ G T180 (mkF m 14 #[.val (.ref x), .val (.int (0 : Int32)), .val (.int (Int32.ofNat en))] [(.int (0 : Int32))]) := fun tg_ kk_ => S176 tg_ (st180 tg_ kk_)
    have M3 := Fr.app M2 N180
    have S182 : own_Go p e below s₁ G T180 (mkF m 22 #[.val (.ref x), .val (.int (0 : Int32)), .val (.int (Int32.ofNat en))] [(.ref x)]) := fun tg_ kk_ => S181 tg_ (by
      refine XS.ifYes X180.here hx rfl (pc0 := 14) (pc' := 21) rfl (hb hby d15_14) rfl (by decide) (by decide) (by decide) ?_
      show Steps p.tables e below (T180.setTop (mkF m 21 #[.val (.ref x), .val (.int (0 : Int32)), .val (.int (Int32.ofNat en))] [])) _
      refine XS.aloadN X180.here hx rfl (hb hby d15_21) rfl rfl ?_
      exact kk_)
    obtain ⟨T183, X183, e183, st183⟩ := getF X180 hx hZ hown (host := "") (Or.inl (hw _ (List.mem_of_getElem? (i := 53) rfl))) Via.refl e180 S.2.1 (g := (mkF m 22 #[.val (.ref x), .val (.int (0 : Int32)), .val (.int (Int32.ofNat en))] [(.ref x)])) rfl rfl (hb hby d15_22)
    have S184 : own_Go p e below s₁ G T183 (mkF m 25 #[.val (.ref x), .val (.int (0 : Int32)), .val (.int (Int32.ofNat en))] [(.ref t)]) := fun tg_ kk_ => S182 tg_ (st183 tg_ kk_)
    have S185 : own_Go p e below s₁ G T183 (mkF m 27 #[.val (.ref x), .val (.int (0 : Int32)), .val (.int (Int32.ofNat en))] [(.int (Int32.ofNat en)), (.int (0 : Int32)), (.ref t)]) := fun tg_ kk_ => S184 tg_ (by
      refine XS.iloadN X183.here hx rfl (hb hby d15_25) rfl ?_
      show Steps p.tables e below (T183.setTop (mkF m 26 #[.val (.ref x), .val (.int (0 : Int32)), .val (.int (Int32.ofNat en))] [(.int (0 : Int32)), (.ref t)])) _
      refine XS.iloadN X183.here hx rfl (hb hby d15_26) rfl ?_
      exact kk_)
    obtain ⟨_, T186, h186, L186, X186, e186, hQ186, st186⟩ := own_callS X183 hx hZ (y := (⟨"java/lang/StringUTF16", "codePointCount", "([BII)I"⟩ : MethodName)) hown (hw _ (List.mem_of_getElem? (i := 103) rfl)) (hw _ (List.mem_of_getElem? (i := 104) rfl)) (hw _ (List.mem_of_getElem? (i := 23) rfl)) (hw _ (List.mem_of_getElem? (i := 105) rfl)) (by decide) 0 (g := (mkF m 27 #[.val (.ref x), .val (.int (0 : Int32)), .val (.int (Int32.ofNat en))] [(.int (Int32.ofNat en)), (.int (0 : Int32)), (.ref t)])) rfl (by rw [hml]; rfl) [(.ref t), (.int (0 : Int32)), (.int (Int32.ofNat en))] [] (rm21 l Z a0 hw [] t cs en h0 n0 Z0 kt hn hen hch V O A16) (lenOf pd20 rfl) rfl (by show 2 * 0 + _ ≤ _; exact Nat.le_of_eq rfl) (hb hby d15_27) (by decide) (by decide) e183 (by decide) (by decide)
    obtain ⟨rfl, N186, rfl⟩ := hQ186
    have S187 : own_Go p e below s₁ G T186 (mkF m 30 #[.val (.ref x), .val (.int (0 : Int32)), .val (.int (Int32.ofNat en))] [(.int (Int32.ofNat en - Int32.ofNat (own_cnt cs en en 0)))]) := fun tg_ kk_ => S185 tg_ (st186 tg_ kk_)
    have M4 := Fr.app M3 N186
    obtain ⟨fs, hr, hrun, hended, hW, hsame⟩ := X186.leave (v := some (.int (Int32.ofNat en - Int32.ofNat (own_cnt cs en en 0)))) (fun h => by rw [Bd.returns] at h; cases h)
    refine ⟨_, _, ?_, hrun, hended, _, _, rfl, ?_, ⟨_, rfl⟩, hW, hsame.mono (by decide) (by decide)⟩
    · rw [← hG]; exact S187 _ (retI X186 hx Bd.returns (hb hby d15_30) hr)
    · show Q15 Z x t cs en h0 n0 _ T186.heap _
      rw [e186]
      exact ⟨rfl, M4, rfl⟩
theorem pn7 : plainName "com/example/kept_triples/kepttriples/model/LabelLexer" = true := by first | (simp [plainName, overriddenIn]; done) | decide +kernel
def Q13 (Z : State) (a : Addr) (x : Addr) (y : Addr) (h0 : Heap) (n0 : Nat) (v : Option Value) (h : Heap) (L : List Loc) : Prop := v = none ∧ Fr n0 L ∧ Keep h0 h [a] ∧ Fld Z h a "com/example/kept_triples/kepttriples/model/LabelLexer" "input" "Ljava/lang/String;" (.ref x)
set_option maxRecDepth 65536 in
set_option maxHeartbeats 40000000 in
theorem rm13 (l : Launch) (Z : State) (a0 : Array Value) (hw : ∀ d ∈ tables_1, d.before a0 Z = true) (ws : List Jvm.Cond) (a : Addr) (x : Addr) (y : Addr) (h0 : Heap) (n0 : Nat) (Z0 : n0 ≤ h0.size) (Ex : Exa Z h0 a "com/example/kept_triples/kepttriples/model/LabelLexer") (F1 : Fld Z h0 a "com/example/kept_triples/kepttriples/model/LabelLexer" "input" "Ljava/lang/String;" .null) (F2 : Fld Z h0 a "com/example/kept_triples/kepttriples/model/LabelLexer" "subject" "Ljava/lang/String;" .null) (ha : n0 ≤ a) :
    MetFree l (⟨"com/example/kept_triples/kepttriples/model/LabelLexer", "<init>", "(Ljava/lang/String;Ljava/lang/String;)V"⟩ : MethodName) (head1 (Jvm.Cond.code (⟨"com/example/kept_triples/kepttriples/model/LabelLexer", "<init>", "(Ljava/lang/String;Ljava/lang/String;)V"⟩ : MethodName) prog_4_method_1_code 3 none :: ws) ({ frames := 1, cells := 0, slots := 0, locals := 14 } : Room)) (fun aa_ U => aa_ = #[(.ref a), (.ref x), (.ref y)] ∧ Z.Warmed39 U.vm ∧ U.heap = h0) (fun _ _ _ _ _ => True) (fun _ U o U' => ∃ v L, o = .returned v ∧ Q13 Z a x y h0 n0 v U'.heap L ∧ FrameEnd U o U' L ({ frames := 1, cells := 0, slots := 0, locals := 14 } : Room).cells ({ frames := 1, cells := 0, slots := 0, locals := 14 } : Room).slots) := by
  refine MetFree.of_bodySF (plainFor_of_name pn7) hisR ?_
  intro p e s m args below meth c s₁ Bd hml0 hP hK
  obtain ⟨rfl, hZ, hh⟩ := hP
  have hx := Bd.exec
  have hby := Bd.bytes
  have hml : c.maxLocals = 3 := hml0
  have hown : s.vm.findClass "com/example/kept_triples/kepttriples/model/LabelLexer" = some m.cls := findClass_of_methodNamed Bd.named
  have hnm := (name_of_methodNamed Bd.named Bd.method).1
  have X0 : Stand p l e ({ frames := 1, cells := 0, slots := 0, locals := 14 } : Room) s m #[(.ref a), (.ref x), (.ref y)] below meth c s₁ [] 0 0 := Stand.of_body Bd
  have e0 : s₁.heap = h0 := by rw [← hh, Bd.state]; rfl
  have N0 := Fr.nil n0
  obtain ⟨G, hG⟩ : ∃ G, G = entryFrame m #[(.ref a), (.ref x), (.ref y)] 3 := ⟨_, rfl⟩
  have S0 : own_Go p e below s₁ G s₁ (mkF m 0 #[.val (.ref a), .val (.ref x), .val (.ref y)] []) := fun tg_ kk_ => castTop (by rw [hG]; first | rfl | simp [entryFrame, mkF, argsToLocals, Value.category, maxLocals]) kk_
  have S188 : own_Go p e below s₁ G s₁ (mkF m 1 #[.val (.ref a), .val (.ref x), .val (.ref y)] [(.ref a)]) := fun tg_ kk_ => S0 tg_ (by
    refine XS.aloadN X0.here hx rfl (hb hby d13_0) rfl rfl ?_
    exact kk_)
  obtain ⟨T189, X189, e189, st189⟩ := initO X0 hx hZ hown (hw _ (List.mem_of_getElem? (i := 65) rfl)) (hw _ (List.mem_of_getElem? (i := 18) rfl)) (hw _ (List.mem_of_getElem? (i := 19) rfl)) e0 (g := (mkF m 1 #[.val (.ref a), .val (.ref x), .val (.ref y)] [(.ref a)])) rfl (by rw [hml]; rfl) rfl (hb hby d13_1) (by decide) (W := 0) (by show 2 * 0 + _ ≤ _; exact Nat.le_of_eq rfl) (by decide)
  have S190 : own_Go p e below s₁ G T189 (mkF m 4 #[.val (.ref a), .val (.ref x), .val (.ref y)] []) := fun tg_ kk_ => S188 tg_ (st189 tg_ kk_)
  have S191 : own_Go p e below s₁ G T189 (mkF m 6 #[.val (.ref a), .val (.ref x), .val (.ref y)] [(.ref x), (.ref a)]) := fun tg_ kk_ => S190 tg_ (by
    refine XS.aloadN X189.here hx rfl (hb hby d13_4) rfl rfl ?_
    show Steps p.tables e below (T189.setTop (mkF m 5 #[.val (.ref a), .val (.ref x), .val (.ref y)] [(.ref a)])) _
    refine XS.aloadN X189.here hx rfl (hb hby d13_5) rfl rfl ?_
    exact kk_)
  obtain ⟨T192, h192, X192, e192, W192, st192⟩ := putF X189 hx hZ hown (host := "") (Or.inl (hw _ (List.mem_of_getElem? (i := 66) rfl))) Via.refl e189 F1 Ex (Or.inr ⟨(hw _ (List.mem_of_getElem? (i := 67) rfl)), rfl, hnm⟩) (hw _ (List.mem_of_getElem? (i := 57) rfl)) (ty := (.object "java/lang/String")) (by decide) rfl rfl (g := (mkF m 6 #[.val (.ref a), .val (.ref x), .val (.ref y)] [(.ref x), (.ref a)])) rfl rfl (hb hby d13_6)
  have S193 : own_Go p e below s₁ G T192 (mkF m 9 #[.val (.ref a), .val (.ref x), .val (.ref y)] []) := fun tg_ kk_ => S191 tg_ (st192 tg_ kk_)
  have N1 := Fr.snoc X192 N0 ha
  have K1 : Keep h0 h192 [a] := (Keep.refl h0 [a]).wr W192 (Or.inl (List.mem_of_getElem? (i := 0) rfl))
  have F1a := F1.same W192
  have F2a := F2.other W192 (Or.inr (slot_ne (C := "com/example/kept_triples/kepttriples/model/LabelLexer") (a0 := a0) (Or.inr (hw _ (List.mem_of_getElem? (i := 69) rfl))) (Or.inr (hw _ (List.mem_of_getElem? (i := 67) rfl))) (by decide) (t := .object "java/lang/String") (by decide) (t' := .object "java/lang/String") (by decide)))
  have S194 : own_Go p e below s₁ G T192 (mkF m 11 #[.val (.ref a), .val (.ref x), .val (.ref y)] [(.ref y), (.ref a)]) := fun tg_ kk_ => S193 tg_ (by
    refine XS.aloadN X192.here hx rfl (hb hby d13_9) rfl rfl ?_
    show Steps p.tables e below (T192.setTop (mkF m 10 #[.val (.ref a), .val (.ref x), .val (.ref y)] [(.ref a)])) _
    refine XS.aloadN X192.here hx rfl (hb hby d13_10) rfl rfl ?_
    exact kk_)
  obtain ⟨T195, h195, X195, e195, W195, st195⟩ := putF X192 hx hZ hown (host := "") (Or.inl (hw _ (List.mem_of_getElem? (i := 68) rfl))) Via.refl e192 F2a (Ex.wr W192) (Or.inr ⟨(hw _ (List.mem_of_getElem? (i := 69) rfl)), rfl, hnm⟩) (hw _ (List.mem_of_getElem? (i := 57) rfl)) (ty := (.object "java/lang/String")) (by decide) rfl rfl (g := (mkF m 11 #[.val (.ref a), .val (.ref x), .val (.ref y)] [(.ref y), (.ref a)])) rfl rfl (hb hby d13_11)
  have S196 : own_Go p e below s₁ G T195 (mkF m 14 #[.val (.ref a), .val (.ref x), .val (.ref y)] []) := fun tg_ kk_ => S194 tg_ (st195 tg_ kk_)
  have N2 := Fr.snoc X195 N1 ha
  have K2 : Keep h0 h195 [a] := K1.wr W195 (Or.inl (List.mem_of_getElem? (i := 0) rfl))
  have F1b := F1a.other W195 (Or.inr (slot_ne (C := "com/example/kept_triples/kepttriples/model/LabelLexer") (a0 := a0) (Or.inr (hw _ (List.mem_of_getElem? (i := 67) rfl))) (Or.inr (hw _ (List.mem_of_getElem? (i := 69) rfl))) (by decide) (t := .object "java/lang/String") (by decide) (t' := .object "java/lang/String") (by decide)))
  obtain ⟨fs, hr, hrun, hended, hW, hsame⟩ := X195.leave (v := none) (fun _ => rfl)
  refine ⟨_, _, ?_, hrun, hended, _, _, rfl, ?_, ⟨_, rfl⟩, hW, hsame.mono (by decide) (by decide)⟩
  · rw [← hG]; exact S196 _ (X195.returnOut hx Bd.returns (hb hby d13_14) hr)
  · show Q13 Z a x y h0 n0 _ T195.heap _
    rw [e195]
    exact ⟨rfl, N2, K2, F1b⟩
def Q14 (Z : State) (a : Addr) (x : Addr) (t : Addr) (cs : List Int32) (en : Nat) (h0 : Heap) (n0 : Nat) (v : Option Value) (h : Heap) (L : List Loc) : Prop := v = some (.int ((Int32.ofNat en - Int32.ofNat (own_cnt cs en en 0)) + 1)) ∧ Fr n0 L ∧ h0 = h
set_option maxRecDepth 65536 in
set_option maxHeartbeats 40000000 in
theorem rm14 (l : Launch) (Z : State) (a0 : Array Value) (hw : ∀ d ∈ tables_1, d.before a0 Z = true) (ws : List Jvm.Cond) (a : Addr) (x : Addr) (t : Addr) (cs : List Int32) (en : Nat) (h0 : Heap) (n0 : Nat) (Z0 : n0 ≤ h0.size) (z : Int32) (O : Old Z n0 h0) (O2 : Sta Z Z.heap "java/lang/String" "COMPACT_STRINGS" "Z" (.int z)) (P5 : ¬ z = 0) (F1 : Fld Z h0 a "com/example/kept_triples/kepttriples/model/LabelLexer" "input" "Ljava/lang/String;" (.ref x)) (S : own_Str Z h0 x t cs) (hn : cs.length ≤ 1000) (hen : en ≤ cs.length) (hch : ∀ j, j < cs.length → own_Ch (cs.getD j 0)) (A16 : own_A16 Z) :
    MetFree l (⟨"com/example/kept_triples/kepttriples/model/LabelLexer", "column", "(I)I"⟩ : MethodName) (head1 (Jvm.Cond.code (⟨"com/example/kept_triples/kepttriples/model/LabelLexer", "column", "(I)I"⟩ : MethodName) prog_4_method_4_code 2 (some .int) :: ws) ({ frames := 4, cells := 0, slots := 0, locals := 80 } : Room)) (fun aa_ U => aa_ = #[(.ref a), (.int (Int32.ofNat en))] ∧ Z.Warmed39 U.vm ∧ U.heap = h0) (fun _ _ _ _ _ => True) (fun _ U o U' => ∃ v L, o = .returned v ∧ Q14 Z a x t cs en h0 n0 v U'.heap L ∧ FrameEnd U o U' L ({ frames := 4, cells := 0, slots := 0, locals := 80 } : Room).cells ({ frames := 4, cells := 0, slots := 0, locals := 80 } : Room).slots) := by
  refine MetFree.of_bodySF (plainFor_of_name pn7) hisR ?_
  intro p e s m args below meth c s₁ Bd hml0 hP hK
  obtain ⟨rfl, hZ, hh⟩ := hP
  have hx := Bd.exec
  have hby := Bd.bytes
  have hml : c.maxLocals = 2 := hml0
  have hown : s.vm.findClass "com/example/kept_triples/kepttriples/model/LabelLexer" = some m.cls := findClass_of_methodNamed Bd.named
  have hnm := (name_of_methodNamed Bd.named Bd.method).1
  have X0 : Stand p l e ({ frames := 4, cells := 0, slots := 0, locals := 80 } : Room) s m #[(.ref a), (.int (Int32.ofNat en))] below meth c s₁ [] 0 0 := Stand.of_body Bd
  have e0 : s₁.heap = h0 := by rw [← hh, Bd.state]; rfl
  have N0 := Fr.nil n0
  obtain ⟨G, hG⟩ : ∃ G, G = entryFrame m #[(.ref a), (.int (Int32.ofNat en))] 2 := ⟨_, rfl⟩
  have S0 : own_Go p e below s₁ G s₁ (mkF m 0 #[.val (.ref a), .val (.int (Int32.ofNat en))] []) := fun tg_ kk_ => castTop (by rw [hG]; first | rfl | simp [entryFrame, mkF, argsToLocals, Value.category, maxLocals]) kk_
  have S197 : own_Go p e below s₁ G s₁ (mkF m 1 #[.val (.ref a), .val (.int (Int32.ofNat en))] [(.ref a)]) := fun tg_ kk_ => S0 tg_ (by
    refine XS.aloadN X0.here hx rfl (hb hby d14_0) rfl rfl ?_
    exact kk_)
  obtain ⟨T198, X198, e198, st198⟩ := getF X0 hx hZ hown (host := "") (Or.inl (hw _ (List.mem_of_getElem? (i := 66) rfl))) Via.refl e0 F1 (g := (mkF m 1 #[.val (.ref a), .val (.int (Int32.ofNat en))] [(.ref a)])) rfl rfl (hb hby d14_1)
  have S199 : own_Go p e below s₁ G T198 (mkF m 4 #[.val (.ref a), .val (.int (Int32.ofNat en))] [(.ref x)]) := fun tg_ kk_ => S197 tg_ (st198 tg_ kk_)
  have S200 : own_Go p e below s₁ G T198 (mkF m 6 #[.val (.ref a), .val (.int (Int32.ofNat en))] [(.int (Int32.ofNat en)), (.int (0 : Int32)), (.ref x)]) := fun tg_ kk_ => S199 tg_ (by
    refine XS.iconst X198.here hx rfl (hb hby d14_4) ?_
    show Steps p.tables e below (T198.setTop (mkF m 5 #[.val (.ref a), .val (.int (Int32.ofNat en))] [(.int (0 : Int32)), (.ref x)])) _
    refine XS.iloadN X198.here hx rfl (hb hby d14_5) rfl ?_
    exact kk_)
  obtain ⟨_, T201, h201, L201, X201, e201, hQ201, st201⟩ := own_callV X198 hx hZ (y := (⟨"java/lang/String", "codePointCount", "(II)I"⟩ : MethodName)) hown (hw _ (List.mem_of_getElem? (i := 75) rfl)) (hw _ (List.mem_of_getElem? (i := 76) rfl)) (hw _ (List.mem_of_getElem? (i := 78) rfl)) (hw _ (List.mem_of_getElem? (i := 77) rfl)) (hw _ (List.mem_of_getElem? (i := 9) rfl)) (hw _ (List.mem_of_getElem? (i := 79) rfl)) (by decide) 0 (g := (mkF m 6 #[.val (.ref a), .val (.int (Int32.ofNat en))] [(.int (Int32.ofNat en)), (.int (0 : Int32)), (.ref x)])) rfl (by rw [hml]; rfl) x S.1 [(.int (0 : Int32)), (.int (Int32.ofNat en))] [] (rm15 l Z a0 hw [] x t cs en h0 n0 Z0 z O O2 P5 S hn hen hch A16) (lenOf pd14 rfl) rfl (by show 2 * 0 + _ ≤ _; exact Nat.le_of_eq rfl) (hb hby d14_6) (by decide) (by decide) e198 (by decide) (by decide)
  obtain ⟨rfl, N201, rfl⟩ := hQ201
  have S202 : own_Go p e below s₁ G T201 (mkF m 9 #[.val (.ref a), .val (.int (Int32.ofNat en))] [(.int (Int32.ofNat en - Int32.ofNat (own_cnt cs en en 0)))]) := fun tg_ kk_ => S200 tg_ (st201 tg_ kk_)
  have M1 := Fr.app N0 N201
  have S203 : own_Go p e below s₁ G T201 (mkF m 11 #[.val (.ref a), .val (.int (Int32.ofNat en))] [(.int ((Int32.ofNat en - Int32.ofNat (own_cnt cs en en 0)) + (1 : Int32)))]) := fun tg_ kk_ => S202 tg_ (by
    refine XS.iconst X201.here hx rfl (hb hby d14_9) ?_
    show Steps p.tables e below (T201.setTop (mkF m 10 #[.val (.ref a), .val (.int (Int32.ofNat en))] [(.int (1 : Int32)), (.int (Int32.ofNat en - Int32.ofNat (own_cnt cs en en 0)))])) _
    refine XS.iadd X201.here hx rfl (hb hby d14_10) rfl ?_
    exact kk_)
  obtain ⟨fs, hr, hrun, hended, hW, hsame⟩ := X201.leave (v := some (.int ((Int32.ofNat en - Int32.ofNat (own_cnt cs en en 0)) + (1 : Int32)))) (fun h => by rw [Bd.returns] at h; cases h)
  refine ⟨_, _, ?_, hrun, hended, _, _, rfl, ?_, ⟨_, rfl⟩, hW, hsame.mono (by decide) (by decide)⟩
  · rw [← hG]; exact S203 _ (retI X201 hx Bd.returns (hb hby d14_11) hr)
  · show Q14 Z a x t cs en h0 n0 _ T201.heap _
    rw [e201]
    exact ⟨rfl, M1, rfl⟩
theorem own_wS0 {Z : State} {a0 : Array Value} (hw : ∀ d ∈ tables_1, d.before a0 Z = true) : ∀ a ∈ Bundle.stringAtoms, a.before a0 Z = true := by
  intro a ha
  have h : ∀ a ∈ Bundle.stringAtoms, a ∈ tables_1 := by decide +kernel
  exact hw a (h a ha)
theorem own_n5 (x : Int32) : (x &&& 2147483647) - ((x &&& 2147483647) / 5) * 5 = 0 ∨ (x &&& 2147483647) - ((x &&& 2147483647) / 5) * 5 = 1 ∨ (x &&& 2147483647) - ((x &&& 2147483647) / 5) * 5 = 2 ∨ (x &&& 2147483647) - ((x &&& 2147483647) / 5) * 5 = 3 ∨ (x &&& 2147483647) - ((x &&& 2147483647) / 5) * 5 = 4 := by
  have h1 := c_mask x 2147483647 31 (by decide) (by decide)
  generalize x &&& 2147483647 = y at *
  have h0 : 0 ≤ y.toInt := by omega
  have d := (c_idiv y 5 5 rfl (by decide)).1 h0
  have m := c_imul (y / 5) 5
  have s := c_isub y (y / 5 * 5)
  have r1 := rng32 y; have r2 := rng32 (y / 5 * 5); have r3 := rng32 (y - y / 5 * 5)
  have e5 : (5 : Int32).toInt = 5 := rfl
  have k : (y - y / 5 * 5).toInt = y.toInt % 5 := by rw [e5] at m; omega
  have : (y - y / 5 * 5).toInt = 0 ∨ (y - y / 5 * 5).toInt = 1 ∨ (y - y / 5 * 5).toInt = 2 ∨ (y - y / 5 * 5).toInt = 3 ∨ (y - y / 5 * 5).toInt = 4 := by omega
  rcases this with h | h | h | h | h
  · exact Or.inl (Int32.toInt_inj.mp h)
  · exact Or.inr (Or.inl (Int32.toInt_inj.mp h))
  · exact Or.inr (Or.inr (Or.inl (Int32.toInt_inj.mp h)))
  · exact Or.inr (Or.inr (Or.inr (Or.inl (Int32.toInt_inj.mp h))))
  · exact Or.inr (Or.inr (Or.inr (Or.inr (Int32.toInt_inj.mp h))))
theorem own_pr_no {a b c : Int32} (h : own_pr a b) : ¬ own_pr b c := fun q => h.2.2.1 q.2.1
theorem own_pr_iff {a b : Int32} : own_pr a b ↔ ((¬ a < 55296 ∧ a < 56320) ∧ (¬ b < 56320 ∧ b < 57344)) := by unfold own_pr; exact ⟨fun h => ⟨⟨h.1, h.2.1⟩, h.2.2⟩, fun h => ⟨h.1.1, h.1.2, h.2⟩⟩
/-- one turn more of the count, by the pair at its place -/
theorem own_cnt_p {cs : List Int32} {e f i : Nat} (h : i + 1 < e) (q : own_pr (cs.getD i 0) (cs.getD (i + 1) 0)) : own_cnt cs e (f + 1) i = own_cnt cs e f (i + 2) + 1 := by
  rw [own_cnt_in h, if_pos (own_pr_iff.mp q).1, if_pos (own_pr_iff.mp q).2]
theorem own_cnt_n {cs : List Int32} {e f i : Nat} (h : i + 1 < e) (q : ¬ own_pr (cs.getD i 0) (cs.getD (i + 1) 0)) : own_cnt cs e (f + 1) i = own_cnt cs e f (i + 1) := by
  rw [own_cnt_in h]
  by_cases h1 : ¬ cs.getD i 0 < 55296 ∧ cs.getD i 0 < 56320
  · rw [if_pos h1, if_neg (fun h2 => q (own_pr_iff.mpr ⟨h1, h2⟩))]
  · rw [if_neg h1]
theorem own_fit_ch {c : Int32} (h : own_Ch c) : fits .char (.int c) = true := by rw [← own_nar_char h]; exact fits_nar_char c
def Q0 (Z : State) (p0 : Int32) (p1 : Int32) (p2 : Int32) (p3 : Int32) (p4 : Int32) (h0 : Heap) (n0 : Nat) (v : Option Value) (h : Heap) (L : List Loc) : Prop := v = some (.int 1) ∧ Fr n0 L
set_option maxRecDepth 65536 in
set_option maxHeartbeats 40000000 in
theorem rm0 (l : Launch) (Z : State) (a0 : Array Value) (hw : ∀ d ∈ tables_1, d.before a0 Z = true) (ws : List Jvm.Cond) (p0 : Int32) (p1 : Int32) (p2 : Int32) (p3 : Int32) (p4 : Int32) (h0 : Heap) (n0 : Nat) (Z0 : n0 ≤ h0.size) (z : Int32) (O : Old Z n0 h0) (O2 : Sta Z Z.heap "java/lang/String" "COMPACT_STRINGS" "Z" (.int z)) (P5 : ¬ z = 0) (A16 : own_A16 Z) :
    MetFree l x (head1 (Jvm.Cond.code x code maxLocals ret :: ws) room_1) (fun aa_ U => aa_ = #[(.int p0), (.int p1), (.int p2), (.int p3), (.int p4)] ∧ Z.Warmed39 U.vm ∧ U.heap = h0) (fun _ _ _ _ _ => True) (fun _ U o U' => ∃ v L, o = .returned v ∧ Q0 Z p0 p1 p2 p3 p4 h0 n0 v U'.heap L ∧ ReturnedEndW U o U' L 24 1152) := by
  refine MetFree.of_bodySF (plainFor_of_name pn3) hisR ?_
  intro p e s m args below meth c s₁ Bd hml0 hP hK
  obtain ⟨rfl, hZ, hh⟩ := hP
  have hx := Bd.exec
  have hby := Bd.bytes
  have hml : c.maxLocals = 12 := hml0
  have hown : s.vm.findClass "com/example/kept_triples/kepttriples/model/LabelLexerColumnPinLaw" = some m.cls := findClass_of_methodNamed Bd.named
  have hnm := (name_of_methodNamed Bd.named Bd.method).1
  have X0 : Stand p l e room_1 s m #[(.int p0), (.int p1), (.int p2), (.int p3), (.int p4)] below meth c s₁ [] 0 0 := Stand.of_body Bd
  have e0 : s₁.heap = h0 := by rw [← hh, Bd.state]; rfl
  have N0 := Fr.nil n0
  obtain ⟨G, hG⟩ : ∃ G, G = entryFrame m #[(.int p0), (.int p1), (.int p2), (.int p3), (.int p4)] maxLocals := ⟨_, rfl⟩
  have S0 : own_Go p e below s₁ G s₁ (mkF m 0 #[.val (.int p0), .val (.int p1), .val (.int p2), .val (.int p3), .val (.int p4), .unset, .unset, .unset, .unset, .unset, .unset, .unset] []) := fun tg_ kk_ => castTop (by rw [hG]; first | rfl | simp [entryFrame, mkF, argsToLocals, Value.category, maxLocals]) kk_
  have S204 : own_Go p e below s₁ G s₁ (mkF m 1 #[.val (.int p0), .val (.int p1), .val (.int p2), .val (.int p3), .val (.int p4), .unset, .unset, .unset, .unset, .unset, .unset, .unset] [(.int (4 : Int32))]) := fun tg_ kk_ => S0 tg_ (by
    refine XS.iconst X0.here hx rfl (hb hby at_0) ?_
    exact kk_)
  obtain ⟨Tp1, hp1, kp1, Xp1, ep1, Ep1, Ap1, stp1⟩ := newP X0 hx hZ (hw _ (List.mem_of_getElem? (i := 0) rfl)) e0 (g := (mkF m 1 #[.val (.int p0), .val (.int p1), .val (.int p2), .val (.int p3), .val (.int p4), .unset, .unset, .unset, .unset, .unset, .unset, .unset] [(.int (4 : Int32))])) rfl (hb hby at_1) rfl (by decide) (cap := 4) (by decide) (by decide) (by decide) (by decide)
  have S205 : own_Go p e below s₁ G Tp1 (mkF m 3 #[.val (.int p0), .val (.int p1), .val (.int p2), .val (.int p3), .val (.int p4), .unset, .unset, .unset, .unset, .unset, .unset, .unset] [(.ref h0.size)]) := fun tg_ kk_ => S204 tg_ (stp1 tg_ kk_)
  obtain ⟨b, gb⟩ : ∃ z, z = h0.size := ⟨_, rfl⟩
  rw [← gb] at S205
  rw [← gb] at Ap1
  have hb0 : n0 ≤ b := Nat.le_trans Z0 (Nat.le_of_eq gb.symm)
  have V0 : Arv Z hp1 b kp1 .char (4 : Int32) [] (.int 0) := Arv.new Ap1 (by decide)
  have Oq := O.ext Ep1
  have Zq := own_sub Z0 Ep1
  have S206 : own_Go p e below s₁ G Tp1 (mkF m 9 #[.val (.int p0), .val (.int p1), .val (.int p2), .val (.int p3), .val (.int p4), .val (.ref b), .unset, .unset, .unset, .unset, .unset, .unset] [(.int p0), (.int (0 : Int32)), (.ref b)]) := fun tg_ kk_ => S205 tg_ (by
    refine XS.astore Xp1.here hx rfl (hb hby at_3) rfl rfl (l' := #[.val (.int p0), .val (.int p1), .val (.int p2), .val (.int p3), .val (.int p4), .val (.ref b), .unset, .unset, .unset, .unset, .unset, .unset]) rfl ?_
    show Steps p.tables e below (Tp1.setTop (mkF m 5 #[.val (.int p0), .val (.int p1), .val (.int p2), .val (.int p3), .val (.int p4), .val (.ref b), .unset, .unset, .unset, .unset, .unset, .unset] [])) _
    refine XS.aload Xp1.here hx rfl (hb hby at_5) rfl rfl ?_
    show Steps p.tables e below (Tp1.setTop (mkF m 7 #[.val (.int p0), .val (.int p1), .val (.int p2), .val (.int p3), .val (.int p4), .val (.ref b), .unset, .unset, .unset, .unset, .unset, .unset] [(.ref b)])) _
    refine XS.iconst Xp1.here hx rfl (hb hby at_7) ?_
    show Steps p.tables e below (Tp1.setTop (mkF m 8 #[.val (.int p0), .val (.int p1), .val (.int p2), .val (.int p3), .val (.int p4), .val (.ref b), .unset, .unset, .unset, .unset, .unset, .unset] [(.int (0 : Int32)), (.ref b)])) _
    refine XS.iloadN Xp1.here hx rfl (hb hby at_8) rfl ?_
    exact kk_)
  obtain ⟨_, T207, h207, L207, X207, e207, hQ207, st207⟩ := own_callS Xp1 hx hZ (y := (⟨"com/example/kept_triples/kepttriples/model/LabelLexerColumnPinLaw", "draw", "(I)C"⟩ : MethodName)) hown (hw _ (List.mem_of_getElem? (i := 1) rfl)) (hw _ (List.mem_of_getElem? (i := 2) rfl)) (hw _ (List.mem_of_getElem? (i := 3) rfl)) (hw _ (List.mem_of_getElem? (i := 4) rfl)) (by decide) 2 (g := (mkF m 9 #[.val (.int p0), .val (.int p1), .val (.int p2), .val (.int p3), .val (.int p4), .val (.ref b), .unset, .unset, .unset, .unset, .unset, .unset] [(.int p0), (.int (0 : Int32)), (.ref b)])) rfl (by rw [hml]; rfl) [(.int p0)] [(.int (0 : Int32)), (.ref b)] (rm1 l Z a0 hw [] p0 hp1 n0 Zq) (lenOf pd2 rfl) rfl (by show 2 * 0 + _ ≤ _; exact Nat.le_of_eq rfl) (hb hby at_9) (by decide) (by decide) ep1 (by decide) (by decide)
  obtain ⟨c0, hc0, rfl, N207, rfl⟩ := hQ207
  have S208 : own_Go p e below s₁ G T207 (mkF m 12 #[.val (.int p0), .val (.int p1), .val (.int p2), .val (.int p3), .val (.int p4), .val (.ref b), .unset, .unset, .unset, .unset, .unset, .unset] [(.int c0), (.int (0 : Int32)), (.ref b)]) := fun tg_ kk_ => S206 tg_ (st207 tg_ kk_)
  have NA0 := Fr.app N0 N207
  obtain ⟨cl0, B0, b0, z0, y0, H0, F0⟩ := id V0
  obtain ⟨U0, u0, Y0, f0, W0, su0⟩ := stC X207 hx hZ e207 B0 (j := (0 : Int32)) (inb_of z0 (by decide)) (g := (mkF m 12 #[.val (.int p0), .val (.int p1), .val (.int p2), .val (.int p3), .val (.int p4), .val (.ref b), .unset, .unset, .unset, .unset, .unset, .unset] [(.int c0), (.int (0 : Int32)), (.ref b)])) rfl rfl (hb hby at_12)
  have S209 : own_Go p e below s₁ G U0 (mkF m 13 #[.val (.int p0), .val (.int p1), .val (.int p2), .val (.int p3), .val (.int p4), .val (.ref b), .unset, .unset, .unset, .unset, .unset, .unset] []) := fun tg_ kk_ => S208 tg_ (su0 tg_ kk_)
  rw [own_nar_char hc0] at W0
  have V1 : Arv Z u0 b kp1 .char (4 : Int32) [.int c0] (.int 0) := own_push V0 (own_fit_ch hc0) W0 rfl
  have NB0 := Fr.snoc Y0 NA0 hb0
  have O0a := Oq.wr W0 hb0
  have Z0a : n0 ≤ u0.size := by rw [W0.size]; exact Zq
  have S210 : own_Go p e below s₁ G U0 (mkF m 17 #[.val (.int p0), .val (.int p1), .val (.int p2), .val (.int p3), .val (.int p4), .val (.ref b), .unset, .unset, .unset, .unset, .unset, .unset] [(.int p1), (.int (1 : Int32)), (.ref b)]) := fun tg_ kk_ => S209 tg_ (by
    refine XS.aload Y0.here hx rfl (hb hby at_13) rfl rfl ?_
    show Steps p.tables e below (U0.setTop (mkF m 15 #[.val (.int p0), .val (.int p1), .val (.int p2), .val (.int p3), .val (.int p4), .val (.ref b), .unset, .unset, .unset, .unset, .unset, .unset] [(.ref b)])) _
    refine XS.iconst Y0.here hx rfl (hb hby at_15) ?_
    show Steps p.tables e below (U0.setTop (mkF m 16 #[.val (.int p0), .val (.int p1), .val (.int p2), .val (.int p3), .val (.int p4), .val (.ref b), .unset, .unset, .unset, .unset, .unset, .unset] [(.int (1 : Int32)), (.ref b)])) _
    refine XS.iloadN Y0.here hx rfl (hb hby at_16) rfl ?_
    exact kk_)
  obtain ⟨_, T211, h211, L211, X211, e211, hQ211, st211⟩ := own_callS Y0 hx hZ (y := (⟨"com/example/kept_triples/kepttriples/model/LabelLexerColumnPinLaw", "draw", "(I)C"⟩ : MethodName)) hown (hw _ (List.mem_of_getElem? (i := 1) rfl)) (hw _ (List.mem_of_getElem? (i := 2) rfl)) (hw _ (List.mem_of_getElem? (i := 3) rfl)) (hw _ (List.mem_of_getElem? (i := 4) rfl)) (by decide) 2 (g := (mkF m 17 #[.val (.int p0), .val (.int p1), .val (.int p2), .val (.int p3), .val (.int p4), .val (.ref b), .unset, .unset, .unset, .unset, .unset, .unset] [(.int p1), (.int (1 : Int32)), (.ref b)])) rfl (by rw [hml]; rfl) [(.int p1)] [(.int (1 : Int32)), (.ref b)] (rm1 l Z a0 hw [] p1 u0 n0 Z0a) (lenOf pd2 rfl) rfl (by show 2 * 0 + _ ≤ _; exact Nat.le_of_eq rfl) (hb hby at_17) (by decide) (by decide) f0 (by decide) (by decide)
  obtain ⟨c1, hc1, rfl, N211, rfl⟩ := hQ211
  have S212 : own_Go p e below s₁ G T211 (mkF m 20 #[.val (.int p0), .val (.int p1), .val (.int p2), .val (.int p3), .val (.int p4), .val (.ref b), .unset, .unset, .unset, .unset, .unset, .unset] [(.int c1), (.int (1 : Int32)), (.ref b)]) := fun tg_ kk_ => S210 tg_ (st211 tg_ kk_)
  have NA1 := Fr.app NB0 N211
  obtain ⟨cl1, B1, b1, z1, y1, H1, F1⟩ := id V1
  obtain ⟨U1, u1, Y1, f1, W1, su1⟩ := stC X211 hx hZ e211 B1 (j := (1 : Int32)) (inb_of z1 (by decide)) (g := (mkF m 20 #[.val (.int p0), .val (.int p1), .val (.int p2), .val (.int p3), .val (.int p4), .val (.ref b), .unset, .unset, .unset, .unset, .unset, .unset] [(.int c1), (.int (1 : Int32)), (.ref b)])) rfl rfl (hb hby at_20)
  have S213 : own_Go p e below s₁ G U1 (mkF m 21 #[.val (.int p0), .val (.int p1), .val (.int p2), .val (.int p3), .val (.int p4), .val (.ref b), .unset, .unset, .unset, .unset, .unset, .unset] []) := fun tg_ kk_ => S212 tg_ (su1 tg_ kk_)
  rw [own_nar_char hc1] at W1
  have V2 : Arv Z u1 b kp1 .char (4 : Int32) [.int c0, .int c1] (.int 0) := own_push V1 (own_fit_ch hc1) W1 rfl
  have NB1 := Fr.snoc Y1 NA1 hb0
  have O1a := O0a.wr W1 hb0
  have Z1a : n0 ≤ u1.size := by rw [W1.size]; exact Z0a
  have S214 : own_Go p e below s₁ G U1 (mkF m 25 #[.val (.int p0), .val (.int p1), .val (.int p2), .val (.int p3), .val (.int p4), .val (.ref b), .unset, .unset, .unset, .unset, .unset, .unset] [(.int p2), (.int (2 : Int32)), (.ref b)]) := fun tg_ kk_ => S213 tg_ (by
    refine XS.aload Y1.here hx rfl (hb hby at_21) rfl rfl ?_
    show Steps p.tables e below (U1.setTop (mkF m 23 #[.val (.int p0), .val (.int p1), .val (.int p2), .val (.int p3), .val (.int p4), .val (.ref b), .unset, .unset, .unset, .unset, .unset, .unset] [(.ref b)])) _
    refine XS.iconst Y1.here hx rfl (hb hby at_23) ?_
    show Steps p.tables e below (U1.setTop (mkF m 24 #[.val (.int p0), .val (.int p1), .val (.int p2), .val (.int p3), .val (.int p4), .val (.ref b), .unset, .unset, .unset, .unset, .unset, .unset] [(.int (2 : Int32)), (.ref b)])) _
    refine XS.iloadN Y1.here hx rfl (hb hby at_24) rfl ?_
    exact kk_)
  obtain ⟨_, T215, h215, L215, X215, e215, hQ215, st215⟩ := own_callS Y1 hx hZ (y := (⟨"com/example/kept_triples/kepttriples/model/LabelLexerColumnPinLaw", "draw", "(I)C"⟩ : MethodName)) hown (hw _ (List.mem_of_getElem? (i := 1) rfl)) (hw _ (List.mem_of_getElem? (i := 2) rfl)) (hw _ (List.mem_of_getElem? (i := 3) rfl)) (hw _ (List.mem_of_getElem? (i := 4) rfl)) (by decide) 2 (g := (mkF m 25 #[.val (.int p0), .val (.int p1), .val (.int p2), .val (.int p3), .val (.int p4), .val (.ref b), .unset, .unset, .unset, .unset, .unset, .unset] [(.int p2), (.int (2 : Int32)), (.ref b)])) rfl (by rw [hml]; rfl) [(.int p2)] [(.int (2 : Int32)), (.ref b)] (rm1 l Z a0 hw [] p2 u1 n0 Z1a) (lenOf pd2 rfl) rfl (by show 2 * 0 + _ ≤ _; exact Nat.le_of_eq rfl) (hb hby at_25) (by decide) (by decide) f1 (by decide) (by decide)
  obtain ⟨c2, hc2, rfl, N215, rfl⟩ := hQ215
  have S216 : own_Go p e below s₁ G T215 (mkF m 28 #[.val (.int p0), .val (.int p1), .val (.int p2), .val (.int p3), .val (.int p4), .val (.ref b), .unset, .unset, .unset, .unset, .unset, .unset] [(.int c2), (.int (2 : Int32)), (.ref b)]) := fun tg_ kk_ => S214 tg_ (st215 tg_ kk_)
  have NA2 := Fr.app NB1 N215
  obtain ⟨cl2, B2, b2, z2, y2, H2, F2⟩ := id V2
  obtain ⟨U2, u2, Y2, f2, W2, su2⟩ := stC X215 hx hZ e215 B2 (j := (2 : Int32)) (inb_of z2 (by decide)) (g := (mkF m 28 #[.val (.int p0), .val (.int p1), .val (.int p2), .val (.int p3), .val (.int p4), .val (.ref b), .unset, .unset, .unset, .unset, .unset, .unset] [(.int c2), (.int (2 : Int32)), (.ref b)])) rfl rfl (hb hby at_28)
  have S217 : own_Go p e below s₁ G U2 (mkF m 29 #[.val (.int p0), .val (.int p1), .val (.int p2), .val (.int p3), .val (.int p4), .val (.ref b), .unset, .unset, .unset, .unset, .unset, .unset] []) := fun tg_ kk_ => S216 tg_ (su2 tg_ kk_)
  rw [own_nar_char hc2] at W2
  have V3 : Arv Z u2 b kp1 .char (4 : Int32) [.int c0, .int c1, .int c2] (.int 0) := own_push V2 (own_fit_ch hc2) W2 rfl
  have NB2 := Fr.snoc Y2 NA2 hb0
  have O2a := O1a.wr W2 hb0
  have Z2a : n0 ≤ u2.size := by rw [W2.size]; exact Z1a
  have S218 : own_Go p e below s₁ G U2 (mkF m 33 #[.val (.int p0), .val (.int p1), .val (.int p2), .val (.int p3), .val (.int p4), .val (.ref b), .unset, .unset, .unset, .unset, .unset, .unset] [(.int p3), (.int (3 : Int32)), (.ref b)]) := fun tg_ kk_ => S217 tg_ (by
    refine XS.aload Y2.here hx rfl (hb hby at_29) rfl rfl ?_
    show Steps p.tables e below (U2.setTop (mkF m 31 #[.val (.int p0), .val (.int p1), .val (.int p2), .val (.int p3), .val (.int p4), .val (.ref b), .unset, .unset, .unset, .unset, .unset, .unset] [(.ref b)])) _
    refine XS.iconst Y2.here hx rfl (hb hby at_31) ?_
    show Steps p.tables e below (U2.setTop (mkF m 32 #[.val (.int p0), .val (.int p1), .val (.int p2), .val (.int p3), .val (.int p4), .val (.ref b), .unset, .unset, .unset, .unset, .unset, .unset] [(.int (3 : Int32)), (.ref b)])) _
    refine XS.iloadN Y2.here hx rfl (hb hby at_32) rfl ?_
    exact kk_)
  obtain ⟨_, T219, h219, L219, X219, e219, hQ219, st219⟩ := own_callS Y2 hx hZ (y := (⟨"com/example/kept_triples/kepttriples/model/LabelLexerColumnPinLaw", "draw", "(I)C"⟩ : MethodName)) hown (hw _ (List.mem_of_getElem? (i := 1) rfl)) (hw _ (List.mem_of_getElem? (i := 2) rfl)) (hw _ (List.mem_of_getElem? (i := 3) rfl)) (hw _ (List.mem_of_getElem? (i := 4) rfl)) (by decide) 2 (g := (mkF m 33 #[.val (.int p0), .val (.int p1), .val (.int p2), .val (.int p3), .val (.int p4), .val (.ref b), .unset, .unset, .unset, .unset, .unset, .unset] [(.int p3), (.int (3 : Int32)), (.ref b)])) rfl (by rw [hml]; rfl) [(.int p3)] [(.int (3 : Int32)), (.ref b)] (rm1 l Z a0 hw [] p3 u2 n0 Z2a) (lenOf pd2 rfl) rfl (by show 2 * 0 + _ ≤ _; exact Nat.le_of_eq rfl) (hb hby at_33) (by decide) (by decide) f2 (by decide) (by decide)
  obtain ⟨c3, hc3, rfl, N219, rfl⟩ := hQ219
  have S220 : own_Go p e below s₁ G T219 (mkF m 36 #[.val (.int p0), .val (.int p1), .val (.int p2), .val (.int p3), .val (.int p4), .val (.ref b), .unset, .unset, .unset, .unset, .unset, .unset] [(.int c3), (.int (3 : Int32)), (.ref b)]) := fun tg_ kk_ => S218 tg_ (st219 tg_ kk_)
  have NA3 := Fr.app NB2 N219
  obtain ⟨cl3, B3, b3, z3, y3, H3, F3⟩ := id V3
  obtain ⟨U3, u3, Y3, f3, W3, su3⟩ := stC X219 hx hZ e219 B3 (j := (3 : Int32)) (inb_of z3 (by decide)) (g := (mkF m 36 #[.val (.int p0), .val (.int p1), .val (.int p2), .val (.int p3), .val (.int p4), .val (.ref b), .unset, .unset, .unset, .unset, .unset, .unset] [(.int c3), (.int (3 : Int32)), (.ref b)])) rfl rfl (hb hby at_36)
  have S221 : own_Go p e below s₁ G U3 (mkF m 37 #[.val (.int p0), .val (.int p1), .val (.int p2), .val (.int p3), .val (.int p4), .val (.ref b), .unset, .unset, .unset, .unset, .unset, .unset] []) := fun tg_ kk_ => S220 tg_ (su3 tg_ kk_)
  rw [own_nar_char hc3] at W3
  have V4 : Arv Z u3 b kp1 .char (4 : Int32) [.int c0, .int c1, .int c2, .int c3] (.int 0) := own_push V3 (own_fit_ch hc3) W3 rfl
  have NB3 := Fr.snoc Y3 NA3 hb0
  have O3a := O2a.wr W3 hb0
  have Z3a : n0 ≤ u3.size := by rw [W3.size]; exact Z2a
  obtain ⟨T222, h222, X222, e222, E222, A222, D222, -, st222⟩ := newO Y3 hx hZ hown (hw _ (List.mem_of_getElem? (i := 7) rfl)) (hw _ (List.mem_of_getElem? (i := 8) rfl)) (hw _ (List.mem_of_getElem? (i := 9) rfl)) f3 (g := (mkF m 37 #[.val (.int p0), .val (.int p1), .val (.int p2), .val (.int p3), .val (.int p4), .val (.ref b), .unset, .unset, .unset, .unset, .unset, .unset] [])) rfl (hb hby at_37) (by decide) (by decide)
  obtain ⟨a222, g222⟩ : ∃ z, z = u3.size := ⟨_, rfl⟩
  rw [← g222] at A222 D222 st222
  have S223 : own_Go p e below s₁ G T222 (mkF m 40 #[.val (.int p0), .val (.int p1), .val (.int p2), .val (.int p3), .val (.int p4), .val (.ref b), .unset, .unset, .unset, .unset, .unset, .unset] [(.ref a222)]) := fun tg_ kk_ => S221 tg_ (st222 tg_ kk_)
  have Vb := V4.ext E222
  have Ob := O3a.ext E222
  have Zb := own_sub Z3a E222
  have Fv : Fld Z h222 a222 "java/lang/String" "value" "[B" .null := D222 (Or.inr (hw _ (List.mem_of_getElem? (i := 54) rfl))) (ty := .array .byte) (by decide)
  have Fc : Fld Z h222 a222 "java/lang/String" "coder" "B" (.int 0) := D222 (Or.inr (hw _ (List.mem_of_getElem? (i := 52) rfl))) (ty := .byte) (by decide)
  have hx0 : n0 ≤ a222 := Nat.le_trans Z3a (Nat.le_of_eq g222.symm)
  have hch : ∀ j, j < [c0, c1, c2, c3].length → own_Ch ([c0, c1, c2, c3].getD j 0) := fun j hj => by match j, hj with | 0, _ => exact hc0 | 1, _ => exact hc1 | 2, _ => exact hc2 | 3, _ => exact hc3
  have hbx : b ≠ a222 := Nat.ne_of_lt (Nat.lt_of_lt_of_le V4.lt (Nat.le_of_eq g222.symm))
  have S224 : own_Go p e below s₁ G T222 (mkF m 43 #[.val (.int p0), .val (.int p1), .val (.int p2), .val (.int p3), .val (.int p4), .val (.ref b), .unset, .unset, .unset, .unset, .unset, .unset] [(.ref b), (.ref a222), (.ref a222)]) := fun tg_ kk_ => S223 tg_ (by
    refine XS.dup X222.here hx rfl (hb hby at_40) rfl rfl ?_
    show Steps p.tables e below (T222.setTop (mkF m 41 #[.val (.int p0), .val (.int p1), .val (.int p2), .val (.int p3), .val (.int p4), .val (.ref b), .unset, .unset, .unset, .unset, .unset, .unset] [(.ref a222), (.ref a222)])) _
    refine XS.aload X222.here hx rfl (hb hby at_41) rfl rfl ?_
    exact kk_)
  obtain ⟨_, T225, h225, L225, X225, e225, hQ225, st225⟩ := own_callI X222 hx hZ (y := (⟨"java/lang/String", "<init>", "([C)V"⟩ : MethodName)) rfl hown (hw _ (List.mem_of_getElem? (i := 10) rfl)) (hw _ (List.mem_of_getElem? (i := 11) rfl)) (hw _ (List.mem_of_getElem? (i := 9) rfl)) (hw _ (List.mem_of_getElem? (i := 12) rfl)) (by decide) 1 (g := (mkF m 43 #[.val (.int p0), .val (.int p1), .val (.int p2), .val (.int p3), .val (.int p4), .val (.ref b), .unset, .unset, .unset, .unset, .unset, .unset] [(.ref b), (.ref a222), (.ref a222)])) rfl (by rw [hml]; rfl) a222 [(.ref b)] [(.ref a222)] (rm2 l Z a0 hw [] a222 b [c0, c1, c2, c3] h222 n0 Zb z kp1 (by simp) A222 Fv Fc hx0 Vb Ob O2 P5 A16 hch) (lenOf pd3 rfl) rfl (by show 2 * 0 + _ ≤ _; exact Nat.le_of_eq rfl) (hb hby at_43) (by decide) (by decide) e222 (by decide) (by decide)
  obtain ⟨rfl, N225, K225, t, ht, SS⟩ := hQ225
  have S226 : own_Go p e below s₁ G T225 (mkF m 46 #[.val (.int p0), .val (.int p1), .val (.int p2), .val (.int p3), .val (.int p4), .val (.ref b), .unset, .unset, .unset, .unset, .unset, .unset] [(.ref a222)]) := fun tg_ kk_ => S224 tg_ (st225 tg_ kk_)
  have NC := Fr.app NB3 N225
  have Vc := Vb.keep K225 (ninS hbx nin0)
  have Oc := Ob.keep K225 (allS hx0 all0)
  have Zc := Nat.le_trans Zb K225.1
  have S227 : own_Go p e below s₁ G T225 (mkF m 57 #[.val (.int p0), .val (.int p1), .val (.int p2), .val (.int p3), .val (.int p4), .val (.ref b), .val (.ref a222), .val (.int ((p4 &&& (2147483647 : Int32)) - ((p4 &&& (2147483647 : Int32)) / (5 : Int32)) * (5 : Int32))), .unset, .unset, .unset, .unset] []) := fun tg_ kk_ => S226 tg_ (by
    refine XS.astore X225.here hx rfl (hb hby at_46) rfl rfl (l' := #[.val (.int p0), .val (.int p1), .val (.int p2), .val (.int p3), .val (.int p4), .val (.ref b), .val (.ref a222), .unset, .unset, .unset, .unset, .unset]) rfl ?_
    show Steps p.tables e below (T225.setTop (mkF m 48 #[.val (.int p0), .val (.int p1), .val (.int p2), .val (.int p3), .val (.int p4), .val (.ref b), .val (.ref a222), .unset, .unset, .unset, .unset, .unset] [])) _
    refine XS.iload X225.here hx rfl (hb hby at_48) rfl ?_
    show Steps p.tables e below (T225.setTop (mkF m 50 #[.val (.int p0), .val (.int p1), .val (.int p2), .val (.int p3), .val (.int p4), .val (.ref b), .val (.ref a222), .unset, .unset, .unset, .unset, .unset] [(.int p4)])) _
    refine X225.ldcInt hx hown (mvT hZ (hw _ (List.mem_of_getElem? (i := 55) rfl))) (g := (mkF m 50 #[.val (.int p0), .val (.int p1), .val (.int p2), .val (.int p3), .val (.int p4), .val (.ref b), .val (.ref a222), .unset, .unset, .unset, .unset, .unset] [(.int p4)])) rfl (hb hby at_50) _ ?_
    show Steps p.tables e below (T225.setTop (mkF m 52 #[.val (.int p0), .val (.int p1), .val (.int p2), .val (.int p3), .val (.int p4), .val (.ref b), .val (.ref a222), .unset, .unset, .unset, .unset, .unset] [(.int (2147483647 : Int32)), (.int p4)])) _
    refine XS.iand X225.here hx rfl (hb hby at_52) rfl ?_
    show Steps p.tables e below (T225.setTop (mkF m 53 #[.val (.int p0), .val (.int p1), .val (.int p2), .val (.int p3), .val (.int p4), .val (.ref b), .val (.ref a222), .unset, .unset, .unset, .unset, .unset] [(.int (p4 &&& (2147483647 : Int32)))])) _
    refine XS.iconst X225.here hx rfl (hb hby at_53) ?_
    show Steps p.tables e below (T225.setTop (mkF m 54 #[.val (.int p0), .val (.int p1), .val (.int p2), .val (.int p3), .val (.int p4), .val (.ref b), .val (.ref a222), .unset, .unset, .unset, .unset, .unset] [(.int (5 : Int32)), (.int (p4 &&& (2147483647 : Int32)))])) _
    refine XS.irem X225.here hx rfl (hb hby at_54) rfl (by decide) ?_
    show Steps p.tables e below (T225.setTop (mkF m 55 #[.val (.int p0), .val (.int p1), .val (.int p2), .val (.int p3), .val (.int p4), .val (.ref b), .val (.ref a222), .unset, .unset, .unset, .unset, .unset] [(.int ((p4 &&& (2147483647 : Int32)) - ((p4 &&& (2147483647 : Int32)) / (5 : Int32)) * (5 : Int32)))])) _
    refine XS.istore X225.here hx rfl (hb hby at_55) rfl (l' := #[.val (.int p0), .val (.int p1), .val (.int p2), .val (.int p3), .val (.int p4), .val (.ref b), .val (.ref a222), .val (.int ((p4 &&& (2147483647 : Int32)) - ((p4 &&& (2147483647 : Int32)) / (5 : Int32)) * (5 : Int32))), .unset, .unset, .unset, .unset]) rfl ?_
    exact kk_)
  obtain ⟨T228, h228, X228, e228, E228, A228, D228, -, st228⟩ := newO X225 hx hZ hown (hw _ (List.mem_of_getElem? (i := 56) rfl)) (hw _ (List.mem_of_getElem? (i := 57) rfl)) (hw _ (List.mem_of_getElem? (i := 58) rfl)) e225 (g := (mkF m 57 #[.val (.int p0), .val (.int p1), .val (.int p2), .val (.int p3), .val (.int p4), .val (.ref b), .val (.ref a222), .val (.int ((p4 &&& (2147483647 : Int32)) - ((p4 &&& (2147483647 : Int32)) / (5 : Int32)) * (5 : Int32))), .unset, .unset, .unset, .unset] [])) rfl (hb hby at_57) (by decide) (by decide)
  obtain ⟨a228, g228⟩ : ∃ z, z = h225.size := ⟨_, rfl⟩
  rw [← g228] at A228 D228 st228
  have S229 : own_Go p e below s₁ G T228 (mkF m 60 #[.val (.int p0), .val (.int p1), .val (.int p2), .val (.int p3), .val (.int p4), .val (.ref b), .val (.ref a222), .val (.int ((p4 &&& (2147483647 : Int32)) - ((p4 &&& (2147483647 : Int32)) / (5 : Int32)) * (5 : Int32))), .unset, .unset, .unset, .unset] [(.ref a228)]) := fun tg_ kk_ => S227 tg_ (st228 tg_ kk_)
  have Vd := Vc.ext E228
  have Od := Oc.ext E228
  have Zd := own_sub Zc E228
  have Sd := SS.ext E228
  have F1 : Fld Z h228 a228 "com/example/kept_triples/kepttriples/model/LabelLexer" "input" "Ljava/lang/String;" .null := D228 (Or.inr (hw _ (List.mem_of_getElem? (i := 67) rfl))) (ty := .object "java/lang/String") (by decide)
  have F2 : Fld Z h228 a228 "com/example/kept_triples/kepttriples/model/LabelLexer" "subject" "Ljava/lang/String;" .null := D228 (Or.inr (hw _ (List.mem_of_getElem? (i := 69) rfl))) (ty := .object "java/lang/String") (by decide)
  have hl0 : n0 ≤ a228 := Nat.le_trans Zc (Nat.le_of_eq g228.symm)
  have hxl : a222 ≠ a228 := Nat.ne_of_lt (Nat.lt_of_lt_of_le SS.1.lt (Nat.le_of_eq g228.symm))
  have htl : t ≠ a228 := Nat.ne_of_lt (Nat.lt_of_lt_of_le SS.tlt (Nat.le_of_eq g228.symm))
  have hbl : b ≠ a228 := Nat.ne_of_lt (Nat.lt_of_lt_of_le Vc.lt (Nat.le_of_eq g228.symm))
  have S230 : own_Go p e below s₁ G T228 (mkF m 63 #[.val (.int p0), .val (.int p1), .val (.int p2), .val (.int p3), .val (.int p4), .val (.ref b), .val (.ref a222), .val (.int ((p4 &&& (2147483647 : Int32)) - ((p4 &&& (2147483647 : Int32)) / (5 : Int32)) * (5 : Int32))), .unset, .unset, .unset, .unset] [(.ref a222), (.ref a228), (.ref a228)]) := fun tg_ kk_ => S229 tg_ (by
    refine XS.dup X228.here hx rfl (hb hby at_60) rfl rfl ?_
    show Steps p.tables e below (T228.setTop (mkF m 61 #[.val (.int p0), .val (.int p1), .val (.int p2), .val (.int p3), .val (.int p4), .val (.ref b), .val (.ref a222), .val (.int ((p4 &&& (2147483647 : Int32)) - ((p4 &&& (2147483647 : Int32)) / (5 : Int32)) * (5 : Int32))), .unset, .unset, .unset, .unset] [(.ref a228), (.ref a228)])) _
    refine XS.aload X228.here hx rfl (hb hby at_61) rfl rfl ?_
    exact kk_)
  have XW : Stand p l e room_1 (s.setVm s.vm) m #[(.int p0), (.int p1), (.int p2), (.int p3), (.int p4)] below meth c T228 _ _ _ := X228
  obtain ⟨q, TL, hL, kL, XL, eL, EL, hSL, hkL, hZL, hownL, stL⟩ := ldcS XW hx hZ hown (hw _ (List.mem_of_getElem? (i := 59) rfl)) (own_wS0 hw) e228 ((State.WarmedH.refl s).since 0) (Nat.zero_le _) (g := (mkF m 63 #[.val (.int p0), .val (.int p1), .val (.int p2), .val (.int p3), .val (.int p4), .val (.ref b), .val (.ref a222), .val (.int ((p4 &&& (2147483647 : Int32)) - ((p4 &&& (2147483647 : Int32)) / (5 : Int32)) * (5 : Int32))), .unset, .unset, .unset, .unset] [(.ref a222), (.ref a228), (.ref a228)])) rfl (hb hby at_63) (n := 20) (by decide) (by decide) (by decide) (by decide)
  have S231 : own_Go p e below s₁ G TL (mkF m 65 #[.val (.int p0), .val (.int p1), .val (.int p2), .val (.int p3), .val (.int p4), .val (.ref b), .val (.ref a222), .val (.int ((p4 &&& (2147483647 : Int32)) - ((p4 &&& (2147483647 : Int32)) / (5 : Int32)) * (5 : Int32))), .unset, .unset, .unset, .unset] [(.ref q), (.ref a222), (.ref a228), (.ref a228)]) := fun tg_ kk_ => S230 tg_ (stL tg_ kk_)
  have Ve := Vd.ext EL
  have Oe := Od.ext EL
  have Ze := own_sub Zd EL
  have Se := Sd.ext EL
  obtain ⟨_, T232, h232, L232, X232, e232, hQ232, st232⟩ := own_callI XL hx hZL (y := (⟨"com/example/kept_triples/kepttriples/model/LabelLexer", "<init>", "(Ljava/lang/String;Ljava/lang/String;)V"⟩ : MethodName)) rfl hownL (hw _ (List.mem_of_getElem? (i := 62) rfl)) (hw _ (List.mem_of_getElem? (i := 63) rfl)) (hw _ (List.mem_of_getElem? (i := 58) rfl)) (hw _ (List.mem_of_getElem? (i := 64) rfl)) (by decide) 1 (g := (mkF m 65 #[.val (.int p0), .val (.int p1), .val (.int p2), .val (.int p3), .val (.int p4), .val (.ref b), .val (.ref a222), .val (.int ((p4 &&& (2147483647 : Int32)) - ((p4 &&& (2147483647 : Int32)) / (5 : Int32)) * (5 : Int32))), .unset, .unset, .unset, .unset] [(.ref q), (.ref a222), (.ref a228), (.ref a228)])) rfl (by rw [hml]; rfl) a228 [(.ref a222), (.ref q)] [(.ref a228)] (rm13 l Z a0 hw [] a228 a222 q hL n0 Ze (A228.ext EL) (F1.ext EL) (F2.ext EL) hl0) (lenOf pd13 rfl) rfl (by show 2 * 0 + _ ≤ _; exact Nat.le_of_eq rfl) (hb hby at_65) (by decide) (by decide) eL (by decide) (by decide)
  obtain ⟨rfl, N232, K232, FI⟩ := hQ232
  have S233 : own_Go p e below s₁ G T232 (mkF m 68 #[.val (.int p0), .val (.int p1), .val (.int p2), .val (.int p3), .val (.int p4), .val (.ref b), .val (.ref a222), .val (.int ((p4 &&& (2147483647 : Int32)) - ((p4 &&& (2147483647 : Int32)) / (5 : Int32)) * (5 : Int32))), .unset, .unset, .unset, .unset] [(.ref a228)]) := fun tg_ kk_ => S231 tg_ (st232 tg_ kk_)
  have ND := Fr.app NC N232
  have Vf := Ve.keep K232 (ninS hbl nin0)
  have Of := Oe.keep K232 (allS hl0 all0)
  have Zf := Nat.le_trans Ze K232.1
  have Sf := Se.keep K232 (ninS hxl nin0) (ninS htl nin0)
  have Ef := (A228.ext EL).keep K232
  have hkf : kL ≤ h232.size := Nat.le_trans hkL K232.1
  have S234 : own_Go p e below s₁ G T232 (mkF m 74 #[.val (.int p0), .val (.int p1), .val (.int p2), .val (.int p3), .val (.int p4), .val (.ref b), .val (.ref a222), .val (.int ((p4 &&& (2147483647 : Int32)) - ((p4 &&& (2147483647 : Int32)) / (5 : Int32)) * (5 : Int32))), .val (.ref a228), .unset, .unset, .unset] [(.int ((p4 &&& (2147483647 : Int32)) - ((p4 &&& (2147483647 : Int32)) / (5 : Int32)) * (5 : Int32))), (.ref a228)]) := fun tg_ kk_ => S233 tg_ (by
    refine XS.astore X232.here hx rfl (hb hby at_68) rfl rfl (l' := #[.val (.int p0), .val (.int p1), .val (.int p2), .val (.int p3), .val (.int p4), .val (.ref b), .val (.ref a222), .val (.int ((p4 &&& (2147483647 : Int32)) - ((p4 &&& (2147483647 : Int32)) / (5 : Int32)) * (5 : Int32))), .val (.ref a228), .unset, .unset, .unset]) rfl ?_
    show Steps p.tables e below (T232.setTop (mkF m 70 #[.val (.int p0), .val (.int p1), .val (.int p2), .val (.int p3), .val (.int p4), .val (.ref b), .val (.ref a222), .val (.int ((p4 &&& (2147483647 : Int32)) - ((p4 &&& (2147483647 : Int32)) / (5 : Int32)) * (5 : Int32))), .val (.ref a228), .unset, .unset, .unset] [])) _
    refine XS.aload X232.here hx rfl (hb hby at_70) rfl rfl ?_
    show Steps p.tables e below (T232.setTop (mkF m 72 #[.val (.int p0), .val (.int p1), .val (.int p2), .val (.int p3), .val (.int p4), .val (.ref b), .val (.ref a222), .val (.int ((p4 &&& (2147483647 : Int32)) - ((p4 &&& (2147483647 : Int32)) / (5 : Int32)) * (5 : Int32))), .val (.ref a228), .unset, .unset, .unset] [(.ref a228)])) _
    refine XS.iload X232.here hx rfl (hb hby at_72) rfl ?_
    exact kk_)
  rcases own_n5 p4 with hn | hn | hn | hn | hn
  · have _ := hn
    rw [hn] at S234
    obtain ⟨clv, Arv1, -, Szv, -, Hv, -⟩ := id Vf
    obtain ⟨_, T235, h235, L235, X235, e235, hQ235, st235⟩ := own_callV X232 hx hZL (y := (⟨"com/example/kept_triples/kepttriples/model/LabelLexer", "column", "(I)I"⟩ : MethodName)) hownL (hw _ (List.mem_of_getElem? (i := 70) rfl)) (hw _ (List.mem_of_getElem? (i := 71) rfl)) (hw _ (List.mem_of_getElem? (i := 73) rfl)) (hw _ (List.mem_of_getElem? (i := 72) rfl)) (hw _ (List.mem_of_getElem? (i := 58) rfl)) (hw _ (List.mem_of_getElem? (i := 74) rfl)) (by decide) 0 (g := (mkF m 74 #[.val (.int p0), .val (.int p1), .val (.int p2), .val (.int p3), .val (.int p4), .val (.ref b), .val (.ref a222), .val (.int (0 : Int32)), .val (.ref a228), .unset, .unset, .unset] [(.int (0 : Int32)), (.ref a228)])) rfl (by rw [hml]; rfl) a228 Ef [(.int (0 : Int32))] [] (rm14 l Z a0 hw [] a228 a222 t [c0, c1, c2, c3] 0 h232 n0 Zf z Of O2 P5 FI Sf (by simp) (by simp) hch A16) (lenOf pd9 rfl) rfl (by show 2 * 0 + _ ≤ _; exact Nat.le_of_eq rfl) (hb hby at_74) (by decide) (by decide) e232 (by decide) (by decide)
    obtain ⟨rfl, N235, rfl⟩ := hQ235
    have S236 : own_Go p e below s₁ G T235 (mkF m 77 #[.val (.int p0), .val (.int p1), .val (.int p2), .val (.int p3), .val (.int p4), .val (.ref b), .val (.ref a222), .val (.int (0 : Int32)), .val (.ref a228), .unset, .unset, .unset] [(.int ((Int32.ofNat 0 - Int32.ofNat (own_cnt [c0, c1, c2, c3] 0 0 0)) + 1))]) := fun tg_ kk_ => S234 tg_ (st235 tg_ kk_)
    have NE := Fr.app ND N235
    have S237 : own_Go p e below s₁ G T235 (mkF m 164 #[.val (.int p0), .val (.int p1), .val (.int p2), .val (.int p3), .val (.int p4), .val (.ref b), .val (.ref a222), .val (.int (0 : Int32)), .val (.ref a228), .val (.int ((Int32.ofNat 0 - Int32.ofNat (own_cnt [c0, c1, c2, c3] 0 0 0)) + 1)), .val (.int (0 : Int32)), .val (.int (((0 : Int32) - (0 : Int32)) + (1 : Int32)))] [(.int (((0 : Int32) - (0 : Int32)) + (1 : Int32))), (.int ((Int32.ofNat 0 - Int32.ofNat (own_cnt [c0, c1, c2, c3] 0 0 0)) + 1))]) := fun tg_ kk_ => S236 tg_ (by
      refine XS.istore X235.here hx rfl (hb hby at_77) rfl (l' := #[.val (.int p0), .val (.int p1), .val (.int p2), .val (.int p3), .val (.int p4), .val (.ref b), .val (.ref a222), .val (.int (0 : Int32)), .val (.ref a228), .val (.int ((Int32.ofNat 0 - Int32.ofNat (own_cnt [c0, c1, c2, c3] 0 0 0)) + 1)), .unset, .unset]) rfl ?_
      show Steps p.tables e below (T235.setTop (mkF m 79 #[.val (.int p0), .val (.int p1), .val (.int p2), .val (.int p3), .val (.int p4), .val (.ref b), .val (.ref a222), .val (.int (0 : Int32)), .val (.ref a228), .val (.int ((Int32.ofNat 0 - Int32.ofNat (own_cnt [c0, c1, c2, c3] 0 0 0)) + 1)), .unset, .unset] [])) _
      refine XS.iconst X235.here hx rfl (hb hby at_79) ?_
      show Steps p.tables e below (T235.setTop (mkF m 80 #[.val (.int p0), .val (.int p1), .val (.int p2), .val (.int p3), .val (.int p4), .val (.ref b), .val (.ref a222), .val (.int (0 : Int32)), .val (.ref a228), .val (.int ((Int32.ofNat 0 - Int32.ofNat (own_cnt [c0, c1, c2, c3] 0 0 0)) + 1)), .unset, .unset] [(.int (0 : Int32))])) _
      refine XS.istore X235.here hx rfl (hb hby at_80) rfl (l' := #[.val (.int p0), .val (.int p1), .val (.int p2), .val (.int p3), .val (.int p4), .val (.ref b), .val (.ref a222), .val (.int (0 : Int32)), .val (.ref a228), .val (.int ((Int32.ofNat 0 - Int32.ofNat (own_cnt [c0, c1, c2, c3] 0 0 0)) + 1)), .val (.int (0 : Int32)), .unset]) rfl ?_
      show Steps p.tables e below (T235.setTop (mkF m 82 #[.val (.int p0), .val (.int p1), .val (.int p2), .val (.int p3), .val (.int p4), .val (.ref b), .val (.ref a222), .val (.int (0 : Int32)), .val (.ref a228), .val (.int ((Int32.ofNat 0 - Int32.ofNat (own_cnt [c0, c1, c2, c3] 0 0 0)) + 1)), .val (.int (0 : Int32)), .unset] [])) _
      refine XS.iload X235.here hx rfl (hb hby at_82) rfl ?_
      show Steps p.tables e below (T235.setTop (mkF m 84 #[.val (.int p0), .val (.int p1), .val (.int p2), .val (.int p3), .val (.int p4), .val (.ref b), .val (.ref a222), .val (.int (0 : Int32)), .val (.ref a228), .val (.int ((Int32.ofNat 0 - Int32.ofNat (own_cnt [c0, c1, c2, c3] 0 0 0)) + 1)), .val (.int (0 : Int32)), .unset] [(.int (0 : Int32))])) _
      refine XS.iconst X235.here hx rfl (hb hby at_84) ?_
      show Steps p.tables e below (T235.setTop (mkF m 85 #[.val (.int p0), .val (.int p1), .val (.int p2), .val (.int p3), .val (.int p4), .val (.ref b), .val (.ref a222), .val (.int (0 : Int32)), .val (.ref a228), .val (.int ((Int32.ofNat 0 - Int32.ofNat (own_cnt [c0, c1, c2, c3] 0 0 0)) + 1)), .val (.int (0 : Int32)), .unset] [(.int (2 : Int32)), (.int (0 : Int32))])) _
      refine XS.icmpYes X235.here hx rfl (pc0 := 85) (pc' := 105) rfl (hb hby at_85) rfl (XT.ii_lt_t (by decide)) (by decide) (by decide) ?_
      show Steps p.tables e below (T235.setTop (mkF m 105 #[.val (.int p0), .val (.int p1), .val (.int p2), .val (.int p3), .val (.int p4), .val (.ref b), .val (.ref a222), .val (.int (0 : Int32)), .val (.ref a228), .val (.int ((Int32.ofNat 0 - Int32.ofNat (own_cnt [c0, c1, c2, c3] 0 0 0)) + 1)), .val (.int (0 : Int32)), .unset] [])) _
      refine XS.iload X235.here hx rfl (hb hby at_105) rfl ?_
      show Steps p.tables e below (T235.setTop (mkF m 107 #[.val (.int p0), .val (.int p1), .val (.int p2), .val (.int p3), .val (.int p4), .val (.ref b), .val (.ref a222), .val (.int (0 : Int32)), .val (.ref a228), .val (.int ((Int32.ofNat 0 - Int32.ofNat (own_cnt [c0, c1, c2, c3] 0 0 0)) + 1)), .val (.int (0 : Int32)), .unset] [(.int (0 : Int32))])) _
      refine XS.iconst X235.here hx rfl (hb hby at_107) ?_
      show Steps p.tables e below (T235.setTop (mkF m 108 #[.val (.int p0), .val (.int p1), .val (.int p2), .val (.int p3), .val (.int p4), .val (.ref b), .val (.ref a222), .val (.int (0 : Int32)), .val (.ref a228), .val (.int ((Int32.ofNat 0 - Int32.ofNat (own_cnt [c0, c1, c2, c3] 0 0 0)) + 1)), .val (.int (0 : Int32)), .unset] [(.int (3 : Int32)), (.int (0 : Int32))])) _
      refine XS.icmpYes X235.here hx rfl (pc0 := 108) (pc' := 128) rfl (hb hby at_108) rfl (XT.ii_lt_t (by decide)) (by decide) (by decide) ?_
      show Steps p.tables e below (T235.setTop (mkF m 128 #[.val (.int p0), .val (.int p1), .val (.int p2), .val (.int p3), .val (.int p4), .val (.ref b), .val (.ref a222), .val (.int (0 : Int32)), .val (.ref a228), .val (.int ((Int32.ofNat 0 - Int32.ofNat (own_cnt [c0, c1, c2, c3] 0 0 0)) + 1)), .val (.int (0 : Int32)), .unset] [])) _
      refine XS.iload X235.here hx rfl (hb hby at_128) rfl ?_
      show Steps p.tables e below (T235.setTop (mkF m 130 #[.val (.int p0), .val (.int p1), .val (.int p2), .val (.int p3), .val (.int p4), .val (.ref b), .val (.ref a222), .val (.int (0 : Int32)), .val (.ref a228), .val (.int ((Int32.ofNat 0 - Int32.ofNat (own_cnt [c0, c1, c2, c3] 0 0 0)) + 1)), .val (.int (0 : Int32)), .unset] [(.int (0 : Int32))])) _
      refine XS.iconst X235.here hx rfl (hb hby at_130) ?_
      show Steps p.tables e below (T235.setTop (mkF m 131 #[.val (.int p0), .val (.int p1), .val (.int p2), .val (.int p3), .val (.int p4), .val (.ref b), .val (.ref a222), .val (.int (0 : Int32)), .val (.ref a228), .val (.int ((Int32.ofNat 0 - Int32.ofNat (own_cnt [c0, c1, c2, c3] 0 0 0)) + 1)), .val (.int (0 : Int32)), .unset] [(.int (4 : Int32)), (.int (0 : Int32))])) _
      refine XS.icmpYes X235.here hx rfl (pc0 := 131) (pc' := 151) rfl (hb hby at_131) rfl (XT.ii_lt_t (by decide)) (by decide) (by decide) ?_
      show Steps p.tables e below (T235.setTop (mkF m 151 #[.val (.int p0), .val (.int p1), .val (.int p2), .val (.int p3), .val (.int p4), .val (.ref b), .val (.ref a222), .val (.int (0 : Int32)), .val (.ref a228), .val (.int ((Int32.ofNat 0 - Int32.ofNat (own_cnt [c0, c1, c2, c3] 0 0 0)) + 1)), .val (.int (0 : Int32)), .unset] [])) _
      refine XS.iload X235.here hx rfl (hb hby at_151) rfl ?_
      show Steps p.tables e below (T235.setTop (mkF m 153 #[.val (.int p0), .val (.int p1), .val (.int p2), .val (.int p3), .val (.int p4), .val (.ref b), .val (.ref a222), .val (.int (0 : Int32)), .val (.ref a228), .val (.int ((Int32.ofNat 0 - Int32.ofNat (own_cnt [c0, c1, c2, c3] 0 0 0)) + 1)), .val (.int (0 : Int32)), .unset] [(.int (0 : Int32))])) _
      refine XS.iload X235.here hx rfl (hb hby at_153) rfl ?_
      show Steps p.tables e below (T235.setTop (mkF m 155 #[.val (.int p0), .val (.int p1), .val (.int p2), .val (.int p3), .val (.int p4), .val (.ref b), .val (.ref a222), .val (.int (0 : Int32)), .val (.ref a228), .val (.int ((Int32.ofNat 0 - Int32.ofNat (own_cnt [c0, c1, c2, c3] 0 0 0)) + 1)), .val (.int (0 : Int32)), .unset] [(.int (0 : Int32)), (.int (0 : Int32))])) _
      refine XS.isub X235.here hx rfl (hb hby at_155) rfl ?_
      show Steps p.tables e below (T235.setTop (mkF m 156 #[.val (.int p0), .val (.int p1), .val (.int p2), .val (.int p3), .val (.int p4), .val (.ref b), .val (.ref a222), .val (.int (0 : Int32)), .val (.ref a228), .val (.int ((Int32.ofNat 0 - Int32.ofNat (own_cnt [c0, c1, c2, c3] 0 0 0)) + 1)), .val (.int (0 : Int32)), .unset] [(.int ((0 : Int32) - (0 : Int32)))])) _
      refine XS.iconst X235.here hx rfl (hb hby at_156) ?_
      show Steps p.tables e below (T235.setTop (mkF m 157 #[.val (.int p0), .val (.int p1), .val (.int p2), .val (.int p3), .val (.int p4), .val (.ref b), .val (.ref a222), .val (.int (0 : Int32)), .val (.ref a228), .val (.int ((Int32.ofNat 0 - Int32.ofNat (own_cnt [c0, c1, c2, c3] 0 0 0)) + 1)), .val (.int (0 : Int32)), .unset] [(.int (1 : Int32)), (.int ((0 : Int32) - (0 : Int32)))])) _
      refine XS.iadd X235.here hx rfl (hb hby at_157) rfl ?_
      show Steps p.tables e below (T235.setTop (mkF m 158 #[.val (.int p0), .val (.int p1), .val (.int p2), .val (.int p3), .val (.int p4), .val (.ref b), .val (.ref a222), .val (.int (0 : Int32)), .val (.ref a228), .val (.int ((Int32.ofNat 0 - Int32.ofNat (own_cnt [c0, c1, c2, c3] 0 0 0)) + 1)), .val (.int (0 : Int32)), .unset] [(.int (((0 : Int32) - (0 : Int32)) + (1 : Int32)))])) _
      refine XS.istore X235.here hx rfl (hb hby at_158) rfl (l' := #[.val (.int p0), .val (.int p1), .val (.int p2), .val (.int p3), .val (.int p4), .val (.ref b), .val (.ref a222), .val (.int (0 : Int32)), .val (.ref a228), .val (.int ((Int32.ofNat 0 - Int32.ofNat (own_cnt [c0, c1, c2, c3] 0 0 0)) + 1)), .val (.int (0 : Int32)), .val (.int (((0 : Int32) - (0 : Int32)) + (1 : Int32)))]) rfl ?_
      show Steps p.tables e below (T235.setTop (mkF m 160 #[.val (.int p0), .val (.int p1), .val (.int p2), .val (.int p3), .val (.int p4), .val (.ref b), .val (.ref a222), .val (.int (0 : Int32)), .val (.ref a228), .val (.int ((Int32.ofNat 0 - Int32.ofNat (own_cnt [c0, c1, c2, c3] 0 0 0)) + 1)), .val (.int (0 : Int32)), .val (.int (((0 : Int32) - (0 : Int32)) + (1 : Int32)))] [])) _
      refine XS.iload X235.here hx rfl (hb hby at_160) rfl ?_
      show Steps p.tables e below (T235.setTop (mkF m 162 #[.val (.int p0), .val (.int p1), .val (.int p2), .val (.int p3), .val (.int p4), .val (.ref b), .val (.ref a222), .val (.int (0 : Int32)), .val (.ref a228), .val (.int ((Int32.ofNat 0 - Int32.ofNat (own_cnt [c0, c1, c2, c3] 0 0 0)) + 1)), .val (.int (0 : Int32)), .val (.int (((0 : Int32) - (0 : Int32)) + (1 : Int32)))] [(.int ((Int32.ofNat 0 - Int32.ofNat (own_cnt [c0, c1, c2, c3] 0 0 0)) + 1))])) _
      refine XS.iload X235.here hx rfl (hb hby at_162) rfl ?_
      exact kk_)
    have hcnt : own_cnt [c0, c1, c2, c3] 0 0 0 = 0 := by
      rw [own_cnt_out (by decide)]
    have heq : ((Int32.ofNat 0 - Int32.ofNat (own_cnt [c0, c1, c2, c3] 0 0 0)) + 1) = (((0 : Int32) - (0 : Int32)) + (1 : Int32)) := by rw [hcnt]; decide
    have S238 : own_Go p e below s₁ G T235 (mkF m 172 #[.val (.int p0), .val (.int p1), .val (.int p2), .val (.int p3), .val (.int p4), .val (.ref b), .val (.ref a222), .val (.int (0 : Int32)), .val (.ref a228), .val (.int ((Int32.ofNat 0 - Int32.ofNat (own_cnt [c0, c1, c2, c3] 0 0 0)) + 1)), .val (.int (0 : Int32)), .val (.int (((0 : Int32) - (0 : Int32)) + (1 : Int32)))] [(.int (1 : Int32))]) := fun tg_ kk_ => S237 tg_ (by
      refine XS.icmpNo X235.here hx rfl (hb hby at_164) rfl (XT.ii_ne_f heq) ?_
      show Steps p.tables e below (T235.setTop (mkF m 167 #[.val (.int p0), .val (.int p1), .val (.int p2), .val (.int p3), .val (.int p4), .val (.ref b), .val (.ref a222), .val (.int (0 : Int32)), .val (.ref a228), .val (.int ((Int32.ofNat 0 - Int32.ofNat (own_cnt [c0, c1, c2, c3] 0 0 0)) + 1)), .val (.int (0 : Int32)), .val (.int (((0 : Int32) - (0 : Int32)) + (1 : Int32)))] [])) _
      refine XS.iconst X235.here hx rfl (hb hby at_167) ?_
      show Steps p.tables e below (T235.setTop (mkF m 168 #[.val (.int p0), .val (.int p1), .val (.int p2), .val (.int p3), .val (.int p4), .val (.ref b), .val (.ref a222), .val (.int (0 : Int32)), .val (.ref a228), .val (.int ((Int32.ofNat 0 - Int32.ofNat (own_cnt [c0, c1, c2, c3] 0 0 0)) + 1)), .val (.int (0 : Int32)), .val (.int (((0 : Int32) - (0 : Int32)) + (1 : Int32)))] [(.int (1 : Int32))])) _
      refine XS.goto X235.here hx rfl (pc0 := 168) (pc' := 172) rfl (hb hby at_168) (by decide) (by decide) ?_
      exact kk_)
    obtain ⟨fs, hr, hrun, hended, hend⟩ := X235.leaveW hSL (by rw [e235]; exact hkf) (v := some (.int (1 : Int32))) (fun h => by rw [Bd.returns] at h; cases h)
    refine ⟨_, _, ?_, hrun, hended, _, _, rfl, ?_, hend.1, hend.2.1, hend.2.2.1, hend.2.2.2.mono (by decide) (by decide)⟩
    · rw [← hG]; exact S238 _ (retN X235 hx (t := .boolean) Bd.returns (by simp) (hb hby at_172) hr)
    · show Q0 Z p0 p1 p2 p3 p4 h0 n0 _ T235.heap _
      rw [e235]
      exact ⟨rfl, NE⟩
  · have _ := hn
    rw [hn] at S234
    obtain ⟨clv, Arv1, -, Szv, -, Hv, -⟩ := id Vf
    obtain ⟨_, T239, h239, L239, X239, e239, hQ239, st239⟩ := own_callV X232 hx hZL (y := (⟨"com/example/kept_triples/kepttriples/model/LabelLexer", "column", "(I)I"⟩ : MethodName)) hownL (hw _ (List.mem_of_getElem? (i := 70) rfl)) (hw _ (List.mem_of_getElem? (i := 71) rfl)) (hw _ (List.mem_of_getElem? (i := 73) rfl)) (hw _ (List.mem_of_getElem? (i := 72) rfl)) (hw _ (List.mem_of_getElem? (i := 58) rfl)) (hw _ (List.mem_of_getElem? (i := 74) rfl)) (by decide) 0 (g := (mkF m 74 #[.val (.int p0), .val (.int p1), .val (.int p2), .val (.int p3), .val (.int p4), .val (.ref b), .val (.ref a222), .val (.int (1 : Int32)), .val (.ref a228), .unset, .unset, .unset] [(.int (1 : Int32)), (.ref a228)])) rfl (by rw [hml]; rfl) a228 Ef [(.int (1 : Int32))] [] (rm14 l Z a0 hw [] a228 a222 t [c0, c1, c2, c3] 1 h232 n0 Zf z Of O2 P5 FI Sf (by simp) (by simp) hch A16) (lenOf pd9 rfl) rfl (by show 2 * 0 + _ ≤ _; exact Nat.le_of_eq rfl) (hb hby at_74) (by decide) (by decide) e232 (by decide) (by decide)
    obtain ⟨rfl, N239, rfl⟩ := hQ239
    have S240 : own_Go p e below s₁ G T239 (mkF m 77 #[.val (.int p0), .val (.int p1), .val (.int p2), .val (.int p3), .val (.int p4), .val (.ref b), .val (.ref a222), .val (.int (1 : Int32)), .val (.ref a228), .unset, .unset, .unset] [(.int ((Int32.ofNat 1 - Int32.ofNat (own_cnt [c0, c1, c2, c3] 1 1 0)) + 1))]) := fun tg_ kk_ => S234 tg_ (st239 tg_ kk_)
    have NE := Fr.app ND N239
    have S241 : own_Go p e below s₁ G T239 (mkF m 164 #[.val (.int p0), .val (.int p1), .val (.int p2), .val (.int p3), .val (.int p4), .val (.ref b), .val (.ref a222), .val (.int (1 : Int32)), .val (.ref a228), .val (.int ((Int32.ofNat 1 - Int32.ofNat (own_cnt [c0, c1, c2, c3] 1 1 0)) + 1)), .val (.int (0 : Int32)), .val (.int (((1 : Int32) - (0 : Int32)) + (1 : Int32)))] [(.int (((1 : Int32) - (0 : Int32)) + (1 : Int32))), (.int ((Int32.ofNat 1 - Int32.ofNat (own_cnt [c0, c1, c2, c3] 1 1 0)) + 1))]) := fun tg_ kk_ => S240 tg_ (by
      refine XS.istore X239.here hx rfl (hb hby at_77) rfl (l' := #[.val (.int p0), .val (.int p1), .val (.int p2), .val (.int p3), .val (.int p4), .val (.ref b), .val (.ref a222), .val (.int (1 : Int32)), .val (.ref a228), .val (.int ((Int32.ofNat 1 - Int32.ofNat (own_cnt [c0, c1, c2, c3] 1 1 0)) + 1)), .unset, .unset]) rfl ?_
      show Steps p.tables e below (T239.setTop (mkF m 79 #[.val (.int p0), .val (.int p1), .val (.int p2), .val (.int p3), .val (.int p4), .val (.ref b), .val (.ref a222), .val (.int (1 : Int32)), .val (.ref a228), .val (.int ((Int32.ofNat 1 - Int32.ofNat (own_cnt [c0, c1, c2, c3] 1 1 0)) + 1)), .unset, .unset] [])) _
      refine XS.iconst X239.here hx rfl (hb hby at_79) ?_
      show Steps p.tables e below (T239.setTop (mkF m 80 #[.val (.int p0), .val (.int p1), .val (.int p2), .val (.int p3), .val (.int p4), .val (.ref b), .val (.ref a222), .val (.int (1 : Int32)), .val (.ref a228), .val (.int ((Int32.ofNat 1 - Int32.ofNat (own_cnt [c0, c1, c2, c3] 1 1 0)) + 1)), .unset, .unset] [(.int (0 : Int32))])) _
      refine XS.istore X239.here hx rfl (hb hby at_80) rfl (l' := #[.val (.int p0), .val (.int p1), .val (.int p2), .val (.int p3), .val (.int p4), .val (.ref b), .val (.ref a222), .val (.int (1 : Int32)), .val (.ref a228), .val (.int ((Int32.ofNat 1 - Int32.ofNat (own_cnt [c0, c1, c2, c3] 1 1 0)) + 1)), .val (.int (0 : Int32)), .unset]) rfl ?_
      show Steps p.tables e below (T239.setTop (mkF m 82 #[.val (.int p0), .val (.int p1), .val (.int p2), .val (.int p3), .val (.int p4), .val (.ref b), .val (.ref a222), .val (.int (1 : Int32)), .val (.ref a228), .val (.int ((Int32.ofNat 1 - Int32.ofNat (own_cnt [c0, c1, c2, c3] 1 1 0)) + 1)), .val (.int (0 : Int32)), .unset] [])) _
      refine XS.iload X239.here hx rfl (hb hby at_82) rfl ?_
      show Steps p.tables e below (T239.setTop (mkF m 84 #[.val (.int p0), .val (.int p1), .val (.int p2), .val (.int p3), .val (.int p4), .val (.ref b), .val (.ref a222), .val (.int (1 : Int32)), .val (.ref a228), .val (.int ((Int32.ofNat 1 - Int32.ofNat (own_cnt [c0, c1, c2, c3] 1 1 0)) + 1)), .val (.int (0 : Int32)), .unset] [(.int (1 : Int32))])) _
      refine XS.iconst X239.here hx rfl (hb hby at_84) ?_
      show Steps p.tables e below (T239.setTop (mkF m 85 #[.val (.int p0), .val (.int p1), .val (.int p2), .val (.int p3), .val (.int p4), .val (.ref b), .val (.ref a222), .val (.int (1 : Int32)), .val (.ref a228), .val (.int ((Int32.ofNat 1 - Int32.ofNat (own_cnt [c0, c1, c2, c3] 1 1 0)) + 1)), .val (.int (0 : Int32)), .unset] [(.int (2 : Int32)), (.int (1 : Int32))])) _
      refine XS.icmpYes X239.here hx rfl (pc0 := 85) (pc' := 105) rfl (hb hby at_85) rfl (XT.ii_lt_t (by decide)) (by decide) (by decide) ?_
      show Steps p.tables e below (T239.setTop (mkF m 105 #[.val (.int p0), .val (.int p1), .val (.int p2), .val (.int p3), .val (.int p4), .val (.ref b), .val (.ref a222), .val (.int (1 : Int32)), .val (.ref a228), .val (.int ((Int32.ofNat 1 - Int32.ofNat (own_cnt [c0, c1, c2, c3] 1 1 0)) + 1)), .val (.int (0 : Int32)), .unset] [])) _
      refine XS.iload X239.here hx rfl (hb hby at_105) rfl ?_
      show Steps p.tables e below (T239.setTop (mkF m 107 #[.val (.int p0), .val (.int p1), .val (.int p2), .val (.int p3), .val (.int p4), .val (.ref b), .val (.ref a222), .val (.int (1 : Int32)), .val (.ref a228), .val (.int ((Int32.ofNat 1 - Int32.ofNat (own_cnt [c0, c1, c2, c3] 1 1 0)) + 1)), .val (.int (0 : Int32)), .unset] [(.int (1 : Int32))])) _
      refine XS.iconst X239.here hx rfl (hb hby at_107) ?_
      show Steps p.tables e below (T239.setTop (mkF m 108 #[.val (.int p0), .val (.int p1), .val (.int p2), .val (.int p3), .val (.int p4), .val (.ref b), .val (.ref a222), .val (.int (1 : Int32)), .val (.ref a228), .val (.int ((Int32.ofNat 1 - Int32.ofNat (own_cnt [c0, c1, c2, c3] 1 1 0)) + 1)), .val (.int (0 : Int32)), .unset] [(.int (3 : Int32)), (.int (1 : Int32))])) _
      refine XS.icmpYes X239.here hx rfl (pc0 := 108) (pc' := 128) rfl (hb hby at_108) rfl (XT.ii_lt_t (by decide)) (by decide) (by decide) ?_
      show Steps p.tables e below (T239.setTop (mkF m 128 #[.val (.int p0), .val (.int p1), .val (.int p2), .val (.int p3), .val (.int p4), .val (.ref b), .val (.ref a222), .val (.int (1 : Int32)), .val (.ref a228), .val (.int ((Int32.ofNat 1 - Int32.ofNat (own_cnt [c0, c1, c2, c3] 1 1 0)) + 1)), .val (.int (0 : Int32)), .unset] [])) _
      refine XS.iload X239.here hx rfl (hb hby at_128) rfl ?_
      show Steps p.tables e below (T239.setTop (mkF m 130 #[.val (.int p0), .val (.int p1), .val (.int p2), .val (.int p3), .val (.int p4), .val (.ref b), .val (.ref a222), .val (.int (1 : Int32)), .val (.ref a228), .val (.int ((Int32.ofNat 1 - Int32.ofNat (own_cnt [c0, c1, c2, c3] 1 1 0)) + 1)), .val (.int (0 : Int32)), .unset] [(.int (1 : Int32))])) _
      refine XS.iconst X239.here hx rfl (hb hby at_130) ?_
      show Steps p.tables e below (T239.setTop (mkF m 131 #[.val (.int p0), .val (.int p1), .val (.int p2), .val (.int p3), .val (.int p4), .val (.ref b), .val (.ref a222), .val (.int (1 : Int32)), .val (.ref a228), .val (.int ((Int32.ofNat 1 - Int32.ofNat (own_cnt [c0, c1, c2, c3] 1 1 0)) + 1)), .val (.int (0 : Int32)), .unset] [(.int (4 : Int32)), (.int (1 : Int32))])) _
      refine XS.icmpYes X239.here hx rfl (pc0 := 131) (pc' := 151) rfl (hb hby at_131) rfl (XT.ii_lt_t (by decide)) (by decide) (by decide) ?_
      show Steps p.tables e below (T239.setTop (mkF m 151 #[.val (.int p0), .val (.int p1), .val (.int p2), .val (.int p3), .val (.int p4), .val (.ref b), .val (.ref a222), .val (.int (1 : Int32)), .val (.ref a228), .val (.int ((Int32.ofNat 1 - Int32.ofNat (own_cnt [c0, c1, c2, c3] 1 1 0)) + 1)), .val (.int (0 : Int32)), .unset] [])) _
      refine XS.iload X239.here hx rfl (hb hby at_151) rfl ?_
      show Steps p.tables e below (T239.setTop (mkF m 153 #[.val (.int p0), .val (.int p1), .val (.int p2), .val (.int p3), .val (.int p4), .val (.ref b), .val (.ref a222), .val (.int (1 : Int32)), .val (.ref a228), .val (.int ((Int32.ofNat 1 - Int32.ofNat (own_cnt [c0, c1, c2, c3] 1 1 0)) + 1)), .val (.int (0 : Int32)), .unset] [(.int (1 : Int32))])) _
      refine XS.iload X239.here hx rfl (hb hby at_153) rfl ?_
      show Steps p.tables e below (T239.setTop (mkF m 155 #[.val (.int p0), .val (.int p1), .val (.int p2), .val (.int p3), .val (.int p4), .val (.ref b), .val (.ref a222), .val (.int (1 : Int32)), .val (.ref a228), .val (.int ((Int32.ofNat 1 - Int32.ofNat (own_cnt [c0, c1, c2, c3] 1 1 0)) + 1)), .val (.int (0 : Int32)), .unset] [(.int (0 : Int32)), (.int (1 : Int32))])) _
      refine XS.isub X239.here hx rfl (hb hby at_155) rfl ?_
      show Steps p.tables e below (T239.setTop (mkF m 156 #[.val (.int p0), .val (.int p1), .val (.int p2), .val (.int p3), .val (.int p4), .val (.ref b), .val (.ref a222), .val (.int (1 : Int32)), .val (.ref a228), .val (.int ((Int32.ofNat 1 - Int32.ofNat (own_cnt [c0, c1, c2, c3] 1 1 0)) + 1)), .val (.int (0 : Int32)), .unset] [(.int ((1 : Int32) - (0 : Int32)))])) _
      refine XS.iconst X239.here hx rfl (hb hby at_156) ?_
      show Steps p.tables e below (T239.setTop (mkF m 157 #[.val (.int p0), .val (.int p1), .val (.int p2), .val (.int p3), .val (.int p4), .val (.ref b), .val (.ref a222), .val (.int (1 : Int32)), .val (.ref a228), .val (.int ((Int32.ofNat 1 - Int32.ofNat (own_cnt [c0, c1, c2, c3] 1 1 0)) + 1)), .val (.int (0 : Int32)), .unset] [(.int (1 : Int32)), (.int ((1 : Int32) - (0 : Int32)))])) _
      refine XS.iadd X239.here hx rfl (hb hby at_157) rfl ?_
      show Steps p.tables e below (T239.setTop (mkF m 158 #[.val (.int p0), .val (.int p1), .val (.int p2), .val (.int p3), .val (.int p4), .val (.ref b), .val (.ref a222), .val (.int (1 : Int32)), .val (.ref a228), .val (.int ((Int32.ofNat 1 - Int32.ofNat (own_cnt [c0, c1, c2, c3] 1 1 0)) + 1)), .val (.int (0 : Int32)), .unset] [(.int (((1 : Int32) - (0 : Int32)) + (1 : Int32)))])) _
      refine XS.istore X239.here hx rfl (hb hby at_158) rfl (l' := #[.val (.int p0), .val (.int p1), .val (.int p2), .val (.int p3), .val (.int p4), .val (.ref b), .val (.ref a222), .val (.int (1 : Int32)), .val (.ref a228), .val (.int ((Int32.ofNat 1 - Int32.ofNat (own_cnt [c0, c1, c2, c3] 1 1 0)) + 1)), .val (.int (0 : Int32)), .val (.int (((1 : Int32) - (0 : Int32)) + (1 : Int32)))]) rfl ?_
      show Steps p.tables e below (T239.setTop (mkF m 160 #[.val (.int p0), .val (.int p1), .val (.int p2), .val (.int p3), .val (.int p4), .val (.ref b), .val (.ref a222), .val (.int (1 : Int32)), .val (.ref a228), .val (.int ((Int32.ofNat 1 - Int32.ofNat (own_cnt [c0, c1, c2, c3] 1 1 0)) + 1)), .val (.int (0 : Int32)), .val (.int (((1 : Int32) - (0 : Int32)) + (1 : Int32)))] [])) _
      refine XS.iload X239.here hx rfl (hb hby at_160) rfl ?_
      show Steps p.tables e below (T239.setTop (mkF m 162 #[.val (.int p0), .val (.int p1), .val (.int p2), .val (.int p3), .val (.int p4), .val (.ref b), .val (.ref a222), .val (.int (1 : Int32)), .val (.ref a228), .val (.int ((Int32.ofNat 1 - Int32.ofNat (own_cnt [c0, c1, c2, c3] 1 1 0)) + 1)), .val (.int (0 : Int32)), .val (.int (((1 : Int32) - (0 : Int32)) + (1 : Int32)))] [(.int ((Int32.ofNat 1 - Int32.ofNat (own_cnt [c0, c1, c2, c3] 1 1 0)) + 1))])) _
      refine XS.iload X239.here hx rfl (hb hby at_162) rfl ?_
      exact kk_)
    have hcnt : own_cnt [c0, c1, c2, c3] 1 1 0 = 0 := by
      rw [own_cnt_out (by decide)]
    have heq : ((Int32.ofNat 1 - Int32.ofNat (own_cnt [c0, c1, c2, c3] 1 1 0)) + 1) = (((1 : Int32) - (0 : Int32)) + (1 : Int32)) := by rw [hcnt]; decide
    have S242 : own_Go p e below s₁ G T239 (mkF m 172 #[.val (.int p0), .val (.int p1), .val (.int p2), .val (.int p3), .val (.int p4), .val (.ref b), .val (.ref a222), .val (.int (1 : Int32)), .val (.ref a228), .val (.int ((Int32.ofNat 1 - Int32.ofNat (own_cnt [c0, c1, c2, c3] 1 1 0)) + 1)), .val (.int (0 : Int32)), .val (.int (((1 : Int32) - (0 : Int32)) + (1 : Int32)))] [(.int (1 : Int32))]) := fun tg_ kk_ => S241 tg_ (by
      refine XS.icmpNo X239.here hx rfl (hb hby at_164) rfl (XT.ii_ne_f heq) ?_
      show Steps p.tables e below (T239.setTop (mkF m 167 #[.val (.int p0), .val (.int p1), .val (.int p2), .val (.int p3), .val (.int p4), .val (.ref b), .val (.ref a222), .val (.int (1 : Int32)), .val (.ref a228), .val (.int ((Int32.ofNat 1 - Int32.ofNat (own_cnt [c0, c1, c2, c3] 1 1 0)) + 1)), .val (.int (0 : Int32)), .val (.int (((1 : Int32) - (0 : Int32)) + (1 : Int32)))] [])) _
      refine XS.iconst X239.here hx rfl (hb hby at_167) ?_
      show Steps p.tables e below (T239.setTop (mkF m 168 #[.val (.int p0), .val (.int p1), .val (.int p2), .val (.int p3), .val (.int p4), .val (.ref b), .val (.ref a222), .val (.int (1 : Int32)), .val (.ref a228), .val (.int ((Int32.ofNat 1 - Int32.ofNat (own_cnt [c0, c1, c2, c3] 1 1 0)) + 1)), .val (.int (0 : Int32)), .val (.int (((1 : Int32) - (0 : Int32)) + (1 : Int32)))] [(.int (1 : Int32))])) _
      refine XS.goto X239.here hx rfl (pc0 := 168) (pc' := 172) rfl (hb hby at_168) (by decide) (by decide) ?_
      exact kk_)
    obtain ⟨fs, hr, hrun, hended, hend⟩ := X239.leaveW hSL (by rw [e239]; exact hkf) (v := some (.int (1 : Int32))) (fun h => by rw [Bd.returns] at h; cases h)
    refine ⟨_, _, ?_, hrun, hended, _, _, rfl, ?_, hend.1, hend.2.1, hend.2.2.1, hend.2.2.2.mono (by decide) (by decide)⟩
    · rw [← hG]; exact S242 _ (retN X239 hx (t := .boolean) Bd.returns (by simp) (hb hby at_172) hr)
    · show Q0 Z p0 p1 p2 p3 p4 h0 n0 _ T239.heap _
      rw [e239]
      exact ⟨rfl, NE⟩
  · have _ := hn
    rw [hn] at S234
    obtain ⟨clv, Arv1, -, Szv, -, Hv, -⟩ := id Vf
    obtain ⟨_, T243, h243, L243, X243, e243, hQ243, st243⟩ := own_callV X232 hx hZL (y := (⟨"com/example/kept_triples/kepttriples/model/LabelLexer", "column", "(I)I"⟩ : MethodName)) hownL (hw _ (List.mem_of_getElem? (i := 70) rfl)) (hw _ (List.mem_of_getElem? (i := 71) rfl)) (hw _ (List.mem_of_getElem? (i := 73) rfl)) (hw _ (List.mem_of_getElem? (i := 72) rfl)) (hw _ (List.mem_of_getElem? (i := 58) rfl)) (hw _ (List.mem_of_getElem? (i := 74) rfl)) (by decide) 0 (g := (mkF m 74 #[.val (.int p0), .val (.int p1), .val (.int p2), .val (.int p3), .val (.int p4), .val (.ref b), .val (.ref a222), .val (.int (2 : Int32)), .val (.ref a228), .unset, .unset, .unset] [(.int (2 : Int32)), (.ref a228)])) rfl (by rw [hml]; rfl) a228 Ef [(.int (2 : Int32))] [] (rm14 l Z a0 hw [] a228 a222 t [c0, c1, c2, c3] 2 h232 n0 Zf z Of O2 P5 FI Sf (by simp) (by simp) hch A16) (lenOf pd9 rfl) rfl (by show 2 * 0 + _ ≤ _; exact Nat.le_of_eq rfl) (hb hby at_74) (by decide) (by decide) e232 (by decide) (by decide)
    obtain ⟨rfl, N243, rfl⟩ := hQ243
    have S244 : own_Go p e below s₁ G T243 (mkF m 77 #[.val (.int p0), .val (.int p1), .val (.int p2), .val (.int p3), .val (.int p4), .val (.ref b), .val (.ref a222), .val (.int (2 : Int32)), .val (.ref a228), .unset, .unset, .unset] [(.int ((Int32.ofNat 2 - Int32.ofNat (own_cnt [c0, c1, c2, c3] 2 2 0)) + 1))]) := fun tg_ kk_ => S234 tg_ (st243 tg_ kk_)
    have NE := Fr.app ND N243
    have S245 : own_Go p e below s₁ G T243 (mkF m 96 #[.val (.int p0), .val (.int p1), .val (.int p2), .val (.int p3), .val (.int p4), .val (.ref b), .val (.ref a222), .val (.int (2 : Int32)), .val (.ref a228), .val (.int ((Int32.ofNat 2 - Int32.ofNat (own_cnt [c0, c1, c2, c3] 2 2 0)) + 1)), .val (.int (0 : Int32)), .unset] [(.int c1), (.int c0)]) := fun tg_ kk_ => S244 tg_ (by
      refine XS.istore X243.here hx rfl (hb hby at_77) rfl (l' := #[.val (.int p0), .val (.int p1), .val (.int p2), .val (.int p3), .val (.int p4), .val (.ref b), .val (.ref a222), .val (.int (2 : Int32)), .val (.ref a228), .val (.int ((Int32.ofNat 2 - Int32.ofNat (own_cnt [c0, c1, c2, c3] 2 2 0)) + 1)), .unset, .unset]) rfl ?_
      show Steps p.tables e below (T243.setTop (mkF m 79 #[.val (.int p0), .val (.int p1), .val (.int p2), .val (.int p3), .val (.int p4), .val (.ref b), .val (.ref a222), .val (.int (2 : Int32)), .val (.ref a228), .val (.int ((Int32.ofNat 2 - Int32.ofNat (own_cnt [c0, c1, c2, c3] 2 2 0)) + 1)), .unset, .unset] [])) _
      refine XS.iconst X243.here hx rfl (hb hby at_79) ?_
      show Steps p.tables e below (T243.setTop (mkF m 80 #[.val (.int p0), .val (.int p1), .val (.int p2), .val (.int p3), .val (.int p4), .val (.ref b), .val (.ref a222), .val (.int (2 : Int32)), .val (.ref a228), .val (.int ((Int32.ofNat 2 - Int32.ofNat (own_cnt [c0, c1, c2, c3] 2 2 0)) + 1)), .unset, .unset] [(.int (0 : Int32))])) _
      refine XS.istore X243.here hx rfl (hb hby at_80) rfl (l' := #[.val (.int p0), .val (.int p1), .val (.int p2), .val (.int p3), .val (.int p4), .val (.ref b), .val (.ref a222), .val (.int (2 : Int32)), .val (.ref a228), .val (.int ((Int32.ofNat 2 - Int32.ofNat (own_cnt [c0, c1, c2, c3] 2 2 0)) + 1)), .val (.int (0 : Int32)), .unset]) rfl ?_
      show Steps p.tables e below (T243.setTop (mkF m 82 #[.val (.int p0), .val (.int p1), .val (.int p2), .val (.int p3), .val (.int p4), .val (.ref b), .val (.ref a222), .val (.int (2 : Int32)), .val (.ref a228), .val (.int ((Int32.ofNat 2 - Int32.ofNat (own_cnt [c0, c1, c2, c3] 2 2 0)) + 1)), .val (.int (0 : Int32)), .unset] [])) _
      refine XS.iload X243.here hx rfl (hb hby at_82) rfl ?_
      show Steps p.tables e below (T243.setTop (mkF m 84 #[.val (.int p0), .val (.int p1), .val (.int p2), .val (.int p3), .val (.int p4), .val (.ref b), .val (.ref a222), .val (.int (2 : Int32)), .val (.ref a228), .val (.int ((Int32.ofNat 2 - Int32.ofNat (own_cnt [c0, c1, c2, c3] 2 2 0)) + 1)), .val (.int (0 : Int32)), .unset] [(.int (2 : Int32))])) _
      refine XS.iconst X243.here hx rfl (hb hby at_84) ?_
      show Steps p.tables e below (T243.setTop (mkF m 85 #[.val (.int p0), .val (.int p1), .val (.int p2), .val (.int p3), .val (.int p4), .val (.ref b), .val (.ref a222), .val (.int (2 : Int32)), .val (.ref a228), .val (.int ((Int32.ofNat 2 - Int32.ofNat (own_cnt [c0, c1, c2, c3] 2 2 0)) + 1)), .val (.int (0 : Int32)), .unset] [(.int (2 : Int32)), (.int (2 : Int32))])) _
      refine XS.icmpNo X243.here hx rfl (hb hby at_85) rfl (XT.ii_lt_f (by decide)) ?_
      show Steps p.tables e below (T243.setTop (mkF m 88 #[.val (.int p0), .val (.int p1), .val (.int p2), .val (.int p3), .val (.int p4), .val (.ref b), .val (.ref a222), .val (.int (2 : Int32)), .val (.ref a228), .val (.int ((Int32.ofNat 2 - Int32.ofNat (own_cnt [c0, c1, c2, c3] 2 2 0)) + 1)), .val (.int (0 : Int32)), .unset] [])) _
      refine XS.aload X243.here hx rfl (hb hby at_88) rfl rfl ?_
      show Steps p.tables e below (T243.setTop (mkF m 90 #[.val (.int p0), .val (.int p1), .val (.int p2), .val (.int p3), .val (.int p4), .val (.ref b), .val (.ref a222), .val (.int (2 : Int32)), .val (.ref a228), .val (.int ((Int32.ofNat 2 - Int32.ofNat (own_cnt [c0, c1, c2, c3] 2 2 0)) + 1)), .val (.int (0 : Int32)), .unset] [(.ref b)])) _
      refine XS.iconst X243.here hx rfl (hb hby at_90) ?_
      show Steps p.tables e below (T243.setTop (mkF m 91 #[.val (.int p0), .val (.int p1), .val (.int p2), .val (.int p3), .val (.int p4), .val (.ref b), .val (.ref a222), .val (.int (2 : Int32)), .val (.ref a228), .val (.int ((Int32.ofNat 2 - Int32.ofNat (own_cnt [c0, c1, c2, c3] 2 2 0)) + 1)), .val (.int (0 : Int32)), .unset] [(.int (0 : Int32)), (.ref b)])) _
      refine X243.caload hx (j := (0 : Int32)) (v := (.int c0)) (cell := clv) (by rw [e243]; exact Arv1.1) (State.isArrayOf_alike hZL.alike Arv1.2.1) Arv1.2.2 (inb_of Szv (by decide)) (Hv.at (inb_of Szv (by decide)) rfl) (g := (mkF m 91 #[.val (.int p0), .val (.int p1), .val (.int p2), .val (.int p3), .val (.int p4), .val (.ref b), .val (.ref a222), .val (.int (2 : Int32)), .val (.ref a228), .val (.int ((Int32.ofNat 2 - Int32.ofNat (own_cnt [c0, c1, c2, c3] 2 2 0)) + 1)), .val (.int (0 : Int32)), .unset] [(.int (0 : Int32)), (.ref b)])) rfl rfl (hb hby at_91) _ ?_
      show Steps p.tables e below (T243.setTop (mkF m 92 #[.val (.int p0), .val (.int p1), .val (.int p2), .val (.int p3), .val (.int p4), .val (.ref b), .val (.ref a222), .val (.int (2 : Int32)), .val (.ref a228), .val (.int ((Int32.ofNat 2 - Int32.ofNat (own_cnt [c0, c1, c2, c3] 2 2 0)) + 1)), .val (.int (0 : Int32)), .unset] [(.int c0)])) _
      refine XS.aload X243.here hx rfl (hb hby at_92) rfl rfl ?_
      show Steps p.tables e below (T243.setTop (mkF m 94 #[.val (.int p0), .val (.int p1), .val (.int p2), .val (.int p3), .val (.int p4), .val (.ref b), .val (.ref a222), .val (.int (2 : Int32)), .val (.ref a228), .val (.int ((Int32.ofNat 2 - Int32.ofNat (own_cnt [c0, c1, c2, c3] 2 2 0)) + 1)), .val (.int (0 : Int32)), .unset] [(.ref b), (.int c0)])) _
      refine XS.iconst X243.here hx rfl (hb hby at_94) ?_
      show Steps p.tables e below (T243.setTop (mkF m 95 #[.val (.int p0), .val (.int p1), .val (.int p2), .val (.int p3), .val (.int p4), .val (.ref b), .val (.ref a222), .val (.int (2 : Int32)), .val (.ref a228), .val (.int ((Int32.ofNat 2 - Int32.ofNat (own_cnt [c0, c1, c2, c3] 2 2 0)) + 1)), .val (.int (0 : Int32)), .unset] [(.int (1 : Int32)), (.ref b), (.int c0)])) _
      refine X243.caload hx (j := (1 : Int32)) (v := (.int c1)) (cell := clv) (by rw [e243]; exact Arv1.1) (State.isArrayOf_alike hZL.alike Arv1.2.1) Arv1.2.2 (inb_of Szv (by decide)) (Hv.at (inb_of Szv (by decide)) rfl) (g := (mkF m 95 #[.val (.int p0), .val (.int p1), .val (.int p2), .val (.int p3), .val (.int p4), .val (.ref b), .val (.ref a222), .val (.int (2 : Int32)), .val (.ref a228), .val (.int ((Int32.ofNat 2 - Int32.ofNat (own_cnt [c0, c1, c2, c3] 2 2 0)) + 1)), .val (.int (0 : Int32)), .unset] [(.int (1 : Int32)), (.ref b), (.int c0)])) rfl rfl (hb hby at_95) _ ?_
      exact kk_)
    obtain ⟨_, T246, h246, L246, X246, e246, hQ246, st246⟩ := own_callS X243 hx hZL (y := (⟨"com/example/kept_triples/kepttriples/model/LabelLexerColumnPinLaw", "pair", "(CC)Z"⟩ : MethodName)) hownL (hw _ (List.mem_of_getElem? (i := 114) rfl)) (hw _ (List.mem_of_getElem? (i := 115) rfl)) (hw _ (List.mem_of_getElem? (i := 3) rfl)) (hw _ (List.mem_of_getElem? (i := 116) rfl)) (by decide) 0 (g := (mkF m 96 #[.val (.int p0), .val (.int p1), .val (.int p2), .val (.int p3), .val (.int p4), .val (.ref b), .val (.ref a222), .val (.int (2 : Int32)), .val (.ref a228), .val (.int ((Int32.ofNat 2 - Int32.ofNat (own_cnt [c0, c1, c2, c3] 2 2 0)) + 1)), .val (.int (0 : Int32)), .unset] [(.int c1), (.int c0)])) rfl (by rw [hml]; rfl) [(.int c0), (.int c1)] [] (rm24 l Z a0 hw [] c0 c1 h232 n0 Zf) (lenOf pd23 rfl) rfl (by show 2 * 0 + _ ≤ _; exact Nat.le_of_eq rfl) (hb hby at_96) (by decide) (by decide) e243 (by decide) (by decide)
    rcases hQ246 with ⟨⟨hp0, rfl⟩ | ⟨hp0, rfl⟩, N246, rfl⟩
    · have _ := e246
      have S247 : own_Go p e below s₁ G T246 (mkF m 99 #[.val (.int p0), .val (.int p1), .val (.int p2), .val (.int p3), .val (.int p4), .val (.ref b), .val (.ref a222), .val (.int (2 : Int32)), .val (.ref a228), .val (.int ((Int32.ofNat 2 - Int32.ofNat (own_cnt [c0, c1, c2, c3] 2 2 0)) + 1)), .val (.int (0 : Int32)), .unset] [(.int (1 : Int32))]) := fun tg_ kk_ => S245 tg_ (st246 tg_ kk_)
      have NP0 := Fr.app NE N246
      have S248 : own_Go p e below s₁ G T246 (mkF m 164 #[.val (.int p0), .val (.int p1), .val (.int p2), .val (.int p3), .val (.int p4), .val (.ref b), .val (.ref a222), .val (.int (2 : Int32)), .val (.ref a228), .val (.int ((Int32.ofNat 2 - Int32.ofNat (own_cnt [c0, c1, c2, c3] 2 2 0)) + 1)), .val (.int ((0 : Int32) + (1 : Int32))), .val (.int (((2 : Int32) - ((0 : Int32) + (1 : Int32))) + (1 : Int32)))] [(.int (((2 : Int32) - ((0 : Int32) + (1 : Int32))) + (1 : Int32))), (.int ((Int32.ofNat 2 - Int32.ofNat (own_cnt [c0, c1, c2, c3] 2 2 0)) + 1))]) := fun tg_ kk_ => S247 tg_ (by
        refine XS.ifNo X246.here hx rfl (hb hby at_99) rfl (by decide) ?_
        show Steps p.tables e below (T246.setTop (mkF m 102 #[.val (.int p0), .val (.int p1), .val (.int p2), .val (.int p3), .val (.int p4), .val (.ref b), .val (.ref a222), .val (.int (2 : Int32)), .val (.ref a228), .val (.int ((Int32.ofNat 2 - Int32.ofNat (own_cnt [c0, c1, c2, c3] 2 2 0)) + 1)), .val (.int (0 : Int32)), .unset] [])) _
        refine XS.iinc X246.here hx rfl (hb hby at_102) rfl (l' := #[.val (.int p0), .val (.int p1), .val (.int p2), .val (.int p3), .val (.int p4), .val (.ref b), .val (.ref a222), .val (.int (2 : Int32)), .val (.ref a228), .val (.int ((Int32.ofNat 2 - Int32.ofNat (own_cnt [c0, c1, c2, c3] 2 2 0)) + 1)), .val (.int ((0 : Int32) + (1 : Int32))), .unset]) rfl ?_
        show Steps p.tables e below (T246.setTop (mkF m 105 #[.val (.int p0), .val (.int p1), .val (.int p2), .val (.int p3), .val (.int p4), .val (.ref b), .val (.ref a222), .val (.int (2 : Int32)), .val (.ref a228), .val (.int ((Int32.ofNat 2 - Int32.ofNat (own_cnt [c0, c1, c2, c3] 2 2 0)) + 1)), .val (.int ((0 : Int32) + (1 : Int32))), .unset] [])) _
        refine XS.iload X246.here hx rfl (hb hby at_105) rfl ?_
        show Steps p.tables e below (T246.setTop (mkF m 107 #[.val (.int p0), .val (.int p1), .val (.int p2), .val (.int p3), .val (.int p4), .val (.ref b), .val (.ref a222), .val (.int (2 : Int32)), .val (.ref a228), .val (.int ((Int32.ofNat 2 - Int32.ofNat (own_cnt [c0, c1, c2, c3] 2 2 0)) + 1)), .val (.int ((0 : Int32) + (1 : Int32))), .unset] [(.int (2 : Int32))])) _
        refine XS.iconst X246.here hx rfl (hb hby at_107) ?_
        show Steps p.tables e below (T246.setTop (mkF m 108 #[.val (.int p0), .val (.int p1), .val (.int p2), .val (.int p3), .val (.int p4), .val (.ref b), .val (.ref a222), .val (.int (2 : Int32)), .val (.ref a228), .val (.int ((Int32.ofNat 2 - Int32.ofNat (own_cnt [c0, c1, c2, c3] 2 2 0)) + 1)), .val (.int ((0 : Int32) + (1 : Int32))), .unset] [(.int (3 : Int32)), (.int (2 : Int32))])) _
        refine XS.icmpYes X246.here hx rfl (pc0 := 108) (pc' := 128) rfl (hb hby at_108) rfl (XT.ii_lt_t (by decide)) (by decide) (by decide) ?_
        show Steps p.tables e below (T246.setTop (mkF m 128 #[.val (.int p0), .val (.int p1), .val (.int p2), .val (.int p3), .val (.int p4), .val (.ref b), .val (.ref a222), .val (.int (2 : Int32)), .val (.ref a228), .val (.int ((Int32.ofNat 2 - Int32.ofNat (own_cnt [c0, c1, c2, c3] 2 2 0)) + 1)), .val (.int ((0 : Int32) + (1 : Int32))), .unset] [])) _
        refine XS.iload X246.here hx rfl (hb hby at_128) rfl ?_
        show Steps p.tables e below (T246.setTop (mkF m 130 #[.val (.int p0), .val (.int p1), .val (.int p2), .val (.int p3), .val (.int p4), .val (.ref b), .val (.ref a222), .val (.int (2 : Int32)), .val (.ref a228), .val (.int ((Int32.ofNat 2 - Int32.ofNat (own_cnt [c0, c1, c2, c3] 2 2 0)) + 1)), .val (.int ((0 : Int32) + (1 : Int32))), .unset] [(.int (2 : Int32))])) _
        refine XS.iconst X246.here hx rfl (hb hby at_130) ?_
        show Steps p.tables e below (T246.setTop (mkF m 131 #[.val (.int p0), .val (.int p1), .val (.int p2), .val (.int p3), .val (.int p4), .val (.ref b), .val (.ref a222), .val (.int (2 : Int32)), .val (.ref a228), .val (.int ((Int32.ofNat 2 - Int32.ofNat (own_cnt [c0, c1, c2, c3] 2 2 0)) + 1)), .val (.int ((0 : Int32) + (1 : Int32))), .unset] [(.int (4 : Int32)), (.int (2 : Int32))])) _
        refine XS.icmpYes X246.here hx rfl (pc0 := 131) (pc' := 151) rfl (hb hby at_131) rfl (XT.ii_lt_t (by decide)) (by decide) (by decide) ?_
        show Steps p.tables e below (T246.setTop (mkF m 151 #[.val (.int p0), .val (.int p1), .val (.int p2), .val (.int p3), .val (.int p4), .val (.ref b), .val (.ref a222), .val (.int (2 : Int32)), .val (.ref a228), .val (.int ((Int32.ofNat 2 - Int32.ofNat (own_cnt [c0, c1, c2, c3] 2 2 0)) + 1)), .val (.int ((0 : Int32) + (1 : Int32))), .unset] [])) _
        refine XS.iload X246.here hx rfl (hb hby at_151) rfl ?_
        show Steps p.tables e below (T246.setTop (mkF m 153 #[.val (.int p0), .val (.int p1), .val (.int p2), .val (.int p3), .val (.int p4), .val (.ref b), .val (.ref a222), .val (.int (2 : Int32)), .val (.ref a228), .val (.int ((Int32.ofNat 2 - Int32.ofNat (own_cnt [c0, c1, c2, c3] 2 2 0)) + 1)), .val (.int ((0 : Int32) + (1 : Int32))), .unset] [(.int (2 : Int32))])) _
        refine XS.iload X246.here hx rfl (hb hby at_153) rfl ?_
        show Steps p.tables e below (T246.setTop (mkF m 155 #[.val (.int p0), .val (.int p1), .val (.int p2), .val (.int p3), .val (.int p4), .val (.ref b), .val (.ref a222), .val (.int (2 : Int32)), .val (.ref a228), .val (.int ((Int32.ofNat 2 - Int32.ofNat (own_cnt [c0, c1, c2, c3] 2 2 0)) + 1)), .val (.int ((0 : Int32) + (1 : Int32))), .unset] [(.int ((0 : Int32) + (1 : Int32))), (.int (2 : Int32))])) _
        refine XS.isub X246.here hx rfl (hb hby at_155) rfl ?_
        show Steps p.tables e below (T246.setTop (mkF m 156 #[.val (.int p0), .val (.int p1), .val (.int p2), .val (.int p3), .val (.int p4), .val (.ref b), .val (.ref a222), .val (.int (2 : Int32)), .val (.ref a228), .val (.int ((Int32.ofNat 2 - Int32.ofNat (own_cnt [c0, c1, c2, c3] 2 2 0)) + 1)), .val (.int ((0 : Int32) + (1 : Int32))), .unset] [(.int ((2 : Int32) - ((0 : Int32) + (1 : Int32))))])) _
        refine XS.iconst X246.here hx rfl (hb hby at_156) ?_
        show Steps p.tables e below (T246.setTop (mkF m 157 #[.val (.int p0), .val (.int p1), .val (.int p2), .val (.int p3), .val (.int p4), .val (.ref b), .val (.ref a222), .val (.int (2 : Int32)), .val (.ref a228), .val (.int ((Int32.ofNat 2 - Int32.ofNat (own_cnt [c0, c1, c2, c3] 2 2 0)) + 1)), .val (.int ((0 : Int32) + (1 : Int32))), .unset] [(.int (1 : Int32)), (.int ((2 : Int32) - ((0 : Int32) + (1 : Int32))))])) _
        refine XS.iadd X246.here hx rfl (hb hby at_157) rfl ?_
        show Steps p.tables e below (T246.setTop (mkF m 158 #[.val (.int p0), .val (.int p1), .val (.int p2), .val (.int p3), .val (.int p4), .val (.ref b), .val (.ref a222), .val (.int (2 : Int32)), .val (.ref a228), .val (.int ((Int32.ofNat 2 - Int32.ofNat (own_cnt [c0, c1, c2, c3] 2 2 0)) + 1)), .val (.int ((0 : Int32) + (1 : Int32))), .unset] [(.int (((2 : Int32) - ((0 : Int32) + (1 : Int32))) + (1 : Int32)))])) _
        refine XS.istore X246.here hx rfl (hb hby at_158) rfl (l' := #[.val (.int p0), .val (.int p1), .val (.int p2), .val (.int p3), .val (.int p4), .val (.ref b), .val (.ref a222), .val (.int (2 : Int32)), .val (.ref a228), .val (.int ((Int32.ofNat 2 - Int32.ofNat (own_cnt [c0, c1, c2, c3] 2 2 0)) + 1)), .val (.int ((0 : Int32) + (1 : Int32))), .val (.int (((2 : Int32) - ((0 : Int32) + (1 : Int32))) + (1 : Int32)))]) rfl ?_
        show Steps p.tables e below (T246.setTop (mkF m 160 #[.val (.int p0), .val (.int p1), .val (.int p2), .val (.int p3), .val (.int p4), .val (.ref b), .val (.ref a222), .val (.int (2 : Int32)), .val (.ref a228), .val (.int ((Int32.ofNat 2 - Int32.ofNat (own_cnt [c0, c1, c2, c3] 2 2 0)) + 1)), .val (.int ((0 : Int32) + (1 : Int32))), .val (.int (((2 : Int32) - ((0 : Int32) + (1 : Int32))) + (1 : Int32)))] [])) _
        refine XS.iload X246.here hx rfl (hb hby at_160) rfl ?_
        show Steps p.tables e below (T246.setTop (mkF m 162 #[.val (.int p0), .val (.int p1), .val (.int p2), .val (.int p3), .val (.int p4), .val (.ref b), .val (.ref a222), .val (.int (2 : Int32)), .val (.ref a228), .val (.int ((Int32.ofNat 2 - Int32.ofNat (own_cnt [c0, c1, c2, c3] 2 2 0)) + 1)), .val (.int ((0 : Int32) + (1 : Int32))), .val (.int (((2 : Int32) - ((0 : Int32) + (1 : Int32))) + (1 : Int32)))] [(.int ((Int32.ofNat 2 - Int32.ofNat (own_cnt [c0, c1, c2, c3] 2 2 0)) + 1))])) _
        refine XS.iload X246.here hx rfl (hb hby at_162) rfl ?_
        exact kk_)
      have hcnt : own_cnt [c0, c1, c2, c3] 2 2 0 = 1 := by
        rw [own_cnt_p (cs := [c0, c1, c2, c3]) (e := 2) (f := 1) (i := 0) (by decide) hp0, own_cnt_out (by decide)]
      have heq : ((Int32.ofNat 2 - Int32.ofNat (own_cnt [c0, c1, c2, c3] 2 2 0)) + 1) = (((2 : Int32) - ((0 : Int32) + (1 : Int32))) + (1 : Int32)) := by rw [hcnt]; decide
      have S249 : own_Go p e below s₁ G T246 (mkF m 172 #[.val (.int p0), .val (.int p1), .val (.int p2), .val (.int p3), .val (.int p4), .val (.ref b), .val (.ref a222), .val (.int (2 : Int32)), .val (.ref a228), .val (.int ((Int32.ofNat 2 - Int32.ofNat (own_cnt [c0, c1, c2, c3] 2 2 0)) + 1)), .val (.int ((0 : Int32) + (1 : Int32))), .val (.int (((2 : Int32) - ((0 : Int32) + (1 : Int32))) + (1 : Int32)))] [(.int (1 : Int32))]) := fun tg_ kk_ => S248 tg_ (by
        refine XS.icmpNo X246.here hx rfl (hb hby at_164) rfl (XT.ii_ne_f heq) ?_
        show Steps p.tables e below (T246.setTop (mkF m 167 #[.val (.int p0), .val (.int p1), .val (.int p2), .val (.int p3), .val (.int p4), .val (.ref b), .val (.ref a222), .val (.int (2 : Int32)), .val (.ref a228), .val (.int ((Int32.ofNat 2 - Int32.ofNat (own_cnt [c0, c1, c2, c3] 2 2 0)) + 1)), .val (.int ((0 : Int32) + (1 : Int32))), .val (.int (((2 : Int32) - ((0 : Int32) + (1 : Int32))) + (1 : Int32)))] [])) _
        refine XS.iconst X246.here hx rfl (hb hby at_167) ?_
        show Steps p.tables e below (T246.setTop (mkF m 168 #[.val (.int p0), .val (.int p1), .val (.int p2), .val (.int p3), .val (.int p4), .val (.ref b), .val (.ref a222), .val (.int (2 : Int32)), .val (.ref a228), .val (.int ((Int32.ofNat 2 - Int32.ofNat (own_cnt [c0, c1, c2, c3] 2 2 0)) + 1)), .val (.int ((0 : Int32) + (1 : Int32))), .val (.int (((2 : Int32) - ((0 : Int32) + (1 : Int32))) + (1 : Int32)))] [(.int (1 : Int32))])) _
        refine XS.goto X246.here hx rfl (pc0 := 168) (pc' := 172) rfl (hb hby at_168) (by decide) (by decide) ?_
        exact kk_)
      obtain ⟨fs, hr, hrun, hended, hend⟩ := X246.leaveW hSL (by rw [e246]; exact hkf) (v := some (.int (1 : Int32))) (fun h => by rw [Bd.returns] at h; cases h)
      refine ⟨_, _, ?_, hrun, hended, _, _, rfl, ?_, hend.1, hend.2.1, hend.2.2.1, hend.2.2.2.mono (by decide) (by decide)⟩
      · rw [← hG]; exact S249 _ (retN X246 hx (t := .boolean) Bd.returns (by simp) (hb hby at_172) hr)
      · show Q0 Z p0 p1 p2 p3 p4 h0 n0 _ T246.heap _
        rw [e246]
        exact ⟨rfl, NP0⟩
    · have _ := e246
      have S250 : own_Go p e below s₁ G T246 (mkF m 99 #[.val (.int p0), .val (.int p1), .val (.int p2), .val (.int p3), .val (.int p4), .val (.ref b), .val (.ref a222), .val (.int (2 : Int32)), .val (.ref a228), .val (.int ((Int32.ofNat 2 - Int32.ofNat (own_cnt [c0, c1, c2, c3] 2 2 0)) + 1)), .val (.int (0 : Int32)), .unset] [(.int (0 : Int32))]) := fun tg_ kk_ => S245 tg_ (st246 tg_ kk_)
      have NP0 := Fr.app NE N246
      have S251 : own_Go p e below s₁ G T246 (mkF m 164 #[.val (.int p0), .val (.int p1), .val (.int p2), .val (.int p3), .val (.int p4), .val (.ref b), .val (.ref a222), .val (.int (2 : Int32)), .val (.ref a228), .val (.int ((Int32.ofNat 2 - Int32.ofNat (own_cnt [c0, c1, c2, c3] 2 2 0)) + 1)), .val (.int (0 : Int32)), .val (.int (((2 : Int32) - (0 : Int32)) + (1 : Int32)))] [(.int (((2 : Int32) - (0 : Int32)) + (1 : Int32))), (.int ((Int32.ofNat 2 - Int32.ofNat (own_cnt [c0, c1, c2, c3] 2 2 0)) + 1))]) := fun tg_ kk_ => S250 tg_ (by
        refine XS.ifYes X246.here hx rfl (pc0 := 99) (pc' := 105) rfl (hb hby at_99) rfl (by decide) (by decide) (by decide) ?_
        show Steps p.tables e below (T246.setTop (mkF m 105 #[.val (.int p0), .val (.int p1), .val (.int p2), .val (.int p3), .val (.int p4), .val (.ref b), .val (.ref a222), .val (.int (2 : Int32)), .val (.ref a228), .val (.int ((Int32.ofNat 2 - Int32.ofNat (own_cnt [c0, c1, c2, c3] 2 2 0)) + 1)), .val (.int (0 : Int32)), .unset] [])) _
        refine XS.iload X246.here hx rfl (hb hby at_105) rfl ?_
        show Steps p.tables e below (T246.setTop (mkF m 107 #[.val (.int p0), .val (.int p1), .val (.int p2), .val (.int p3), .val (.int p4), .val (.ref b), .val (.ref a222), .val (.int (2 : Int32)), .val (.ref a228), .val (.int ((Int32.ofNat 2 - Int32.ofNat (own_cnt [c0, c1, c2, c3] 2 2 0)) + 1)), .val (.int (0 : Int32)), .unset] [(.int (2 : Int32))])) _
        refine XS.iconst X246.here hx rfl (hb hby at_107) ?_
        show Steps p.tables e below (T246.setTop (mkF m 108 #[.val (.int p0), .val (.int p1), .val (.int p2), .val (.int p3), .val (.int p4), .val (.ref b), .val (.ref a222), .val (.int (2 : Int32)), .val (.ref a228), .val (.int ((Int32.ofNat 2 - Int32.ofNat (own_cnt [c0, c1, c2, c3] 2 2 0)) + 1)), .val (.int (0 : Int32)), .unset] [(.int (3 : Int32)), (.int (2 : Int32))])) _
        refine XS.icmpYes X246.here hx rfl (pc0 := 108) (pc' := 128) rfl (hb hby at_108) rfl (XT.ii_lt_t (by decide)) (by decide) (by decide) ?_
        show Steps p.tables e below (T246.setTop (mkF m 128 #[.val (.int p0), .val (.int p1), .val (.int p2), .val (.int p3), .val (.int p4), .val (.ref b), .val (.ref a222), .val (.int (2 : Int32)), .val (.ref a228), .val (.int ((Int32.ofNat 2 - Int32.ofNat (own_cnt [c0, c1, c2, c3] 2 2 0)) + 1)), .val (.int (0 : Int32)), .unset] [])) _
        refine XS.iload X246.here hx rfl (hb hby at_128) rfl ?_
        show Steps p.tables e below (T246.setTop (mkF m 130 #[.val (.int p0), .val (.int p1), .val (.int p2), .val (.int p3), .val (.int p4), .val (.ref b), .val (.ref a222), .val (.int (2 : Int32)), .val (.ref a228), .val (.int ((Int32.ofNat 2 - Int32.ofNat (own_cnt [c0, c1, c2, c3] 2 2 0)) + 1)), .val (.int (0 : Int32)), .unset] [(.int (2 : Int32))])) _
        refine XS.iconst X246.here hx rfl (hb hby at_130) ?_
        show Steps p.tables e below (T246.setTop (mkF m 131 #[.val (.int p0), .val (.int p1), .val (.int p2), .val (.int p3), .val (.int p4), .val (.ref b), .val (.ref a222), .val (.int (2 : Int32)), .val (.ref a228), .val (.int ((Int32.ofNat 2 - Int32.ofNat (own_cnt [c0, c1, c2, c3] 2 2 0)) + 1)), .val (.int (0 : Int32)), .unset] [(.int (4 : Int32)), (.int (2 : Int32))])) _
        refine XS.icmpYes X246.here hx rfl (pc0 := 131) (pc' := 151) rfl (hb hby at_131) rfl (XT.ii_lt_t (by decide)) (by decide) (by decide) ?_
        show Steps p.tables e below (T246.setTop (mkF m 151 #[.val (.int p0), .val (.int p1), .val (.int p2), .val (.int p3), .val (.int p4), .val (.ref b), .val (.ref a222), .val (.int (2 : Int32)), .val (.ref a228), .val (.int ((Int32.ofNat 2 - Int32.ofNat (own_cnt [c0, c1, c2, c3] 2 2 0)) + 1)), .val (.int (0 : Int32)), .unset] [])) _
        refine XS.iload X246.here hx rfl (hb hby at_151) rfl ?_
        show Steps p.tables e below (T246.setTop (mkF m 153 #[.val (.int p0), .val (.int p1), .val (.int p2), .val (.int p3), .val (.int p4), .val (.ref b), .val (.ref a222), .val (.int (2 : Int32)), .val (.ref a228), .val (.int ((Int32.ofNat 2 - Int32.ofNat (own_cnt [c0, c1, c2, c3] 2 2 0)) + 1)), .val (.int (0 : Int32)), .unset] [(.int (2 : Int32))])) _
        refine XS.iload X246.here hx rfl (hb hby at_153) rfl ?_
        show Steps p.tables e below (T246.setTop (mkF m 155 #[.val (.int p0), .val (.int p1), .val (.int p2), .val (.int p3), .val (.int p4), .val (.ref b), .val (.ref a222), .val (.int (2 : Int32)), .val (.ref a228), .val (.int ((Int32.ofNat 2 - Int32.ofNat (own_cnt [c0, c1, c2, c3] 2 2 0)) + 1)), .val (.int (0 : Int32)), .unset] [(.int (0 : Int32)), (.int (2 : Int32))])) _
        refine XS.isub X246.here hx rfl (hb hby at_155) rfl ?_
        show Steps p.tables e below (T246.setTop (mkF m 156 #[.val (.int p0), .val (.int p1), .val (.int p2), .val (.int p3), .val (.int p4), .val (.ref b), .val (.ref a222), .val (.int (2 : Int32)), .val (.ref a228), .val (.int ((Int32.ofNat 2 - Int32.ofNat (own_cnt [c0, c1, c2, c3] 2 2 0)) + 1)), .val (.int (0 : Int32)), .unset] [(.int ((2 : Int32) - (0 : Int32)))])) _
        refine XS.iconst X246.here hx rfl (hb hby at_156) ?_
        show Steps p.tables e below (T246.setTop (mkF m 157 #[.val (.int p0), .val (.int p1), .val (.int p2), .val (.int p3), .val (.int p4), .val (.ref b), .val (.ref a222), .val (.int (2 : Int32)), .val (.ref a228), .val (.int ((Int32.ofNat 2 - Int32.ofNat (own_cnt [c0, c1, c2, c3] 2 2 0)) + 1)), .val (.int (0 : Int32)), .unset] [(.int (1 : Int32)), (.int ((2 : Int32) - (0 : Int32)))])) _
        refine XS.iadd X246.here hx rfl (hb hby at_157) rfl ?_
        show Steps p.tables e below (T246.setTop (mkF m 158 #[.val (.int p0), .val (.int p1), .val (.int p2), .val (.int p3), .val (.int p4), .val (.ref b), .val (.ref a222), .val (.int (2 : Int32)), .val (.ref a228), .val (.int ((Int32.ofNat 2 - Int32.ofNat (own_cnt [c0, c1, c2, c3] 2 2 0)) + 1)), .val (.int (0 : Int32)), .unset] [(.int (((2 : Int32) - (0 : Int32)) + (1 : Int32)))])) _
        refine XS.istore X246.here hx rfl (hb hby at_158) rfl (l' := #[.val (.int p0), .val (.int p1), .val (.int p2), .val (.int p3), .val (.int p4), .val (.ref b), .val (.ref a222), .val (.int (2 : Int32)), .val (.ref a228), .val (.int ((Int32.ofNat 2 - Int32.ofNat (own_cnt [c0, c1, c2, c3] 2 2 0)) + 1)), .val (.int (0 : Int32)), .val (.int (((2 : Int32) - (0 : Int32)) + (1 : Int32)))]) rfl ?_
        show Steps p.tables e below (T246.setTop (mkF m 160 #[.val (.int p0), .val (.int p1), .val (.int p2), .val (.int p3), .val (.int p4), .val (.ref b), .val (.ref a222), .val (.int (2 : Int32)), .val (.ref a228), .val (.int ((Int32.ofNat 2 - Int32.ofNat (own_cnt [c0, c1, c2, c3] 2 2 0)) + 1)), .val (.int (0 : Int32)), .val (.int (((2 : Int32) - (0 : Int32)) + (1 : Int32)))] [])) _
        refine XS.iload X246.here hx rfl (hb hby at_160) rfl ?_
        show Steps p.tables e below (T246.setTop (mkF m 162 #[.val (.int p0), .val (.int p1), .val (.int p2), .val (.int p3), .val (.int p4), .val (.ref b), .val (.ref a222), .val (.int (2 : Int32)), .val (.ref a228), .val (.int ((Int32.ofNat 2 - Int32.ofNat (own_cnt [c0, c1, c2, c3] 2 2 0)) + 1)), .val (.int (0 : Int32)), .val (.int (((2 : Int32) - (0 : Int32)) + (1 : Int32)))] [(.int ((Int32.ofNat 2 - Int32.ofNat (own_cnt [c0, c1, c2, c3] 2 2 0)) + 1))])) _
        refine XS.iload X246.here hx rfl (hb hby at_162) rfl ?_
        exact kk_)
      have hcnt : own_cnt [c0, c1, c2, c3] 2 2 0 = 0 := by
        rw [own_cnt_n (cs := [c0, c1, c2, c3]) (e := 2) (f := 1) (i := 0) (by decide) hp0, own_cnt_out (by decide)]
      have heq : ((Int32.ofNat 2 - Int32.ofNat (own_cnt [c0, c1, c2, c3] 2 2 0)) + 1) = (((2 : Int32) - (0 : Int32)) + (1 : Int32)) := by rw [hcnt]; decide
      have S252 : own_Go p e below s₁ G T246 (mkF m 172 #[.val (.int p0), .val (.int p1), .val (.int p2), .val (.int p3), .val (.int p4), .val (.ref b), .val (.ref a222), .val (.int (2 : Int32)), .val (.ref a228), .val (.int ((Int32.ofNat 2 - Int32.ofNat (own_cnt [c0, c1, c2, c3] 2 2 0)) + 1)), .val (.int (0 : Int32)), .val (.int (((2 : Int32) - (0 : Int32)) + (1 : Int32)))] [(.int (1 : Int32))]) := fun tg_ kk_ => S251 tg_ (by
        refine XS.icmpNo X246.here hx rfl (hb hby at_164) rfl (XT.ii_ne_f heq) ?_
        show Steps p.tables e below (T246.setTop (mkF m 167 #[.val (.int p0), .val (.int p1), .val (.int p2), .val (.int p3), .val (.int p4), .val (.ref b), .val (.ref a222), .val (.int (2 : Int32)), .val (.ref a228), .val (.int ((Int32.ofNat 2 - Int32.ofNat (own_cnt [c0, c1, c2, c3] 2 2 0)) + 1)), .val (.int (0 : Int32)), .val (.int (((2 : Int32) - (0 : Int32)) + (1 : Int32)))] [])) _
        refine XS.iconst X246.here hx rfl (hb hby at_167) ?_
        show Steps p.tables e below (T246.setTop (mkF m 168 #[.val (.int p0), .val (.int p1), .val (.int p2), .val (.int p3), .val (.int p4), .val (.ref b), .val (.ref a222), .val (.int (2 : Int32)), .val (.ref a228), .val (.int ((Int32.ofNat 2 - Int32.ofNat (own_cnt [c0, c1, c2, c3] 2 2 0)) + 1)), .val (.int (0 : Int32)), .val (.int (((2 : Int32) - (0 : Int32)) + (1 : Int32)))] [(.int (1 : Int32))])) _
        refine XS.goto X246.here hx rfl (pc0 := 168) (pc' := 172) rfl (hb hby at_168) (by decide) (by decide) ?_
        exact kk_)
      obtain ⟨fs, hr, hrun, hended, hend⟩ := X246.leaveW hSL (by rw [e246]; exact hkf) (v := some (.int (1 : Int32))) (fun h => by rw [Bd.returns] at h; cases h)
      refine ⟨_, _, ?_, hrun, hended, _, _, rfl, ?_, hend.1, hend.2.1, hend.2.2.1, hend.2.2.2.mono (by decide) (by decide)⟩
      · rw [← hG]; exact S252 _ (retN X246 hx (t := .boolean) Bd.returns (by simp) (hb hby at_172) hr)
      · show Q0 Z p0 p1 p2 p3 p4 h0 n0 _ T246.heap _
        rw [e246]
        exact ⟨rfl, NP0⟩
  · have _ := hn
    rw [hn] at S234
    obtain ⟨clv, Arv1, -, Szv, -, Hv, -⟩ := id Vf
    obtain ⟨_, T253, h253, L253, X253, e253, hQ253, st253⟩ := own_callV X232 hx hZL (y := (⟨"com/example/kept_triples/kepttriples/model/LabelLexer", "column", "(I)I"⟩ : MethodName)) hownL (hw _ (List.mem_of_getElem? (i := 70) rfl)) (hw _ (List.mem_of_getElem? (i := 71) rfl)) (hw _ (List.mem_of_getElem? (i := 73) rfl)) (hw _ (List.mem_of_getElem? (i := 72) rfl)) (hw _ (List.mem_of_getElem? (i := 58) rfl)) (hw _ (List.mem_of_getElem? (i := 74) rfl)) (by decide) 0 (g := (mkF m 74 #[.val (.int p0), .val (.int p1), .val (.int p2), .val (.int p3), .val (.int p4), .val (.ref b), .val (.ref a222), .val (.int (3 : Int32)), .val (.ref a228), .unset, .unset, .unset] [(.int (3 : Int32)), (.ref a228)])) rfl (by rw [hml]; rfl) a228 Ef [(.int (3 : Int32))] [] (rm14 l Z a0 hw [] a228 a222 t [c0, c1, c2, c3] 3 h232 n0 Zf z Of O2 P5 FI Sf (by simp) (by simp) hch A16) (lenOf pd9 rfl) rfl (by show 2 * 0 + _ ≤ _; exact Nat.le_of_eq rfl) (hb hby at_74) (by decide) (by decide) e232 (by decide) (by decide)
    obtain ⟨rfl, N253, rfl⟩ := hQ253
    have S254 : own_Go p e below s₁ G T253 (mkF m 77 #[.val (.int p0), .val (.int p1), .val (.int p2), .val (.int p3), .val (.int p4), .val (.ref b), .val (.ref a222), .val (.int (3 : Int32)), .val (.ref a228), .unset, .unset, .unset] [(.int ((Int32.ofNat 3 - Int32.ofNat (own_cnt [c0, c1, c2, c3] 3 3 0)) + 1))]) := fun tg_ kk_ => S234 tg_ (st253 tg_ kk_)
    have NE := Fr.app ND N253
    have S255 : own_Go p e below s₁ G T253 (mkF m 96 #[.val (.int p0), .val (.int p1), .val (.int p2), .val (.int p3), .val (.int p4), .val (.ref b), .val (.ref a222), .val (.int (3 : Int32)), .val (.ref a228), .val (.int ((Int32.ofNat 3 - Int32.ofNat (own_cnt [c0, c1, c2, c3] 3 3 0)) + 1)), .val (.int (0 : Int32)), .unset] [(.int c1), (.int c0)]) := fun tg_ kk_ => S254 tg_ (by
      refine XS.istore X253.here hx rfl (hb hby at_77) rfl (l' := #[.val (.int p0), .val (.int p1), .val (.int p2), .val (.int p3), .val (.int p4), .val (.ref b), .val (.ref a222), .val (.int (3 : Int32)), .val (.ref a228), .val (.int ((Int32.ofNat 3 - Int32.ofNat (own_cnt [c0, c1, c2, c3] 3 3 0)) + 1)), .unset, .unset]) rfl ?_
      show Steps p.tables e below (T253.setTop (mkF m 79 #[.val (.int p0), .val (.int p1), .val (.int p2), .val (.int p3), .val (.int p4), .val (.ref b), .val (.ref a222), .val (.int (3 : Int32)), .val (.ref a228), .val (.int ((Int32.ofNat 3 - Int32.ofNat (own_cnt [c0, c1, c2, c3] 3 3 0)) + 1)), .unset, .unset] [])) _
      refine XS.iconst X253.here hx rfl (hb hby at_79) ?_
      show Steps p.tables e below (T253.setTop (mkF m 80 #[.val (.int p0), .val (.int p1), .val (.int p2), .val (.int p3), .val (.int p4), .val (.ref b), .val (.ref a222), .val (.int (3 : Int32)), .val (.ref a228), .val (.int ((Int32.ofNat 3 - Int32.ofNat (own_cnt [c0, c1, c2, c3] 3 3 0)) + 1)), .unset, .unset] [(.int (0 : Int32))])) _
      refine XS.istore X253.here hx rfl (hb hby at_80) rfl (l' := #[.val (.int p0), .val (.int p1), .val (.int p2), .val (.int p3), .val (.int p4), .val (.ref b), .val (.ref a222), .val (.int (3 : Int32)), .val (.ref a228), .val (.int ((Int32.ofNat 3 - Int32.ofNat (own_cnt [c0, c1, c2, c3] 3 3 0)) + 1)), .val (.int (0 : Int32)), .unset]) rfl ?_
      show Steps p.tables e below (T253.setTop (mkF m 82 #[.val (.int p0), .val (.int p1), .val (.int p2), .val (.int p3), .val (.int p4), .val (.ref b), .val (.ref a222), .val (.int (3 : Int32)), .val (.ref a228), .val (.int ((Int32.ofNat 3 - Int32.ofNat (own_cnt [c0, c1, c2, c3] 3 3 0)) + 1)), .val (.int (0 : Int32)), .unset] [])) _
      refine XS.iload X253.here hx rfl (hb hby at_82) rfl ?_
      show Steps p.tables e below (T253.setTop (mkF m 84 #[.val (.int p0), .val (.int p1), .val (.int p2), .val (.int p3), .val (.int p4), .val (.ref b), .val (.ref a222), .val (.int (3 : Int32)), .val (.ref a228), .val (.int ((Int32.ofNat 3 - Int32.ofNat (own_cnt [c0, c1, c2, c3] 3 3 0)) + 1)), .val (.int (0 : Int32)), .unset] [(.int (3 : Int32))])) _
      refine XS.iconst X253.here hx rfl (hb hby at_84) ?_
      show Steps p.tables e below (T253.setTop (mkF m 85 #[.val (.int p0), .val (.int p1), .val (.int p2), .val (.int p3), .val (.int p4), .val (.ref b), .val (.ref a222), .val (.int (3 : Int32)), .val (.ref a228), .val (.int ((Int32.ofNat 3 - Int32.ofNat (own_cnt [c0, c1, c2, c3] 3 3 0)) + 1)), .val (.int (0 : Int32)), .unset] [(.int (2 : Int32)), (.int (3 : Int32))])) _
      refine XS.icmpNo X253.here hx rfl (hb hby at_85) rfl (XT.ii_lt_f (by decide)) ?_
      show Steps p.tables e below (T253.setTop (mkF m 88 #[.val (.int p0), .val (.int p1), .val (.int p2), .val (.int p3), .val (.int p4), .val (.ref b), .val (.ref a222), .val (.int (3 : Int32)), .val (.ref a228), .val (.int ((Int32.ofNat 3 - Int32.ofNat (own_cnt [c0, c1, c2, c3] 3 3 0)) + 1)), .val (.int (0 : Int32)), .unset] [])) _
      refine XS.aload X253.here hx rfl (hb hby at_88) rfl rfl ?_
      show Steps p.tables e below (T253.setTop (mkF m 90 #[.val (.int p0), .val (.int p1), .val (.int p2), .val (.int p3), .val (.int p4), .val (.ref b), .val (.ref a222), .val (.int (3 : Int32)), .val (.ref a228), .val (.int ((Int32.ofNat 3 - Int32.ofNat (own_cnt [c0, c1, c2, c3] 3 3 0)) + 1)), .val (.int (0 : Int32)), .unset] [(.ref b)])) _
      refine XS.iconst X253.here hx rfl (hb hby at_90) ?_
      show Steps p.tables e below (T253.setTop (mkF m 91 #[.val (.int p0), .val (.int p1), .val (.int p2), .val (.int p3), .val (.int p4), .val (.ref b), .val (.ref a222), .val (.int (3 : Int32)), .val (.ref a228), .val (.int ((Int32.ofNat 3 - Int32.ofNat (own_cnt [c0, c1, c2, c3] 3 3 0)) + 1)), .val (.int (0 : Int32)), .unset] [(.int (0 : Int32)), (.ref b)])) _
      refine X253.caload hx (j := (0 : Int32)) (v := (.int c0)) (cell := clv) (by rw [e253]; exact Arv1.1) (State.isArrayOf_alike hZL.alike Arv1.2.1) Arv1.2.2 (inb_of Szv (by decide)) (Hv.at (inb_of Szv (by decide)) rfl) (g := (mkF m 91 #[.val (.int p0), .val (.int p1), .val (.int p2), .val (.int p3), .val (.int p4), .val (.ref b), .val (.ref a222), .val (.int (3 : Int32)), .val (.ref a228), .val (.int ((Int32.ofNat 3 - Int32.ofNat (own_cnt [c0, c1, c2, c3] 3 3 0)) + 1)), .val (.int (0 : Int32)), .unset] [(.int (0 : Int32)), (.ref b)])) rfl rfl (hb hby at_91) _ ?_
      show Steps p.tables e below (T253.setTop (mkF m 92 #[.val (.int p0), .val (.int p1), .val (.int p2), .val (.int p3), .val (.int p4), .val (.ref b), .val (.ref a222), .val (.int (3 : Int32)), .val (.ref a228), .val (.int ((Int32.ofNat 3 - Int32.ofNat (own_cnt [c0, c1, c2, c3] 3 3 0)) + 1)), .val (.int (0 : Int32)), .unset] [(.int c0)])) _
      refine XS.aload X253.here hx rfl (hb hby at_92) rfl rfl ?_
      show Steps p.tables e below (T253.setTop (mkF m 94 #[.val (.int p0), .val (.int p1), .val (.int p2), .val (.int p3), .val (.int p4), .val (.ref b), .val (.ref a222), .val (.int (3 : Int32)), .val (.ref a228), .val (.int ((Int32.ofNat 3 - Int32.ofNat (own_cnt [c0, c1, c2, c3] 3 3 0)) + 1)), .val (.int (0 : Int32)), .unset] [(.ref b), (.int c0)])) _
      refine XS.iconst X253.here hx rfl (hb hby at_94) ?_
      show Steps p.tables e below (T253.setTop (mkF m 95 #[.val (.int p0), .val (.int p1), .val (.int p2), .val (.int p3), .val (.int p4), .val (.ref b), .val (.ref a222), .val (.int (3 : Int32)), .val (.ref a228), .val (.int ((Int32.ofNat 3 - Int32.ofNat (own_cnt [c0, c1, c2, c3] 3 3 0)) + 1)), .val (.int (0 : Int32)), .unset] [(.int (1 : Int32)), (.ref b), (.int c0)])) _
      refine X253.caload hx (j := (1 : Int32)) (v := (.int c1)) (cell := clv) (by rw [e253]; exact Arv1.1) (State.isArrayOf_alike hZL.alike Arv1.2.1) Arv1.2.2 (inb_of Szv (by decide)) (Hv.at (inb_of Szv (by decide)) rfl) (g := (mkF m 95 #[.val (.int p0), .val (.int p1), .val (.int p2), .val (.int p3), .val (.int p4), .val (.ref b), .val (.ref a222), .val (.int (3 : Int32)), .val (.ref a228), .val (.int ((Int32.ofNat 3 - Int32.ofNat (own_cnt [c0, c1, c2, c3] 3 3 0)) + 1)), .val (.int (0 : Int32)), .unset] [(.int (1 : Int32)), (.ref b), (.int c0)])) rfl rfl (hb hby at_95) _ ?_
      exact kk_)
    obtain ⟨_, T256, h256, L256, X256, e256, hQ256, st256⟩ := own_callS X253 hx hZL (y := (⟨"com/example/kept_triples/kepttriples/model/LabelLexerColumnPinLaw", "pair", "(CC)Z"⟩ : MethodName)) hownL (hw _ (List.mem_of_getElem? (i := 114) rfl)) (hw _ (List.mem_of_getElem? (i := 115) rfl)) (hw _ (List.mem_of_getElem? (i := 3) rfl)) (hw _ (List.mem_of_getElem? (i := 116) rfl)) (by decide) 0 (g := (mkF m 96 #[.val (.int p0), .val (.int p1), .val (.int p2), .val (.int p3), .val (.int p4), .val (.ref b), .val (.ref a222), .val (.int (3 : Int32)), .val (.ref a228), .val (.int ((Int32.ofNat 3 - Int32.ofNat (own_cnt [c0, c1, c2, c3] 3 3 0)) + 1)), .val (.int (0 : Int32)), .unset] [(.int c1), (.int c0)])) rfl (by rw [hml]; rfl) [(.int c0), (.int c1)] [] (rm24 l Z a0 hw [] c0 c1 h232 n0 Zf) (lenOf pd23 rfl) rfl (by show 2 * 0 + _ ≤ _; exact Nat.le_of_eq rfl) (hb hby at_96) (by decide) (by decide) e253 (by decide) (by decide)
    rcases hQ256 with ⟨⟨hp0, rfl⟩ | ⟨hp0, rfl⟩, N256, rfl⟩
    · have _ := e256
      have S257 : own_Go p e below s₁ G T256 (mkF m 99 #[.val (.int p0), .val (.int p1), .val (.int p2), .val (.int p3), .val (.int p4), .val (.ref b), .val (.ref a222), .val (.int (3 : Int32)), .val (.ref a228), .val (.int ((Int32.ofNat 3 - Int32.ofNat (own_cnt [c0, c1, c2, c3] 3 3 0)) + 1)), .val (.int (0 : Int32)), .unset] [(.int (1 : Int32))]) := fun tg_ kk_ => S255 tg_ (st256 tg_ kk_)
      have NP0 := Fr.app NE N256
      have S258 : own_Go p e below s₁ G T256 (mkF m 119 #[.val (.int p0), .val (.int p1), .val (.int p2), .val (.int p3), .val (.int p4), .val (.ref b), .val (.ref a222), .val (.int (3 : Int32)), .val (.ref a228), .val (.int ((Int32.ofNat 3 - Int32.ofNat (own_cnt [c0, c1, c2, c3] 3 3 0)) + 1)), .val (.int ((0 : Int32) + (1 : Int32))), .unset] [(.int c2), (.int c1)]) := fun tg_ kk_ => S257 tg_ (by
        refine XS.ifNo X256.here hx rfl (hb hby at_99) rfl (by decide) ?_
        show Steps p.tables e below (T256.setTop (mkF m 102 #[.val (.int p0), .val (.int p1), .val (.int p2), .val (.int p3), .val (.int p4), .val (.ref b), .val (.ref a222), .val (.int (3 : Int32)), .val (.ref a228), .val (.int ((Int32.ofNat 3 - Int32.ofNat (own_cnt [c0, c1, c2, c3] 3 3 0)) + 1)), .val (.int (0 : Int32)), .unset] [])) _
        refine XS.iinc X256.here hx rfl (hb hby at_102) rfl (l' := #[.val (.int p0), .val (.int p1), .val (.int p2), .val (.int p3), .val (.int p4), .val (.ref b), .val (.ref a222), .val (.int (3 : Int32)), .val (.ref a228), .val (.int ((Int32.ofNat 3 - Int32.ofNat (own_cnt [c0, c1, c2, c3] 3 3 0)) + 1)), .val (.int ((0 : Int32) + (1 : Int32))), .unset]) rfl ?_
        show Steps p.tables e below (T256.setTop (mkF m 105 #[.val (.int p0), .val (.int p1), .val (.int p2), .val (.int p3), .val (.int p4), .val (.ref b), .val (.ref a222), .val (.int (3 : Int32)), .val (.ref a228), .val (.int ((Int32.ofNat 3 - Int32.ofNat (own_cnt [c0, c1, c2, c3] 3 3 0)) + 1)), .val (.int ((0 : Int32) + (1 : Int32))), .unset] [])) _
        refine XS.iload X256.here hx rfl (hb hby at_105) rfl ?_
        show Steps p.tables e below (T256.setTop (mkF m 107 #[.val (.int p0), .val (.int p1), .val (.int p2), .val (.int p3), .val (.int p4), .val (.ref b), .val (.ref a222), .val (.int (3 : Int32)), .val (.ref a228), .val (.int ((Int32.ofNat 3 - Int32.ofNat (own_cnt [c0, c1, c2, c3] 3 3 0)) + 1)), .val (.int ((0 : Int32) + (1 : Int32))), .unset] [(.int (3 : Int32))])) _
        refine XS.iconst X256.here hx rfl (hb hby at_107) ?_
        show Steps p.tables e below (T256.setTop (mkF m 108 #[.val (.int p0), .val (.int p1), .val (.int p2), .val (.int p3), .val (.int p4), .val (.ref b), .val (.ref a222), .val (.int (3 : Int32)), .val (.ref a228), .val (.int ((Int32.ofNat 3 - Int32.ofNat (own_cnt [c0, c1, c2, c3] 3 3 0)) + 1)), .val (.int ((0 : Int32) + (1 : Int32))), .unset] [(.int (3 : Int32)), (.int (3 : Int32))])) _
        refine XS.icmpNo X256.here hx rfl (hb hby at_108) rfl (XT.ii_lt_f (by decide)) ?_
        show Steps p.tables e below (T256.setTop (mkF m 111 #[.val (.int p0), .val (.int p1), .val (.int p2), .val (.int p3), .val (.int p4), .val (.ref b), .val (.ref a222), .val (.int (3 : Int32)), .val (.ref a228), .val (.int ((Int32.ofNat 3 - Int32.ofNat (own_cnt [c0, c1, c2, c3] 3 3 0)) + 1)), .val (.int ((0 : Int32) + (1 : Int32))), .unset] [])) _
        refine XS.aload X256.here hx rfl (hb hby at_111) rfl rfl ?_
        show Steps p.tables e below (T256.setTop (mkF m 113 #[.val (.int p0), .val (.int p1), .val (.int p2), .val (.int p3), .val (.int p4), .val (.ref b), .val (.ref a222), .val (.int (3 : Int32)), .val (.ref a228), .val (.int ((Int32.ofNat 3 - Int32.ofNat (own_cnt [c0, c1, c2, c3] 3 3 0)) + 1)), .val (.int ((0 : Int32) + (1 : Int32))), .unset] [(.ref b)])) _
        refine XS.iconst X256.here hx rfl (hb hby at_113) ?_
        show Steps p.tables e below (T256.setTop (mkF m 114 #[.val (.int p0), .val (.int p1), .val (.int p2), .val (.int p3), .val (.int p4), .val (.ref b), .val (.ref a222), .val (.int (3 : Int32)), .val (.ref a228), .val (.int ((Int32.ofNat 3 - Int32.ofNat (own_cnt [c0, c1, c2, c3] 3 3 0)) + 1)), .val (.int ((0 : Int32) + (1 : Int32))), .unset] [(.int (1 : Int32)), (.ref b)])) _
        refine X256.caload hx (j := (1 : Int32)) (v := (.int c1)) (cell := clv) (by rw [e256]; exact Arv1.1) (State.isArrayOf_alike hZL.alike Arv1.2.1) Arv1.2.2 (inb_of Szv (by decide)) (Hv.at (inb_of Szv (by decide)) rfl) (g := (mkF m 114 #[.val (.int p0), .val (.int p1), .val (.int p2), .val (.int p3), .val (.int p4), .val (.ref b), .val (.ref a222), .val (.int (3 : Int32)), .val (.ref a228), .val (.int ((Int32.ofNat 3 - Int32.ofNat (own_cnt [c0, c1, c2, c3] 3 3 0)) + 1)), .val (.int ((0 : Int32) + (1 : Int32))), .unset] [(.int (1 : Int32)), (.ref b)])) rfl rfl (hb hby at_114) _ ?_
        show Steps p.tables e below (T256.setTop (mkF m 115 #[.val (.int p0), .val (.int p1), .val (.int p2), .val (.int p3), .val (.int p4), .val (.ref b), .val (.ref a222), .val (.int (3 : Int32)), .val (.ref a228), .val (.int ((Int32.ofNat 3 - Int32.ofNat (own_cnt [c0, c1, c2, c3] 3 3 0)) + 1)), .val (.int ((0 : Int32) + (1 : Int32))), .unset] [(.int c1)])) _
        refine XS.aload X256.here hx rfl (hb hby at_115) rfl rfl ?_
        show Steps p.tables e below (T256.setTop (mkF m 117 #[.val (.int p0), .val (.int p1), .val (.int p2), .val (.int p3), .val (.int p4), .val (.ref b), .val (.ref a222), .val (.int (3 : Int32)), .val (.ref a228), .val (.int ((Int32.ofNat 3 - Int32.ofNat (own_cnt [c0, c1, c2, c3] 3 3 0)) + 1)), .val (.int ((0 : Int32) + (1 : Int32))), .unset] [(.ref b), (.int c1)])) _
        refine XS.iconst X256.here hx rfl (hb hby at_117) ?_
        show Steps p.tables e below (T256.setTop (mkF m 118 #[.val (.int p0), .val (.int p1), .val (.int p2), .val (.int p3), .val (.int p4), .val (.ref b), .val (.ref a222), .val (.int (3 : Int32)), .val (.ref a228), .val (.int ((Int32.ofNat 3 - Int32.ofNat (own_cnt [c0, c1, c2, c3] 3 3 0)) + 1)), .val (.int ((0 : Int32) + (1 : Int32))), .unset] [(.int (2 : Int32)), (.ref b), (.int c1)])) _
        refine X256.caload hx (j := (2 : Int32)) (v := (.int c2)) (cell := clv) (by rw [e256]; exact Arv1.1) (State.isArrayOf_alike hZL.alike Arv1.2.1) Arv1.2.2 (inb_of Szv (by decide)) (Hv.at (inb_of Szv (by decide)) rfl) (g := (mkF m 118 #[.val (.int p0), .val (.int p1), .val (.int p2), .val (.int p3), .val (.int p4), .val (.ref b), .val (.ref a222), .val (.int (3 : Int32)), .val (.ref a228), .val (.int ((Int32.ofNat 3 - Int32.ofNat (own_cnt [c0, c1, c2, c3] 3 3 0)) + 1)), .val (.int ((0 : Int32) + (1 : Int32))), .unset] [(.int (2 : Int32)), (.ref b), (.int c1)])) rfl rfl (hb hby at_118) _ ?_
        exact kk_)
      obtain ⟨_, T259, h259, L259, X259, e259, hQ259, st259⟩ := own_callS X256 hx hZL (y := (⟨"com/example/kept_triples/kepttriples/model/LabelLexerColumnPinLaw", "pair", "(CC)Z"⟩ : MethodName)) hownL (hw _ (List.mem_of_getElem? (i := 114) rfl)) (hw _ (List.mem_of_getElem? (i := 115) rfl)) (hw _ (List.mem_of_getElem? (i := 3) rfl)) (hw _ (List.mem_of_getElem? (i := 116) rfl)) (by decide) 0 (g := (mkF m 119 #[.val (.int p0), .val (.int p1), .val (.int p2), .val (.int p3), .val (.int p4), .val (.ref b), .val (.ref a222), .val (.int (3 : Int32)), .val (.ref a228), .val (.int ((Int32.ofNat 3 - Int32.ofNat (own_cnt [c0, c1, c2, c3] 3 3 0)) + 1)), .val (.int ((0 : Int32) + (1 : Int32))), .unset] [(.int c2), (.int c1)])) rfl (by rw [hml]; rfl) [(.int c1), (.int c2)] [] (rm24 l Z a0 hw [] c1 c2 h232 n0 Zf) (lenOf pd23 rfl) rfl (by show 2 * 0 + _ ≤ _; exact Nat.le_of_eq rfl) (hb hby at_119) (by decide) (by decide) e256 (by decide) (by decide)
      rcases hQ259 with ⟨⟨hp1, rfl⟩ | ⟨hp1, rfl⟩, N259, rfl⟩
      · have _ := e259
        have S260 : own_Go p e below s₁ G T259 (mkF m 122 #[.val (.int p0), .val (.int p1), .val (.int p2), .val (.int p3), .val (.int p4), .val (.ref b), .val (.ref a222), .val (.int (3 : Int32)), .val (.ref a228), .val (.int ((Int32.ofNat 3 - Int32.ofNat (own_cnt [c0, c1, c2, c3] 3 3 0)) + 1)), .val (.int ((0 : Int32) + (1 : Int32))), .unset] [(.int (1 : Int32))]) := fun tg_ kk_ => S258 tg_ (st259 tg_ kk_)
        have NP1 := Fr.app NP0 N259
        exact absurd hp1 (own_pr_no hp0)
      · have _ := e259
        have S261 : own_Go p e below s₁ G T259 (mkF m 122 #[.val (.int p0), .val (.int p1), .val (.int p2), .val (.int p3), .val (.int p4), .val (.ref b), .val (.ref a222), .val (.int (3 : Int32)), .val (.ref a228), .val (.int ((Int32.ofNat 3 - Int32.ofNat (own_cnt [c0, c1, c2, c3] 3 3 0)) + 1)), .val (.int ((0 : Int32) + (1 : Int32))), .unset] [(.int (0 : Int32))]) := fun tg_ kk_ => S258 tg_ (st259 tg_ kk_)
        have NP1 := Fr.app NP0 N259
        have S262 : own_Go p e below s₁ G T259 (mkF m 164 #[.val (.int p0), .val (.int p1), .val (.int p2), .val (.int p3), .val (.int p4), .val (.ref b), .val (.ref a222), .val (.int (3 : Int32)), .val (.ref a228), .val (.int ((Int32.ofNat 3 - Int32.ofNat (own_cnt [c0, c1, c2, c3] 3 3 0)) + 1)), .val (.int ((0 : Int32) + (1 : Int32))), .val (.int (((3 : Int32) - ((0 : Int32) + (1 : Int32))) + (1 : Int32)))] [(.int (((3 : Int32) - ((0 : Int32) + (1 : Int32))) + (1 : Int32))), (.int ((Int32.ofNat 3 - Int32.ofNat (own_cnt [c0, c1, c2, c3] 3 3 0)) + 1))]) := fun tg_ kk_ => S261 tg_ (by
          refine XS.ifYes X259.here hx rfl (pc0 := 122) (pc' := 128) rfl (hb hby at_122) rfl (by decide) (by decide) (by decide) ?_
          show Steps p.tables e below (T259.setTop (mkF m 128 #[.val (.int p0), .val (.int p1), .val (.int p2), .val (.int p3), .val (.int p4), .val (.ref b), .val (.ref a222), .val (.int (3 : Int32)), .val (.ref a228), .val (.int ((Int32.ofNat 3 - Int32.ofNat (own_cnt [c0, c1, c2, c3] 3 3 0)) + 1)), .val (.int ((0 : Int32) + (1 : Int32))), .unset] [])) _
          refine XS.iload X259.here hx rfl (hb hby at_128) rfl ?_
          show Steps p.tables e below (T259.setTop (mkF m 130 #[.val (.int p0), .val (.int p1), .val (.int p2), .val (.int p3), .val (.int p4), .val (.ref b), .val (.ref a222), .val (.int (3 : Int32)), .val (.ref a228), .val (.int ((Int32.ofNat 3 - Int32.ofNat (own_cnt [c0, c1, c2, c3] 3 3 0)) + 1)), .val (.int ((0 : Int32) + (1 : Int32))), .unset] [(.int (3 : Int32))])) _
          refine XS.iconst X259.here hx rfl (hb hby at_130) ?_
          show Steps p.tables e below (T259.setTop (mkF m 131 #[.val (.int p0), .val (.int p1), .val (.int p2), .val (.int p3), .val (.int p4), .val (.ref b), .val (.ref a222), .val (.int (3 : Int32)), .val (.ref a228), .val (.int ((Int32.ofNat 3 - Int32.ofNat (own_cnt [c0, c1, c2, c3] 3 3 0)) + 1)), .val (.int ((0 : Int32) + (1 : Int32))), .unset] [(.int (4 : Int32)), (.int (3 : Int32))])) _
          refine XS.icmpYes X259.here hx rfl (pc0 := 131) (pc' := 151) rfl (hb hby at_131) rfl (XT.ii_lt_t (by decide)) (by decide) (by decide) ?_
          show Steps p.tables e below (T259.setTop (mkF m 151 #[.val (.int p0), .val (.int p1), .val (.int p2), .val (.int p3), .val (.int p4), .val (.ref b), .val (.ref a222), .val (.int (3 : Int32)), .val (.ref a228), .val (.int ((Int32.ofNat 3 - Int32.ofNat (own_cnt [c0, c1, c2, c3] 3 3 0)) + 1)), .val (.int ((0 : Int32) + (1 : Int32))), .unset] [])) _
          refine XS.iload X259.here hx rfl (hb hby at_151) rfl ?_
          show Steps p.tables e below (T259.setTop (mkF m 153 #[.val (.int p0), .val (.int p1), .val (.int p2), .val (.int p3), .val (.int p4), .val (.ref b), .val (.ref a222), .val (.int (3 : Int32)), .val (.ref a228), .val (.int ((Int32.ofNat 3 - Int32.ofNat (own_cnt [c0, c1, c2, c3] 3 3 0)) + 1)), .val (.int ((0 : Int32) + (1 : Int32))), .unset] [(.int (3 : Int32))])) _
          refine XS.iload X259.here hx rfl (hb hby at_153) rfl ?_
          show Steps p.tables e below (T259.setTop (mkF m 155 #[.val (.int p0), .val (.int p1), .val (.int p2), .val (.int p3), .val (.int p4), .val (.ref b), .val (.ref a222), .val (.int (3 : Int32)), .val (.ref a228), .val (.int ((Int32.ofNat 3 - Int32.ofNat (own_cnt [c0, c1, c2, c3] 3 3 0)) + 1)), .val (.int ((0 : Int32) + (1 : Int32))), .unset] [(.int ((0 : Int32) + (1 : Int32))), (.int (3 : Int32))])) _
          refine XS.isub X259.here hx rfl (hb hby at_155) rfl ?_
          show Steps p.tables e below (T259.setTop (mkF m 156 #[.val (.int p0), .val (.int p1), .val (.int p2), .val (.int p3), .val (.int p4), .val (.ref b), .val (.ref a222), .val (.int (3 : Int32)), .val (.ref a228), .val (.int ((Int32.ofNat 3 - Int32.ofNat (own_cnt [c0, c1, c2, c3] 3 3 0)) + 1)), .val (.int ((0 : Int32) + (1 : Int32))), .unset] [(.int ((3 : Int32) - ((0 : Int32) + (1 : Int32))))])) _
          refine XS.iconst X259.here hx rfl (hb hby at_156) ?_
          show Steps p.tables e below (T259.setTop (mkF m 157 #[.val (.int p0), .val (.int p1), .val (.int p2), .val (.int p3), .val (.int p4), .val (.ref b), .val (.ref a222), .val (.int (3 : Int32)), .val (.ref a228), .val (.int ((Int32.ofNat 3 - Int32.ofNat (own_cnt [c0, c1, c2, c3] 3 3 0)) + 1)), .val (.int ((0 : Int32) + (1 : Int32))), .unset] [(.int (1 : Int32)), (.int ((3 : Int32) - ((0 : Int32) + (1 : Int32))))])) _
          refine XS.iadd X259.here hx rfl (hb hby at_157) rfl ?_
          show Steps p.tables e below (T259.setTop (mkF m 158 #[.val (.int p0), .val (.int p1), .val (.int p2), .val (.int p3), .val (.int p4), .val (.ref b), .val (.ref a222), .val (.int (3 : Int32)), .val (.ref a228), .val (.int ((Int32.ofNat 3 - Int32.ofNat (own_cnt [c0, c1, c2, c3] 3 3 0)) + 1)), .val (.int ((0 : Int32) + (1 : Int32))), .unset] [(.int (((3 : Int32) - ((0 : Int32) + (1 : Int32))) + (1 : Int32)))])) _
          refine XS.istore X259.here hx rfl (hb hby at_158) rfl (l' := #[.val (.int p0), .val (.int p1), .val (.int p2), .val (.int p3), .val (.int p4), .val (.ref b), .val (.ref a222), .val (.int (3 : Int32)), .val (.ref a228), .val (.int ((Int32.ofNat 3 - Int32.ofNat (own_cnt [c0, c1, c2, c3] 3 3 0)) + 1)), .val (.int ((0 : Int32) + (1 : Int32))), .val (.int (((3 : Int32) - ((0 : Int32) + (1 : Int32))) + (1 : Int32)))]) rfl ?_
          show Steps p.tables e below (T259.setTop (mkF m 160 #[.val (.int p0), .val (.int p1), .val (.int p2), .val (.int p3), .val (.int p4), .val (.ref b), .val (.ref a222), .val (.int (3 : Int32)), .val (.ref a228), .val (.int ((Int32.ofNat 3 - Int32.ofNat (own_cnt [c0, c1, c2, c3] 3 3 0)) + 1)), .val (.int ((0 : Int32) + (1 : Int32))), .val (.int (((3 : Int32) - ((0 : Int32) + (1 : Int32))) + (1 : Int32)))] [])) _
          refine XS.iload X259.here hx rfl (hb hby at_160) rfl ?_
          show Steps p.tables e below (T259.setTop (mkF m 162 #[.val (.int p0), .val (.int p1), .val (.int p2), .val (.int p3), .val (.int p4), .val (.ref b), .val (.ref a222), .val (.int (3 : Int32)), .val (.ref a228), .val (.int ((Int32.ofNat 3 - Int32.ofNat (own_cnt [c0, c1, c2, c3] 3 3 0)) + 1)), .val (.int ((0 : Int32) + (1 : Int32))), .val (.int (((3 : Int32) - ((0 : Int32) + (1 : Int32))) + (1 : Int32)))] [(.int ((Int32.ofNat 3 - Int32.ofNat (own_cnt [c0, c1, c2, c3] 3 3 0)) + 1))])) _
          refine XS.iload X259.here hx rfl (hb hby at_162) rfl ?_
          exact kk_)
        have hcnt : own_cnt [c0, c1, c2, c3] 3 3 0 = 1 := by
          rw [own_cnt_p (cs := [c0, c1, c2, c3]) (e := 3) (f := 2) (i := 0) (by decide) hp0, own_cnt_out (by decide)]
        have heq : ((Int32.ofNat 3 - Int32.ofNat (own_cnt [c0, c1, c2, c3] 3 3 0)) + 1) = (((3 : Int32) - ((0 : Int32) + (1 : Int32))) + (1 : Int32)) := by rw [hcnt]; decide
        have S263 : own_Go p e below s₁ G T259 (mkF m 172 #[.val (.int p0), .val (.int p1), .val (.int p2), .val (.int p3), .val (.int p4), .val (.ref b), .val (.ref a222), .val (.int (3 : Int32)), .val (.ref a228), .val (.int ((Int32.ofNat 3 - Int32.ofNat (own_cnt [c0, c1, c2, c3] 3 3 0)) + 1)), .val (.int ((0 : Int32) + (1 : Int32))), .val (.int (((3 : Int32) - ((0 : Int32) + (1 : Int32))) + (1 : Int32)))] [(.int (1 : Int32))]) := fun tg_ kk_ => S262 tg_ (by
          refine XS.icmpNo X259.here hx rfl (hb hby at_164) rfl (XT.ii_ne_f heq) ?_
          show Steps p.tables e below (T259.setTop (mkF m 167 #[.val (.int p0), .val (.int p1), .val (.int p2), .val (.int p3), .val (.int p4), .val (.ref b), .val (.ref a222), .val (.int (3 : Int32)), .val (.ref a228), .val (.int ((Int32.ofNat 3 - Int32.ofNat (own_cnt [c0, c1, c2, c3] 3 3 0)) + 1)), .val (.int ((0 : Int32) + (1 : Int32))), .val (.int (((3 : Int32) - ((0 : Int32) + (1 : Int32))) + (1 : Int32)))] [])) _
          refine XS.iconst X259.here hx rfl (hb hby at_167) ?_
          show Steps p.tables e below (T259.setTop (mkF m 168 #[.val (.int p0), .val (.int p1), .val (.int p2), .val (.int p3), .val (.int p4), .val (.ref b), .val (.ref a222), .val (.int (3 : Int32)), .val (.ref a228), .val (.int ((Int32.ofNat 3 - Int32.ofNat (own_cnt [c0, c1, c2, c3] 3 3 0)) + 1)), .val (.int ((0 : Int32) + (1 : Int32))), .val (.int (((3 : Int32) - ((0 : Int32) + (1 : Int32))) + (1 : Int32)))] [(.int (1 : Int32))])) _
          refine XS.goto X259.here hx rfl (pc0 := 168) (pc' := 172) rfl (hb hby at_168) (by decide) (by decide) ?_
          exact kk_)
        obtain ⟨fs, hr, hrun, hended, hend⟩ := X259.leaveW hSL (by rw [e259]; exact hkf) (v := some (.int (1 : Int32))) (fun h => by rw [Bd.returns] at h; cases h)
        refine ⟨_, _, ?_, hrun, hended, _, _, rfl, ?_, hend.1, hend.2.1, hend.2.2.1, hend.2.2.2.mono (by decide) (by decide)⟩
        · rw [← hG]; exact S263 _ (retN X259 hx (t := .boolean) Bd.returns (by simp) (hb hby at_172) hr)
        · show Q0 Z p0 p1 p2 p3 p4 h0 n0 _ T259.heap _
          rw [e259]
          exact ⟨rfl, NP1⟩
    · have _ := e256
      have S264 : own_Go p e below s₁ G T256 (mkF m 99 #[.val (.int p0), .val (.int p1), .val (.int p2), .val (.int p3), .val (.int p4), .val (.ref b), .val (.ref a222), .val (.int (3 : Int32)), .val (.ref a228), .val (.int ((Int32.ofNat 3 - Int32.ofNat (own_cnt [c0, c1, c2, c3] 3 3 0)) + 1)), .val (.int (0 : Int32)), .unset] [(.int (0 : Int32))]) := fun tg_ kk_ => S255 tg_ (st256 tg_ kk_)
      have NP0 := Fr.app NE N256
      have S265 : own_Go p e below s₁ G T256 (mkF m 119 #[.val (.int p0), .val (.int p1), .val (.int p2), .val (.int p3), .val (.int p4), .val (.ref b), .val (.ref a222), .val (.int (3 : Int32)), .val (.ref a228), .val (.int ((Int32.ofNat 3 - Int32.ofNat (own_cnt [c0, c1, c2, c3] 3 3 0)) + 1)), .val (.int (0 : Int32)), .unset] [(.int c2), (.int c1)]) := fun tg_ kk_ => S264 tg_ (by
        refine XS.ifYes X256.here hx rfl (pc0 := 99) (pc' := 105) rfl (hb hby at_99) rfl (by decide) (by decide) (by decide) ?_
        show Steps p.tables e below (T256.setTop (mkF m 105 #[.val (.int p0), .val (.int p1), .val (.int p2), .val (.int p3), .val (.int p4), .val (.ref b), .val (.ref a222), .val (.int (3 : Int32)), .val (.ref a228), .val (.int ((Int32.ofNat 3 - Int32.ofNat (own_cnt [c0, c1, c2, c3] 3 3 0)) + 1)), .val (.int (0 : Int32)), .unset] [])) _
        refine XS.iload X256.here hx rfl (hb hby at_105) rfl ?_
        show Steps p.tables e below (T256.setTop (mkF m 107 #[.val (.int p0), .val (.int p1), .val (.int p2), .val (.int p3), .val (.int p4), .val (.ref b), .val (.ref a222), .val (.int (3 : Int32)), .val (.ref a228), .val (.int ((Int32.ofNat 3 - Int32.ofNat (own_cnt [c0, c1, c2, c3] 3 3 0)) + 1)), .val (.int (0 : Int32)), .unset] [(.int (3 : Int32))])) _
        refine XS.iconst X256.here hx rfl (hb hby at_107) ?_
        show Steps p.tables e below (T256.setTop (mkF m 108 #[.val (.int p0), .val (.int p1), .val (.int p2), .val (.int p3), .val (.int p4), .val (.ref b), .val (.ref a222), .val (.int (3 : Int32)), .val (.ref a228), .val (.int ((Int32.ofNat 3 - Int32.ofNat (own_cnt [c0, c1, c2, c3] 3 3 0)) + 1)), .val (.int (0 : Int32)), .unset] [(.int (3 : Int32)), (.int (3 : Int32))])) _
        refine XS.icmpNo X256.here hx rfl (hb hby at_108) rfl (XT.ii_lt_f (by decide)) ?_
        show Steps p.tables e below (T256.setTop (mkF m 111 #[.val (.int p0), .val (.int p1), .val (.int p2), .val (.int p3), .val (.int p4), .val (.ref b), .val (.ref a222), .val (.int (3 : Int32)), .val (.ref a228), .val (.int ((Int32.ofNat 3 - Int32.ofNat (own_cnt [c0, c1, c2, c3] 3 3 0)) + 1)), .val (.int (0 : Int32)), .unset] [])) _
        refine XS.aload X256.here hx rfl (hb hby at_111) rfl rfl ?_
        show Steps p.tables e below (T256.setTop (mkF m 113 #[.val (.int p0), .val (.int p1), .val (.int p2), .val (.int p3), .val (.int p4), .val (.ref b), .val (.ref a222), .val (.int (3 : Int32)), .val (.ref a228), .val (.int ((Int32.ofNat 3 - Int32.ofNat (own_cnt [c0, c1, c2, c3] 3 3 0)) + 1)), .val (.int (0 : Int32)), .unset] [(.ref b)])) _
        refine XS.iconst X256.here hx rfl (hb hby at_113) ?_
        show Steps p.tables e below (T256.setTop (mkF m 114 #[.val (.int p0), .val (.int p1), .val (.int p2), .val (.int p3), .val (.int p4), .val (.ref b), .val (.ref a222), .val (.int (3 : Int32)), .val (.ref a228), .val (.int ((Int32.ofNat 3 - Int32.ofNat (own_cnt [c0, c1, c2, c3] 3 3 0)) + 1)), .val (.int (0 : Int32)), .unset] [(.int (1 : Int32)), (.ref b)])) _
        refine X256.caload hx (j := (1 : Int32)) (v := (.int c1)) (cell := clv) (by rw [e256]; exact Arv1.1) (State.isArrayOf_alike hZL.alike Arv1.2.1) Arv1.2.2 (inb_of Szv (by decide)) (Hv.at (inb_of Szv (by decide)) rfl) (g := (mkF m 114 #[.val (.int p0), .val (.int p1), .val (.int p2), .val (.int p3), .val (.int p4), .val (.ref b), .val (.ref a222), .val (.int (3 : Int32)), .val (.ref a228), .val (.int ((Int32.ofNat 3 - Int32.ofNat (own_cnt [c0, c1, c2, c3] 3 3 0)) + 1)), .val (.int (0 : Int32)), .unset] [(.int (1 : Int32)), (.ref b)])) rfl rfl (hb hby at_114) _ ?_
        show Steps p.tables e below (T256.setTop (mkF m 115 #[.val (.int p0), .val (.int p1), .val (.int p2), .val (.int p3), .val (.int p4), .val (.ref b), .val (.ref a222), .val (.int (3 : Int32)), .val (.ref a228), .val (.int ((Int32.ofNat 3 - Int32.ofNat (own_cnt [c0, c1, c2, c3] 3 3 0)) + 1)), .val (.int (0 : Int32)), .unset] [(.int c1)])) _
        refine XS.aload X256.here hx rfl (hb hby at_115) rfl rfl ?_
        show Steps p.tables e below (T256.setTop (mkF m 117 #[.val (.int p0), .val (.int p1), .val (.int p2), .val (.int p3), .val (.int p4), .val (.ref b), .val (.ref a222), .val (.int (3 : Int32)), .val (.ref a228), .val (.int ((Int32.ofNat 3 - Int32.ofNat (own_cnt [c0, c1, c2, c3] 3 3 0)) + 1)), .val (.int (0 : Int32)), .unset] [(.ref b), (.int c1)])) _
        refine XS.iconst X256.here hx rfl (hb hby at_117) ?_
        show Steps p.tables e below (T256.setTop (mkF m 118 #[.val (.int p0), .val (.int p1), .val (.int p2), .val (.int p3), .val (.int p4), .val (.ref b), .val (.ref a222), .val (.int (3 : Int32)), .val (.ref a228), .val (.int ((Int32.ofNat 3 - Int32.ofNat (own_cnt [c0, c1, c2, c3] 3 3 0)) + 1)), .val (.int (0 : Int32)), .unset] [(.int (2 : Int32)), (.ref b), (.int c1)])) _
        refine X256.caload hx (j := (2 : Int32)) (v := (.int c2)) (cell := clv) (by rw [e256]; exact Arv1.1) (State.isArrayOf_alike hZL.alike Arv1.2.1) Arv1.2.2 (inb_of Szv (by decide)) (Hv.at (inb_of Szv (by decide)) rfl) (g := (mkF m 118 #[.val (.int p0), .val (.int p1), .val (.int p2), .val (.int p3), .val (.int p4), .val (.ref b), .val (.ref a222), .val (.int (3 : Int32)), .val (.ref a228), .val (.int ((Int32.ofNat 3 - Int32.ofNat (own_cnt [c0, c1, c2, c3] 3 3 0)) + 1)), .val (.int (0 : Int32)), .unset] [(.int (2 : Int32)), (.ref b), (.int c1)])) rfl rfl (hb hby at_118) _ ?_
        exact kk_)
      obtain ⟨_, T266, h266, L266, X266, e266, hQ266, st266⟩ := own_callS X256 hx hZL (y := (⟨"com/example/kept_triples/kepttriples/model/LabelLexerColumnPinLaw", "pair", "(CC)Z"⟩ : MethodName)) hownL (hw _ (List.mem_of_getElem? (i := 114) rfl)) (hw _ (List.mem_of_getElem? (i := 115) rfl)) (hw _ (List.mem_of_getElem? (i := 3) rfl)) (hw _ (List.mem_of_getElem? (i := 116) rfl)) (by decide) 0 (g := (mkF m 119 #[.val (.int p0), .val (.int p1), .val (.int p2), .val (.int p3), .val (.int p4), .val (.ref b), .val (.ref a222), .val (.int (3 : Int32)), .val (.ref a228), .val (.int ((Int32.ofNat 3 - Int32.ofNat (own_cnt [c0, c1, c2, c3] 3 3 0)) + 1)), .val (.int (0 : Int32)), .unset] [(.int c2), (.int c1)])) rfl (by rw [hml]; rfl) [(.int c1), (.int c2)] [] (rm24 l Z a0 hw [] c1 c2 h232 n0 Zf) (lenOf pd23 rfl) rfl (by show 2 * 0 + _ ≤ _; exact Nat.le_of_eq rfl) (hb hby at_119) (by decide) (by decide) e256 (by decide) (by decide)
      rcases hQ266 with ⟨⟨hp1, rfl⟩ | ⟨hp1, rfl⟩, N266, rfl⟩
      · have _ := e266
        have S267 : own_Go p e below s₁ G T266 (mkF m 122 #[.val (.int p0), .val (.int p1), .val (.int p2), .val (.int p3), .val (.int p4), .val (.ref b), .val (.ref a222), .val (.int (3 : Int32)), .val (.ref a228), .val (.int ((Int32.ofNat 3 - Int32.ofNat (own_cnt [c0, c1, c2, c3] 3 3 0)) + 1)), .val (.int (0 : Int32)), .unset] [(.int (1 : Int32))]) := fun tg_ kk_ => S265 tg_ (st266 tg_ kk_)
        have NP1 := Fr.app NP0 N266
        have S268 : own_Go p e below s₁ G T266 (mkF m 164 #[.val (.int p0), .val (.int p1), .val (.int p2), .val (.int p3), .val (.int p4), .val (.ref b), .val (.ref a222), .val (.int (3 : Int32)), .val (.ref a228), .val (.int ((Int32.ofNat 3 - Int32.ofNat (own_cnt [c0, c1, c2, c3] 3 3 0)) + 1)), .val (.int ((0 : Int32) + (1 : Int32))), .val (.int (((3 : Int32) - ((0 : Int32) + (1 : Int32))) + (1 : Int32)))] [(.int (((3 : Int32) - ((0 : Int32) + (1 : Int32))) + (1 : Int32))), (.int ((Int32.ofNat 3 - Int32.ofNat (own_cnt [c0, c1, c2, c3] 3 3 0)) + 1))]) := fun tg_ kk_ => S267 tg_ (by
          refine XS.ifNo X266.here hx rfl (hb hby at_122) rfl (by decide) ?_
          show Steps p.tables e below (T266.setTop (mkF m 125 #[.val (.int p0), .val (.int p1), .val (.int p2), .val (.int p3), .val (.int p4), .val (.ref b), .val (.ref a222), .val (.int (3 : Int32)), .val (.ref a228), .val (.int ((Int32.ofNat 3 - Int32.ofNat (own_cnt [c0, c1, c2, c3] 3 3 0)) + 1)), .val (.int (0 : Int32)), .unset] [])) _
          refine XS.iinc X266.here hx rfl (hb hby at_125) rfl (l' := #[.val (.int p0), .val (.int p1), .val (.int p2), .val (.int p3), .val (.int p4), .val (.ref b), .val (.ref a222), .val (.int (3 : Int32)), .val (.ref a228), .val (.int ((Int32.ofNat 3 - Int32.ofNat (own_cnt [c0, c1, c2, c3] 3 3 0)) + 1)), .val (.int ((0 : Int32) + (1 : Int32))), .unset]) rfl ?_
          show Steps p.tables e below (T266.setTop (mkF m 128 #[.val (.int p0), .val (.int p1), .val (.int p2), .val (.int p3), .val (.int p4), .val (.ref b), .val (.ref a222), .val (.int (3 : Int32)), .val (.ref a228), .val (.int ((Int32.ofNat 3 - Int32.ofNat (own_cnt [c0, c1, c2, c3] 3 3 0)) + 1)), .val (.int ((0 : Int32) + (1 : Int32))), .unset] [])) _
          refine XS.iload X266.here hx rfl (hb hby at_128) rfl ?_
          show Steps p.tables e below (T266.setTop (mkF m 130 #[.val (.int p0), .val (.int p1), .val (.int p2), .val (.int p3), .val (.int p4), .val (.ref b), .val (.ref a222), .val (.int (3 : Int32)), .val (.ref a228), .val (.int ((Int32.ofNat 3 - Int32.ofNat (own_cnt [c0, c1, c2, c3] 3 3 0)) + 1)), .val (.int ((0 : Int32) + (1 : Int32))), .unset] [(.int (3 : Int32))])) _
          refine XS.iconst X266.here hx rfl (hb hby at_130) ?_
          show Steps p.tables e below (T266.setTop (mkF m 131 #[.val (.int p0), .val (.int p1), .val (.int p2), .val (.int p3), .val (.int p4), .val (.ref b), .val (.ref a222), .val (.int (3 : Int32)), .val (.ref a228), .val (.int ((Int32.ofNat 3 - Int32.ofNat (own_cnt [c0, c1, c2, c3] 3 3 0)) + 1)), .val (.int ((0 : Int32) + (1 : Int32))), .unset] [(.int (4 : Int32)), (.int (3 : Int32))])) _
          refine XS.icmpYes X266.here hx rfl (pc0 := 131) (pc' := 151) rfl (hb hby at_131) rfl (XT.ii_lt_t (by decide)) (by decide) (by decide) ?_
          show Steps p.tables e below (T266.setTop (mkF m 151 #[.val (.int p0), .val (.int p1), .val (.int p2), .val (.int p3), .val (.int p4), .val (.ref b), .val (.ref a222), .val (.int (3 : Int32)), .val (.ref a228), .val (.int ((Int32.ofNat 3 - Int32.ofNat (own_cnt [c0, c1, c2, c3] 3 3 0)) + 1)), .val (.int ((0 : Int32) + (1 : Int32))), .unset] [])) _
          refine XS.iload X266.here hx rfl (hb hby at_151) rfl ?_
          show Steps p.tables e below (T266.setTop (mkF m 153 #[.val (.int p0), .val (.int p1), .val (.int p2), .val (.int p3), .val (.int p4), .val (.ref b), .val (.ref a222), .val (.int (3 : Int32)), .val (.ref a228), .val (.int ((Int32.ofNat 3 - Int32.ofNat (own_cnt [c0, c1, c2, c3] 3 3 0)) + 1)), .val (.int ((0 : Int32) + (1 : Int32))), .unset] [(.int (3 : Int32))])) _
          refine XS.iload X266.here hx rfl (hb hby at_153) rfl ?_
          show Steps p.tables e below (T266.setTop (mkF m 155 #[.val (.int p0), .val (.int p1), .val (.int p2), .val (.int p3), .val (.int p4), .val (.ref b), .val (.ref a222), .val (.int (3 : Int32)), .val (.ref a228), .val (.int ((Int32.ofNat 3 - Int32.ofNat (own_cnt [c0, c1, c2, c3] 3 3 0)) + 1)), .val (.int ((0 : Int32) + (1 : Int32))), .unset] [(.int ((0 : Int32) + (1 : Int32))), (.int (3 : Int32))])) _
          refine XS.isub X266.here hx rfl (hb hby at_155) rfl ?_
          show Steps p.tables e below (T266.setTop (mkF m 156 #[.val (.int p0), .val (.int p1), .val (.int p2), .val (.int p3), .val (.int p4), .val (.ref b), .val (.ref a222), .val (.int (3 : Int32)), .val (.ref a228), .val (.int ((Int32.ofNat 3 - Int32.ofNat (own_cnt [c0, c1, c2, c3] 3 3 0)) + 1)), .val (.int ((0 : Int32) + (1 : Int32))), .unset] [(.int ((3 : Int32) - ((0 : Int32) + (1 : Int32))))])) _
          refine XS.iconst X266.here hx rfl (hb hby at_156) ?_
          show Steps p.tables e below (T266.setTop (mkF m 157 #[.val (.int p0), .val (.int p1), .val (.int p2), .val (.int p3), .val (.int p4), .val (.ref b), .val (.ref a222), .val (.int (3 : Int32)), .val (.ref a228), .val (.int ((Int32.ofNat 3 - Int32.ofNat (own_cnt [c0, c1, c2, c3] 3 3 0)) + 1)), .val (.int ((0 : Int32) + (1 : Int32))), .unset] [(.int (1 : Int32)), (.int ((3 : Int32) - ((0 : Int32) + (1 : Int32))))])) _
          refine XS.iadd X266.here hx rfl (hb hby at_157) rfl ?_
          show Steps p.tables e below (T266.setTop (mkF m 158 #[.val (.int p0), .val (.int p1), .val (.int p2), .val (.int p3), .val (.int p4), .val (.ref b), .val (.ref a222), .val (.int (3 : Int32)), .val (.ref a228), .val (.int ((Int32.ofNat 3 - Int32.ofNat (own_cnt [c0, c1, c2, c3] 3 3 0)) + 1)), .val (.int ((0 : Int32) + (1 : Int32))), .unset] [(.int (((3 : Int32) - ((0 : Int32) + (1 : Int32))) + (1 : Int32)))])) _
          refine XS.istore X266.here hx rfl (hb hby at_158) rfl (l' := #[.val (.int p0), .val (.int p1), .val (.int p2), .val (.int p3), .val (.int p4), .val (.ref b), .val (.ref a222), .val (.int (3 : Int32)), .val (.ref a228), .val (.int ((Int32.ofNat 3 - Int32.ofNat (own_cnt [c0, c1, c2, c3] 3 3 0)) + 1)), .val (.int ((0 : Int32) + (1 : Int32))), .val (.int (((3 : Int32) - ((0 : Int32) + (1 : Int32))) + (1 : Int32)))]) rfl ?_
          show Steps p.tables e below (T266.setTop (mkF m 160 #[.val (.int p0), .val (.int p1), .val (.int p2), .val (.int p3), .val (.int p4), .val (.ref b), .val (.ref a222), .val (.int (3 : Int32)), .val (.ref a228), .val (.int ((Int32.ofNat 3 - Int32.ofNat (own_cnt [c0, c1, c2, c3] 3 3 0)) + 1)), .val (.int ((0 : Int32) + (1 : Int32))), .val (.int (((3 : Int32) - ((0 : Int32) + (1 : Int32))) + (1 : Int32)))] [])) _
          refine XS.iload X266.here hx rfl (hb hby at_160) rfl ?_
          show Steps p.tables e below (T266.setTop (mkF m 162 #[.val (.int p0), .val (.int p1), .val (.int p2), .val (.int p3), .val (.int p4), .val (.ref b), .val (.ref a222), .val (.int (3 : Int32)), .val (.ref a228), .val (.int ((Int32.ofNat 3 - Int32.ofNat (own_cnt [c0, c1, c2, c3] 3 3 0)) + 1)), .val (.int ((0 : Int32) + (1 : Int32))), .val (.int (((3 : Int32) - ((0 : Int32) + (1 : Int32))) + (1 : Int32)))] [(.int ((Int32.ofNat 3 - Int32.ofNat (own_cnt [c0, c1, c2, c3] 3 3 0)) + 1))])) _
          refine XS.iload X266.here hx rfl (hb hby at_162) rfl ?_
          exact kk_)
        have hcnt : own_cnt [c0, c1, c2, c3] 3 3 0 = 1 := by
          rw [own_cnt_n (cs := [c0, c1, c2, c3]) (e := 3) (f := 2) (i := 0) (by decide) hp0, own_cnt_p (cs := [c0, c1, c2, c3]) (e := 3) (f := 1) (i := 1) (by decide) hp1, own_cnt_out (by decide)]
        have heq : ((Int32.ofNat 3 - Int32.ofNat (own_cnt [c0, c1, c2, c3] 3 3 0)) + 1) = (((3 : Int32) - ((0 : Int32) + (1 : Int32))) + (1 : Int32)) := by rw [hcnt]; decide
        have S269 : own_Go p e below s₁ G T266 (mkF m 172 #[.val (.int p0), .val (.int p1), .val (.int p2), .val (.int p3), .val (.int p4), .val (.ref b), .val (.ref a222), .val (.int (3 : Int32)), .val (.ref a228), .val (.int ((Int32.ofNat 3 - Int32.ofNat (own_cnt [c0, c1, c2, c3] 3 3 0)) + 1)), .val (.int ((0 : Int32) + (1 : Int32))), .val (.int (((3 : Int32) - ((0 : Int32) + (1 : Int32))) + (1 : Int32)))] [(.int (1 : Int32))]) := fun tg_ kk_ => S268 tg_ (by
          refine XS.icmpNo X266.here hx rfl (hb hby at_164) rfl (XT.ii_ne_f heq) ?_
          show Steps p.tables e below (T266.setTop (mkF m 167 #[.val (.int p0), .val (.int p1), .val (.int p2), .val (.int p3), .val (.int p4), .val (.ref b), .val (.ref a222), .val (.int (3 : Int32)), .val (.ref a228), .val (.int ((Int32.ofNat 3 - Int32.ofNat (own_cnt [c0, c1, c2, c3] 3 3 0)) + 1)), .val (.int ((0 : Int32) + (1 : Int32))), .val (.int (((3 : Int32) - ((0 : Int32) + (1 : Int32))) + (1 : Int32)))] [])) _
          refine XS.iconst X266.here hx rfl (hb hby at_167) ?_
          show Steps p.tables e below (T266.setTop (mkF m 168 #[.val (.int p0), .val (.int p1), .val (.int p2), .val (.int p3), .val (.int p4), .val (.ref b), .val (.ref a222), .val (.int (3 : Int32)), .val (.ref a228), .val (.int ((Int32.ofNat 3 - Int32.ofNat (own_cnt [c0, c1, c2, c3] 3 3 0)) + 1)), .val (.int ((0 : Int32) + (1 : Int32))), .val (.int (((3 : Int32) - ((0 : Int32) + (1 : Int32))) + (1 : Int32)))] [(.int (1 : Int32))])) _
          refine XS.goto X266.here hx rfl (pc0 := 168) (pc' := 172) rfl (hb hby at_168) (by decide) (by decide) ?_
          exact kk_)
        obtain ⟨fs, hr, hrun, hended, hend⟩ := X266.leaveW hSL (by rw [e266]; exact hkf) (v := some (.int (1 : Int32))) (fun h => by rw [Bd.returns] at h; cases h)
        refine ⟨_, _, ?_, hrun, hended, _, _, rfl, ?_, hend.1, hend.2.1, hend.2.2.1, hend.2.2.2.mono (by decide) (by decide)⟩
        · rw [← hG]; exact S269 _ (retN X266 hx (t := .boolean) Bd.returns (by simp) (hb hby at_172) hr)
        · show Q0 Z p0 p1 p2 p3 p4 h0 n0 _ T266.heap _
          rw [e266]
          exact ⟨rfl, NP1⟩
      · have _ := e266
        have S270 : own_Go p e below s₁ G T266 (mkF m 122 #[.val (.int p0), .val (.int p1), .val (.int p2), .val (.int p3), .val (.int p4), .val (.ref b), .val (.ref a222), .val (.int (3 : Int32)), .val (.ref a228), .val (.int ((Int32.ofNat 3 - Int32.ofNat (own_cnt [c0, c1, c2, c3] 3 3 0)) + 1)), .val (.int (0 : Int32)), .unset] [(.int (0 : Int32))]) := fun tg_ kk_ => S265 tg_ (st266 tg_ kk_)
        have NP1 := Fr.app NP0 N266
        have S271 : own_Go p e below s₁ G T266 (mkF m 164 #[.val (.int p0), .val (.int p1), .val (.int p2), .val (.int p3), .val (.int p4), .val (.ref b), .val (.ref a222), .val (.int (3 : Int32)), .val (.ref a228), .val (.int ((Int32.ofNat 3 - Int32.ofNat (own_cnt [c0, c1, c2, c3] 3 3 0)) + 1)), .val (.int (0 : Int32)), .val (.int (((3 : Int32) - (0 : Int32)) + (1 : Int32)))] [(.int (((3 : Int32) - (0 : Int32)) + (1 : Int32))), (.int ((Int32.ofNat 3 - Int32.ofNat (own_cnt [c0, c1, c2, c3] 3 3 0)) + 1))]) := fun tg_ kk_ => S270 tg_ (by
          refine XS.ifYes X266.here hx rfl (pc0 := 122) (pc' := 128) rfl (hb hby at_122) rfl (by decide) (by decide) (by decide) ?_
          show Steps p.tables e below (T266.setTop (mkF m 128 #[.val (.int p0), .val (.int p1), .val (.int p2), .val (.int p3), .val (.int p4), .val (.ref b), .val (.ref a222), .val (.int (3 : Int32)), .val (.ref a228), .val (.int ((Int32.ofNat 3 - Int32.ofNat (own_cnt [c0, c1, c2, c3] 3 3 0)) + 1)), .val (.int (0 : Int32)), .unset] [])) _
          refine XS.iload X266.here hx rfl (hb hby at_128) rfl ?_
          show Steps p.tables e below (T266.setTop (mkF m 130 #[.val (.int p0), .val (.int p1), .val (.int p2), .val (.int p3), .val (.int p4), .val (.ref b), .val (.ref a222), .val (.int (3 : Int32)), .val (.ref a228), .val (.int ((Int32.ofNat 3 - Int32.ofNat (own_cnt [c0, c1, c2, c3] 3 3 0)) + 1)), .val (.int (0 : Int32)), .unset] [(.int (3 : Int32))])) _
          refine XS.iconst X266.here hx rfl (hb hby at_130) ?_
          show Steps p.tables e below (T266.setTop (mkF m 131 #[.val (.int p0), .val (.int p1), .val (.int p2), .val (.int p3), .val (.int p4), .val (.ref b), .val (.ref a222), .val (.int (3 : Int32)), .val (.ref a228), .val (.int ((Int32.ofNat 3 - Int32.ofNat (own_cnt [c0, c1, c2, c3] 3 3 0)) + 1)), .val (.int (0 : Int32)), .unset] [(.int (4 : Int32)), (.int (3 : Int32))])) _
          refine XS.icmpYes X266.here hx rfl (pc0 := 131) (pc' := 151) rfl (hb hby at_131) rfl (XT.ii_lt_t (by decide)) (by decide) (by decide) ?_
          show Steps p.tables e below (T266.setTop (mkF m 151 #[.val (.int p0), .val (.int p1), .val (.int p2), .val (.int p3), .val (.int p4), .val (.ref b), .val (.ref a222), .val (.int (3 : Int32)), .val (.ref a228), .val (.int ((Int32.ofNat 3 - Int32.ofNat (own_cnt [c0, c1, c2, c3] 3 3 0)) + 1)), .val (.int (0 : Int32)), .unset] [])) _
          refine XS.iload X266.here hx rfl (hb hby at_151) rfl ?_
          show Steps p.tables e below (T266.setTop (mkF m 153 #[.val (.int p0), .val (.int p1), .val (.int p2), .val (.int p3), .val (.int p4), .val (.ref b), .val (.ref a222), .val (.int (3 : Int32)), .val (.ref a228), .val (.int ((Int32.ofNat 3 - Int32.ofNat (own_cnt [c0, c1, c2, c3] 3 3 0)) + 1)), .val (.int (0 : Int32)), .unset] [(.int (3 : Int32))])) _
          refine XS.iload X266.here hx rfl (hb hby at_153) rfl ?_
          show Steps p.tables e below (T266.setTop (mkF m 155 #[.val (.int p0), .val (.int p1), .val (.int p2), .val (.int p3), .val (.int p4), .val (.ref b), .val (.ref a222), .val (.int (3 : Int32)), .val (.ref a228), .val (.int ((Int32.ofNat 3 - Int32.ofNat (own_cnt [c0, c1, c2, c3] 3 3 0)) + 1)), .val (.int (0 : Int32)), .unset] [(.int (0 : Int32)), (.int (3 : Int32))])) _
          refine XS.isub X266.here hx rfl (hb hby at_155) rfl ?_
          show Steps p.tables e below (T266.setTop (mkF m 156 #[.val (.int p0), .val (.int p1), .val (.int p2), .val (.int p3), .val (.int p4), .val (.ref b), .val (.ref a222), .val (.int (3 : Int32)), .val (.ref a228), .val (.int ((Int32.ofNat 3 - Int32.ofNat (own_cnt [c0, c1, c2, c3] 3 3 0)) + 1)), .val (.int (0 : Int32)), .unset] [(.int ((3 : Int32) - (0 : Int32)))])) _
          refine XS.iconst X266.here hx rfl (hb hby at_156) ?_
          show Steps p.tables e below (T266.setTop (mkF m 157 #[.val (.int p0), .val (.int p1), .val (.int p2), .val (.int p3), .val (.int p4), .val (.ref b), .val (.ref a222), .val (.int (3 : Int32)), .val (.ref a228), .val (.int ((Int32.ofNat 3 - Int32.ofNat (own_cnt [c0, c1, c2, c3] 3 3 0)) + 1)), .val (.int (0 : Int32)), .unset] [(.int (1 : Int32)), (.int ((3 : Int32) - (0 : Int32)))])) _
          refine XS.iadd X266.here hx rfl (hb hby at_157) rfl ?_
          show Steps p.tables e below (T266.setTop (mkF m 158 #[.val (.int p0), .val (.int p1), .val (.int p2), .val (.int p3), .val (.int p4), .val (.ref b), .val (.ref a222), .val (.int (3 : Int32)), .val (.ref a228), .val (.int ((Int32.ofNat 3 - Int32.ofNat (own_cnt [c0, c1, c2, c3] 3 3 0)) + 1)), .val (.int (0 : Int32)), .unset] [(.int (((3 : Int32) - (0 : Int32)) + (1 : Int32)))])) _
          refine XS.istore X266.here hx rfl (hb hby at_158) rfl (l' := #[.val (.int p0), .val (.int p1), .val (.int p2), .val (.int p3), .val (.int p4), .val (.ref b), .val (.ref a222), .val (.int (3 : Int32)), .val (.ref a228), .val (.int ((Int32.ofNat 3 - Int32.ofNat (own_cnt [c0, c1, c2, c3] 3 3 0)) + 1)), .val (.int (0 : Int32)), .val (.int (((3 : Int32) - (0 : Int32)) + (1 : Int32)))]) rfl ?_
          show Steps p.tables e below (T266.setTop (mkF m 160 #[.val (.int p0), .val (.int p1), .val (.int p2), .val (.int p3), .val (.int p4), .val (.ref b), .val (.ref a222), .val (.int (3 : Int32)), .val (.ref a228), .val (.int ((Int32.ofNat 3 - Int32.ofNat (own_cnt [c0, c1, c2, c3] 3 3 0)) + 1)), .val (.int (0 : Int32)), .val (.int (((3 : Int32) - (0 : Int32)) + (1 : Int32)))] [])) _
          refine XS.iload X266.here hx rfl (hb hby at_160) rfl ?_
          show Steps p.tables e below (T266.setTop (mkF m 162 #[.val (.int p0), .val (.int p1), .val (.int p2), .val (.int p3), .val (.int p4), .val (.ref b), .val (.ref a222), .val (.int (3 : Int32)), .val (.ref a228), .val (.int ((Int32.ofNat 3 - Int32.ofNat (own_cnt [c0, c1, c2, c3] 3 3 0)) + 1)), .val (.int (0 : Int32)), .val (.int (((3 : Int32) - (0 : Int32)) + (1 : Int32)))] [(.int ((Int32.ofNat 3 - Int32.ofNat (own_cnt [c0, c1, c2, c3] 3 3 0)) + 1))])) _
          refine XS.iload X266.here hx rfl (hb hby at_162) rfl ?_
          exact kk_)
        have hcnt : own_cnt [c0, c1, c2, c3] 3 3 0 = 0 := by
          rw [own_cnt_n (cs := [c0, c1, c2, c3]) (e := 3) (f := 2) (i := 0) (by decide) hp0, own_cnt_n (cs := [c0, c1, c2, c3]) (e := 3) (f := 1) (i := 1) (by decide) hp1, own_cnt_out (by decide)]
        have heq : ((Int32.ofNat 3 - Int32.ofNat (own_cnt [c0, c1, c2, c3] 3 3 0)) + 1) = (((3 : Int32) - (0 : Int32)) + (1 : Int32)) := by rw [hcnt]; decide
        have S272 : own_Go p e below s₁ G T266 (mkF m 172 #[.val (.int p0), .val (.int p1), .val (.int p2), .val (.int p3), .val (.int p4), .val (.ref b), .val (.ref a222), .val (.int (3 : Int32)), .val (.ref a228), .val (.int ((Int32.ofNat 3 - Int32.ofNat (own_cnt [c0, c1, c2, c3] 3 3 0)) + 1)), .val (.int (0 : Int32)), .val (.int (((3 : Int32) - (0 : Int32)) + (1 : Int32)))] [(.int (1 : Int32))]) := fun tg_ kk_ => S271 tg_ (by
          refine XS.icmpNo X266.here hx rfl (hb hby at_164) rfl (XT.ii_ne_f heq) ?_
          show Steps p.tables e below (T266.setTop (mkF m 167 #[.val (.int p0), .val (.int p1), .val (.int p2), .val (.int p3), .val (.int p4), .val (.ref b), .val (.ref a222), .val (.int (3 : Int32)), .val (.ref a228), .val (.int ((Int32.ofNat 3 - Int32.ofNat (own_cnt [c0, c1, c2, c3] 3 3 0)) + 1)), .val (.int (0 : Int32)), .val (.int (((3 : Int32) - (0 : Int32)) + (1 : Int32)))] [])) _
          refine XS.iconst X266.here hx rfl (hb hby at_167) ?_
          show Steps p.tables e below (T266.setTop (mkF m 168 #[.val (.int p0), .val (.int p1), .val (.int p2), .val (.int p3), .val (.int p4), .val (.ref b), .val (.ref a222), .val (.int (3 : Int32)), .val (.ref a228), .val (.int ((Int32.ofNat 3 - Int32.ofNat (own_cnt [c0, c1, c2, c3] 3 3 0)) + 1)), .val (.int (0 : Int32)), .val (.int (((3 : Int32) - (0 : Int32)) + (1 : Int32)))] [(.int (1 : Int32))])) _
          refine XS.goto X266.here hx rfl (pc0 := 168) (pc' := 172) rfl (hb hby at_168) (by decide) (by decide) ?_
          exact kk_)
        obtain ⟨fs, hr, hrun, hended, hend⟩ := X266.leaveW hSL (by rw [e266]; exact hkf) (v := some (.int (1 : Int32))) (fun h => by rw [Bd.returns] at h; cases h)
        refine ⟨_, _, ?_, hrun, hended, _, _, rfl, ?_, hend.1, hend.2.1, hend.2.2.1, hend.2.2.2.mono (by decide) (by decide)⟩
        · rw [← hG]; exact S272 _ (retN X266 hx (t := .boolean) Bd.returns (by simp) (hb hby at_172) hr)
        · show Q0 Z p0 p1 p2 p3 p4 h0 n0 _ T266.heap _
          rw [e266]
          exact ⟨rfl, NP1⟩
  · have _ := hn
    rw [hn] at S234
    obtain ⟨clv, Arv1, -, Szv, -, Hv, -⟩ := id Vf
    obtain ⟨_, T273, h273, L273, X273, e273, hQ273, st273⟩ := own_callV X232 hx hZL (y := (⟨"com/example/kept_triples/kepttriples/model/LabelLexer", "column", "(I)I"⟩ : MethodName)) hownL (hw _ (List.mem_of_getElem? (i := 70) rfl)) (hw _ (List.mem_of_getElem? (i := 71) rfl)) (hw _ (List.mem_of_getElem? (i := 73) rfl)) (hw _ (List.mem_of_getElem? (i := 72) rfl)) (hw _ (List.mem_of_getElem? (i := 58) rfl)) (hw _ (List.mem_of_getElem? (i := 74) rfl)) (by decide) 0 (g := (mkF m 74 #[.val (.int p0), .val (.int p1), .val (.int p2), .val (.int p3), .val (.int p4), .val (.ref b), .val (.ref a222), .val (.int (4 : Int32)), .val (.ref a228), .unset, .unset, .unset] [(.int (4 : Int32)), (.ref a228)])) rfl (by rw [hml]; rfl) a228 Ef [(.int (4 : Int32))] [] (rm14 l Z a0 hw [] a228 a222 t [c0, c1, c2, c3] 4 h232 n0 Zf z Of O2 P5 FI Sf (by simp) (by simp) hch A16) (lenOf pd9 rfl) rfl (by show 2 * 0 + _ ≤ _; exact Nat.le_of_eq rfl) (hb hby at_74) (by decide) (by decide) e232 (by decide) (by decide)
    obtain ⟨rfl, N273, rfl⟩ := hQ273
    have S274 : own_Go p e below s₁ G T273 (mkF m 77 #[.val (.int p0), .val (.int p1), .val (.int p2), .val (.int p3), .val (.int p4), .val (.ref b), .val (.ref a222), .val (.int (4 : Int32)), .val (.ref a228), .unset, .unset, .unset] [(.int ((Int32.ofNat 4 - Int32.ofNat (own_cnt [c0, c1, c2, c3] 4 4 0)) + 1))]) := fun tg_ kk_ => S234 tg_ (st273 tg_ kk_)
    have NE := Fr.app ND N273
    have S275 : own_Go p e below s₁ G T273 (mkF m 96 #[.val (.int p0), .val (.int p1), .val (.int p2), .val (.int p3), .val (.int p4), .val (.ref b), .val (.ref a222), .val (.int (4 : Int32)), .val (.ref a228), .val (.int ((Int32.ofNat 4 - Int32.ofNat (own_cnt [c0, c1, c2, c3] 4 4 0)) + 1)), .val (.int (0 : Int32)), .unset] [(.int c1), (.int c0)]) := fun tg_ kk_ => S274 tg_ (by
      refine XS.istore X273.here hx rfl (hb hby at_77) rfl (l' := #[.val (.int p0), .val (.int p1), .val (.int p2), .val (.int p3), .val (.int p4), .val (.ref b), .val (.ref a222), .val (.int (4 : Int32)), .val (.ref a228), .val (.int ((Int32.ofNat 4 - Int32.ofNat (own_cnt [c0, c1, c2, c3] 4 4 0)) + 1)), .unset, .unset]) rfl ?_
      show Steps p.tables e below (T273.setTop (mkF m 79 #[.val (.int p0), .val (.int p1), .val (.int p2), .val (.int p3), .val (.int p4), .val (.ref b), .val (.ref a222), .val (.int (4 : Int32)), .val (.ref a228), .val (.int ((Int32.ofNat 4 - Int32.ofNat (own_cnt [c0, c1, c2, c3] 4 4 0)) + 1)), .unset, .unset] [])) _
      refine XS.iconst X273.here hx rfl (hb hby at_79) ?_
      show Steps p.tables e below (T273.setTop (mkF m 80 #[.val (.int p0), .val (.int p1), .val (.int p2), .val (.int p3), .val (.int p4), .val (.ref b), .val (.ref a222), .val (.int (4 : Int32)), .val (.ref a228), .val (.int ((Int32.ofNat 4 - Int32.ofNat (own_cnt [c0, c1, c2, c3] 4 4 0)) + 1)), .unset, .unset] [(.int (0 : Int32))])) _
      refine XS.istore X273.here hx rfl (hb hby at_80) rfl (l' := #[.val (.int p0), .val (.int p1), .val (.int p2), .val (.int p3), .val (.int p4), .val (.ref b), .val (.ref a222), .val (.int (4 : Int32)), .val (.ref a228), .val (.int ((Int32.ofNat 4 - Int32.ofNat (own_cnt [c0, c1, c2, c3] 4 4 0)) + 1)), .val (.int (0 : Int32)), .unset]) rfl ?_
      show Steps p.tables e below (T273.setTop (mkF m 82 #[.val (.int p0), .val (.int p1), .val (.int p2), .val (.int p3), .val (.int p4), .val (.ref b), .val (.ref a222), .val (.int (4 : Int32)), .val (.ref a228), .val (.int ((Int32.ofNat 4 - Int32.ofNat (own_cnt [c0, c1, c2, c3] 4 4 0)) + 1)), .val (.int (0 : Int32)), .unset] [])) _
      refine XS.iload X273.here hx rfl (hb hby at_82) rfl ?_
      show Steps p.tables e below (T273.setTop (mkF m 84 #[.val (.int p0), .val (.int p1), .val (.int p2), .val (.int p3), .val (.int p4), .val (.ref b), .val (.ref a222), .val (.int (4 : Int32)), .val (.ref a228), .val (.int ((Int32.ofNat 4 - Int32.ofNat (own_cnt [c0, c1, c2, c3] 4 4 0)) + 1)), .val (.int (0 : Int32)), .unset] [(.int (4 : Int32))])) _
      refine XS.iconst X273.here hx rfl (hb hby at_84) ?_
      show Steps p.tables e below (T273.setTop (mkF m 85 #[.val (.int p0), .val (.int p1), .val (.int p2), .val (.int p3), .val (.int p4), .val (.ref b), .val (.ref a222), .val (.int (4 : Int32)), .val (.ref a228), .val (.int ((Int32.ofNat 4 - Int32.ofNat (own_cnt [c0, c1, c2, c3] 4 4 0)) + 1)), .val (.int (0 : Int32)), .unset] [(.int (2 : Int32)), (.int (4 : Int32))])) _
      refine XS.icmpNo X273.here hx rfl (hb hby at_85) rfl (XT.ii_lt_f (by decide)) ?_
      show Steps p.tables e below (T273.setTop (mkF m 88 #[.val (.int p0), .val (.int p1), .val (.int p2), .val (.int p3), .val (.int p4), .val (.ref b), .val (.ref a222), .val (.int (4 : Int32)), .val (.ref a228), .val (.int ((Int32.ofNat 4 - Int32.ofNat (own_cnt [c0, c1, c2, c3] 4 4 0)) + 1)), .val (.int (0 : Int32)), .unset] [])) _
      refine XS.aload X273.here hx rfl (hb hby at_88) rfl rfl ?_
      show Steps p.tables e below (T273.setTop (mkF m 90 #[.val (.int p0), .val (.int p1), .val (.int p2), .val (.int p3), .val (.int p4), .val (.ref b), .val (.ref a222), .val (.int (4 : Int32)), .val (.ref a228), .val (.int ((Int32.ofNat 4 - Int32.ofNat (own_cnt [c0, c1, c2, c3] 4 4 0)) + 1)), .val (.int (0 : Int32)), .unset] [(.ref b)])) _
      refine XS.iconst X273.here hx rfl (hb hby at_90) ?_
      show Steps p.tables e below (T273.setTop (mkF m 91 #[.val (.int p0), .val (.int p1), .val (.int p2), .val (.int p3), .val (.int p4), .val (.ref b), .val (.ref a222), .val (.int (4 : Int32)), .val (.ref a228), .val (.int ((Int32.ofNat 4 - Int32.ofNat (own_cnt [c0, c1, c2, c3] 4 4 0)) + 1)), .val (.int (0 : Int32)), .unset] [(.int (0 : Int32)), (.ref b)])) _
      refine X273.caload hx (j := (0 : Int32)) (v := (.int c0)) (cell := clv) (by rw [e273]; exact Arv1.1) (State.isArrayOf_alike hZL.alike Arv1.2.1) Arv1.2.2 (inb_of Szv (by decide)) (Hv.at (inb_of Szv (by decide)) rfl) (g := (mkF m 91 #[.val (.int p0), .val (.int p1), .val (.int p2), .val (.int p3), .val (.int p4), .val (.ref b), .val (.ref a222), .val (.int (4 : Int32)), .val (.ref a228), .val (.int ((Int32.ofNat 4 - Int32.ofNat (own_cnt [c0, c1, c2, c3] 4 4 0)) + 1)), .val (.int (0 : Int32)), .unset] [(.int (0 : Int32)), (.ref b)])) rfl rfl (hb hby at_91) _ ?_
      show Steps p.tables e below (T273.setTop (mkF m 92 #[.val (.int p0), .val (.int p1), .val (.int p2), .val (.int p3), .val (.int p4), .val (.ref b), .val (.ref a222), .val (.int (4 : Int32)), .val (.ref a228), .val (.int ((Int32.ofNat 4 - Int32.ofNat (own_cnt [c0, c1, c2, c3] 4 4 0)) + 1)), .val (.int (0 : Int32)), .unset] [(.int c0)])) _
      refine XS.aload X273.here hx rfl (hb hby at_92) rfl rfl ?_
      show Steps p.tables e below (T273.setTop (mkF m 94 #[.val (.int p0), .val (.int p1), .val (.int p2), .val (.int p3), .val (.int p4), .val (.ref b), .val (.ref a222), .val (.int (4 : Int32)), .val (.ref a228), .val (.int ((Int32.ofNat 4 - Int32.ofNat (own_cnt [c0, c1, c2, c3] 4 4 0)) + 1)), .val (.int (0 : Int32)), .unset] [(.ref b), (.int c0)])) _
      refine XS.iconst X273.here hx rfl (hb hby at_94) ?_
      show Steps p.tables e below (T273.setTop (mkF m 95 #[.val (.int p0), .val (.int p1), .val (.int p2), .val (.int p3), .val (.int p4), .val (.ref b), .val (.ref a222), .val (.int (4 : Int32)), .val (.ref a228), .val (.int ((Int32.ofNat 4 - Int32.ofNat (own_cnt [c0, c1, c2, c3] 4 4 0)) + 1)), .val (.int (0 : Int32)), .unset] [(.int (1 : Int32)), (.ref b), (.int c0)])) _
      refine X273.caload hx (j := (1 : Int32)) (v := (.int c1)) (cell := clv) (by rw [e273]; exact Arv1.1) (State.isArrayOf_alike hZL.alike Arv1.2.1) Arv1.2.2 (inb_of Szv (by decide)) (Hv.at (inb_of Szv (by decide)) rfl) (g := (mkF m 95 #[.val (.int p0), .val (.int p1), .val (.int p2), .val (.int p3), .val (.int p4), .val (.ref b), .val (.ref a222), .val (.int (4 : Int32)), .val (.ref a228), .val (.int ((Int32.ofNat 4 - Int32.ofNat (own_cnt [c0, c1, c2, c3] 4 4 0)) + 1)), .val (.int (0 : Int32)), .unset] [(.int (1 : Int32)), (.ref b), (.int c0)])) rfl rfl (hb hby at_95) _ ?_
      exact kk_)
    obtain ⟨_, T276, h276, L276, X276, e276, hQ276, st276⟩ := own_callS X273 hx hZL (y := (⟨"com/example/kept_triples/kepttriples/model/LabelLexerColumnPinLaw", "pair", "(CC)Z"⟩ : MethodName)) hownL (hw _ (List.mem_of_getElem? (i := 114) rfl)) (hw _ (List.mem_of_getElem? (i := 115) rfl)) (hw _ (List.mem_of_getElem? (i := 3) rfl)) (hw _ (List.mem_of_getElem? (i := 116) rfl)) (by decide) 0 (g := (mkF m 96 #[.val (.int p0), .val (.int p1), .val (.int p2), .val (.int p3), .val (.int p4), .val (.ref b), .val (.ref a222), .val (.int (4 : Int32)), .val (.ref a228), .val (.int ((Int32.ofNat 4 - Int32.ofNat (own_cnt [c0, c1, c2, c3] 4 4 0)) + 1)), .val (.int (0 : Int32)), .unset] [(.int c1), (.int c0)])) rfl (by rw [hml]; rfl) [(.int c0), (.int c1)] [] (rm24 l Z a0 hw [] c0 c1 h232 n0 Zf) (lenOf pd23 rfl) rfl (by show 2 * 0 + _ ≤ _; exact Nat.le_of_eq rfl) (hb hby at_96) (by decide) (by decide) e273 (by decide) (by decide)
    rcases hQ276 with ⟨⟨hp0, rfl⟩ | ⟨hp0, rfl⟩, N276, rfl⟩
    · have _ := e276
      have S277 : own_Go p e below s₁ G T276 (mkF m 99 #[.val (.int p0), .val (.int p1), .val (.int p2), .val (.int p3), .val (.int p4), .val (.ref b), .val (.ref a222), .val (.int (4 : Int32)), .val (.ref a228), .val (.int ((Int32.ofNat 4 - Int32.ofNat (own_cnt [c0, c1, c2, c3] 4 4 0)) + 1)), .val (.int (0 : Int32)), .unset] [(.int (1 : Int32))]) := fun tg_ kk_ => S275 tg_ (st276 tg_ kk_)
      have NP0 := Fr.app NE N276
      have S278 : own_Go p e below s₁ G T276 (mkF m 119 #[.val (.int p0), .val (.int p1), .val (.int p2), .val (.int p3), .val (.int p4), .val (.ref b), .val (.ref a222), .val (.int (4 : Int32)), .val (.ref a228), .val (.int ((Int32.ofNat 4 - Int32.ofNat (own_cnt [c0, c1, c2, c3] 4 4 0)) + 1)), .val (.int ((0 : Int32) + (1 : Int32))), .unset] [(.int c2), (.int c1)]) := fun tg_ kk_ => S277 tg_ (by
        refine XS.ifNo X276.here hx rfl (hb hby at_99) rfl (by decide) ?_
        show Steps p.tables e below (T276.setTop (mkF m 102 #[.val (.int p0), .val (.int p1), .val (.int p2), .val (.int p3), .val (.int p4), .val (.ref b), .val (.ref a222), .val (.int (4 : Int32)), .val (.ref a228), .val (.int ((Int32.ofNat 4 - Int32.ofNat (own_cnt [c0, c1, c2, c3] 4 4 0)) + 1)), .val (.int (0 : Int32)), .unset] [])) _
        refine XS.iinc X276.here hx rfl (hb hby at_102) rfl (l' := #[.val (.int p0), .val (.int p1), .val (.int p2), .val (.int p3), .val (.int p4), .val (.ref b), .val (.ref a222), .val (.int (4 : Int32)), .val (.ref a228), .val (.int ((Int32.ofNat 4 - Int32.ofNat (own_cnt [c0, c1, c2, c3] 4 4 0)) + 1)), .val (.int ((0 : Int32) + (1 : Int32))), .unset]) rfl ?_
        show Steps p.tables e below (T276.setTop (mkF m 105 #[.val (.int p0), .val (.int p1), .val (.int p2), .val (.int p3), .val (.int p4), .val (.ref b), .val (.ref a222), .val (.int (4 : Int32)), .val (.ref a228), .val (.int ((Int32.ofNat 4 - Int32.ofNat (own_cnt [c0, c1, c2, c3] 4 4 0)) + 1)), .val (.int ((0 : Int32) + (1 : Int32))), .unset] [])) _
        refine XS.iload X276.here hx rfl (hb hby at_105) rfl ?_
        show Steps p.tables e below (T276.setTop (mkF m 107 #[.val (.int p0), .val (.int p1), .val (.int p2), .val (.int p3), .val (.int p4), .val (.ref b), .val (.ref a222), .val (.int (4 : Int32)), .val (.ref a228), .val (.int ((Int32.ofNat 4 - Int32.ofNat (own_cnt [c0, c1, c2, c3] 4 4 0)) + 1)), .val (.int ((0 : Int32) + (1 : Int32))), .unset] [(.int (4 : Int32))])) _
        refine XS.iconst X276.here hx rfl (hb hby at_107) ?_
        show Steps p.tables e below (T276.setTop (mkF m 108 #[.val (.int p0), .val (.int p1), .val (.int p2), .val (.int p3), .val (.int p4), .val (.ref b), .val (.ref a222), .val (.int (4 : Int32)), .val (.ref a228), .val (.int ((Int32.ofNat 4 - Int32.ofNat (own_cnt [c0, c1, c2, c3] 4 4 0)) + 1)), .val (.int ((0 : Int32) + (1 : Int32))), .unset] [(.int (3 : Int32)), (.int (4 : Int32))])) _
        refine XS.icmpNo X276.here hx rfl (hb hby at_108) rfl (XT.ii_lt_f (by decide)) ?_
        show Steps p.tables e below (T276.setTop (mkF m 111 #[.val (.int p0), .val (.int p1), .val (.int p2), .val (.int p3), .val (.int p4), .val (.ref b), .val (.ref a222), .val (.int (4 : Int32)), .val (.ref a228), .val (.int ((Int32.ofNat 4 - Int32.ofNat (own_cnt [c0, c1, c2, c3] 4 4 0)) + 1)), .val (.int ((0 : Int32) + (1 : Int32))), .unset] [])) _
        refine XS.aload X276.here hx rfl (hb hby at_111) rfl rfl ?_
        show Steps p.tables e below (T276.setTop (mkF m 113 #[.val (.int p0), .val (.int p1), .val (.int p2), .val (.int p3), .val (.int p4), .val (.ref b), .val (.ref a222), .val (.int (4 : Int32)), .val (.ref a228), .val (.int ((Int32.ofNat 4 - Int32.ofNat (own_cnt [c0, c1, c2, c3] 4 4 0)) + 1)), .val (.int ((0 : Int32) + (1 : Int32))), .unset] [(.ref b)])) _
        refine XS.iconst X276.here hx rfl (hb hby at_113) ?_
        show Steps p.tables e below (T276.setTop (mkF m 114 #[.val (.int p0), .val (.int p1), .val (.int p2), .val (.int p3), .val (.int p4), .val (.ref b), .val (.ref a222), .val (.int (4 : Int32)), .val (.ref a228), .val (.int ((Int32.ofNat 4 - Int32.ofNat (own_cnt [c0, c1, c2, c3] 4 4 0)) + 1)), .val (.int ((0 : Int32) + (1 : Int32))), .unset] [(.int (1 : Int32)), (.ref b)])) _
        refine X276.caload hx (j := (1 : Int32)) (v := (.int c1)) (cell := clv) (by rw [e276]; exact Arv1.1) (State.isArrayOf_alike hZL.alike Arv1.2.1) Arv1.2.2 (inb_of Szv (by decide)) (Hv.at (inb_of Szv (by decide)) rfl) (g := (mkF m 114 #[.val (.int p0), .val (.int p1), .val (.int p2), .val (.int p3), .val (.int p4), .val (.ref b), .val (.ref a222), .val (.int (4 : Int32)), .val (.ref a228), .val (.int ((Int32.ofNat 4 - Int32.ofNat (own_cnt [c0, c1, c2, c3] 4 4 0)) + 1)), .val (.int ((0 : Int32) + (1 : Int32))), .unset] [(.int (1 : Int32)), (.ref b)])) rfl rfl (hb hby at_114) _ ?_
        show Steps p.tables e below (T276.setTop (mkF m 115 #[.val (.int p0), .val (.int p1), .val (.int p2), .val (.int p3), .val (.int p4), .val (.ref b), .val (.ref a222), .val (.int (4 : Int32)), .val (.ref a228), .val (.int ((Int32.ofNat 4 - Int32.ofNat (own_cnt [c0, c1, c2, c3] 4 4 0)) + 1)), .val (.int ((0 : Int32) + (1 : Int32))), .unset] [(.int c1)])) _
        refine XS.aload X276.here hx rfl (hb hby at_115) rfl rfl ?_
        show Steps p.tables e below (T276.setTop (mkF m 117 #[.val (.int p0), .val (.int p1), .val (.int p2), .val (.int p3), .val (.int p4), .val (.ref b), .val (.ref a222), .val (.int (4 : Int32)), .val (.ref a228), .val (.int ((Int32.ofNat 4 - Int32.ofNat (own_cnt [c0, c1, c2, c3] 4 4 0)) + 1)), .val (.int ((0 : Int32) + (1 : Int32))), .unset] [(.ref b), (.int c1)])) _
        refine XS.iconst X276.here hx rfl (hb hby at_117) ?_
        show Steps p.tables e below (T276.setTop (mkF m 118 #[.val (.int p0), .val (.int p1), .val (.int p2), .val (.int p3), .val (.int p4), .val (.ref b), .val (.ref a222), .val (.int (4 : Int32)), .val (.ref a228), .val (.int ((Int32.ofNat 4 - Int32.ofNat (own_cnt [c0, c1, c2, c3] 4 4 0)) + 1)), .val (.int ((0 : Int32) + (1 : Int32))), .unset] [(.int (2 : Int32)), (.ref b), (.int c1)])) _
        refine X276.caload hx (j := (2 : Int32)) (v := (.int c2)) (cell := clv) (by rw [e276]; exact Arv1.1) (State.isArrayOf_alike hZL.alike Arv1.2.1) Arv1.2.2 (inb_of Szv (by decide)) (Hv.at (inb_of Szv (by decide)) rfl) (g := (mkF m 118 #[.val (.int p0), .val (.int p1), .val (.int p2), .val (.int p3), .val (.int p4), .val (.ref b), .val (.ref a222), .val (.int (4 : Int32)), .val (.ref a228), .val (.int ((Int32.ofNat 4 - Int32.ofNat (own_cnt [c0, c1, c2, c3] 4 4 0)) + 1)), .val (.int ((0 : Int32) + (1 : Int32))), .unset] [(.int (2 : Int32)), (.ref b), (.int c1)])) rfl rfl (hb hby at_118) _ ?_
        exact kk_)
      obtain ⟨_, T279, h279, L279, X279, e279, hQ279, st279⟩ := own_callS X276 hx hZL (y := (⟨"com/example/kept_triples/kepttriples/model/LabelLexerColumnPinLaw", "pair", "(CC)Z"⟩ : MethodName)) hownL (hw _ (List.mem_of_getElem? (i := 114) rfl)) (hw _ (List.mem_of_getElem? (i := 115) rfl)) (hw _ (List.mem_of_getElem? (i := 3) rfl)) (hw _ (List.mem_of_getElem? (i := 116) rfl)) (by decide) 0 (g := (mkF m 119 #[.val (.int p0), .val (.int p1), .val (.int p2), .val (.int p3), .val (.int p4), .val (.ref b), .val (.ref a222), .val (.int (4 : Int32)), .val (.ref a228), .val (.int ((Int32.ofNat 4 - Int32.ofNat (own_cnt [c0, c1, c2, c3] 4 4 0)) + 1)), .val (.int ((0 : Int32) + (1 : Int32))), .unset] [(.int c2), (.int c1)])) rfl (by rw [hml]; rfl) [(.int c1), (.int c2)] [] (rm24 l Z a0 hw [] c1 c2 h232 n0 Zf) (lenOf pd23 rfl) rfl (by show 2 * 0 + _ ≤ _; exact Nat.le_of_eq rfl) (hb hby at_119) (by decide) (by decide) e276 (by decide) (by decide)
      rcases hQ279 with ⟨⟨hp1, rfl⟩ | ⟨hp1, rfl⟩, N279, rfl⟩
      · have _ := e279
        have S280 : own_Go p e below s₁ G T279 (mkF m 122 #[.val (.int p0), .val (.int p1), .val (.int p2), .val (.int p3), .val (.int p4), .val (.ref b), .val (.ref a222), .val (.int (4 : Int32)), .val (.ref a228), .val (.int ((Int32.ofNat 4 - Int32.ofNat (own_cnt [c0, c1, c2, c3] 4 4 0)) + 1)), .val (.int ((0 : Int32) + (1 : Int32))), .unset] [(.int (1 : Int32))]) := fun tg_ kk_ => S278 tg_ (st279 tg_ kk_)
        have NP1 := Fr.app NP0 N279
        exact absurd hp1 (own_pr_no hp0)
      · have _ := e279
        have S281 : own_Go p e below s₁ G T279 (mkF m 122 #[.val (.int p0), .val (.int p1), .val (.int p2), .val (.int p3), .val (.int p4), .val (.ref b), .val (.ref a222), .val (.int (4 : Int32)), .val (.ref a228), .val (.int ((Int32.ofNat 4 - Int32.ofNat (own_cnt [c0, c1, c2, c3] 4 4 0)) + 1)), .val (.int ((0 : Int32) + (1 : Int32))), .unset] [(.int (0 : Int32))]) := fun tg_ kk_ => S278 tg_ (st279 tg_ kk_)
        have NP1 := Fr.app NP0 N279
        have S282 : own_Go p e below s₁ G T279 (mkF m 142 #[.val (.int p0), .val (.int p1), .val (.int p2), .val (.int p3), .val (.int p4), .val (.ref b), .val (.ref a222), .val (.int (4 : Int32)), .val (.ref a228), .val (.int ((Int32.ofNat 4 - Int32.ofNat (own_cnt [c0, c1, c2, c3] 4 4 0)) + 1)), .val (.int ((0 : Int32) + (1 : Int32))), .unset] [(.int c3), (.int c2)]) := fun tg_ kk_ => S281 tg_ (by
          refine XS.ifYes X279.here hx rfl (pc0 := 122) (pc' := 128) rfl (hb hby at_122) rfl (by decide) (by decide) (by decide) ?_
          show Steps p.tables e below (T279.setTop (mkF m 128 #[.val (.int p0), .val (.int p1), .val (.int p2), .val (.int p3), .val (.int p4), .val (.ref b), .val (.ref a222), .val (.int (4 : Int32)), .val (.ref a228), .val (.int ((Int32.ofNat 4 - Int32.ofNat (own_cnt [c0, c1, c2, c3] 4 4 0)) + 1)), .val (.int ((0 : Int32) + (1 : Int32))), .unset] [])) _
          refine XS.iload X279.here hx rfl (hb hby at_128) rfl ?_
          show Steps p.tables e below (T279.setTop (mkF m 130 #[.val (.int p0), .val (.int p1), .val (.int p2), .val (.int p3), .val (.int p4), .val (.ref b), .val (.ref a222), .val (.int (4 : Int32)), .val (.ref a228), .val (.int ((Int32.ofNat 4 - Int32.ofNat (own_cnt [c0, c1, c2, c3] 4 4 0)) + 1)), .val (.int ((0 : Int32) + (1 : Int32))), .unset] [(.int (4 : Int32))])) _
          refine XS.iconst X279.here hx rfl (hb hby at_130) ?_
          show Steps p.tables e below (T279.setTop (mkF m 131 #[.val (.int p0), .val (.int p1), .val (.int p2), .val (.int p3), .val (.int p4), .val (.ref b), .val (.ref a222), .val (.int (4 : Int32)), .val (.ref a228), .val (.int ((Int32.ofNat 4 - Int32.ofNat (own_cnt [c0, c1, c2, c3] 4 4 0)) + 1)), .val (.int ((0 : Int32) + (1 : Int32))), .unset] [(.int (4 : Int32)), (.int (4 : Int32))])) _
          refine XS.icmpNo X279.here hx rfl (hb hby at_131) rfl (XT.ii_lt_f (by decide)) ?_
          show Steps p.tables e below (T279.setTop (mkF m 134 #[.val (.int p0), .val (.int p1), .val (.int p2), .val (.int p3), .val (.int p4), .val (.ref b), .val (.ref a222), .val (.int (4 : Int32)), .val (.ref a228), .val (.int ((Int32.ofNat 4 - Int32.ofNat (own_cnt [c0, c1, c2, c3] 4 4 0)) + 1)), .val (.int ((0 : Int32) + (1 : Int32))), .unset] [])) _
          refine XS.aload X279.here hx rfl (hb hby at_134) rfl rfl ?_
          show Steps p.tables e below (T279.setTop (mkF m 136 #[.val (.int p0), .val (.int p1), .val (.int p2), .val (.int p3), .val (.int p4), .val (.ref b), .val (.ref a222), .val (.int (4 : Int32)), .val (.ref a228), .val (.int ((Int32.ofNat 4 - Int32.ofNat (own_cnt [c0, c1, c2, c3] 4 4 0)) + 1)), .val (.int ((0 : Int32) + (1 : Int32))), .unset] [(.ref b)])) _
          refine XS.iconst X279.here hx rfl (hb hby at_136) ?_
          show Steps p.tables e below (T279.setTop (mkF m 137 #[.val (.int p0), .val (.int p1), .val (.int p2), .val (.int p3), .val (.int p4), .val (.ref b), .val (.ref a222), .val (.int (4 : Int32)), .val (.ref a228), .val (.int ((Int32.ofNat 4 - Int32.ofNat (own_cnt [c0, c1, c2, c3] 4 4 0)) + 1)), .val (.int ((0 : Int32) + (1 : Int32))), .unset] [(.int (2 : Int32)), (.ref b)])) _
          refine X279.caload hx (j := (2 : Int32)) (v := (.int c2)) (cell := clv) (by rw [e279]; exact Arv1.1) (State.isArrayOf_alike hZL.alike Arv1.2.1) Arv1.2.2 (inb_of Szv (by decide)) (Hv.at (inb_of Szv (by decide)) rfl) (g := (mkF m 137 #[.val (.int p0), .val (.int p1), .val (.int p2), .val (.int p3), .val (.int p4), .val (.ref b), .val (.ref a222), .val (.int (4 : Int32)), .val (.ref a228), .val (.int ((Int32.ofNat 4 - Int32.ofNat (own_cnt [c0, c1, c2, c3] 4 4 0)) + 1)), .val (.int ((0 : Int32) + (1 : Int32))), .unset] [(.int (2 : Int32)), (.ref b)])) rfl rfl (hb hby at_137) _ ?_
          show Steps p.tables e below (T279.setTop (mkF m 138 #[.val (.int p0), .val (.int p1), .val (.int p2), .val (.int p3), .val (.int p4), .val (.ref b), .val (.ref a222), .val (.int (4 : Int32)), .val (.ref a228), .val (.int ((Int32.ofNat 4 - Int32.ofNat (own_cnt [c0, c1, c2, c3] 4 4 0)) + 1)), .val (.int ((0 : Int32) + (1 : Int32))), .unset] [(.int c2)])) _
          refine XS.aload X279.here hx rfl (hb hby at_138) rfl rfl ?_
          show Steps p.tables e below (T279.setTop (mkF m 140 #[.val (.int p0), .val (.int p1), .val (.int p2), .val (.int p3), .val (.int p4), .val (.ref b), .val (.ref a222), .val (.int (4 : Int32)), .val (.ref a228), .val (.int ((Int32.ofNat 4 - Int32.ofNat (own_cnt [c0, c1, c2, c3] 4 4 0)) + 1)), .val (.int ((0 : Int32) + (1 : Int32))), .unset] [(.ref b), (.int c2)])) _
          refine XS.iconst X279.here hx rfl (hb hby at_140) ?_
          show Steps p.tables e below (T279.setTop (mkF m 141 #[.val (.int p0), .val (.int p1), .val (.int p2), .val (.int p3), .val (.int p4), .val (.ref b), .val (.ref a222), .val (.int (4 : Int32)), .val (.ref a228), .val (.int ((Int32.ofNat 4 - Int32.ofNat (own_cnt [c0, c1, c2, c3] 4 4 0)) + 1)), .val (.int ((0 : Int32) + (1 : Int32))), .unset] [(.int (3 : Int32)), (.ref b), (.int c2)])) _
          refine X279.caload hx (j := (3 : Int32)) (v := (.int c3)) (cell := clv) (by rw [e279]; exact Arv1.1) (State.isArrayOf_alike hZL.alike Arv1.2.1) Arv1.2.2 (inb_of Szv (by decide)) (Hv.at (inb_of Szv (by decide)) rfl) (g := (mkF m 141 #[.val (.int p0), .val (.int p1), .val (.int p2), .val (.int p3), .val (.int p4), .val (.ref b), .val (.ref a222), .val (.int (4 : Int32)), .val (.ref a228), .val (.int ((Int32.ofNat 4 - Int32.ofNat (own_cnt [c0, c1, c2, c3] 4 4 0)) + 1)), .val (.int ((0 : Int32) + (1 : Int32))), .unset] [(.int (3 : Int32)), (.ref b), (.int c2)])) rfl rfl (hb hby at_141) _ ?_
          exact kk_)
        obtain ⟨_, T283, h283, L283, X283, e283, hQ283, st283⟩ := own_callS X279 hx hZL (y := (⟨"com/example/kept_triples/kepttriples/model/LabelLexerColumnPinLaw", "pair", "(CC)Z"⟩ : MethodName)) hownL (hw _ (List.mem_of_getElem? (i := 114) rfl)) (hw _ (List.mem_of_getElem? (i := 115) rfl)) (hw _ (List.mem_of_getElem? (i := 3) rfl)) (hw _ (List.mem_of_getElem? (i := 116) rfl)) (by decide) 0 (g := (mkF m 142 #[.val (.int p0), .val (.int p1), .val (.int p2), .val (.int p3), .val (.int p4), .val (.ref b), .val (.ref a222), .val (.int (4 : Int32)), .val (.ref a228), .val (.int ((Int32.ofNat 4 - Int32.ofNat (own_cnt [c0, c1, c2, c3] 4 4 0)) + 1)), .val (.int ((0 : Int32) + (1 : Int32))), .unset] [(.int c3), (.int c2)])) rfl (by rw [hml]; rfl) [(.int c2), (.int c3)] [] (rm24 l Z a0 hw [] c2 c3 h232 n0 Zf) (lenOf pd23 rfl) rfl (by show 2 * 0 + _ ≤ _; exact Nat.le_of_eq rfl) (hb hby at_142) (by decide) (by decide) e279 (by decide) (by decide)
        rcases hQ283 with ⟨⟨hp2, rfl⟩ | ⟨hp2, rfl⟩, N283, rfl⟩
        · have _ := e283
          have S284 : own_Go p e below s₁ G T283 (mkF m 145 #[.val (.int p0), .val (.int p1), .val (.int p2), .val (.int p3), .val (.int p4), .val (.ref b), .val (.ref a222), .val (.int (4 : Int32)), .val (.ref a228), .val (.int ((Int32.ofNat 4 - Int32.ofNat (own_cnt [c0, c1, c2, c3] 4 4 0)) + 1)), .val (.int ((0 : Int32) + (1 : Int32))), .unset] [(.int (1 : Int32))]) := fun tg_ kk_ => S282 tg_ (st283 tg_ kk_)
          have NP2 := Fr.app NP1 N283
          have S285 : own_Go p e below s₁ G T283 (mkF m 164 #[.val (.int p0), .val (.int p1), .val (.int p2), .val (.int p3), .val (.int p4), .val (.ref b), .val (.ref a222), .val (.int (4 : Int32)), .val (.ref a228), .val (.int ((Int32.ofNat 4 - Int32.ofNat (own_cnt [c0, c1, c2, c3] 4 4 0)) + 1)), .val (.int (((0 : Int32) + (1 : Int32)) + (1 : Int32))), .val (.int (((4 : Int32) - (((0 : Int32) + (1 : Int32)) + (1 : Int32))) + (1 : Int32)))] [(.int (((4 : Int32) - (((0 : Int32) + (1 : Int32)) + (1 : Int32))) + (1 : Int32))), (.int ((Int32.ofNat 4 - Int32.ofNat (own_cnt [c0, c1, c2, c3] 4 4 0)) + 1))]) := fun tg_ kk_ => S284 tg_ (by
            refine XS.ifNo X283.here hx rfl (hb hby at_145) rfl (by decide) ?_
            show Steps p.tables e below (T283.setTop (mkF m 148 #[.val (.int p0), .val (.int p1), .val (.int p2), .val (.int p3), .val (.int p4), .val (.ref b), .val (.ref a222), .val (.int (4 : Int32)), .val (.ref a228), .val (.int ((Int32.ofNat 4 - Int32.ofNat (own_cnt [c0, c1, c2, c3] 4 4 0)) + 1)), .val (.int ((0 : Int32) + (1 : Int32))), .unset] [])) _
            refine XS.iinc X283.here hx rfl (hb hby at_148) rfl (l' := #[.val (.int p0), .val (.int p1), .val (.int p2), .val (.int p3), .val (.int p4), .val (.ref b), .val (.ref a222), .val (.int (4 : Int32)), .val (.ref a228), .val (.int ((Int32.ofNat 4 - Int32.ofNat (own_cnt [c0, c1, c2, c3] 4 4 0)) + 1)), .val (.int (((0 : Int32) + (1 : Int32)) + (1 : Int32))), .unset]) rfl ?_
            show Steps p.tables e below (T283.setTop (mkF m 151 #[.val (.int p0), .val (.int p1), .val (.int p2), .val (.int p3), .val (.int p4), .val (.ref b), .val (.ref a222), .val (.int (4 : Int32)), .val (.ref a228), .val (.int ((Int32.ofNat 4 - Int32.ofNat (own_cnt [c0, c1, c2, c3] 4 4 0)) + 1)), .val (.int (((0 : Int32) + (1 : Int32)) + (1 : Int32))), .unset] [])) _
            refine XS.iload X283.here hx rfl (hb hby at_151) rfl ?_
            show Steps p.tables e below (T283.setTop (mkF m 153 #[.val (.int p0), .val (.int p1), .val (.int p2), .val (.int p3), .val (.int p4), .val (.ref b), .val (.ref a222), .val (.int (4 : Int32)), .val (.ref a228), .val (.int ((Int32.ofNat 4 - Int32.ofNat (own_cnt [c0, c1, c2, c3] 4 4 0)) + 1)), .val (.int (((0 : Int32) + (1 : Int32)) + (1 : Int32))), .unset] [(.int (4 : Int32))])) _
            refine XS.iload X283.here hx rfl (hb hby at_153) rfl ?_
            show Steps p.tables e below (T283.setTop (mkF m 155 #[.val (.int p0), .val (.int p1), .val (.int p2), .val (.int p3), .val (.int p4), .val (.ref b), .val (.ref a222), .val (.int (4 : Int32)), .val (.ref a228), .val (.int ((Int32.ofNat 4 - Int32.ofNat (own_cnt [c0, c1, c2, c3] 4 4 0)) + 1)), .val (.int (((0 : Int32) + (1 : Int32)) + (1 : Int32))), .unset] [(.int (((0 : Int32) + (1 : Int32)) + (1 : Int32))), (.int (4 : Int32))])) _
            refine XS.isub X283.here hx rfl (hb hby at_155) rfl ?_
            show Steps p.tables e below (T283.setTop (mkF m 156 #[.val (.int p0), .val (.int p1), .val (.int p2), .val (.int p3), .val (.int p4), .val (.ref b), .val (.ref a222), .val (.int (4 : Int32)), .val (.ref a228), .val (.int ((Int32.ofNat 4 - Int32.ofNat (own_cnt [c0, c1, c2, c3] 4 4 0)) + 1)), .val (.int (((0 : Int32) + (1 : Int32)) + (1 : Int32))), .unset] [(.int ((4 : Int32) - (((0 : Int32) + (1 : Int32)) + (1 : Int32))))])) _
            refine XS.iconst X283.here hx rfl (hb hby at_156) ?_
            show Steps p.tables e below (T283.setTop (mkF m 157 #[.val (.int p0), .val (.int p1), .val (.int p2), .val (.int p3), .val (.int p4), .val (.ref b), .val (.ref a222), .val (.int (4 : Int32)), .val (.ref a228), .val (.int ((Int32.ofNat 4 - Int32.ofNat (own_cnt [c0, c1, c2, c3] 4 4 0)) + 1)), .val (.int (((0 : Int32) + (1 : Int32)) + (1 : Int32))), .unset] [(.int (1 : Int32)), (.int ((4 : Int32) - (((0 : Int32) + (1 : Int32)) + (1 : Int32))))])) _
            refine XS.iadd X283.here hx rfl (hb hby at_157) rfl ?_
            show Steps p.tables e below (T283.setTop (mkF m 158 #[.val (.int p0), .val (.int p1), .val (.int p2), .val (.int p3), .val (.int p4), .val (.ref b), .val (.ref a222), .val (.int (4 : Int32)), .val (.ref a228), .val (.int ((Int32.ofNat 4 - Int32.ofNat (own_cnt [c0, c1, c2, c3] 4 4 0)) + 1)), .val (.int (((0 : Int32) + (1 : Int32)) + (1 : Int32))), .unset] [(.int (((4 : Int32) - (((0 : Int32) + (1 : Int32)) + (1 : Int32))) + (1 : Int32)))])) _
            refine XS.istore X283.here hx rfl (hb hby at_158) rfl (l' := #[.val (.int p0), .val (.int p1), .val (.int p2), .val (.int p3), .val (.int p4), .val (.ref b), .val (.ref a222), .val (.int (4 : Int32)), .val (.ref a228), .val (.int ((Int32.ofNat 4 - Int32.ofNat (own_cnt [c0, c1, c2, c3] 4 4 0)) + 1)), .val (.int (((0 : Int32) + (1 : Int32)) + (1 : Int32))), .val (.int (((4 : Int32) - (((0 : Int32) + (1 : Int32)) + (1 : Int32))) + (1 : Int32)))]) rfl ?_
            show Steps p.tables e below (T283.setTop (mkF m 160 #[.val (.int p0), .val (.int p1), .val (.int p2), .val (.int p3), .val (.int p4), .val (.ref b), .val (.ref a222), .val (.int (4 : Int32)), .val (.ref a228), .val (.int ((Int32.ofNat 4 - Int32.ofNat (own_cnt [c0, c1, c2, c3] 4 4 0)) + 1)), .val (.int (((0 : Int32) + (1 : Int32)) + (1 : Int32))), .val (.int (((4 : Int32) - (((0 : Int32) + (1 : Int32)) + (1 : Int32))) + (1 : Int32)))] [])) _
            refine XS.iload X283.here hx rfl (hb hby at_160) rfl ?_
            show Steps p.tables e below (T283.setTop (mkF m 162 #[.val (.int p0), .val (.int p1), .val (.int p2), .val (.int p3), .val (.int p4), .val (.ref b), .val (.ref a222), .val (.int (4 : Int32)), .val (.ref a228), .val (.int ((Int32.ofNat 4 - Int32.ofNat (own_cnt [c0, c1, c2, c3] 4 4 0)) + 1)), .val (.int (((0 : Int32) + (1 : Int32)) + (1 : Int32))), .val (.int (((4 : Int32) - (((0 : Int32) + (1 : Int32)) + (1 : Int32))) + (1 : Int32)))] [(.int ((Int32.ofNat 4 - Int32.ofNat (own_cnt [c0, c1, c2, c3] 4 4 0)) + 1))])) _
            refine XS.iload X283.here hx rfl (hb hby at_162) rfl ?_
            exact kk_)
          have hcnt : own_cnt [c0, c1, c2, c3] 4 4 0 = 2 := by
            rw [own_cnt_p (cs := [c0, c1, c2, c3]) (e := 4) (f := 3) (i := 0) (by decide) hp0, own_cnt_p (cs := [c0, c1, c2, c3]) (e := 4) (f := 2) (i := 2) (by decide) hp2, own_cnt_out (by decide)]
          have heq : ((Int32.ofNat 4 - Int32.ofNat (own_cnt [c0, c1, c2, c3] 4 4 0)) + 1) = (((4 : Int32) - (((0 : Int32) + (1 : Int32)) + (1 : Int32))) + (1 : Int32)) := by rw [hcnt]; decide
          have S286 : own_Go p e below s₁ G T283 (mkF m 172 #[.val (.int p0), .val (.int p1), .val (.int p2), .val (.int p3), .val (.int p4), .val (.ref b), .val (.ref a222), .val (.int (4 : Int32)), .val (.ref a228), .val (.int ((Int32.ofNat 4 - Int32.ofNat (own_cnt [c0, c1, c2, c3] 4 4 0)) + 1)), .val (.int (((0 : Int32) + (1 : Int32)) + (1 : Int32))), .val (.int (((4 : Int32) - (((0 : Int32) + (1 : Int32)) + (1 : Int32))) + (1 : Int32)))] [(.int (1 : Int32))]) := fun tg_ kk_ => S285 tg_ (by
            refine XS.icmpNo X283.here hx rfl (hb hby at_164) rfl (XT.ii_ne_f heq) ?_
            show Steps p.tables e below (T283.setTop (mkF m 167 #[.val (.int p0), .val (.int p1), .val (.int p2), .val (.int p3), .val (.int p4), .val (.ref b), .val (.ref a222), .val (.int (4 : Int32)), .val (.ref a228), .val (.int ((Int32.ofNat 4 - Int32.ofNat (own_cnt [c0, c1, c2, c3] 4 4 0)) + 1)), .val (.int (((0 : Int32) + (1 : Int32)) + (1 : Int32))), .val (.int (((4 : Int32) - (((0 : Int32) + (1 : Int32)) + (1 : Int32))) + (1 : Int32)))] [])) _
            refine XS.iconst X283.here hx rfl (hb hby at_167) ?_
            show Steps p.tables e below (T283.setTop (mkF m 168 #[.val (.int p0), .val (.int p1), .val (.int p2), .val (.int p3), .val (.int p4), .val (.ref b), .val (.ref a222), .val (.int (4 : Int32)), .val (.ref a228), .val (.int ((Int32.ofNat 4 - Int32.ofNat (own_cnt [c0, c1, c2, c3] 4 4 0)) + 1)), .val (.int (((0 : Int32) + (1 : Int32)) + (1 : Int32))), .val (.int (((4 : Int32) - (((0 : Int32) + (1 : Int32)) + (1 : Int32))) + (1 : Int32)))] [(.int (1 : Int32))])) _
            refine XS.goto X283.here hx rfl (pc0 := 168) (pc' := 172) rfl (hb hby at_168) (by decide) (by decide) ?_
            exact kk_)
          obtain ⟨fs, hr, hrun, hended, hend⟩ := X283.leaveW hSL (by rw [e283]; exact hkf) (v := some (.int (1 : Int32))) (fun h => by rw [Bd.returns] at h; cases h)
          refine ⟨_, _, ?_, hrun, hended, _, _, rfl, ?_, hend.1, hend.2.1, hend.2.2.1, hend.2.2.2.mono (by decide) (by decide)⟩
          · rw [← hG]; exact S286 _ (retN X283 hx (t := .boolean) Bd.returns (by simp) (hb hby at_172) hr)
          · show Q0 Z p0 p1 p2 p3 p4 h0 n0 _ T283.heap _
            rw [e283]
            exact ⟨rfl, NP2⟩
        · have _ := e283
          have S287 : own_Go p e below s₁ G T283 (mkF m 145 #[.val (.int p0), .val (.int p1), .val (.int p2), .val (.int p3), .val (.int p4), .val (.ref b), .val (.ref a222), .val (.int (4 : Int32)), .val (.ref a228), .val (.int ((Int32.ofNat 4 - Int32.ofNat (own_cnt [c0, c1, c2, c3] 4 4 0)) + 1)), .val (.int ((0 : Int32) + (1 : Int32))), .unset] [(.int (0 : Int32))]) := fun tg_ kk_ => S282 tg_ (st283 tg_ kk_)
          have NP2 := Fr.app NP1 N283
          have S288 : own_Go p e below s₁ G T283 (mkF m 164 #[.val (.int p0), .val (.int p1), .val (.int p2), .val (.int p3), .val (.int p4), .val (.ref b), .val (.ref a222), .val (.int (4 : Int32)), .val (.ref a228), .val (.int ((Int32.ofNat 4 - Int32.ofNat (own_cnt [c0, c1, c2, c3] 4 4 0)) + 1)), .val (.int ((0 : Int32) + (1 : Int32))), .val (.int (((4 : Int32) - ((0 : Int32) + (1 : Int32))) + (1 : Int32)))] [(.int (((4 : Int32) - ((0 : Int32) + (1 : Int32))) + (1 : Int32))), (.int ((Int32.ofNat 4 - Int32.ofNat (own_cnt [c0, c1, c2, c3] 4 4 0)) + 1))]) := fun tg_ kk_ => S287 tg_ (by
            refine XS.ifYes X283.here hx rfl (pc0 := 145) (pc' := 151) rfl (hb hby at_145) rfl (by decide) (by decide) (by decide) ?_
            show Steps p.tables e below (T283.setTop (mkF m 151 #[.val (.int p0), .val (.int p1), .val (.int p2), .val (.int p3), .val (.int p4), .val (.ref b), .val (.ref a222), .val (.int (4 : Int32)), .val (.ref a228), .val (.int ((Int32.ofNat 4 - Int32.ofNat (own_cnt [c0, c1, c2, c3] 4 4 0)) + 1)), .val (.int ((0 : Int32) + (1 : Int32))), .unset] [])) _
            refine XS.iload X283.here hx rfl (hb hby at_151) rfl ?_
            show Steps p.tables e below (T283.setTop (mkF m 153 #[.val (.int p0), .val (.int p1), .val (.int p2), .val (.int p3), .val (.int p4), .val (.ref b), .val (.ref a222), .val (.int (4 : Int32)), .val (.ref a228), .val (.int ((Int32.ofNat 4 - Int32.ofNat (own_cnt [c0, c1, c2, c3] 4 4 0)) + 1)), .val (.int ((0 : Int32) + (1 : Int32))), .unset] [(.int (4 : Int32))])) _
            refine XS.iload X283.here hx rfl (hb hby at_153) rfl ?_
            show Steps p.tables e below (T283.setTop (mkF m 155 #[.val (.int p0), .val (.int p1), .val (.int p2), .val (.int p3), .val (.int p4), .val (.ref b), .val (.ref a222), .val (.int (4 : Int32)), .val (.ref a228), .val (.int ((Int32.ofNat 4 - Int32.ofNat (own_cnt [c0, c1, c2, c3] 4 4 0)) + 1)), .val (.int ((0 : Int32) + (1 : Int32))), .unset] [(.int ((0 : Int32) + (1 : Int32))), (.int (4 : Int32))])) _
            refine XS.isub X283.here hx rfl (hb hby at_155) rfl ?_
            show Steps p.tables e below (T283.setTop (mkF m 156 #[.val (.int p0), .val (.int p1), .val (.int p2), .val (.int p3), .val (.int p4), .val (.ref b), .val (.ref a222), .val (.int (4 : Int32)), .val (.ref a228), .val (.int ((Int32.ofNat 4 - Int32.ofNat (own_cnt [c0, c1, c2, c3] 4 4 0)) + 1)), .val (.int ((0 : Int32) + (1 : Int32))), .unset] [(.int ((4 : Int32) - ((0 : Int32) + (1 : Int32))))])) _
            refine XS.iconst X283.here hx rfl (hb hby at_156) ?_
            show Steps p.tables e below (T283.setTop (mkF m 157 #[.val (.int p0), .val (.int p1), .val (.int p2), .val (.int p3), .val (.int p4), .val (.ref b), .val (.ref a222), .val (.int (4 : Int32)), .val (.ref a228), .val (.int ((Int32.ofNat 4 - Int32.ofNat (own_cnt [c0, c1, c2, c3] 4 4 0)) + 1)), .val (.int ((0 : Int32) + (1 : Int32))), .unset] [(.int (1 : Int32)), (.int ((4 : Int32) - ((0 : Int32) + (1 : Int32))))])) _
            refine XS.iadd X283.here hx rfl (hb hby at_157) rfl ?_
            show Steps p.tables e below (T283.setTop (mkF m 158 #[.val (.int p0), .val (.int p1), .val (.int p2), .val (.int p3), .val (.int p4), .val (.ref b), .val (.ref a222), .val (.int (4 : Int32)), .val (.ref a228), .val (.int ((Int32.ofNat 4 - Int32.ofNat (own_cnt [c0, c1, c2, c3] 4 4 0)) + 1)), .val (.int ((0 : Int32) + (1 : Int32))), .unset] [(.int (((4 : Int32) - ((0 : Int32) + (1 : Int32))) + (1 : Int32)))])) _
            refine XS.istore X283.here hx rfl (hb hby at_158) rfl (l' := #[.val (.int p0), .val (.int p1), .val (.int p2), .val (.int p3), .val (.int p4), .val (.ref b), .val (.ref a222), .val (.int (4 : Int32)), .val (.ref a228), .val (.int ((Int32.ofNat 4 - Int32.ofNat (own_cnt [c0, c1, c2, c3] 4 4 0)) + 1)), .val (.int ((0 : Int32) + (1 : Int32))), .val (.int (((4 : Int32) - ((0 : Int32) + (1 : Int32))) + (1 : Int32)))]) rfl ?_
            show Steps p.tables e below (T283.setTop (mkF m 160 #[.val (.int p0), .val (.int p1), .val (.int p2), .val (.int p3), .val (.int p4), .val (.ref b), .val (.ref a222), .val (.int (4 : Int32)), .val (.ref a228), .val (.int ((Int32.ofNat 4 - Int32.ofNat (own_cnt [c0, c1, c2, c3] 4 4 0)) + 1)), .val (.int ((0 : Int32) + (1 : Int32))), .val (.int (((4 : Int32) - ((0 : Int32) + (1 : Int32))) + (1 : Int32)))] [])) _
            refine XS.iload X283.here hx rfl (hb hby at_160) rfl ?_
            show Steps p.tables e below (T283.setTop (mkF m 162 #[.val (.int p0), .val (.int p1), .val (.int p2), .val (.int p3), .val (.int p4), .val (.ref b), .val (.ref a222), .val (.int (4 : Int32)), .val (.ref a228), .val (.int ((Int32.ofNat 4 - Int32.ofNat (own_cnt [c0, c1, c2, c3] 4 4 0)) + 1)), .val (.int ((0 : Int32) + (1 : Int32))), .val (.int (((4 : Int32) - ((0 : Int32) + (1 : Int32))) + (1 : Int32)))] [(.int ((Int32.ofNat 4 - Int32.ofNat (own_cnt [c0, c1, c2, c3] 4 4 0)) + 1))])) _
            refine XS.iload X283.here hx rfl (hb hby at_162) rfl ?_
            exact kk_)
          have hcnt : own_cnt [c0, c1, c2, c3] 4 4 0 = 1 := by
            rw [own_cnt_p (cs := [c0, c1, c2, c3]) (e := 4) (f := 3) (i := 0) (by decide) hp0, own_cnt_n (cs := [c0, c1, c2, c3]) (e := 4) (f := 2) (i := 2) (by decide) hp2, own_cnt_out (by decide)]
          have heq : ((Int32.ofNat 4 - Int32.ofNat (own_cnt [c0, c1, c2, c3] 4 4 0)) + 1) = (((4 : Int32) - ((0 : Int32) + (1 : Int32))) + (1 : Int32)) := by rw [hcnt]; decide
          have S289 : own_Go p e below s₁ G T283 (mkF m 172 #[.val (.int p0), .val (.int p1), .val (.int p2), .val (.int p3), .val (.int p4), .val (.ref b), .val (.ref a222), .val (.int (4 : Int32)), .val (.ref a228), .val (.int ((Int32.ofNat 4 - Int32.ofNat (own_cnt [c0, c1, c2, c3] 4 4 0)) + 1)), .val (.int ((0 : Int32) + (1 : Int32))), .val (.int (((4 : Int32) - ((0 : Int32) + (1 : Int32))) + (1 : Int32)))] [(.int (1 : Int32))]) := fun tg_ kk_ => S288 tg_ (by
            refine XS.icmpNo X283.here hx rfl (hb hby at_164) rfl (XT.ii_ne_f heq) ?_
            show Steps p.tables e below (T283.setTop (mkF m 167 #[.val (.int p0), .val (.int p1), .val (.int p2), .val (.int p3), .val (.int p4), .val (.ref b), .val (.ref a222), .val (.int (4 : Int32)), .val (.ref a228), .val (.int ((Int32.ofNat 4 - Int32.ofNat (own_cnt [c0, c1, c2, c3] 4 4 0)) + 1)), .val (.int ((0 : Int32) + (1 : Int32))), .val (.int (((4 : Int32) - ((0 : Int32) + (1 : Int32))) + (1 : Int32)))] [])) _
            refine XS.iconst X283.here hx rfl (hb hby at_167) ?_
            show Steps p.tables e below (T283.setTop (mkF m 168 #[.val (.int p0), .val (.int p1), .val (.int p2), .val (.int p3), .val (.int p4), .val (.ref b), .val (.ref a222), .val (.int (4 : Int32)), .val (.ref a228), .val (.int ((Int32.ofNat 4 - Int32.ofNat (own_cnt [c0, c1, c2, c3] 4 4 0)) + 1)), .val (.int ((0 : Int32) + (1 : Int32))), .val (.int (((4 : Int32) - ((0 : Int32) + (1 : Int32))) + (1 : Int32)))] [(.int (1 : Int32))])) _
            refine XS.goto X283.here hx rfl (pc0 := 168) (pc' := 172) rfl (hb hby at_168) (by decide) (by decide) ?_
            exact kk_)
          obtain ⟨fs, hr, hrun, hended, hend⟩ := X283.leaveW hSL (by rw [e283]; exact hkf) (v := some (.int (1 : Int32))) (fun h => by rw [Bd.returns] at h; cases h)
          refine ⟨_, _, ?_, hrun, hended, _, _, rfl, ?_, hend.1, hend.2.1, hend.2.2.1, hend.2.2.2.mono (by decide) (by decide)⟩
          · rw [← hG]; exact S289 _ (retN X283 hx (t := .boolean) Bd.returns (by simp) (hb hby at_172) hr)
          · show Q0 Z p0 p1 p2 p3 p4 h0 n0 _ T283.heap _
            rw [e283]
            exact ⟨rfl, NP2⟩
    · have _ := e276
      have S290 : own_Go p e below s₁ G T276 (mkF m 99 #[.val (.int p0), .val (.int p1), .val (.int p2), .val (.int p3), .val (.int p4), .val (.ref b), .val (.ref a222), .val (.int (4 : Int32)), .val (.ref a228), .val (.int ((Int32.ofNat 4 - Int32.ofNat (own_cnt [c0, c1, c2, c3] 4 4 0)) + 1)), .val (.int (0 : Int32)), .unset] [(.int (0 : Int32))]) := fun tg_ kk_ => S275 tg_ (st276 tg_ kk_)
      have NP0 := Fr.app NE N276
      have S291 : own_Go p e below s₁ G T276 (mkF m 119 #[.val (.int p0), .val (.int p1), .val (.int p2), .val (.int p3), .val (.int p4), .val (.ref b), .val (.ref a222), .val (.int (4 : Int32)), .val (.ref a228), .val (.int ((Int32.ofNat 4 - Int32.ofNat (own_cnt [c0, c1, c2, c3] 4 4 0)) + 1)), .val (.int (0 : Int32)), .unset] [(.int c2), (.int c1)]) := fun tg_ kk_ => S290 tg_ (by
        refine XS.ifYes X276.here hx rfl (pc0 := 99) (pc' := 105) rfl (hb hby at_99) rfl (by decide) (by decide) (by decide) ?_
        show Steps p.tables e below (T276.setTop (mkF m 105 #[.val (.int p0), .val (.int p1), .val (.int p2), .val (.int p3), .val (.int p4), .val (.ref b), .val (.ref a222), .val (.int (4 : Int32)), .val (.ref a228), .val (.int ((Int32.ofNat 4 - Int32.ofNat (own_cnt [c0, c1, c2, c3] 4 4 0)) + 1)), .val (.int (0 : Int32)), .unset] [])) _
        refine XS.iload X276.here hx rfl (hb hby at_105) rfl ?_
        show Steps p.tables e below (T276.setTop (mkF m 107 #[.val (.int p0), .val (.int p1), .val (.int p2), .val (.int p3), .val (.int p4), .val (.ref b), .val (.ref a222), .val (.int (4 : Int32)), .val (.ref a228), .val (.int ((Int32.ofNat 4 - Int32.ofNat (own_cnt [c0, c1, c2, c3] 4 4 0)) + 1)), .val (.int (0 : Int32)), .unset] [(.int (4 : Int32))])) _
        refine XS.iconst X276.here hx rfl (hb hby at_107) ?_
        show Steps p.tables e below (T276.setTop (mkF m 108 #[.val (.int p0), .val (.int p1), .val (.int p2), .val (.int p3), .val (.int p4), .val (.ref b), .val (.ref a222), .val (.int (4 : Int32)), .val (.ref a228), .val (.int ((Int32.ofNat 4 - Int32.ofNat (own_cnt [c0, c1, c2, c3] 4 4 0)) + 1)), .val (.int (0 : Int32)), .unset] [(.int (3 : Int32)), (.int (4 : Int32))])) _
        refine XS.icmpNo X276.here hx rfl (hb hby at_108) rfl (XT.ii_lt_f (by decide)) ?_
        show Steps p.tables e below (T276.setTop (mkF m 111 #[.val (.int p0), .val (.int p1), .val (.int p2), .val (.int p3), .val (.int p4), .val (.ref b), .val (.ref a222), .val (.int (4 : Int32)), .val (.ref a228), .val (.int ((Int32.ofNat 4 - Int32.ofNat (own_cnt [c0, c1, c2, c3] 4 4 0)) + 1)), .val (.int (0 : Int32)), .unset] [])) _
        refine XS.aload X276.here hx rfl (hb hby at_111) rfl rfl ?_
        show Steps p.tables e below (T276.setTop (mkF m 113 #[.val (.int p0), .val (.int p1), .val (.int p2), .val (.int p3), .val (.int p4), .val (.ref b), .val (.ref a222), .val (.int (4 : Int32)), .val (.ref a228), .val (.int ((Int32.ofNat 4 - Int32.ofNat (own_cnt [c0, c1, c2, c3] 4 4 0)) + 1)), .val (.int (0 : Int32)), .unset] [(.ref b)])) _
        refine XS.iconst X276.here hx rfl (hb hby at_113) ?_
        show Steps p.tables e below (T276.setTop (mkF m 114 #[.val (.int p0), .val (.int p1), .val (.int p2), .val (.int p3), .val (.int p4), .val (.ref b), .val (.ref a222), .val (.int (4 : Int32)), .val (.ref a228), .val (.int ((Int32.ofNat 4 - Int32.ofNat (own_cnt [c0, c1, c2, c3] 4 4 0)) + 1)), .val (.int (0 : Int32)), .unset] [(.int (1 : Int32)), (.ref b)])) _
        refine X276.caload hx (j := (1 : Int32)) (v := (.int c1)) (cell := clv) (by rw [e276]; exact Arv1.1) (State.isArrayOf_alike hZL.alike Arv1.2.1) Arv1.2.2 (inb_of Szv (by decide)) (Hv.at (inb_of Szv (by decide)) rfl) (g := (mkF m 114 #[.val (.int p0), .val (.int p1), .val (.int p2), .val (.int p3), .val (.int p4), .val (.ref b), .val (.ref a222), .val (.int (4 : Int32)), .val (.ref a228), .val (.int ((Int32.ofNat 4 - Int32.ofNat (own_cnt [c0, c1, c2, c3] 4 4 0)) + 1)), .val (.int (0 : Int32)), .unset] [(.int (1 : Int32)), (.ref b)])) rfl rfl (hb hby at_114) _ ?_
        show Steps p.tables e below (T276.setTop (mkF m 115 #[.val (.int p0), .val (.int p1), .val (.int p2), .val (.int p3), .val (.int p4), .val (.ref b), .val (.ref a222), .val (.int (4 : Int32)), .val (.ref a228), .val (.int ((Int32.ofNat 4 - Int32.ofNat (own_cnt [c0, c1, c2, c3] 4 4 0)) + 1)), .val (.int (0 : Int32)), .unset] [(.int c1)])) _
        refine XS.aload X276.here hx rfl (hb hby at_115) rfl rfl ?_
        show Steps p.tables e below (T276.setTop (mkF m 117 #[.val (.int p0), .val (.int p1), .val (.int p2), .val (.int p3), .val (.int p4), .val (.ref b), .val (.ref a222), .val (.int (4 : Int32)), .val (.ref a228), .val (.int ((Int32.ofNat 4 - Int32.ofNat (own_cnt [c0, c1, c2, c3] 4 4 0)) + 1)), .val (.int (0 : Int32)), .unset] [(.ref b), (.int c1)])) _
        refine XS.iconst X276.here hx rfl (hb hby at_117) ?_
        show Steps p.tables e below (T276.setTop (mkF m 118 #[.val (.int p0), .val (.int p1), .val (.int p2), .val (.int p3), .val (.int p4), .val (.ref b), .val (.ref a222), .val (.int (4 : Int32)), .val (.ref a228), .val (.int ((Int32.ofNat 4 - Int32.ofNat (own_cnt [c0, c1, c2, c3] 4 4 0)) + 1)), .val (.int (0 : Int32)), .unset] [(.int (2 : Int32)), (.ref b), (.int c1)])) _
        refine X276.caload hx (j := (2 : Int32)) (v := (.int c2)) (cell := clv) (by rw [e276]; exact Arv1.1) (State.isArrayOf_alike hZL.alike Arv1.2.1) Arv1.2.2 (inb_of Szv (by decide)) (Hv.at (inb_of Szv (by decide)) rfl) (g := (mkF m 118 #[.val (.int p0), .val (.int p1), .val (.int p2), .val (.int p3), .val (.int p4), .val (.ref b), .val (.ref a222), .val (.int (4 : Int32)), .val (.ref a228), .val (.int ((Int32.ofNat 4 - Int32.ofNat (own_cnt [c0, c1, c2, c3] 4 4 0)) + 1)), .val (.int (0 : Int32)), .unset] [(.int (2 : Int32)), (.ref b), (.int c1)])) rfl rfl (hb hby at_118) _ ?_
        exact kk_)
      obtain ⟨_, T292, h292, L292, X292, e292, hQ292, st292⟩ := own_callS X276 hx hZL (y := (⟨"com/example/kept_triples/kepttriples/model/LabelLexerColumnPinLaw", "pair", "(CC)Z"⟩ : MethodName)) hownL (hw _ (List.mem_of_getElem? (i := 114) rfl)) (hw _ (List.mem_of_getElem? (i := 115) rfl)) (hw _ (List.mem_of_getElem? (i := 3) rfl)) (hw _ (List.mem_of_getElem? (i := 116) rfl)) (by decide) 0 (g := (mkF m 119 #[.val (.int p0), .val (.int p1), .val (.int p2), .val (.int p3), .val (.int p4), .val (.ref b), .val (.ref a222), .val (.int (4 : Int32)), .val (.ref a228), .val (.int ((Int32.ofNat 4 - Int32.ofNat (own_cnt [c0, c1, c2, c3] 4 4 0)) + 1)), .val (.int (0 : Int32)), .unset] [(.int c2), (.int c1)])) rfl (by rw [hml]; rfl) [(.int c1), (.int c2)] [] (rm24 l Z a0 hw [] c1 c2 h232 n0 Zf) (lenOf pd23 rfl) rfl (by show 2 * 0 + _ ≤ _; exact Nat.le_of_eq rfl) (hb hby at_119) (by decide) (by decide) e276 (by decide) (by decide)
      rcases hQ292 with ⟨⟨hp1, rfl⟩ | ⟨hp1, rfl⟩, N292, rfl⟩
      · have _ := e292
        have S293 : own_Go p e below s₁ G T292 (mkF m 122 #[.val (.int p0), .val (.int p1), .val (.int p2), .val (.int p3), .val (.int p4), .val (.ref b), .val (.ref a222), .val (.int (4 : Int32)), .val (.ref a228), .val (.int ((Int32.ofNat 4 - Int32.ofNat (own_cnt [c0, c1, c2, c3] 4 4 0)) + 1)), .val (.int (0 : Int32)), .unset] [(.int (1 : Int32))]) := fun tg_ kk_ => S291 tg_ (st292 tg_ kk_)
        have NP1 := Fr.app NP0 N292
        have S294 : own_Go p e below s₁ G T292 (mkF m 142 #[.val (.int p0), .val (.int p1), .val (.int p2), .val (.int p3), .val (.int p4), .val (.ref b), .val (.ref a222), .val (.int (4 : Int32)), .val (.ref a228), .val (.int ((Int32.ofNat 4 - Int32.ofNat (own_cnt [c0, c1, c2, c3] 4 4 0)) + 1)), .val (.int ((0 : Int32) + (1 : Int32))), .unset] [(.int c3), (.int c2)]) := fun tg_ kk_ => S293 tg_ (by
          refine XS.ifNo X292.here hx rfl (hb hby at_122) rfl (by decide) ?_
          show Steps p.tables e below (T292.setTop (mkF m 125 #[.val (.int p0), .val (.int p1), .val (.int p2), .val (.int p3), .val (.int p4), .val (.ref b), .val (.ref a222), .val (.int (4 : Int32)), .val (.ref a228), .val (.int ((Int32.ofNat 4 - Int32.ofNat (own_cnt [c0, c1, c2, c3] 4 4 0)) + 1)), .val (.int (0 : Int32)), .unset] [])) _
          refine XS.iinc X292.here hx rfl (hb hby at_125) rfl (l' := #[.val (.int p0), .val (.int p1), .val (.int p2), .val (.int p3), .val (.int p4), .val (.ref b), .val (.ref a222), .val (.int (4 : Int32)), .val (.ref a228), .val (.int ((Int32.ofNat 4 - Int32.ofNat (own_cnt [c0, c1, c2, c3] 4 4 0)) + 1)), .val (.int ((0 : Int32) + (1 : Int32))), .unset]) rfl ?_
          show Steps p.tables e below (T292.setTop (mkF m 128 #[.val (.int p0), .val (.int p1), .val (.int p2), .val (.int p3), .val (.int p4), .val (.ref b), .val (.ref a222), .val (.int (4 : Int32)), .val (.ref a228), .val (.int ((Int32.ofNat 4 - Int32.ofNat (own_cnt [c0, c1, c2, c3] 4 4 0)) + 1)), .val (.int ((0 : Int32) + (1 : Int32))), .unset] [])) _
          refine XS.iload X292.here hx rfl (hb hby at_128) rfl ?_
          show Steps p.tables e below (T292.setTop (mkF m 130 #[.val (.int p0), .val (.int p1), .val (.int p2), .val (.int p3), .val (.int p4), .val (.ref b), .val (.ref a222), .val (.int (4 : Int32)), .val (.ref a228), .val (.int ((Int32.ofNat 4 - Int32.ofNat (own_cnt [c0, c1, c2, c3] 4 4 0)) + 1)), .val (.int ((0 : Int32) + (1 : Int32))), .unset] [(.int (4 : Int32))])) _
          refine XS.iconst X292.here hx rfl (hb hby at_130) ?_
          show Steps p.tables e below (T292.setTop (mkF m 131 #[.val (.int p0), .val (.int p1), .val (.int p2), .val (.int p3), .val (.int p4), .val (.ref b), .val (.ref a222), .val (.int (4 : Int32)), .val (.ref a228), .val (.int ((Int32.ofNat 4 - Int32.ofNat (own_cnt [c0, c1, c2, c3] 4 4 0)) + 1)), .val (.int ((0 : Int32) + (1 : Int32))), .unset] [(.int (4 : Int32)), (.int (4 : Int32))])) _
          refine XS.icmpNo X292.here hx rfl (hb hby at_131) rfl (XT.ii_lt_f (by decide)) ?_
          show Steps p.tables e below (T292.setTop (mkF m 134 #[.val (.int p0), .val (.int p1), .val (.int p2), .val (.int p3), .val (.int p4), .val (.ref b), .val (.ref a222), .val (.int (4 : Int32)), .val (.ref a228), .val (.int ((Int32.ofNat 4 - Int32.ofNat (own_cnt [c0, c1, c2, c3] 4 4 0)) + 1)), .val (.int ((0 : Int32) + (1 : Int32))), .unset] [])) _
          refine XS.aload X292.here hx rfl (hb hby at_134) rfl rfl ?_
          show Steps p.tables e below (T292.setTop (mkF m 136 #[.val (.int p0), .val (.int p1), .val (.int p2), .val (.int p3), .val (.int p4), .val (.ref b), .val (.ref a222), .val (.int (4 : Int32)), .val (.ref a228), .val (.int ((Int32.ofNat 4 - Int32.ofNat (own_cnt [c0, c1, c2, c3] 4 4 0)) + 1)), .val (.int ((0 : Int32) + (1 : Int32))), .unset] [(.ref b)])) _
          refine XS.iconst X292.here hx rfl (hb hby at_136) ?_
          show Steps p.tables e below (T292.setTop (mkF m 137 #[.val (.int p0), .val (.int p1), .val (.int p2), .val (.int p3), .val (.int p4), .val (.ref b), .val (.ref a222), .val (.int (4 : Int32)), .val (.ref a228), .val (.int ((Int32.ofNat 4 - Int32.ofNat (own_cnt [c0, c1, c2, c3] 4 4 0)) + 1)), .val (.int ((0 : Int32) + (1 : Int32))), .unset] [(.int (2 : Int32)), (.ref b)])) _
          refine X292.caload hx (j := (2 : Int32)) (v := (.int c2)) (cell := clv) (by rw [e292]; exact Arv1.1) (State.isArrayOf_alike hZL.alike Arv1.2.1) Arv1.2.2 (inb_of Szv (by decide)) (Hv.at (inb_of Szv (by decide)) rfl) (g := (mkF m 137 #[.val (.int p0), .val (.int p1), .val (.int p2), .val (.int p3), .val (.int p4), .val (.ref b), .val (.ref a222), .val (.int (4 : Int32)), .val (.ref a228), .val (.int ((Int32.ofNat 4 - Int32.ofNat (own_cnt [c0, c1, c2, c3] 4 4 0)) + 1)), .val (.int ((0 : Int32) + (1 : Int32))), .unset] [(.int (2 : Int32)), (.ref b)])) rfl rfl (hb hby at_137) _ ?_
          show Steps p.tables e below (T292.setTop (mkF m 138 #[.val (.int p0), .val (.int p1), .val (.int p2), .val (.int p3), .val (.int p4), .val (.ref b), .val (.ref a222), .val (.int (4 : Int32)), .val (.ref a228), .val (.int ((Int32.ofNat 4 - Int32.ofNat (own_cnt [c0, c1, c2, c3] 4 4 0)) + 1)), .val (.int ((0 : Int32) + (1 : Int32))), .unset] [(.int c2)])) _
          refine XS.aload X292.here hx rfl (hb hby at_138) rfl rfl ?_
          show Steps p.tables e below (T292.setTop (mkF m 140 #[.val (.int p0), .val (.int p1), .val (.int p2), .val (.int p3), .val (.int p4), .val (.ref b), .val (.ref a222), .val (.int (4 : Int32)), .val (.ref a228), .val (.int ((Int32.ofNat 4 - Int32.ofNat (own_cnt [c0, c1, c2, c3] 4 4 0)) + 1)), .val (.int ((0 : Int32) + (1 : Int32))), .unset] [(.ref b), (.int c2)])) _
          refine XS.iconst X292.here hx rfl (hb hby at_140) ?_
          show Steps p.tables e below (T292.setTop (mkF m 141 #[.val (.int p0), .val (.int p1), .val (.int p2), .val (.int p3), .val (.int p4), .val (.ref b), .val (.ref a222), .val (.int (4 : Int32)), .val (.ref a228), .val (.int ((Int32.ofNat 4 - Int32.ofNat (own_cnt [c0, c1, c2, c3] 4 4 0)) + 1)), .val (.int ((0 : Int32) + (1 : Int32))), .unset] [(.int (3 : Int32)), (.ref b), (.int c2)])) _
          refine X292.caload hx (j := (3 : Int32)) (v := (.int c3)) (cell := clv) (by rw [e292]; exact Arv1.1) (State.isArrayOf_alike hZL.alike Arv1.2.1) Arv1.2.2 (inb_of Szv (by decide)) (Hv.at (inb_of Szv (by decide)) rfl) (g := (mkF m 141 #[.val (.int p0), .val (.int p1), .val (.int p2), .val (.int p3), .val (.int p4), .val (.ref b), .val (.ref a222), .val (.int (4 : Int32)), .val (.ref a228), .val (.int ((Int32.ofNat 4 - Int32.ofNat (own_cnt [c0, c1, c2, c3] 4 4 0)) + 1)), .val (.int ((0 : Int32) + (1 : Int32))), .unset] [(.int (3 : Int32)), (.ref b), (.int c2)])) rfl rfl (hb hby at_141) _ ?_
          exact kk_)
        obtain ⟨_, T295, h295, L295, X295, e295, hQ295, st295⟩ := own_callS X292 hx hZL (y := (⟨"com/example/kept_triples/kepttriples/model/LabelLexerColumnPinLaw", "pair", "(CC)Z"⟩ : MethodName)) hownL (hw _ (List.mem_of_getElem? (i := 114) rfl)) (hw _ (List.mem_of_getElem? (i := 115) rfl)) (hw _ (List.mem_of_getElem? (i := 3) rfl)) (hw _ (List.mem_of_getElem? (i := 116) rfl)) (by decide) 0 (g := (mkF m 142 #[.val (.int p0), .val (.int p1), .val (.int p2), .val (.int p3), .val (.int p4), .val (.ref b), .val (.ref a222), .val (.int (4 : Int32)), .val (.ref a228), .val (.int ((Int32.ofNat 4 - Int32.ofNat (own_cnt [c0, c1, c2, c3] 4 4 0)) + 1)), .val (.int ((0 : Int32) + (1 : Int32))), .unset] [(.int c3), (.int c2)])) rfl (by rw [hml]; rfl) [(.int c2), (.int c3)] [] (rm24 l Z a0 hw [] c2 c3 h232 n0 Zf) (lenOf pd23 rfl) rfl (by show 2 * 0 + _ ≤ _; exact Nat.le_of_eq rfl) (hb hby at_142) (by decide) (by decide) e292 (by decide) (by decide)
        rcases hQ295 with ⟨⟨hp2, rfl⟩ | ⟨hp2, rfl⟩, N295, rfl⟩
        · have _ := e295
          have S296 : own_Go p e below s₁ G T295 (mkF m 145 #[.val (.int p0), .val (.int p1), .val (.int p2), .val (.int p3), .val (.int p4), .val (.ref b), .val (.ref a222), .val (.int (4 : Int32)), .val (.ref a228), .val (.int ((Int32.ofNat 4 - Int32.ofNat (own_cnt [c0, c1, c2, c3] 4 4 0)) + 1)), .val (.int ((0 : Int32) + (1 : Int32))), .unset] [(.int (1 : Int32))]) := fun tg_ kk_ => S294 tg_ (st295 tg_ kk_)
          have NP2 := Fr.app NP1 N295
          exact absurd hp2 (own_pr_no hp1)
        · have _ := e295
          have S297 : own_Go p e below s₁ G T295 (mkF m 145 #[.val (.int p0), .val (.int p1), .val (.int p2), .val (.int p3), .val (.int p4), .val (.ref b), .val (.ref a222), .val (.int (4 : Int32)), .val (.ref a228), .val (.int ((Int32.ofNat 4 - Int32.ofNat (own_cnt [c0, c1, c2, c3] 4 4 0)) + 1)), .val (.int ((0 : Int32) + (1 : Int32))), .unset] [(.int (0 : Int32))]) := fun tg_ kk_ => S294 tg_ (st295 tg_ kk_)
          have NP2 := Fr.app NP1 N295
          have S298 : own_Go p e below s₁ G T295 (mkF m 164 #[.val (.int p0), .val (.int p1), .val (.int p2), .val (.int p3), .val (.int p4), .val (.ref b), .val (.ref a222), .val (.int (4 : Int32)), .val (.ref a228), .val (.int ((Int32.ofNat 4 - Int32.ofNat (own_cnt [c0, c1, c2, c3] 4 4 0)) + 1)), .val (.int ((0 : Int32) + (1 : Int32))), .val (.int (((4 : Int32) - ((0 : Int32) + (1 : Int32))) + (1 : Int32)))] [(.int (((4 : Int32) - ((0 : Int32) + (1 : Int32))) + (1 : Int32))), (.int ((Int32.ofNat 4 - Int32.ofNat (own_cnt [c0, c1, c2, c3] 4 4 0)) + 1))]) := fun tg_ kk_ => S297 tg_ (by
            refine XS.ifYes X295.here hx rfl (pc0 := 145) (pc' := 151) rfl (hb hby at_145) rfl (by decide) (by decide) (by decide) ?_
            show Steps p.tables e below (T295.setTop (mkF m 151 #[.val (.int p0), .val (.int p1), .val (.int p2), .val (.int p3), .val (.int p4), .val (.ref b), .val (.ref a222), .val (.int (4 : Int32)), .val (.ref a228), .val (.int ((Int32.ofNat 4 - Int32.ofNat (own_cnt [c0, c1, c2, c3] 4 4 0)) + 1)), .val (.int ((0 : Int32) + (1 : Int32))), .unset] [])) _
            refine XS.iload X295.here hx rfl (hb hby at_151) rfl ?_
            show Steps p.tables e below (T295.setTop (mkF m 153 #[.val (.int p0), .val (.int p1), .val (.int p2), .val (.int p3), .val (.int p4), .val (.ref b), .val (.ref a222), .val (.int (4 : Int32)), .val (.ref a228), .val (.int ((Int32.ofNat 4 - Int32.ofNat (own_cnt [c0, c1, c2, c3] 4 4 0)) + 1)), .val (.int ((0 : Int32) + (1 : Int32))), .unset] [(.int (4 : Int32))])) _
            refine XS.iload X295.here hx rfl (hb hby at_153) rfl ?_
            show Steps p.tables e below (T295.setTop (mkF m 155 #[.val (.int p0), .val (.int p1), .val (.int p2), .val (.int p3), .val (.int p4), .val (.ref b), .val (.ref a222), .val (.int (4 : Int32)), .val (.ref a228), .val (.int ((Int32.ofNat 4 - Int32.ofNat (own_cnt [c0, c1, c2, c3] 4 4 0)) + 1)), .val (.int ((0 : Int32) + (1 : Int32))), .unset] [(.int ((0 : Int32) + (1 : Int32))), (.int (4 : Int32))])) _
            refine XS.isub X295.here hx rfl (hb hby at_155) rfl ?_
            show Steps p.tables e below (T295.setTop (mkF m 156 #[.val (.int p0), .val (.int p1), .val (.int p2), .val (.int p3), .val (.int p4), .val (.ref b), .val (.ref a222), .val (.int (4 : Int32)), .val (.ref a228), .val (.int ((Int32.ofNat 4 - Int32.ofNat (own_cnt [c0, c1, c2, c3] 4 4 0)) + 1)), .val (.int ((0 : Int32) + (1 : Int32))), .unset] [(.int ((4 : Int32) - ((0 : Int32) + (1 : Int32))))])) _
            refine XS.iconst X295.here hx rfl (hb hby at_156) ?_
            show Steps p.tables e below (T295.setTop (mkF m 157 #[.val (.int p0), .val (.int p1), .val (.int p2), .val (.int p3), .val (.int p4), .val (.ref b), .val (.ref a222), .val (.int (4 : Int32)), .val (.ref a228), .val (.int ((Int32.ofNat 4 - Int32.ofNat (own_cnt [c0, c1, c2, c3] 4 4 0)) + 1)), .val (.int ((0 : Int32) + (1 : Int32))), .unset] [(.int (1 : Int32)), (.int ((4 : Int32) - ((0 : Int32) + (1 : Int32))))])) _
            refine XS.iadd X295.here hx rfl (hb hby at_157) rfl ?_
            show Steps p.tables e below (T295.setTop (mkF m 158 #[.val (.int p0), .val (.int p1), .val (.int p2), .val (.int p3), .val (.int p4), .val (.ref b), .val (.ref a222), .val (.int (4 : Int32)), .val (.ref a228), .val (.int ((Int32.ofNat 4 - Int32.ofNat (own_cnt [c0, c1, c2, c3] 4 4 0)) + 1)), .val (.int ((0 : Int32) + (1 : Int32))), .unset] [(.int (((4 : Int32) - ((0 : Int32) + (1 : Int32))) + (1 : Int32)))])) _
            refine XS.istore X295.here hx rfl (hb hby at_158) rfl (l' := #[.val (.int p0), .val (.int p1), .val (.int p2), .val (.int p3), .val (.int p4), .val (.ref b), .val (.ref a222), .val (.int (4 : Int32)), .val (.ref a228), .val (.int ((Int32.ofNat 4 - Int32.ofNat (own_cnt [c0, c1, c2, c3] 4 4 0)) + 1)), .val (.int ((0 : Int32) + (1 : Int32))), .val (.int (((4 : Int32) - ((0 : Int32) + (1 : Int32))) + (1 : Int32)))]) rfl ?_
            show Steps p.tables e below (T295.setTop (mkF m 160 #[.val (.int p0), .val (.int p1), .val (.int p2), .val (.int p3), .val (.int p4), .val (.ref b), .val (.ref a222), .val (.int (4 : Int32)), .val (.ref a228), .val (.int ((Int32.ofNat 4 - Int32.ofNat (own_cnt [c0, c1, c2, c3] 4 4 0)) + 1)), .val (.int ((0 : Int32) + (1 : Int32))), .val (.int (((4 : Int32) - ((0 : Int32) + (1 : Int32))) + (1 : Int32)))] [])) _
            refine XS.iload X295.here hx rfl (hb hby at_160) rfl ?_
            show Steps p.tables e below (T295.setTop (mkF m 162 #[.val (.int p0), .val (.int p1), .val (.int p2), .val (.int p3), .val (.int p4), .val (.ref b), .val (.ref a222), .val (.int (4 : Int32)), .val (.ref a228), .val (.int ((Int32.ofNat 4 - Int32.ofNat (own_cnt [c0, c1, c2, c3] 4 4 0)) + 1)), .val (.int ((0 : Int32) + (1 : Int32))), .val (.int (((4 : Int32) - ((0 : Int32) + (1 : Int32))) + (1 : Int32)))] [(.int ((Int32.ofNat 4 - Int32.ofNat (own_cnt [c0, c1, c2, c3] 4 4 0)) + 1))])) _
            refine XS.iload X295.here hx rfl (hb hby at_162) rfl ?_
            exact kk_)
          have hcnt : own_cnt [c0, c1, c2, c3] 4 4 0 = 1 := by
            rw [own_cnt_n (cs := [c0, c1, c2, c3]) (e := 4) (f := 3) (i := 0) (by decide) hp0, own_cnt_p (cs := [c0, c1, c2, c3]) (e := 4) (f := 2) (i := 1) (by decide) hp1, own_cnt_out (by decide)]
          have heq : ((Int32.ofNat 4 - Int32.ofNat (own_cnt [c0, c1, c2, c3] 4 4 0)) + 1) = (((4 : Int32) - ((0 : Int32) + (1 : Int32))) + (1 : Int32)) := by rw [hcnt]; decide
          have S299 : own_Go p e below s₁ G T295 (mkF m 172 #[.val (.int p0), .val (.int p1), .val (.int p2), .val (.int p3), .val (.int p4), .val (.ref b), .val (.ref a222), .val (.int (4 : Int32)), .val (.ref a228), .val (.int ((Int32.ofNat 4 - Int32.ofNat (own_cnt [c0, c1, c2, c3] 4 4 0)) + 1)), .val (.int ((0 : Int32) + (1 : Int32))), .val (.int (((4 : Int32) - ((0 : Int32) + (1 : Int32))) + (1 : Int32)))] [(.int (1 : Int32))]) := fun tg_ kk_ => S298 tg_ (by
            refine XS.icmpNo X295.here hx rfl (hb hby at_164) rfl (XT.ii_ne_f heq) ?_
            show Steps p.tables e below (T295.setTop (mkF m 167 #[.val (.int p0), .val (.int p1), .val (.int p2), .val (.int p3), .val (.int p4), .val (.ref b), .val (.ref a222), .val (.int (4 : Int32)), .val (.ref a228), .val (.int ((Int32.ofNat 4 - Int32.ofNat (own_cnt [c0, c1, c2, c3] 4 4 0)) + 1)), .val (.int ((0 : Int32) + (1 : Int32))), .val (.int (((4 : Int32) - ((0 : Int32) + (1 : Int32))) + (1 : Int32)))] [])) _
            refine XS.iconst X295.here hx rfl (hb hby at_167) ?_
            show Steps p.tables e below (T295.setTop (mkF m 168 #[.val (.int p0), .val (.int p1), .val (.int p2), .val (.int p3), .val (.int p4), .val (.ref b), .val (.ref a222), .val (.int (4 : Int32)), .val (.ref a228), .val (.int ((Int32.ofNat 4 - Int32.ofNat (own_cnt [c0, c1, c2, c3] 4 4 0)) + 1)), .val (.int ((0 : Int32) + (1 : Int32))), .val (.int (((4 : Int32) - ((0 : Int32) + (1 : Int32))) + (1 : Int32)))] [(.int (1 : Int32))])) _
            refine XS.goto X295.here hx rfl (pc0 := 168) (pc' := 172) rfl (hb hby at_168) (by decide) (by decide) ?_
            exact kk_)
          obtain ⟨fs, hr, hrun, hended, hend⟩ := X295.leaveW hSL (by rw [e295]; exact hkf) (v := some (.int (1 : Int32))) (fun h => by rw [Bd.returns] at h; cases h)
          refine ⟨_, _, ?_, hrun, hended, _, _, rfl, ?_, hend.1, hend.2.1, hend.2.2.1, hend.2.2.2.mono (by decide) (by decide)⟩
          · rw [← hG]; exact S299 _ (retN X295 hx (t := .boolean) Bd.returns (by simp) (hb hby at_172) hr)
          · show Q0 Z p0 p1 p2 p3 p4 h0 n0 _ T295.heap _
            rw [e295]
            exact ⟨rfl, NP2⟩
      · have _ := e292
        have S300 : own_Go p e below s₁ G T292 (mkF m 122 #[.val (.int p0), .val (.int p1), .val (.int p2), .val (.int p3), .val (.int p4), .val (.ref b), .val (.ref a222), .val (.int (4 : Int32)), .val (.ref a228), .val (.int ((Int32.ofNat 4 - Int32.ofNat (own_cnt [c0, c1, c2, c3] 4 4 0)) + 1)), .val (.int (0 : Int32)), .unset] [(.int (0 : Int32))]) := fun tg_ kk_ => S291 tg_ (st292 tg_ kk_)
        have NP1 := Fr.app NP0 N292
        have S301 : own_Go p e below s₁ G T292 (mkF m 142 #[.val (.int p0), .val (.int p1), .val (.int p2), .val (.int p3), .val (.int p4), .val (.ref b), .val (.ref a222), .val (.int (4 : Int32)), .val (.ref a228), .val (.int ((Int32.ofNat 4 - Int32.ofNat (own_cnt [c0, c1, c2, c3] 4 4 0)) + 1)), .val (.int (0 : Int32)), .unset] [(.int c3), (.int c2)]) := fun tg_ kk_ => S300 tg_ (by
          refine XS.ifYes X292.here hx rfl (pc0 := 122) (pc' := 128) rfl (hb hby at_122) rfl (by decide) (by decide) (by decide) ?_
          show Steps p.tables e below (T292.setTop (mkF m 128 #[.val (.int p0), .val (.int p1), .val (.int p2), .val (.int p3), .val (.int p4), .val (.ref b), .val (.ref a222), .val (.int (4 : Int32)), .val (.ref a228), .val (.int ((Int32.ofNat 4 - Int32.ofNat (own_cnt [c0, c1, c2, c3] 4 4 0)) + 1)), .val (.int (0 : Int32)), .unset] [])) _
          refine XS.iload X292.here hx rfl (hb hby at_128) rfl ?_
          show Steps p.tables e below (T292.setTop (mkF m 130 #[.val (.int p0), .val (.int p1), .val (.int p2), .val (.int p3), .val (.int p4), .val (.ref b), .val (.ref a222), .val (.int (4 : Int32)), .val (.ref a228), .val (.int ((Int32.ofNat 4 - Int32.ofNat (own_cnt [c0, c1, c2, c3] 4 4 0)) + 1)), .val (.int (0 : Int32)), .unset] [(.int (4 : Int32))])) _
          refine XS.iconst X292.here hx rfl (hb hby at_130) ?_
          show Steps p.tables e below (T292.setTop (mkF m 131 #[.val (.int p0), .val (.int p1), .val (.int p2), .val (.int p3), .val (.int p4), .val (.ref b), .val (.ref a222), .val (.int (4 : Int32)), .val (.ref a228), .val (.int ((Int32.ofNat 4 - Int32.ofNat (own_cnt [c0, c1, c2, c3] 4 4 0)) + 1)), .val (.int (0 : Int32)), .unset] [(.int (4 : Int32)), (.int (4 : Int32))])) _
          refine XS.icmpNo X292.here hx rfl (hb hby at_131) rfl (XT.ii_lt_f (by decide)) ?_
          show Steps p.tables e below (T292.setTop (mkF m 134 #[.val (.int p0), .val (.int p1), .val (.int p2), .val (.int p3), .val (.int p4), .val (.ref b), .val (.ref a222), .val (.int (4 : Int32)), .val (.ref a228), .val (.int ((Int32.ofNat 4 - Int32.ofNat (own_cnt [c0, c1, c2, c3] 4 4 0)) + 1)), .val (.int (0 : Int32)), .unset] [])) _
          refine XS.aload X292.here hx rfl (hb hby at_134) rfl rfl ?_
          show Steps p.tables e below (T292.setTop (mkF m 136 #[.val (.int p0), .val (.int p1), .val (.int p2), .val (.int p3), .val (.int p4), .val (.ref b), .val (.ref a222), .val (.int (4 : Int32)), .val (.ref a228), .val (.int ((Int32.ofNat 4 - Int32.ofNat (own_cnt [c0, c1, c2, c3] 4 4 0)) + 1)), .val (.int (0 : Int32)), .unset] [(.ref b)])) _
          refine XS.iconst X292.here hx rfl (hb hby at_136) ?_
          show Steps p.tables e below (T292.setTop (mkF m 137 #[.val (.int p0), .val (.int p1), .val (.int p2), .val (.int p3), .val (.int p4), .val (.ref b), .val (.ref a222), .val (.int (4 : Int32)), .val (.ref a228), .val (.int ((Int32.ofNat 4 - Int32.ofNat (own_cnt [c0, c1, c2, c3] 4 4 0)) + 1)), .val (.int (0 : Int32)), .unset] [(.int (2 : Int32)), (.ref b)])) _
          refine X292.caload hx (j := (2 : Int32)) (v := (.int c2)) (cell := clv) (by rw [e292]; exact Arv1.1) (State.isArrayOf_alike hZL.alike Arv1.2.1) Arv1.2.2 (inb_of Szv (by decide)) (Hv.at (inb_of Szv (by decide)) rfl) (g := (mkF m 137 #[.val (.int p0), .val (.int p1), .val (.int p2), .val (.int p3), .val (.int p4), .val (.ref b), .val (.ref a222), .val (.int (4 : Int32)), .val (.ref a228), .val (.int ((Int32.ofNat 4 - Int32.ofNat (own_cnt [c0, c1, c2, c3] 4 4 0)) + 1)), .val (.int (0 : Int32)), .unset] [(.int (2 : Int32)), (.ref b)])) rfl rfl (hb hby at_137) _ ?_
          show Steps p.tables e below (T292.setTop (mkF m 138 #[.val (.int p0), .val (.int p1), .val (.int p2), .val (.int p3), .val (.int p4), .val (.ref b), .val (.ref a222), .val (.int (4 : Int32)), .val (.ref a228), .val (.int ((Int32.ofNat 4 - Int32.ofNat (own_cnt [c0, c1, c2, c3] 4 4 0)) + 1)), .val (.int (0 : Int32)), .unset] [(.int c2)])) _
          refine XS.aload X292.here hx rfl (hb hby at_138) rfl rfl ?_
          show Steps p.tables e below (T292.setTop (mkF m 140 #[.val (.int p0), .val (.int p1), .val (.int p2), .val (.int p3), .val (.int p4), .val (.ref b), .val (.ref a222), .val (.int (4 : Int32)), .val (.ref a228), .val (.int ((Int32.ofNat 4 - Int32.ofNat (own_cnt [c0, c1, c2, c3] 4 4 0)) + 1)), .val (.int (0 : Int32)), .unset] [(.ref b), (.int c2)])) _
          refine XS.iconst X292.here hx rfl (hb hby at_140) ?_
          show Steps p.tables e below (T292.setTop (mkF m 141 #[.val (.int p0), .val (.int p1), .val (.int p2), .val (.int p3), .val (.int p4), .val (.ref b), .val (.ref a222), .val (.int (4 : Int32)), .val (.ref a228), .val (.int ((Int32.ofNat 4 - Int32.ofNat (own_cnt [c0, c1, c2, c3] 4 4 0)) + 1)), .val (.int (0 : Int32)), .unset] [(.int (3 : Int32)), (.ref b), (.int c2)])) _
          refine X292.caload hx (j := (3 : Int32)) (v := (.int c3)) (cell := clv) (by rw [e292]; exact Arv1.1) (State.isArrayOf_alike hZL.alike Arv1.2.1) Arv1.2.2 (inb_of Szv (by decide)) (Hv.at (inb_of Szv (by decide)) rfl) (g := (mkF m 141 #[.val (.int p0), .val (.int p1), .val (.int p2), .val (.int p3), .val (.int p4), .val (.ref b), .val (.ref a222), .val (.int (4 : Int32)), .val (.ref a228), .val (.int ((Int32.ofNat 4 - Int32.ofNat (own_cnt [c0, c1, c2, c3] 4 4 0)) + 1)), .val (.int (0 : Int32)), .unset] [(.int (3 : Int32)), (.ref b), (.int c2)])) rfl rfl (hb hby at_141) _ ?_
          exact kk_)
        obtain ⟨_, T302, h302, L302, X302, e302, hQ302, st302⟩ := own_callS X292 hx hZL (y := (⟨"com/example/kept_triples/kepttriples/model/LabelLexerColumnPinLaw", "pair", "(CC)Z"⟩ : MethodName)) hownL (hw _ (List.mem_of_getElem? (i := 114) rfl)) (hw _ (List.mem_of_getElem? (i := 115) rfl)) (hw _ (List.mem_of_getElem? (i := 3) rfl)) (hw _ (List.mem_of_getElem? (i := 116) rfl)) (by decide) 0 (g := (mkF m 142 #[.val (.int p0), .val (.int p1), .val (.int p2), .val (.int p3), .val (.int p4), .val (.ref b), .val (.ref a222), .val (.int (4 : Int32)), .val (.ref a228), .val (.int ((Int32.ofNat 4 - Int32.ofNat (own_cnt [c0, c1, c2, c3] 4 4 0)) + 1)), .val (.int (0 : Int32)), .unset] [(.int c3), (.int c2)])) rfl (by rw [hml]; rfl) [(.int c2), (.int c3)] [] (rm24 l Z a0 hw [] c2 c3 h232 n0 Zf) (lenOf pd23 rfl) rfl (by show 2 * 0 + _ ≤ _; exact Nat.le_of_eq rfl) (hb hby at_142) (by decide) (by decide) e292 (by decide) (by decide)
        rcases hQ302 with ⟨⟨hp2, rfl⟩ | ⟨hp2, rfl⟩, N302, rfl⟩
        · have _ := e302
          have S303 : own_Go p e below s₁ G T302 (mkF m 145 #[.val (.int p0), .val (.int p1), .val (.int p2), .val (.int p3), .val (.int p4), .val (.ref b), .val (.ref a222), .val (.int (4 : Int32)), .val (.ref a228), .val (.int ((Int32.ofNat 4 - Int32.ofNat (own_cnt [c0, c1, c2, c3] 4 4 0)) + 1)), .val (.int (0 : Int32)), .unset] [(.int (1 : Int32))]) := fun tg_ kk_ => S301 tg_ (st302 tg_ kk_)
          have NP2 := Fr.app NP1 N302
          have S304 : own_Go p e below s₁ G T302 (mkF m 164 #[.val (.int p0), .val (.int p1), .val (.int p2), .val (.int p3), .val (.int p4), .val (.ref b), .val (.ref a222), .val (.int (4 : Int32)), .val (.ref a228), .val (.int ((Int32.ofNat 4 - Int32.ofNat (own_cnt [c0, c1, c2, c3] 4 4 0)) + 1)), .val (.int ((0 : Int32) + (1 : Int32))), .val (.int (((4 : Int32) - ((0 : Int32) + (1 : Int32))) + (1 : Int32)))] [(.int (((4 : Int32) - ((0 : Int32) + (1 : Int32))) + (1 : Int32))), (.int ((Int32.ofNat 4 - Int32.ofNat (own_cnt [c0, c1, c2, c3] 4 4 0)) + 1))]) := fun tg_ kk_ => S303 tg_ (by
            refine XS.ifNo X302.here hx rfl (hb hby at_145) rfl (by decide) ?_
            show Steps p.tables e below (T302.setTop (mkF m 148 #[.val (.int p0), .val (.int p1), .val (.int p2), .val (.int p3), .val (.int p4), .val (.ref b), .val (.ref a222), .val (.int (4 : Int32)), .val (.ref a228), .val (.int ((Int32.ofNat 4 - Int32.ofNat (own_cnt [c0, c1, c2, c3] 4 4 0)) + 1)), .val (.int (0 : Int32)), .unset] [])) _
            refine XS.iinc X302.here hx rfl (hb hby at_148) rfl (l' := #[.val (.int p0), .val (.int p1), .val (.int p2), .val (.int p3), .val (.int p4), .val (.ref b), .val (.ref a222), .val (.int (4 : Int32)), .val (.ref a228), .val (.int ((Int32.ofNat 4 - Int32.ofNat (own_cnt [c0, c1, c2, c3] 4 4 0)) + 1)), .val (.int ((0 : Int32) + (1 : Int32))), .unset]) rfl ?_
            show Steps p.tables e below (T302.setTop (mkF m 151 #[.val (.int p0), .val (.int p1), .val (.int p2), .val (.int p3), .val (.int p4), .val (.ref b), .val (.ref a222), .val (.int (4 : Int32)), .val (.ref a228), .val (.int ((Int32.ofNat 4 - Int32.ofNat (own_cnt [c0, c1, c2, c3] 4 4 0)) + 1)), .val (.int ((0 : Int32) + (1 : Int32))), .unset] [])) _
            refine XS.iload X302.here hx rfl (hb hby at_151) rfl ?_
            show Steps p.tables e below (T302.setTop (mkF m 153 #[.val (.int p0), .val (.int p1), .val (.int p2), .val (.int p3), .val (.int p4), .val (.ref b), .val (.ref a222), .val (.int (4 : Int32)), .val (.ref a228), .val (.int ((Int32.ofNat 4 - Int32.ofNat (own_cnt [c0, c1, c2, c3] 4 4 0)) + 1)), .val (.int ((0 : Int32) + (1 : Int32))), .unset] [(.int (4 : Int32))])) _
            refine XS.iload X302.here hx rfl (hb hby at_153) rfl ?_
            show Steps p.tables e below (T302.setTop (mkF m 155 #[.val (.int p0), .val (.int p1), .val (.int p2), .val (.int p3), .val (.int p4), .val (.ref b), .val (.ref a222), .val (.int (4 : Int32)), .val (.ref a228), .val (.int ((Int32.ofNat 4 - Int32.ofNat (own_cnt [c0, c1, c2, c3] 4 4 0)) + 1)), .val (.int ((0 : Int32) + (1 : Int32))), .unset] [(.int ((0 : Int32) + (1 : Int32))), (.int (4 : Int32))])) _
            refine XS.isub X302.here hx rfl (hb hby at_155) rfl ?_
            show Steps p.tables e below (T302.setTop (mkF m 156 #[.val (.int p0), .val (.int p1), .val (.int p2), .val (.int p3), .val (.int p4), .val (.ref b), .val (.ref a222), .val (.int (4 : Int32)), .val (.ref a228), .val (.int ((Int32.ofNat 4 - Int32.ofNat (own_cnt [c0, c1, c2, c3] 4 4 0)) + 1)), .val (.int ((0 : Int32) + (1 : Int32))), .unset] [(.int ((4 : Int32) - ((0 : Int32) + (1 : Int32))))])) _
            refine XS.iconst X302.here hx rfl (hb hby at_156) ?_
            show Steps p.tables e below (T302.setTop (mkF m 157 #[.val (.int p0), .val (.int p1), .val (.int p2), .val (.int p3), .val (.int p4), .val (.ref b), .val (.ref a222), .val (.int (4 : Int32)), .val (.ref a228), .val (.int ((Int32.ofNat 4 - Int32.ofNat (own_cnt [c0, c1, c2, c3] 4 4 0)) + 1)), .val (.int ((0 : Int32) + (1 : Int32))), .unset] [(.int (1 : Int32)), (.int ((4 : Int32) - ((0 : Int32) + (1 : Int32))))])) _
            refine XS.iadd X302.here hx rfl (hb hby at_157) rfl ?_
            show Steps p.tables e below (T302.setTop (mkF m 158 #[.val (.int p0), .val (.int p1), .val (.int p2), .val (.int p3), .val (.int p4), .val (.ref b), .val (.ref a222), .val (.int (4 : Int32)), .val (.ref a228), .val (.int ((Int32.ofNat 4 - Int32.ofNat (own_cnt [c0, c1, c2, c3] 4 4 0)) + 1)), .val (.int ((0 : Int32) + (1 : Int32))), .unset] [(.int (((4 : Int32) - ((0 : Int32) + (1 : Int32))) + (1 : Int32)))])) _
            refine XS.istore X302.here hx rfl (hb hby at_158) rfl (l' := #[.val (.int p0), .val (.int p1), .val (.int p2), .val (.int p3), .val (.int p4), .val (.ref b), .val (.ref a222), .val (.int (4 : Int32)), .val (.ref a228), .val (.int ((Int32.ofNat 4 - Int32.ofNat (own_cnt [c0, c1, c2, c3] 4 4 0)) + 1)), .val (.int ((0 : Int32) + (1 : Int32))), .val (.int (((4 : Int32) - ((0 : Int32) + (1 : Int32))) + (1 : Int32)))]) rfl ?_
            show Steps p.tables e below (T302.setTop (mkF m 160 #[.val (.int p0), .val (.int p1), .val (.int p2), .val (.int p3), .val (.int p4), .val (.ref b), .val (.ref a222), .val (.int (4 : Int32)), .val (.ref a228), .val (.int ((Int32.ofNat 4 - Int32.ofNat (own_cnt [c0, c1, c2, c3] 4 4 0)) + 1)), .val (.int ((0 : Int32) + (1 : Int32))), .val (.int (((4 : Int32) - ((0 : Int32) + (1 : Int32))) + (1 : Int32)))] [])) _
            refine XS.iload X302.here hx rfl (hb hby at_160) rfl ?_
            show Steps p.tables e below (T302.setTop (mkF m 162 #[.val (.int p0), .val (.int p1), .val (.int p2), .val (.int p3), .val (.int p4), .val (.ref b), .val (.ref a222), .val (.int (4 : Int32)), .val (.ref a228), .val (.int ((Int32.ofNat 4 - Int32.ofNat (own_cnt [c0, c1, c2, c3] 4 4 0)) + 1)), .val (.int ((0 : Int32) + (1 : Int32))), .val (.int (((4 : Int32) - ((0 : Int32) + (1 : Int32))) + (1 : Int32)))] [(.int ((Int32.ofNat 4 - Int32.ofNat (own_cnt [c0, c1, c2, c3] 4 4 0)) + 1))])) _
            refine XS.iload X302.here hx rfl (hb hby at_162) rfl ?_
            exact kk_)
          have hcnt : own_cnt [c0, c1, c2, c3] 4 4 0 = 1 := by
            rw [own_cnt_n (cs := [c0, c1, c2, c3]) (e := 4) (f := 3) (i := 0) (by decide) hp0, own_cnt_n (cs := [c0, c1, c2, c3]) (e := 4) (f := 2) (i := 1) (by decide) hp1, own_cnt_p (cs := [c0, c1, c2, c3]) (e := 4) (f := 1) (i := 2) (by decide) hp2, own_cnt_out (by decide)]
          have heq : ((Int32.ofNat 4 - Int32.ofNat (own_cnt [c0, c1, c2, c3] 4 4 0)) + 1) = (((4 : Int32) - ((0 : Int32) + (1 : Int32))) + (1 : Int32)) := by rw [hcnt]; decide
          have S305 : own_Go p e below s₁ G T302 (mkF m 172 #[.val (.int p0), .val (.int p1), .val (.int p2), .val (.int p3), .val (.int p4), .val (.ref b), .val (.ref a222), .val (.int (4 : Int32)), .val (.ref a228), .val (.int ((Int32.ofNat 4 - Int32.ofNat (own_cnt [c0, c1, c2, c3] 4 4 0)) + 1)), .val (.int ((0 : Int32) + (1 : Int32))), .val (.int (((4 : Int32) - ((0 : Int32) + (1 : Int32))) + (1 : Int32)))] [(.int (1 : Int32))]) := fun tg_ kk_ => S304 tg_ (by
            refine XS.icmpNo X302.here hx rfl (hb hby at_164) rfl (XT.ii_ne_f heq) ?_
            show Steps p.tables e below (T302.setTop (mkF m 167 #[.val (.int p0), .val (.int p1), .val (.int p2), .val (.int p3), .val (.int p4), .val (.ref b), .val (.ref a222), .val (.int (4 : Int32)), .val (.ref a228), .val (.int ((Int32.ofNat 4 - Int32.ofNat (own_cnt [c0, c1, c2, c3] 4 4 0)) + 1)), .val (.int ((0 : Int32) + (1 : Int32))), .val (.int (((4 : Int32) - ((0 : Int32) + (1 : Int32))) + (1 : Int32)))] [])) _
            refine XS.iconst X302.here hx rfl (hb hby at_167) ?_
            show Steps p.tables e below (T302.setTop (mkF m 168 #[.val (.int p0), .val (.int p1), .val (.int p2), .val (.int p3), .val (.int p4), .val (.ref b), .val (.ref a222), .val (.int (4 : Int32)), .val (.ref a228), .val (.int ((Int32.ofNat 4 - Int32.ofNat (own_cnt [c0, c1, c2, c3] 4 4 0)) + 1)), .val (.int ((0 : Int32) + (1 : Int32))), .val (.int (((4 : Int32) - ((0 : Int32) + (1 : Int32))) + (1 : Int32)))] [(.int (1 : Int32))])) _
            refine XS.goto X302.here hx rfl (pc0 := 168) (pc' := 172) rfl (hb hby at_168) (by decide) (by decide) ?_
            exact kk_)
          obtain ⟨fs, hr, hrun, hended, hend⟩ := X302.leaveW hSL (by rw [e302]; exact hkf) (v := some (.int (1 : Int32))) (fun h => by rw [Bd.returns] at h; cases h)
          refine ⟨_, _, ?_, hrun, hended, _, _, rfl, ?_, hend.1, hend.2.1, hend.2.2.1, hend.2.2.2.mono (by decide) (by decide)⟩
          · rw [← hG]; exact S305 _ (retN X302 hx (t := .boolean) Bd.returns (by simp) (hb hby at_172) hr)
          · show Q0 Z p0 p1 p2 p3 p4 h0 n0 _ T302.heap _
            rw [e302]
            exact ⟨rfl, NP2⟩
        · have _ := e302
          have S306 : own_Go p e below s₁ G T302 (mkF m 145 #[.val (.int p0), .val (.int p1), .val (.int p2), .val (.int p3), .val (.int p4), .val (.ref b), .val (.ref a222), .val (.int (4 : Int32)), .val (.ref a228), .val (.int ((Int32.ofNat 4 - Int32.ofNat (own_cnt [c0, c1, c2, c3] 4 4 0)) + 1)), .val (.int (0 : Int32)), .unset] [(.int (0 : Int32))]) := fun tg_ kk_ => S301 tg_ (st302 tg_ kk_)
          have NP2 := Fr.app NP1 N302
          have S307 : own_Go p e below s₁ G T302 (mkF m 164 #[.val (.int p0), .val (.int p1), .val (.int p2), .val (.int p3), .val (.int p4), .val (.ref b), .val (.ref a222), .val (.int (4 : Int32)), .val (.ref a228), .val (.int ((Int32.ofNat 4 - Int32.ofNat (own_cnt [c0, c1, c2, c3] 4 4 0)) + 1)), .val (.int (0 : Int32)), .val (.int (((4 : Int32) - (0 : Int32)) + (1 : Int32)))] [(.int (((4 : Int32) - (0 : Int32)) + (1 : Int32))), (.int ((Int32.ofNat 4 - Int32.ofNat (own_cnt [c0, c1, c2, c3] 4 4 0)) + 1))]) := fun tg_ kk_ => S306 tg_ (by
            refine XS.ifYes X302.here hx rfl (pc0 := 145) (pc' := 151) rfl (hb hby at_145) rfl (by decide) (by decide) (by decide) ?_
            show Steps p.tables e below (T302.setTop (mkF m 151 #[.val (.int p0), .val (.int p1), .val (.int p2), .val (.int p3), .val (.int p4), .val (.ref b), .val (.ref a222), .val (.int (4 : Int32)), .val (.ref a228), .val (.int ((Int32.ofNat 4 - Int32.ofNat (own_cnt [c0, c1, c2, c3] 4 4 0)) + 1)), .val (.int (0 : Int32)), .unset] [])) _
            refine XS.iload X302.here hx rfl (hb hby at_151) rfl ?_
            show Steps p.tables e below (T302.setTop (mkF m 153 #[.val (.int p0), .val (.int p1), .val (.int p2), .val (.int p3), .val (.int p4), .val (.ref b), .val (.ref a222), .val (.int (4 : Int32)), .val (.ref a228), .val (.int ((Int32.ofNat 4 - Int32.ofNat (own_cnt [c0, c1, c2, c3] 4 4 0)) + 1)), .val (.int (0 : Int32)), .unset] [(.int (4 : Int32))])) _
            refine XS.iload X302.here hx rfl (hb hby at_153) rfl ?_
            show Steps p.tables e below (T302.setTop (mkF m 155 #[.val (.int p0), .val (.int p1), .val (.int p2), .val (.int p3), .val (.int p4), .val (.ref b), .val (.ref a222), .val (.int (4 : Int32)), .val (.ref a228), .val (.int ((Int32.ofNat 4 - Int32.ofNat (own_cnt [c0, c1, c2, c3] 4 4 0)) + 1)), .val (.int (0 : Int32)), .unset] [(.int (0 : Int32)), (.int (4 : Int32))])) _
            refine XS.isub X302.here hx rfl (hb hby at_155) rfl ?_
            show Steps p.tables e below (T302.setTop (mkF m 156 #[.val (.int p0), .val (.int p1), .val (.int p2), .val (.int p3), .val (.int p4), .val (.ref b), .val (.ref a222), .val (.int (4 : Int32)), .val (.ref a228), .val (.int ((Int32.ofNat 4 - Int32.ofNat (own_cnt [c0, c1, c2, c3] 4 4 0)) + 1)), .val (.int (0 : Int32)), .unset] [(.int ((4 : Int32) - (0 : Int32)))])) _
            refine XS.iconst X302.here hx rfl (hb hby at_156) ?_
            show Steps p.tables e below (T302.setTop (mkF m 157 #[.val (.int p0), .val (.int p1), .val (.int p2), .val (.int p3), .val (.int p4), .val (.ref b), .val (.ref a222), .val (.int (4 : Int32)), .val (.ref a228), .val (.int ((Int32.ofNat 4 - Int32.ofNat (own_cnt [c0, c1, c2, c3] 4 4 0)) + 1)), .val (.int (0 : Int32)), .unset] [(.int (1 : Int32)), (.int ((4 : Int32) - (0 : Int32)))])) _
            refine XS.iadd X302.here hx rfl (hb hby at_157) rfl ?_
            show Steps p.tables e below (T302.setTop (mkF m 158 #[.val (.int p0), .val (.int p1), .val (.int p2), .val (.int p3), .val (.int p4), .val (.ref b), .val (.ref a222), .val (.int (4 : Int32)), .val (.ref a228), .val (.int ((Int32.ofNat 4 - Int32.ofNat (own_cnt [c0, c1, c2, c3] 4 4 0)) + 1)), .val (.int (0 : Int32)), .unset] [(.int (((4 : Int32) - (0 : Int32)) + (1 : Int32)))])) _
            refine XS.istore X302.here hx rfl (hb hby at_158) rfl (l' := #[.val (.int p0), .val (.int p1), .val (.int p2), .val (.int p3), .val (.int p4), .val (.ref b), .val (.ref a222), .val (.int (4 : Int32)), .val (.ref a228), .val (.int ((Int32.ofNat 4 - Int32.ofNat (own_cnt [c0, c1, c2, c3] 4 4 0)) + 1)), .val (.int (0 : Int32)), .val (.int (((4 : Int32) - (0 : Int32)) + (1 : Int32)))]) rfl ?_
            show Steps p.tables e below (T302.setTop (mkF m 160 #[.val (.int p0), .val (.int p1), .val (.int p2), .val (.int p3), .val (.int p4), .val (.ref b), .val (.ref a222), .val (.int (4 : Int32)), .val (.ref a228), .val (.int ((Int32.ofNat 4 - Int32.ofNat (own_cnt [c0, c1, c2, c3] 4 4 0)) + 1)), .val (.int (0 : Int32)), .val (.int (((4 : Int32) - (0 : Int32)) + (1 : Int32)))] [])) _
            refine XS.iload X302.here hx rfl (hb hby at_160) rfl ?_
            show Steps p.tables e below (T302.setTop (mkF m 162 #[.val (.int p0), .val (.int p1), .val (.int p2), .val (.int p3), .val (.int p4), .val (.ref b), .val (.ref a222), .val (.int (4 : Int32)), .val (.ref a228), .val (.int ((Int32.ofNat 4 - Int32.ofNat (own_cnt [c0, c1, c2, c3] 4 4 0)) + 1)), .val (.int (0 : Int32)), .val (.int (((4 : Int32) - (0 : Int32)) + (1 : Int32)))] [(.int ((Int32.ofNat 4 - Int32.ofNat (own_cnt [c0, c1, c2, c3] 4 4 0)) + 1))])) _
            refine XS.iload X302.here hx rfl (hb hby at_162) rfl ?_
            exact kk_)
          have hcnt : own_cnt [c0, c1, c2, c3] 4 4 0 = 0 := by
            rw [own_cnt_n (cs := [c0, c1, c2, c3]) (e := 4) (f := 3) (i := 0) (by decide) hp0, own_cnt_n (cs := [c0, c1, c2, c3]) (e := 4) (f := 2) (i := 1) (by decide) hp1, own_cnt_n (cs := [c0, c1, c2, c3]) (e := 4) (f := 1) (i := 2) (by decide) hp2, own_cnt_out (by decide)]
          have heq : ((Int32.ofNat 4 - Int32.ofNat (own_cnt [c0, c1, c2, c3] 4 4 0)) + 1) = (((4 : Int32) - (0 : Int32)) + (1 : Int32)) := by rw [hcnt]; decide
          have S308 : own_Go p e below s₁ G T302 (mkF m 172 #[.val (.int p0), .val (.int p1), .val (.int p2), .val (.int p3), .val (.int p4), .val (.ref b), .val (.ref a222), .val (.int (4 : Int32)), .val (.ref a228), .val (.int ((Int32.ofNat 4 - Int32.ofNat (own_cnt [c0, c1, c2, c3] 4 4 0)) + 1)), .val (.int (0 : Int32)), .val (.int (((4 : Int32) - (0 : Int32)) + (1 : Int32)))] [(.int (1 : Int32))]) := fun tg_ kk_ => S307 tg_ (by
            refine XS.icmpNo X302.here hx rfl (hb hby at_164) rfl (XT.ii_ne_f heq) ?_
            show Steps p.tables e below (T302.setTop (mkF m 167 #[.val (.int p0), .val (.int p1), .val (.int p2), .val (.int p3), .val (.int p4), .val (.ref b), .val (.ref a222), .val (.int (4 : Int32)), .val (.ref a228), .val (.int ((Int32.ofNat 4 - Int32.ofNat (own_cnt [c0, c1, c2, c3] 4 4 0)) + 1)), .val (.int (0 : Int32)), .val (.int (((4 : Int32) - (0 : Int32)) + (1 : Int32)))] [])) _
            refine XS.iconst X302.here hx rfl (hb hby at_167) ?_
            show Steps p.tables e below (T302.setTop (mkF m 168 #[.val (.int p0), .val (.int p1), .val (.int p2), .val (.int p3), .val (.int p4), .val (.ref b), .val (.ref a222), .val (.int (4 : Int32)), .val (.ref a228), .val (.int ((Int32.ofNat 4 - Int32.ofNat (own_cnt [c0, c1, c2, c3] 4 4 0)) + 1)), .val (.int (0 : Int32)), .val (.int (((4 : Int32) - (0 : Int32)) + (1 : Int32)))] [(.int (1 : Int32))])) _
            refine XS.goto X302.here hx rfl (pc0 := 168) (pc' := 172) rfl (hb hby at_168) (by decide) (by decide) ?_
            exact kk_)
          obtain ⟨fs, hr, hrun, hended, hend⟩ := X302.leaveW hSL (by rw [e302]; exact hkf) (v := some (.int (1 : Int32))) (fun h => by rw [Bd.returns] at h; cases h)
          refine ⟨_, _, ?_, hrun, hended, _, _, rfl, ?_, hend.1, hend.2.1, hend.2.2.1, hend.2.2.2.mono (by decide) (by decide)⟩
          · rw [← hG]; exact S308 _ (retN X302 hx (t := .boolean) Bd.returns (by simp) (hb hby at_172) hr)
          · show Q0 Z p0 p1 p2 p3 p4 h0 n0 _ T302.heap _
            rw [e302]
            exact ⟨rfl, NP2⟩
theorem own_not0 {s : State} {a : Array Value} {t : Term} {z : Int32} (ev : t.eval a s none [] s = some (.int z)) (h : (Jvm.Cond.not (Jvm.Cond.eq t (Jvm.Term.int 0))).before a s = true) : ¬ z = 0 :=
  gotF (Cond.eq_ints ev (Term.int_eval 0)) (not_v (Cond.before_iff.mp h))
theorem own_sta {s : State} {a : Array Value} {C n d : String} {k : Int32} (h : (Jvm.Cond.eq (Jvm.Term.static C n d) (Jvm.Term.int k)).before a s = true) (hi : (Jvm.Cond.initializedFor C n d).before a s = true) : Sta s s.heap C n d (.int k) := by
  have hv := Cond.before_iff.mp h
  obtain ⟨x, y, e1, e2, k1, -⟩ := cmp_v (Or.inl hv)
  have e3 := (Term.int_eval (args := a) (first := s) (o := none) (idx := []) (s := s) k).symm.trans e2
  obtain rfl := Option.some.inj e3
  cases x with
  | int z =>
    have q : z = k := gotT (Cond.eq_ints e1 (Term.int_eval k)) hv
    subst q
    exact Sta.start e1 (Or.inl hi)
  | _ => first | (obtain ⟨z, hz⟩ := k1; cases hz) | (exact absurd k1.2 (by decide))

set_option maxRecDepth 65536 in
set_option maxHeartbeats 40000000 in
theorem comes_1 {Post : Tables → Env → Array Value → State → Outcome → State → Prop} (hpost : ∀ tb e args s v u, (limb_1_1.after args s (.returned v) u = true ∧ limb_1_2.after args s (.returned v) u = true ∧ True) → ReturnedEndW s (.returned v) u (Jvm.fieldLocs frame_1_writes args s ++ Jvm.arrayLocs frame_1_arrays args s ++ Jvm.staticLocs frame_1_statics s) 24 1152 → Post tb e args s (.returned v) u) :
    ArmFor flags0 classFile x code maxLocals ret World_1 tables_1 room_1 Calls_1 rest_1 Pre_1 Post := by
  intro l hfl _ _ p e ha hc hk s m args below hf hA hF happ hP
  obtain ⟨hcalls, hrest, hpre⟩ := hP
  obtain ⟨-, -, -, hnamed, -, -, -, hat⟩ := (Spec.applies_iff hf).mp happ
  obtain ⟨hg, hn⟩ := and_e (Cond.before_iff.mp (show (Jvm.Cond.and given_1 narrow_1).before args s = true from hpre))
  obtain ⟨gc, gg0⟩ := and_e hg
  obtain ⟨ga0, gg1⟩ := and_e gg0
  obtain ⟨ga1, gg2⟩ := and_e gg1
  obtain ⟨ga2, gg3⟩ := and_e gg2
  obtain ⟨ga3, gg4⟩ := and_e gg3
  have ga4 := gg4
  obtain ⟨w0, w1, w2, w3, w4, rfl⟩ : ∃ w0 w1 w2 w3 w4 : Value, args = #[w0, w1, w2, w3, w4] := by
    have hs : args.size = 5 := by simpa [Cond.value, given_1] using gc
    obtain ⟨L⟩ := args
    match L, hs with
    | [w0, w1, w2, w3, w4], _ => exact ⟨w0, w1, w2, w3, w4, rfl⟩
  have hw := fun d (hd : d ∈ tables_1) => atoms_spec (ws := Jvm.Cond.code x code maxLocals ret :: tables_1) hat d (List.mem_cons_of_mem _ hd)
  have hfit : Fit s := fun {y c} hc i hi => by
    obtain ⟨ha, rfl⟩ := Array.getElem?_eq_some_iff.mp hc
    have q := List.all_eq_true.mp ((Array.all_eq_true_iff_forall_mem.mp hF) _ (Array.getElem_mem ha)) i (List.mem_range.mpr hi)
    simpa [Array.getElem?_eq_getElem hi] using q
  obtain ⟨i0, ei0⟩ := is_v ga0
  obtain rfl : w0 = (.int i0) := Option.some.inj ei0
  obtain ⟨i1, ei1⟩ := is_v ga1
  obtain rfl : w1 = (.int i1) := Option.some.inj ei1
  obtain ⟨i2, ei2⟩ := is_v ga2
  obtain rfl : w2 = (.int i2) := Option.some.inj ei2
  obtain ⟨i3, ei3⟩ := is_v ga3
  obtain rfl : w3 = (.int i3) := Option.some.inj ei3
  obtain ⟨i4, ei4⟩ := is_v ga4
  obtain rfl : w4 = (.int i4) := Option.some.inj ei4
  have hsets := (atoms_of _ (rest_1_c_eq ▸ (show rest_1_c.before _ s = true from hrest))).1
  obtain ⟨zc, ezc⟩ := is_v (Cond.before_iff.mp (hsets _ (List.mem_of_getElem? (i := 1) rfl)))
  have hzc : ¬ zc = 0 := own_not0 ezc (hsets _ (List.mem_of_getElem? (i := 2) rfl))
  have Ocs := Sta.start ezc (Or.inl (hsets _ (List.mem_of_getElem? (i := 0) rfl)))
  have A16 : own_A16 s := ⟨own_sta (hsets _ (List.mem_of_getElem? (i := 12) rfl)) (hsets _ (List.mem_of_getElem? (i := 11) rfl)), own_sta (hsets _ (List.mem_of_getElem? (i := 15) rfl)) (hsets _ (List.mem_of_getElem? (i := 14) rfl)), own_sta (hsets _ (List.mem_of_getElem? (i := 18) rfl)) (hsets _ (List.mem_of_getElem? (i := 17) rfl))⟩
  obtain ⟨n, o, h1, h2, h3, _, L, rfl, ⟨rfl, N⟩, hq⟩ := rm0 l s _ hw tables_1 i0 i1 i2 i3 i4 s.heap s.heap.size (Nat.le_refl _) zc (Old.start s) Ocs hzc A16 p e ha hc hk s m _ below hf ((Spec.applies_iff_loose hf).mp happ).1 ⟨rfl, State.Warmed39.refl s, rfl⟩ trivial
  refine ⟨n, _, h1, h2, h3, hpost _ _ _ _ _ _ ⟨Cond.after_iff.mpr rfl, Cond.after_iff.mpr (eq_i res_at (Term.int_eval (1)) rfl), trivial⟩ ⟨hq.1, hq.2.1, hq.2.2.1, (hq.2.2.2.sift fun y hy => Or.inr (N y hy)).mono (by decide) (by decide)⟩⟩
theorem main_1_1 : Claimed_1_1 := comes_1 fun _ _ _ _ _ _ h hF => ⟨h.1, hF⟩
theorem main_1_2 : Claimed_1_2 := comes_1 fun _ _ _ _ _ _ h hF => ⟨h.2.1, hF⟩
end Jvm.Pilot.@@N@@
namespace Jvm.Pilot.@@N@@
open Jvm Jvm.ClassFile Sem Op Lib Jvm.Free Jvm.Stand Jvm.Pilot.@@N@@.Jvm.D
/-! MADE BY PROGRAM (witnessworld.py) out of the Statement's table words and the real class files: 22 classes; the members and pool entries that the words name. The judged class is class 1, her method 3. -/
namespace start1
open Jvm.ClassFile
def u (s : String) : CpInfo := .utf8 (stringToUtf16 s)
/-- a pool by its gaps: so many unusable entries, then the entry; so many at the end -/
def gap : Nat → List CpInfo → List CpInfo
  | 0, r => r
  | n + 1, r => .unusable :: gap n r
def poolList (es : List (Nat × CpInfo)) (last : Nat) : List CpInfo := es.foldr (fun e r => gap e.1 (e.2 :: r)) (gap last [])
def pool (es : List (Nat × CpInfo)) (last : Nat) : Array CpInfo := ⟨poolList es last⟩
def fileOf (pool : Array CpInfo) (this : Nat) (attrs : Array Attribute := #[]) (ms : Array MethodInfo := #[]) (fl : Nat := 33) (sup : Nat := 0) (ifs : Array Nat := #[]) (fds : Array FieldInfo := #[]) : ClassFile where
  minorVersion := 0
  majorVersion := 65
  constantPool := pool
  accessFlags := fl
  thisClass := this
  superClass := sup
  interfaces := ifs
  fields := fds
  methods := ms
  attributes := attrs
def plain (name : String) (sup : Option ClassId) : Class where
  name := name
  kind := .ordinary
  loader := none
  accessFlags := 33
  super := sup
  interfaces := #[]
  cf := none
  fields := #[]
  methods := #[]
  instanceTypes := #[]
  staticTypes := #[]
  resolved := #[]
  callSites := []
  init := .initialized
  statics := none
  mirror := none

def pool0 : Array CpInfo := pool [(5, u "<init>"), (0, u "()V"), (1, .class_ 10), (1, u "java/lang/Object")] 113

def k0c0 : Code := { maxStack := 0, maxLocals := 1, code := object_method_1_code, exceptionTable := #[], attributes := #[] }
def k0m0 : Method := { name := "<init>", desc := "()V", sig := { parameters := [], returnType := none }, accessFlags := 1, code := some k0c0 }
/-- java/lang/Object -/
def k0 : Class := { plain "java/lang/Object" none with
  accessFlags := 33
  interfaces := #[]
  cf := some (fileOf pool0 8 #[] #[{ accessFlags := 1, nameIndex := 5, descriptorIndex := 6, attributes := #[] }] 33 0 #[] #[])
  fields := #[]
  methods := #[k0m0]
  instanceTypes := #[]
  staticTypes := #[]
  resolved := Array.replicate 124 none
  statics := none }

def pool1 : Array CpInfo := pool [(2, .class_ 4), (1, u "java/lang/Object"), (0, u "<init>"), (0, u "()V"), (0, .integer 55296), (0, .integer 56320), (0, .integer 56319), (0, .integer 57343), (0, .methodref 12 13), (0, .class_ 14), (0, .nameAndType 15 16), (0, u "com/example/kept_triples/kepttriples/model/LabelLexerColumnPinLaw"), (0, u "draw"), (0, u "(I)C"), (0, .class_ 18), (0, u "java/lang/String"), (0, .methodref 17 20), (0, .nameAndType 5 21), (0, u "([C)V"), (0, .integer 2147483647), (0, .class_ 24), (0, u "com/example/kept_triples/kepttriples/model/LabelLexer"), (0, .string 26), (0, u "label"), (0, .methodref 23 28), (0, .nameAndType 5 29), (0, u "(Ljava/lang/String;Ljava/lang/String;)V"), (0, .methodref 23 31), (0, .nameAndType 32 33), (0, u "column"), (0, u "(I)I"), (0, .methodref 12 35), (0, .nameAndType 36 37), (0, u "pair"), (0, u "(CC)Z"), (3, u "law"), (0, u "(IIIII)Z")] 4

def k1m0 : Method := { name := "<init>", desc := "()V", sig := { parameters := [], returnType := none }, accessFlags := 2, code := none }
def k1c1 : Code := { maxStack := 3, maxLocals := 3, code := method_2_code, exceptionTable := #[], attributes := #[] }
def k1m1 : Method := { name := "draw", desc := "(I)C", sig := { parameters := [.int], returnType := some .char }, accessFlags := 10, code := some k1c1 }
def k1c2 : Code := { maxStack := 2, maxLocals := 2, code := method_3_code, exceptionTable := #[], attributes := #[] }
def k1m2 : Method := { name := "pair", desc := "(CC)Z", sig := { parameters := [.char, .char], returnType := some .boolean }, accessFlags := 10, code := some k1c2 }
def k1c3 : Code := { maxStack := 4, maxLocals := 12, code := code, exceptionTable := #[], attributes := #[] }
def k1m3 : Method := { name := "law", desc := "(IIIII)Z", sig := { parameters := [.int, .int, .int, .int, .int], returnType := some .boolean }, accessFlags := 9, code := some k1c3 }
/-- com/example/kept_triples/kepttriples/model/LabelLexerColumnPinLaw -/
def k1 : Class := { plain "com/example/kept_triples/kepttriples/model/LabelLexerColumnPinLaw" (some 0) with
  accessFlags := 49
  interfaces := #[]
  cf := some (fileOf pool1 12 #[] #[{ accessFlags := 2, nameIndex := 5, descriptorIndex := 6, attributes := #[] }, { accessFlags := 10, nameIndex := 15, descriptorIndex := 16, attributes := #[] }, { accessFlags := 10, nameIndex := 36, descriptorIndex := 37, attributes := #[] }, { accessFlags := 9, nameIndex := 41, descriptorIndex := 42, attributes := #[] }] 49 2 #[] #[])
  fields := #[]
  methods := #[k1m0, k1m1, k1m2, k1m3]
  instanceTypes := #[]
  staticTypes := #[]
  resolved := Array.replicate 47 none
  statics := none }

def pool2 : Array CpInfo := pool [(1, .class_ 2), (0, u "java/io/Serializable"), (0, .class_ 4), (0, u "java/lang/Object")] 2

/-- java/io/Serializable -/
def k2 : Class := { plain "java/io/Serializable" (some 0) with
  accessFlags := 1537
  interfaces := #[]
  cf := some (fileOf pool2 1 #[] #[] 1537 3 #[] #[])
  fields := #[]
  methods := #[]
  instanceTypes := #[]
  staticTypes := #[]
  resolved := Array.replicate 7 none
  statics := none }

def pool3 : Array CpInfo := pool [(1, .class_ 2), (0, u "java/lang/Comparable"), (0, .class_ 4), (0, u "java/lang/Object")] 7

/-- java/lang/Comparable -/
def k3 : Class := { plain "java/lang/Comparable" (some 0) with
  accessFlags := 1537
  interfaces := #[]
  cf := some (fileOf pool3 1 #[] #[] 1537 3 #[] #[])
  fields := #[]
  methods := #[]
  instanceTypes := #[]
  staticTypes := #[]
  resolved := Array.replicate 12 none
  statics := none }

def pool4 : Array CpInfo := pool [(2, .class_ 4), (1, u "java/lang/CharSequence"), (42, .class_ 48), (0, u "java/lang/CharSequence$1CodePointIterator"), (10, .class_ 60), (0, u "java/lang/CharSequence$1CharIterator"), (5, .class_ 67), (0, u "java/lang/Object")] 63

/-- java/lang/CharSequence -/
def k4 : Class := { plain "java/lang/CharSequence" (some 0) with
  accessFlags := 1537
  interfaces := #[]
  cf := some (fileOf pool4 2 #[.nestMembers #[47, 59]] #[] 1537 66 #[] #[])
  fields := #[]
  methods := #[]
  instanceTypes := #[]
  staticTypes := #[]
  resolved := Array.replicate 131 none
  statics := none }

def pool5 : Array CpInfo := pool [(1, .class_ 2), (0, u "java/lang/constant/Constable"), (0, .class_ 4), (0, u "java/lang/Object")] 6

/-- java/lang/constant/Constable -/
def k5 : Class := { plain "java/lang/constant/Constable" (some 0) with
  accessFlags := 1537
  interfaces := #[]
  cf := some (fileOf pool5 1 #[] #[] 1537 3 #[] #[])
  fields := #[]
  methods := #[]
  instanceTypes := #[]
  staticTypes := #[]
  resolved := Array.replicate 11 none
  statics := none }

def pool6 : Array CpInfo := pool [(1, .class_ 2), (0, u "java/lang/constant/ConstantDesc"), (0, .class_ 4), (0, u "java/lang/Object")] 32

/-- java/lang/constant/ConstantDesc -/
def k6 : Class := { plain "java/lang/constant/ConstantDesc" (some 0) with
  accessFlags := 1537
  interfaces := #[]
  cf := some (fileOf pool6 1 #[] #[] 1537 3 #[] #[])
  fields := #[]
  methods := #[]
  instanceTypes := #[]
  staticTypes := #[]
  resolved := Array.replicate 37 none
  statics := none }

def pool7 : Array CpInfo := pool [(1, .methodref 2 3), (0, .class_ 4), (0, .nameAndType 5 6), (0, u "java/lang/Object"), (0, u "<init>"), (0, u "()V"), (2, .fieldref 10 11), (0, .class_ 12), (0, .nameAndType 13 14), (0, u "java/lang/String"), (0, u "value"), (0, u "[B"), (0, .fieldref 10 16), (0, .nameAndType 17 18), (0, u "coder"), (0, u "B"), (2, u "hash"), (0, u "I"), (2, u "hashIsZero"), (0, u "Z"), (0, .methodref 10 28), (0, .nameAndType 5 29), (0, u "([CIILjava/lang/Void;)V"), (7, u "(III)I"), (0, .fieldref 10 39), (0, .nameAndType 40 26), (0, u "COMPACT_STRINGS"), (1, .class_ 44), (1, u "java/lang/StringUTF16"), (0, u "compress"), (1, .methodref 42 48), (0, .nameAndType 49 50), (0, u "coderFromArrayLen"), (0, u "([BI)B"), (28, .class_ 81), (1, u "java/util/Objects"), (15, u "([BII)I"), (44, u "()Z"), (34, .methodref 42 178), (0, .nameAndType 45 179), (0, u "([CII)[B"), (154, u "()I"), (0, .methodref 10 336), (0, .nameAndType 17 337), (0, u "()B"), (154, .methodref 10 493), (0, .nameAndType 494 142), (0, u "isLatin1"), (10, .methodref 10 506), (0, .nameAndType 507 334), (0, u "length"), (3, .methodref 79 512), (0, .nameAndType 513 37), (0, u "checkFromToIndex"), (0, .methodref 42 515), (0, .nameAndType 516 97), (0, u "codePointCount"), (58, .class_ 576), (0, u "java/lang/CharSequence"), (22, u "CASE_INSENSITIVE_ORDER"), (0, u "Ljava/util/Comparator;"), (35, u "(II)I"), (373, u "([C)V"), (90, u "serialPersistentFields"), (0, u "[Ljava/io/ObjectStreamField;"), (0, .class_ 1104), (0, u "java/lang/String$CaseInsensitiveComparator"), (1, .class_ 1107), (0, u "java/io/Serializable"), (0, .class_ 1109), (0, u "java/lang/Comparable"), (0, .class_ 1111), (0, u "java/lang/constant/Constable"), (0, .class_ 1113), (0, u "java/lang/constant/ConstantDesc"), (2, u "serialVersionUID"), (0, u "J"), (3, u "REPL"), (0, u "C"), (2, u "LATIN1"), (1, u "UTF16")] 323

def k7m0 : Method := { name := "<init>", desc := "()V", sig := { parameters := [], returnType := none }, accessFlags := 1, code := none }
def k7c1 : Code := { maxStack := 5, maxLocals := 2, code := jdk_42_method_3_code, exceptionTable := #[], attributes := #[] }
def k7m1 : Method := { name := "<init>", desc := "([C)V", sig := { parameters := [(.array .char)], returnType := none }, accessFlags := 1, code := some k7c1 }
def k7c2 : Code := { maxStack := 2, maxLocals := 1, code := jdk_42_method_54_code, exceptionTable := #[], attributes := #[] }
def k7m2 : Method := { name := "length", desc := "()I", sig := { parameters := [], returnType := some .int }, accessFlags := 1, code := some k7c2 }
def k7c3 : Code := { maxStack := 3, maxLocals := 3, code := jdk_42_method_59_code, exceptionTable := #[], attributes := #[] }
def k7m3 : Method := { name := "codePointCount", desc := "(II)I", sig := { parameters := [.int, .int], returnType := some .int }, accessFlags := 1, code := some k7c3 }
def k7c4 : Code := { maxStack := 4, maxLocals := 6, code := jdk_42_method_149_code, exceptionTable := #[], attributes := #[] }
def k7m4 : Method := { name := "<init>", desc := "([CIILjava/lang/Void;)V", sig := { parameters := [(.array .char), .int, .int, (.object "java/lang/Void")], returnType := none }, accessFlags := 2, code := some k7c4 }
def k7c5 : Code := { maxStack := 1, maxLocals := 1, code := jdk_42_method_152_code, exceptionTable := #[], attributes := #[] }
def k7m5 : Method := { name := "coder", desc := "()B", sig := { parameters := [], returnType := some .byte }, accessFlags := 0, code := some k7c5 }
def k7c6 : Code := { maxStack := 1, maxLocals := 1, code := jdk_42_method_154_code, exceptionTable := #[], attributes := #[] }
def k7m6 : Method := { name := "isLatin1", desc := "()Z", sig := { parameters := [], returnType := some .boolean }, accessFlags := 0, code := some k7c6 }
/-- java/lang/String -/
def k7 : Class := { plain "java/lang/String" (some 0) with
  accessFlags := 49
  interfaces := #[2, 3, 4, 5, 6]
  cf := some (fileOf pool7 10 #[.nestMembers #[1103]] #[{ accessFlags := 1, nameIndex := 5, descriptorIndex := 6, attributes := #[] }, { accessFlags := 1, nameIndex := 5, descriptorIndex := 1010, attributes := #[] }, { accessFlags := 1, nameIndex := 507, descriptorIndex := 334, attributes := #[] }, { accessFlags := 1, nameIndex := 516, descriptorIndex := 636, attributes := #[] }, { accessFlags := 2, nameIndex := 5, descriptorIndex := 29, attributes := #[] }, { accessFlags := 0, nameIndex := 17, descriptorIndex := 337, attributes := #[] }, { accessFlags := 0, nameIndex := 494, descriptorIndex := 142, attributes := #[] }] 49 2 #[1106, 1108, 575, 1110, 1112] #[{ accessFlags := 18, nameIndex := 13, descriptorIndex := 14, attributes := #[] }, { accessFlags := 18, nameIndex := 17, descriptorIndex := 18, attributes := #[] }, { accessFlags := 2, nameIndex := 21, descriptorIndex := 22, attributes := #[] }, { accessFlags := 2, nameIndex := 25, descriptorIndex := 26, attributes := #[] }, { accessFlags := 26, nameIndex := 1116, descriptorIndex := 1117, attributes := #[] }, { accessFlags := 24, nameIndex := 40, descriptorIndex := 26, attributes := #[] }, { accessFlags := 26, nameIndex := 1101, descriptorIndex := 1102, attributes := #[] }, { accessFlags := 26, nameIndex := 1121, descriptorIndex := 1122, attributes := #[] }, { accessFlags := 25, nameIndex := 599, descriptorIndex := 600, attributes := #[] }, { accessFlags := 24, nameIndex := 1125, descriptorIndex := 18, attributes := #[] }, { accessFlags := 24, nameIndex := 1127, descriptorIndex := 18, attributes := #[] }])
  fields := #[{ name := "value", type := (.array .byte), accessFlags := 18, slot := 0, constantValue := 0 }, { name := "coder", type := .byte, accessFlags := 18, slot := 1, constantValue := 0 }, { name := "hash", type := .int, accessFlags := 2, slot := 2, constantValue := 0 }, { name := "hashIsZero", type := .boolean, accessFlags := 2, slot := 3, constantValue := 0 }, { name := "serialVersionUID", type := .long, accessFlags := 26, slot := 0, constantValue := 0 }, { name := "COMPACT_STRINGS", type := .boolean, accessFlags := 24, slot := 1, constantValue := 0 }, { name := "serialPersistentFields", type := (.array (.object "java/io/ObjectStreamField")), accessFlags := 26, slot := 2, constantValue := 0 }, { name := "REPL", type := .char, accessFlags := 26, slot := 3, constantValue := 0 }, { name := "CASE_INSENSITIVE_ORDER", type := (.object "java/util/Comparator"), accessFlags := 25, slot := 4, constantValue := 0 }, { name := "LATIN1", type := .byte, accessFlags := 24, slot := 5, constantValue := 0 }, { name := "UTF16", type := .byte, accessFlags := 24, slot := 6, constantValue := 0 }]
  methods := #[k7m0, k7m1, k7m2, k7m3, k7m4, k7m5, k7m6]
  instanceTypes := #[(.array .byte), .byte, .int, .boolean]
  staticTypes := #[.long, .boolean, (.array (.object "java/io/ObjectStreamField")), .char, (.object "java/util/Comparator"), .byte, .byte]
  resolved := Array.replicate 1451 none
  statics := some 0 }

def pool8 : Array CpInfo := pool [(6, .class_ 8), (1, u "java/lang/Object"), (0, u "<init>"), (0, u "()V"), (0, .methodref 12 13), (0, .class_ 14), (0, .nameAndType 15 16), (0, u "java/lang/StringUTF16"), (0, u "newBytesLength"), (0, u "(I)I"), (3, .integer 1073741823), (23, .fieldref 12 45), (0, .nameAndType 46 47), (0, u "$assertionsDisabled"), (0, u "Z"), (11, .fieldref 12 60), (0, .nameAndType 61 62), (0, u "HI_BYTE_SHIFT"), (0, u "I"), (0, .fieldref 12 64), (0, .nameAndType 65 62), (0, u "LO_BYTE_SHIFT"), (5, .methodref 12 72), (0, .nameAndType 73 74), (0, u "getChar"), (0, u "([BI)C"), (0, .methodref 76 77), (0, .class_ 78), (0, .nameAndType 79 80), (0, u "java/lang/Character"), (0, u "isHighSurrogate"), (0, u "(C)Z"), (0, .methodref 76 82), (0, .nameAndType 83 80), (0, u "isLowSurrogate"), (7, u "([BIIZ)I"), (8, .methodref 12 101), (0, .nameAndType 102 91), (0, u "codePointCount"), (4, .methodref 12 108), (0, .nameAndType 109 110), (0, u "newBytesFor"), (0, u "(I)[B"), (0, .methodref 12 112), (0, .nameAndType 113 114), (0, u "putChar"), (0, u "([BII)V"), (0, .methodref 12 116), (0, .nameAndType 117 118), (0, u "compress"), (0, u "([CI[BII)I"), (0, .methodref 12 120), (0, .nameAndType 121 122), (0, u "toBytes"), (0, u "([CII)[B"), (127, u "([BII)I"), (10, u "coderFromArrayLen"), (0, u "([BI)B"), (106, .class_ 371), (1, u "java/lang/StringUTF16$LinesSpliterator"), (58, u "MAX_LENGTH"), (196, .class_ 628), (0, u "java/lang/StringUTF16$CodePointsSpliterator"), (0, .class_ 630), (0, u "java/lang/StringUTF16$CharsSpliterator")] 4

def k8m0 : Method := { name := "<init>", desc := "()V", sig := { parameters := [], returnType := none }, accessFlags := 0, code := none }
def k8c1 : Code := { maxStack := 1, maxLocals := 1, code := jdk_52_method_2_code, exceptionTable := #[], attributes := #[] }
def k8m1 : Method := { name := "newBytesFor", desc := "(I)[B", sig := { parameters := [.int], returnType := some (.array .byte) }, accessFlags := 9, code := some k8c1 }
def k8c2 : Code := { maxStack := 4, maxLocals := 1, code := jdk_52_method_3_code, exceptionTable := #[], attributes := #[] }
def k8m2 : Method := { name := "newBytesLength", desc := "(I)I", sig := { parameters := [.int], returnType := some .int }, accessFlags := 9, code := some k8c2 }
def k8c3 : Code := { maxStack := 4, maxLocals := 3, code := jdk_52_method_4_code, exceptionTable := #[], attributes := #[] }
def k8m3 : Method := { name := "putChar", desc := "([BII)V", sig := { parameters := [(.array .byte), .int, .int], returnType := none }, accessFlags := 8, code := some k8c3 }
def k8c4 : Code := { maxStack := 3, maxLocals := 2, code := jdk_52_method_5_code, exceptionTable := #[], attributes := #[] }
def k8m4 : Method := { name := "getChar", desc := "([BI)C", sig := { parameters := [(.array .byte), .int], returnType := some .char }, accessFlags := 8, code := some k8c4 }
def k8c5 : Code := { maxStack := 3, maxLocals := 6, code := jdk_52_method_11_code, exceptionTable := #[], attributes := #[] }
def k8m5 : Method := { name := "codePointCount", desc := "([BIIZ)I", sig := { parameters := [(.array .byte), .int, .int, .boolean], returnType := some .int }, accessFlags := 10, code := some k8c5 }
def k8c6 : Code := { maxStack := 4, maxLocals := 3, code := jdk_52_method_12_code, exceptionTable := #[], attributes := #[] }
def k8m6 : Method := { name := "codePointCount", desc := "([BII)I", sig := { parameters := [(.array .byte), .int, .int], returnType := some .int }, accessFlags := 9, code := some k8c6 }
def k8c7 : Code := { maxStack := 4, maxLocals := 5, code := jdk_52_method_14_code, exceptionTable := #[], attributes := #[] }
def k8m7 : Method := { name := "toBytes", desc := "([CII)[B", sig := { parameters := [(.array .char), .int, .int], returnType := some (.array .byte) }, accessFlags := 9, code := some k8c7 }
def k8c8 : Code := { maxStack := 2, maxLocals := 2, code := jdk_52_method_15_code, exceptionTable := #[], attributes := #[] }
def k8m8 : Method := { name := "coderFromArrayLen", desc := "([BI)B", sig := { parameters := [(.array .byte), .int], returnType := some .byte }, accessFlags := 8, code := some k8c8 }
def k8c9 : Code := { maxStack := 5, maxLocals := 6, code := jdk_52_method_16_code, exceptionTable := #[], attributes := #[] }
def k8m9 : Method := { name := "compress", desc := "([CII)[B", sig := { parameters := [(.array .char), .int, .int], returnType := some (.array .byte) }, accessFlags := 9, code := some k8c9 }
def k8c10 : Code := { maxStack := 3, maxLocals := 7, code := jdk_52_method_21_code, exceptionTable := #[], attributes := #[] }
def k8m10 : Method := { name := "compress", desc := "([CI[BII)I", sig := { parameters := [(.array .char), .int, (.array .byte), .int, .int], returnType := some .int }, accessFlags := 9, code := some k8c10 }
/-- java/lang/StringUTF16 -/
def k8 : Class := { plain "java/lang/StringUTF16" (some 0) with
  accessFlags := 48
  interfaces := #[]
  cf := some (fileOf pool8 12 #[.nestMembers #[627, 629, 369]] #[{ accessFlags := 0, nameIndex := 9, descriptorIndex := 10, attributes := #[] }, { accessFlags := 9, nameIndex := 109, descriptorIndex := 110, attributes := #[] }, { accessFlags := 9, nameIndex := 15, descriptorIndex := 16, attributes := #[] }, { accessFlags := 8, nameIndex := 113, descriptorIndex := 114, attributes := #[] }, { accessFlags := 8, nameIndex := 73, descriptorIndex := 74, attributes := #[] }, { accessFlags := 10, nameIndex := 102, descriptorIndex := 91, attributes := #[] }, { accessFlags := 9, nameIndex := 102, descriptorIndex := 250, attributes := #[] }, { accessFlags := 9, nameIndex := 121, descriptorIndex := 122, attributes := #[] }, { accessFlags := 8, nameIndex := 261, descriptorIndex := 262, attributes := #[] }, { accessFlags := 9, nameIndex := 117, descriptorIndex := 122, attributes := #[] }, { accessFlags := 9, nameIndex := 117, descriptorIndex := 118, attributes := #[] }] 48 6 #[] #[{ accessFlags := 26, nameIndex := 61, descriptorIndex := 62, attributes := #[] }, { accessFlags := 26, nameIndex := 65, descriptorIndex := 62, attributes := #[] }, { accessFlags := 24, nameIndex := 430, descriptorIndex := 62, attributes := #[] }, { accessFlags := 4120, nameIndex := 46, descriptorIndex := 47, attributes := #[] }])
  fields := #[{ name := "HI_BYTE_SHIFT", type := .int, accessFlags := 26, slot := 0, constantValue := 0 }, { name := "LO_BYTE_SHIFT", type := .int, accessFlags := 26, slot := 1, constantValue := 0 }, { name := "MAX_LENGTH", type := .int, accessFlags := 24, slot := 2, constantValue := 0 }, { name := "$assertionsDisabled", type := .boolean, accessFlags := 4120, slot := 3, constantValue := 0 }]
  methods := #[k8m0, k8m1, k8m2, k8m3, k8m4, k8m5, k8m6, k8m7, k8m8, k8m9, k8m10]
  instanceTypes := #[]
  staticTypes := #[.int, .int, .int, .boolean]
  resolved := Array.replicate 635 none
  statics := some 1 }

def pool9 : Array CpInfo := pool [(1, .methodref 2 3), (0, .class_ 4), (0, .nameAndType 5 6), (0, u "java/lang/Object"), (0, u "<init>"), (0, u "()V"), (0, .fieldref 8 9), (0, .class_ 10), (0, .nameAndType 11 12), (0, u "com/example/kept_triples/kepttriples/model/LabelLexer"), (0, u "input"), (0, u "Ljava/lang/String;"), (0, .fieldref 8 14), (0, .nameAndType 15 12), (0, u "subject"), (2, u "offset"), (0, u "I"), (1, .class_ 23), (1, u "java/lang/String"), (5, u "(I)I"), (9, .class_ 40), (0, u "com/example/kept_triples/kepttriples/model/LabelLexer$Token"), (1, .class_ 44), (1, u "com/example/kept_triples/kepttriples/model/LabelLexer$Kind"), (72, u "column"), (3, .methodref 21 122), (0, .nameAndType 123 124), (0, u "codePointCount"), (0, u "(II)I"), (127, u "WORD_INNER_ONLY"), (1, u "HEX_DIGITS"), (0, u "(Ljava/lang/String;Ljava/lang/String;)V")] 67

def k9c0 : Code := { maxStack := 2, maxLocals := 3, code := prog_4_method_1_code, exceptionTable := #[], attributes := #[] }
def k9m0 : Method := { name := "<init>", desc := "(Ljava/lang/String;Ljava/lang/String;)V", sig := { parameters := [(.object "java/lang/String"), (.object "java/lang/String")], returnType := none }, accessFlags := 0, code := some k9c0 }
def k9c1 : Code := { maxStack := 3, maxLocals := 2, code := prog_4_method_4_code, exceptionTable := #[], attributes := #[] }
def k9m1 : Method := { name := "column", desc := "(I)I", sig := { parameters := [.int], returnType := some .int }, accessFlags := 0, code := some k9c1 }
/-- com/example/kept_triples/kepttriples/model/LabelLexer -/
def k9 : Class := { plain "com/example/kept_triples/kepttriples/model/LabelLexer" (some 0) with
  accessFlags := 48
  interfaces := #[]
  cf := some (fileOf pool9 8 #[.nestMembers #[39, 42]] #[{ accessFlags := 0, nameIndex := 5, descriptorIndex := 255, attributes := #[] }, { accessFlags := 0, nameIndex := 117, descriptorIndex := 29, attributes := #[] }] 48 2 #[] #[{ accessFlags := 26, nameIndex := 252, descriptorIndex := 12, attributes := #[] }, { accessFlags := 26, nameIndex := 254, descriptorIndex := 12, attributes := #[] }, { accessFlags := 18, nameIndex := 11, descriptorIndex := 12, attributes := #[] }, { accessFlags := 18, nameIndex := 15, descriptorIndex := 12, attributes := #[] }, { accessFlags := 2, nameIndex := 18, descriptorIndex := 19, attributes := #[] }])
  fields := #[{ name := "WORD_INNER_ONLY", type := (.object "java/lang/String"), accessFlags := 26, slot := 0, constantValue := 0 }, { name := "HEX_DIGITS", type := (.object "java/lang/String"), accessFlags := 26, slot := 1, constantValue := 0 }, { name := "input", type := (.object "java/lang/String"), accessFlags := 18, slot := 0, constantValue := 0 }, { name := "subject", type := (.object "java/lang/String"), accessFlags := 18, slot := 1, constantValue := 0 }, { name := "offset", type := .int, accessFlags := 2, slot := 2, constantValue := 0 }]
  methods := #[k9m0, k9m1]
  instanceTypes := #[(.object "java/lang/String"), (.object "java/lang/String"), .int]
  staticTypes := #[(.object "java/lang/String"), (.object "java/lang/String")]
  resolved := Array.replicate 323 none
  statics := none }

def pool10 : Array CpInfo := pool [(2, .class_ 4), (1, u "java/lang/Object"), (0, u "<init>"), (0, u "()V"), (35, .class_ 44), (1, u "java/util/Objects"), (61, .class_ 108), (1, u "jdk/internal/util/Preconditions"), (2, .methodref 106 112), (0, .nameAndType 113 114), (0, u "checkFromToIndex"), (0, u "(IIILjava/util/function/BiFunction;)I"), (60, u "(III)I")] 8

def k10m0 : Method := { name := "<init>", desc := "()V", sig := { parameters := [], returnType := none }, accessFlags := 2, code := none }
def k10c1 : Code := { maxStack := 4, maxLocals := 3, code := jdk_31_method_18_code, exceptionTable := #[], attributes := #[] }
def k10m1 : Method := { name := "checkFromToIndex", desc := "(III)I", sig := { parameters := [.int, .int, .int], returnType := some .int }, accessFlags := 9, code := some k10c1 }
/-- java/util/Objects -/
def k10 : Class := { plain "java/util/Objects" (some 0) with
  accessFlags := 49
  interfaces := #[]
  cf := some (fileOf pool10 42 #[] #[{ accessFlags := 2, nameIndex := 5, descriptorIndex := 6, attributes := #[] }, { accessFlags := 9, nameIndex := 113, descriptorIndex := 175, attributes := #[] }] 49 2 #[] #[])
  fields := #[]
  methods := #[k10m0, k10m1]
  instanceTypes := #[]
  staticTypes := #[]
  resolved := Array.replicate 184 none
  statics := none }

def pool11 : Array CpInfo := pool [(2, .class_ 4), (1, u "java/lang/Object"), (0, u "<init>"), (0, u "()V"), (17, .class_ 26), (1, u "jdk/internal/util/Preconditions"), (20, u "checkFromToIndex"), (7, .class_ 56), (0, u "jdk/internal/util/Preconditions$4"), (57, .class_ 115), (0, u "jdk/internal/util/Preconditions$1"), (7, u "SIOOBE_FORMATTER"), (0, u "Ljava/util/function/BiFunction;"), (0, .class_ 126), (0, u "jdk/internal/util/Preconditions$2"), (3, u "AIOOBE_FORMATTER"), (0, .class_ 132), (0, u "jdk/internal/util/Preconditions$3"), (3, u "IOOBE_FORMATTER"), (46, u "(IIILjava/util/function/BiFunction;)I")] 10

def k11m0 : Method := { name := "<init>", desc := "()V", sig := { parameters := [], returnType := none }, accessFlags := 1, code := none }
def k11c1 : Code := { maxStack := 4, maxLocals := 4, code := jdk_41_method_12_code, exceptionTable := #[], attributes := #[] }
def k11m1 : Method := { name := "checkFromToIndex", desc := "(IIILjava/util/function/BiFunction;)I", sig := { parameters := [.int, .int, .int, (.object "java/util/function/BiFunction")], returnType := some .int }, accessFlags := 9, code := some k11c1 }
/-- jdk/internal/util/Preconditions -/
def k11 : Class := { plain "jdk/internal/util/Preconditions" (some 0) with
  accessFlags := 33
  interfaces := #[]
  cf := some (fileOf pool11 24 #[.nestMembers #[55, 131, 125, 114]] #[{ accessFlags := 1, nameIndex := 5, descriptorIndex := 6, attributes := #[] }, { accessFlags := 9, nameIndex := 47, descriptorIndex := 183, attributes := #[] }] 33 2 #[] #[{ accessFlags := 25, nameIndex := 123, descriptorIndex := 124, attributes := #[] }, { accessFlags := 25, nameIndex := 130, descriptorIndex := 124, attributes := #[] }, { accessFlags := 25, nameIndex := 136, descriptorIndex := 124, attributes := #[] }])
  fields := #[{ name := "SIOOBE_FORMATTER", type := (.object "java/util/function/BiFunction"), accessFlags := 25, slot := 0, constantValue := 0 }, { name := "AIOOBE_FORMATTER", type := (.object "java/util/function/BiFunction"), accessFlags := 25, slot := 1, constantValue := 0 }, { name := "IOOBE_FORMATTER", type := (.object "java/util/function/BiFunction"), accessFlags := 25, slot := 2, constantValue := 0 }]
  methods := #[k11m0, k11m1]
  instanceTypes := #[]
  staticTypes := #[(.object "java/util/function/BiFunction"), (.object "java/util/function/BiFunction"), (.object "java/util/function/BiFunction")]
  resolved := Array.replicate 194 none
  statics := some 2 }

def pool12 : Array CpInfo := pool [(1, .class_ 2), (0, u "java/lang/Character"), (18, u "value"), (0, u "C"), (19, .class_ 44), (1, u "java/lang/Object"), (3, .class_ 50), (1, u "java/lang/Character$CharacterCache"), (24, .integer 55296), (0, .integer 56320), (0, .integer 57344), (2, u "isHighSurrogate"), (0, u "(C)Z"), (2, u "isLowSurrogate"), (199, u "$assertionsDisabled"), (0, u "Z"), (21, .class_ 309), (1, u "java/lang/Character$UnicodeBlock"), (73, u "TYPE"), (0, u "Ljava/lang/Class;"), (0, .class_ 386), (0, u "java/io/Serializable"), (0, .class_ 388), (0, u "java/lang/Comparable"), (0, .class_ 390), (0, u "java/lang/constant/Constable"), (0, u "MIN_RADIX"), (0, u "I"), (2, u "MAX_RADIX"), (1, u "MIN_VALUE"), (1, u "MAX_VALUE"), (3, u "UNASSIGNED"), (0, u "B"), (0, u "UPPERCASE_LETTER"), (1, u "LOWERCASE_LETTER"), (0, u "TITLECASE_LETTER"), (1, u "MODIFIER_LETTER"), (1, u "OTHER_LETTER"), (1, u "NON_SPACING_MARK"), (1, u "ENCLOSING_MARK"), (1, u "COMBINING_SPACING_MARK"), (1, u "DECIMAL_DIGIT_NUMBER"), (1, u "LETTER_NUMBER"), (1, u "OTHER_NUMBER"), (1, u "SPACE_SEPARATOR"), (1, u "LINE_SEPARATOR"), (1, u "PARAGRAPH_SEPARATOR"), (1, u "CONTROL"), (1, u "FORMAT"), (1, u "PRIVATE_USE"), (1, u "SURROGATE"), (1, u "DASH_PUNCTUATION"), (1, u "START_PUNCTUATION"), (1, u "END_PUNCTUATION"), (1, u "CONNECTOR_PUNCTUATION"), (1, u "OTHER_PUNCTUATION"), (1, u "MATH_SYMBOL"), (1, u "CURRENCY_SYMBOL"), (1, u "MODIFIER_SYMBOL"), (1, u "OTHER_SYMBOL"), (1, u "INITIAL_QUOTE_PUNCTUATION"), (1, u "FINAL_QUOTE_PUNCTUATION"), (1, u "ERROR"), (1, u "DIRECTIONALITY_UNDEFINED"), (0, u "DIRECTIONALITY_LEFT_TO_RIGHT"), (0, u "DIRECTIONALITY_RIGHT_TO_LEFT"), (0, u "DIRECTIONALITY_RIGHT_TO_LEFT_ARABIC"), (0, u "DIRECTIONALITY_EUROPEAN_NUMBER"), (0, u "DIRECTIONALITY_EUROPEAN_NUMBER_SEPARATOR"), (0, u "DIRECTIONALITY_EUROPEAN_NUMBER_TERMINATOR"), (0, u "DIRECTIONALITY_ARABIC_NUMBER"), (0, u "DIRECTIONALITY_COMMON_NUMBER_SEPARATOR"), (0, u "DIRECTIONALITY_NONSPACING_MARK"), (0, u "DIRECTIONALITY_BOUNDARY_NEUTRAL"), (0, u "DIRECTIONALITY_PARAGRAPH_SEPARATOR"), (0, u "DIRECTIONALITY_SEGMENT_SEPARATOR"), (0, u "DIRECTIONALITY_WHITESPACE"), (0, u "DIRECTIONALITY_OTHER_NEUTRALS"), (0, u "DIRECTIONALITY_LEFT_TO_RIGHT_EMBEDDING"), (0, u "DIRECTIONALITY_LEFT_TO_RIGHT_OVERRIDE"), (0, u "DIRECTIONALITY_RIGHT_TO_LEFT_EMBEDDING"), (0, u "DIRECTIONALITY_RIGHT_TO_LEFT_OVERRIDE"), (1, u "DIRECTIONALITY_POP_DIRECTIONAL_FORMAT"), (0, u "DIRECTIONALITY_LEFT_TO_RIGHT_ISOLATE"), (0, u "DIRECTIONALITY_RIGHT_TO_LEFT_ISOLATE"), (0, u "DIRECTIONALITY_FIRST_STRONG_ISOLATE"), (0, u "DIRECTIONALITY_POP_DIRECTIONAL_ISOLATE"), (0, u "MIN_HIGH_SURROGATE"), (0, u "MAX_HIGH_SURROGATE"), (1, u "MIN_LOW_SURROGATE"), (0, u "MAX_LOW_SURROGATE"), (1, u "MIN_SURROGATE"), (0, u "MAX_SURROGATE"), (0, u "MIN_SUPPLEMENTARY_CODE_POINT"), (0, u "MIN_CODE_POINT"), (0, u "MAX_CODE_POINT"), (1, u "serialVersionUID"), (0, u "J"), (2, u "SIZE"), (0, u "BYTES"), (88, .class_ 596), (0, u "java/lang/Character$UnicodeScript"), (0, .class_ 598), (0, u "java/lang/Character$Subset")] 5

def k12c0 : Code := { maxStack := 2, maxLocals := 1, code := jdk_89_method_14_code, exceptionTable := #[], attributes := #[] }
def k12m0 : Method := { name := "isHighSurrogate", desc := "(C)Z", sig := { parameters := [.char], returnType := some .boolean }, accessFlags := 9, code := some k12c0 }
def k12c1 : Code := { maxStack := 2, maxLocals := 1, code := jdk_89_method_15_code, exceptionTable := #[], attributes := #[] }
def k12m1 : Method := { name := "isLowSurrogate", desc := "(C)Z", sig := { parameters := [.char], returnType := some .boolean }, accessFlags := 9, code := some k12c1 }
/-- java/lang/Character -/
def k12 : Class := { plain "java/lang/Character" (some 0) with
  accessFlags := 49
  interfaces := #[2, 3, 5]
  cf := some (fileOf pool12 1 #[.nestMembers #[48, 595, 307, 597]] #[{ accessFlags := 9, nameIndex := 80, descriptorIndex := 81, attributes := #[] }, { accessFlags := 9, nameIndex := 84, descriptorIndex := 81, attributes := #[] }] 49 42 #[385, 387, 389] #[{ accessFlags := 25, nameIndex := 391, descriptorIndex := 392, attributes := #[] }, { accessFlags := 25, nameIndex := 395, descriptorIndex := 392, attributes := #[] }, { accessFlags := 25, nameIndex := 397, descriptorIndex := 22, attributes := #[] }, { accessFlags := 25, nameIndex := 399, descriptorIndex := 22, attributes := #[] }, { accessFlags := 25, nameIndex := 383, descriptorIndex := 384, attributes := #[] }, { accessFlags := 25, nameIndex := 403, descriptorIndex := 404, attributes := #[] }, { accessFlags := 25, nameIndex := 405, descriptorIndex := 404, attributes := #[] }, { accessFlags := 25, nameIndex := 407, descriptorIndex := 404, attributes := #[] }, { accessFlags := 25, nameIndex := 408, descriptorIndex := 404, attributes := #[] }, { accessFlags := 25, nameIndex := 410, descriptorIndex := 404, attributes := #[] }, { accessFlags := 25, nameIndex := 412, descriptorIndex := 404, attributes := #[] }, { accessFlags := 25, nameIndex := 414, descriptorIndex := 404, attributes := #[] }, { accessFlags := 25, nameIndex := 416, descriptorIndex := 404, attributes := #[] }, { accessFlags := 25, nameIndex := 418, descriptorIndex := 404, attributes := #[] }, { accessFlags := 25, nameIndex := 420, descriptorIndex := 404, attributes := #[] }, { accessFlags := 25, nameIndex := 422, descriptorIndex := 404, attributes := #[] }, { accessFlags := 25, nameIndex := 424, descriptorIndex := 404, attributes := #[] }, { accessFlags := 25, nameIndex := 426, descriptorIndex := 404, attributes := #[] }, { accessFlags := 25, nameIndex := 428, descriptorIndex := 404, attributes := #[] }, { accessFlags := 25, nameIndex := 430, descriptorIndex := 404, attributes := #[] }, { accessFlags := 25, nameIndex := 432, descriptorIndex := 404, attributes := #[] }, { accessFlags := 25, nameIndex := 434, descriptorIndex := 404, attributes := #[] }, { accessFlags := 25, nameIndex := 436, descriptorIndex := 404, attributes := #[] }, { accessFlags := 25, nameIndex := 438, descriptorIndex := 404, attributes := #[] }, { accessFlags := 25, nameIndex := 440, descriptorIndex := 404, attributes := #[] }, { accessFlags := 25, nameIndex := 442, descriptorIndex := 404, attributes := #[] }, { accessFlags := 25, nameIndex := 444, descriptorIndex := 404, attributes := #[] }, { accessFlags := 25, nameIndex := 446, descriptorIndex := 404, attributes := #[] }, { accessFlags := 25, nameIndex := 448, descriptorIndex := 404, attributes := #[] }, { accessFlags := 25, nameIndex := 450, descriptorIndex := 404, attributes := #[] }, { accessFlags := 25, nameIndex := 452, descriptorIndex := 404, attributes := #[] }, { accessFlags := 25, nameIndex := 454, descriptorIndex := 404, attributes := #[] }, { accessFlags := 25, nameIndex := 456, descriptorIndex := 404, attributes := #[] }, { accessFlags := 25, nameIndex := 458, descriptorIndex := 404, attributes := #[] }, { accessFlags := 25, nameIndex := 460, descriptorIndex := 404, attributes := #[] }, { accessFlags := 24, nameIndex := 462, descriptorIndex := 392, attributes := #[] }, { accessFlags := 25, nameIndex := 464, descriptorIndex := 404, attributes := #[] }, { accessFlags := 25, nameIndex := 465, descriptorIndex := 404, attributes := #[] }, { accessFlags := 25, nameIndex := 466, descriptorIndex := 404, attributes := #[] }, { accessFlags := 25, nameIndex := 467, descriptorIndex := 404, attributes := #[] }, { accessFlags := 25, nameIndex := 468, descriptorIndex := 404, attributes := #[] }, { accessFlags := 25, nameIndex := 469, descriptorIndex := 404, attributes := #[] }, { accessFlags := 25, nameIndex := 470, descriptorIndex := 404, attributes := #[] }, { accessFlags := 25, nameIndex := 471, descriptorIndex := 404, attributes := #[] }, { accessFlags := 25, nameIndex := 472, descriptorIndex := 404, attributes := #[] }, { accessFlags := 25, nameIndex := 473, descriptorIndex := 404, attributes := #[] }, { accessFlags := 25, nameIndex := 474, descriptorIndex := 404, attributes := #[] }, { accessFlags := 25, nameIndex := 475, descriptorIndex := 404, attributes := #[] }, { accessFlags := 25, nameIndex := 476, descriptorIndex := 404, attributes := #[] }, { accessFlags := 25, nameIndex := 477, descriptorIndex := 404, attributes := #[] }, { accessFlags := 25, nameIndex := 478, descriptorIndex := 404, attributes := #[] }, { accessFlags := 25, nameIndex := 479, descriptorIndex := 404, attributes := #[] }, { accessFlags := 25, nameIndex := 480, descriptorIndex := 404, attributes := #[] }, { accessFlags := 25, nameIndex := 481, descriptorIndex := 404, attributes := #[] }, { accessFlags := 25, nameIndex := 482, descriptorIndex := 404, attributes := #[] }, { accessFlags := 25, nameIndex := 484, descriptorIndex := 404, attributes := #[] }, { accessFlags := 25, nameIndex := 485, descriptorIndex := 404, attributes := #[] }, { accessFlags := 25, nameIndex := 486, descriptorIndex := 404, attributes := #[] }, { accessFlags := 25, nameIndex := 487, descriptorIndex := 404, attributes := #[] }, { accessFlags := 25, nameIndex := 488, descriptorIndex := 404, attributes := #[] }, { accessFlags := 25, nameIndex := 489, descriptorIndex := 22, attributes := #[] }, { accessFlags := 25, nameIndex := 490, descriptorIndex := 22, attributes := #[] }, { accessFlags := 25, nameIndex := 492, descriptorIndex := 22, attributes := #[] }, { accessFlags := 25, nameIndex := 493, descriptorIndex := 22, attributes := #[] }, { accessFlags := 25, nameIndex := 495, descriptorIndex := 22, attributes := #[] }, { accessFlags := 25, nameIndex := 496, descriptorIndex := 22, attributes := #[] }, { accessFlags := 25, nameIndex := 497, descriptorIndex := 392, attributes := #[] }, { accessFlags := 25, nameIndex := 498, descriptorIndex := 392, attributes := #[] }, { accessFlags := 25, nameIndex := 499, descriptorIndex := 392, attributes := #[] }, { accessFlags := 18, nameIndex := 21, descriptorIndex := 22, attributes := #[] }, { accessFlags := 26, nameIndex := 501, descriptorIndex := 502, attributes := #[] }, { accessFlags := 25, nameIndex := 505, descriptorIndex := 392, attributes := #[] }, { accessFlags := 25, nameIndex := 506, descriptorIndex := 392, attributes := #[] }, { accessFlags := 4120, nameIndex := 284, descriptorIndex := 285, attributes := #[] }])
  fields := #[{ name := "MIN_RADIX", type := .int, accessFlags := 25, slot := 0, constantValue := 0 }, { name := "MAX_RADIX", type := .int, accessFlags := 25, slot := 1, constantValue := 0 }, { name := "MIN_VALUE", type := .char, accessFlags := 25, slot := 2, constantValue := 0 }, { name := "MAX_VALUE", type := .char, accessFlags := 25, slot := 3, constantValue := 0 }, { name := "TYPE", type := (.object "java/lang/Class"), accessFlags := 25, slot := 4, constantValue := 0 }, { name := "UNASSIGNED", type := .byte, accessFlags := 25, slot := 5, constantValue := 0 }, { name := "UPPERCASE_LETTER", type := .byte, accessFlags := 25, slot := 6, constantValue := 0 }, { name := "LOWERCASE_LETTER", type := .byte, accessFlags := 25, slot := 7, constantValue := 0 }, { name := "TITLECASE_LETTER", type := .byte, accessFlags := 25, slot := 8, constantValue := 0 }, { name := "MODIFIER_LETTER", type := .byte, accessFlags := 25, slot := 9, constantValue := 0 }, { name := "OTHER_LETTER", type := .byte, accessFlags := 25, slot := 10, constantValue := 0 }, { name := "NON_SPACING_MARK", type := .byte, accessFlags := 25, slot := 11, constantValue := 0 }, { name := "ENCLOSING_MARK", type := .byte, accessFlags := 25, slot := 12, constantValue := 0 }, { name := "COMBINING_SPACING_MARK", type := .byte, accessFlags := 25, slot := 13, constantValue := 0 }, { name := "DECIMAL_DIGIT_NUMBER", type := .byte, accessFlags := 25, slot := 14, constantValue := 0 }, { name := "LETTER_NUMBER", type := .byte, accessFlags := 25, slot := 15, constantValue := 0 }, { name := "OTHER_NUMBER", type := .byte, accessFlags := 25, slot := 16, constantValue := 0 }, { name := "SPACE_SEPARATOR", type := .byte, accessFlags := 25, slot := 17, constantValue := 0 }, { name := "LINE_SEPARATOR", type := .byte, accessFlags := 25, slot := 18, constantValue := 0 }, { name := "PARAGRAPH_SEPARATOR", type := .byte, accessFlags := 25, slot := 19, constantValue := 0 }, { name := "CONTROL", type := .byte, accessFlags := 25, slot := 20, constantValue := 0 }, { name := "FORMAT", type := .byte, accessFlags := 25, slot := 21, constantValue := 0 }, { name := "PRIVATE_USE", type := .byte, accessFlags := 25, slot := 22, constantValue := 0 }, { name := "SURROGATE", type := .byte, accessFlags := 25, slot := 23, constantValue := 0 }, { name := "DASH_PUNCTUATION", type := .byte, accessFlags := 25, slot := 24, constantValue := 0 }, { name := "START_PUNCTUATION", type := .byte, accessFlags := 25, slot := 25, constantValue := 0 }, { name := "END_PUNCTUATION", type := .byte, accessFlags := 25, slot := 26, constantValue := 0 }, { name := "CONNECTOR_PUNCTUATION", type := .byte, accessFlags := 25, slot := 27, constantValue := 0 }, { name := "OTHER_PUNCTUATION", type := .byte, accessFlags := 25, slot := 28, constantValue := 0 }, { name := "MATH_SYMBOL", type := .byte, accessFlags := 25, slot := 29, constantValue := 0 }, { name := "CURRENCY_SYMBOL", type := .byte, accessFlags := 25, slot := 30, constantValue := 0 }, { name := "MODIFIER_SYMBOL", type := .byte, accessFlags := 25, slot := 31, constantValue := 0 }, { name := "OTHER_SYMBOL", type := .byte, accessFlags := 25, slot := 32, constantValue := 0 }, { name := "INITIAL_QUOTE_PUNCTUATION", type := .byte, accessFlags := 25, slot := 33, constantValue := 0 }, { name := "FINAL_QUOTE_PUNCTUATION", type := .byte, accessFlags := 25, slot := 34, constantValue := 0 }, { name := "ERROR", type := .int, accessFlags := 24, slot := 35, constantValue := 0 }, { name := "DIRECTIONALITY_UNDEFINED", type := .byte, accessFlags := 25, slot := 36, constantValue := 0 }, { name := "DIRECTIONALITY_LEFT_TO_RIGHT", type := .byte, accessFlags := 25, slot := 37, constantValue := 0 }, { name := "DIRECTIONALITY_RIGHT_TO_LEFT", type := .byte, accessFlags := 25, slot := 38, constantValue := 0 }, { name := "DIRECTIONALITY_RIGHT_TO_LEFT_ARABIC", type := .byte, accessFlags := 25, slot := 39, constantValue := 0 }, { name := "DIRECTIONALITY_EUROPEAN_NUMBER", type := .byte, accessFlags := 25, slot := 40, constantValue := 0 }, { name := "DIRECTIONALITY_EUROPEAN_NUMBER_SEPARATOR", type := .byte, accessFlags := 25, slot := 41, constantValue := 0 }, { name := "DIRECTIONALITY_EUROPEAN_NUMBER_TERMINATOR", type := .byte, accessFlags := 25, slot := 42, constantValue := 0 }, { name := "DIRECTIONALITY_ARABIC_NUMBER", type := .byte, accessFlags := 25, slot := 43, constantValue := 0 }, { name := "DIRECTIONALITY_COMMON_NUMBER_SEPARATOR", type := .byte, accessFlags := 25, slot := 44, constantValue := 0 }, { name := "DIRECTIONALITY_NONSPACING_MARK", type := .byte, accessFlags := 25, slot := 45, constantValue := 0 }, { name := "DIRECTIONALITY_BOUNDARY_NEUTRAL", type := .byte, accessFlags := 25, slot := 46, constantValue := 0 }, { name := "DIRECTIONALITY_PARAGRAPH_SEPARATOR", type := .byte, accessFlags := 25, slot := 47, constantValue := 0 }, { name := "DIRECTIONALITY_SEGMENT_SEPARATOR", type := .byte, accessFlags := 25, slot := 48, constantValue := 0 }, { name := "DIRECTIONALITY_WHITESPACE", type := .byte, accessFlags := 25, slot := 49, constantValue := 0 }, { name := "DIRECTIONALITY_OTHER_NEUTRALS", type := .byte, accessFlags := 25, slot := 50, constantValue := 0 }, { name := "DIRECTIONALITY_LEFT_TO_RIGHT_EMBEDDING", type := .byte, accessFlags := 25, slot := 51, constantValue := 0 }, { name := "DIRECTIONALITY_LEFT_TO_RIGHT_OVERRIDE", type := .byte, accessFlags := 25, slot := 52, constantValue := 0 }, { name := "DIRECTIONALITY_RIGHT_TO_LEFT_EMBEDDING", type := .byte, accessFlags := 25, slot := 53, constantValue := 0 }, { name := "DIRECTIONALITY_RIGHT_TO_LEFT_OVERRIDE", type := .byte, accessFlags := 25, slot := 54, constantValue := 0 }, { name := "DIRECTIONALITY_POP_DIRECTIONAL_FORMAT", type := .byte, accessFlags := 25, slot := 55, constantValue := 0 }, { name := "DIRECTIONALITY_LEFT_TO_RIGHT_ISOLATE", type := .byte, accessFlags := 25, slot := 56, constantValue := 0 }, { name := "DIRECTIONALITY_RIGHT_TO_LEFT_ISOLATE", type := .byte, accessFlags := 25, slot := 57, constantValue := 0 }, { name := "DIRECTIONALITY_FIRST_STRONG_ISOLATE", type := .byte, accessFlags := 25, slot := 58, constantValue := 0 }, { name := "DIRECTIONALITY_POP_DIRECTIONAL_ISOLATE", type := .byte, accessFlags := 25, slot := 59, constantValue := 0 }, { name := "MIN_HIGH_SURROGATE", type := .char, accessFlags := 25, slot := 60, constantValue := 0 }, { name := "MAX_HIGH_SURROGATE", type := .char, accessFlags := 25, slot := 61, constantValue := 0 }, { name := "MIN_LOW_SURROGATE", type := .char, accessFlags := 25, slot := 62, constantValue := 0 }, { name := "MAX_LOW_SURROGATE", type := .char, accessFlags := 25, slot := 63, constantValue := 0 }, { name := "MIN_SURROGATE", type := .char, accessFlags := 25, slot := 64, constantValue := 0 }, { name := "MAX_SURROGATE", type := .char, accessFlags := 25, slot := 65, constantValue := 0 }, { name := "MIN_SUPPLEMENTARY_CODE_POINT", type := .int, accessFlags := 25, slot := 66, constantValue := 0 }, { name := "MIN_CODE_POINT", type := .int, accessFlags := 25, slot := 67, constantValue := 0 }, { name := "MAX_CODE_POINT", type := .int, accessFlags := 25, slot := 68, constantValue := 0 }, { name := "value", type := .char, accessFlags := 18, slot := 0, constantValue := 0 }, { name := "serialVersionUID", type := .long, accessFlags := 26, slot := 69, constantValue := 0 }, { name := "SIZE", type := .int, accessFlags := 25, slot := 70, constantValue := 0 }, { name := "BYTES", type := .int, accessFlags := 25, slot := 71, constantValue := 0 }, { name := "$assertionsDisabled", type := .boolean, accessFlags := 4120, slot := 72, constantValue := 0 }]
  methods := #[k12m0, k12m1]
  instanceTypes := #[.char]
  staticTypes := #[.int, .int, .char, .char, (.object "java/lang/Class"), .byte, .byte, .byte, .byte, .byte, .byte, .byte, .byte, .byte, .byte, .byte, .byte, .byte, .byte, .byte, .byte, .byte, .byte, .byte, .byte, .byte, .byte, .byte, .byte, .byte, .byte, .byte, .byte, .byte, .byte, .int, .byte, .byte, .byte, .byte, .byte, .byte, .byte, .byte, .byte, .byte, .byte, .byte, .byte, .byte, .byte, .byte, .byte, .byte, .byte, .byte, .byte, .byte, .byte, .byte, .char, .char, .char, .char, .char, .char, .int, .int, .int, .long, .int, .int, .boolean]
  resolved := Array.replicate 604 none
  statics := none }

def pool13 : Array CpInfo := pool [(4, .class_ 6), (1, u "java/lang/Object"), (0, u "<init>"), (0, u "()V"), (5, .class_ 16), (1, u "java/lang/StringLatin1"), (104, u "$assertionsDisabled"), (0, u "Z"), (98, .class_ 223), (1, u "java/lang/StringLatin1$LinesSpliterator"), (166, .class_ 391), (0, u "java/lang/StringLatin1$CharsSpliterator")] 3

def k13m0 : Method := { name := "<init>", desc := "()V", sig := { parameters := [], returnType := none }, accessFlags := 0, code := none }
/-- java/lang/StringLatin1 -/
def k13 : Class := { plain "java/lang/StringLatin1" (some 0) with
  accessFlags := 48
  interfaces := #[]
  cf := some (fileOf pool13 14 #[.nestMembers #[390, 221]] #[{ accessFlags := 0, nameIndex := 7, descriptorIndex := 8, attributes := #[] }] 48 4 #[] #[{ accessFlags := 4120, nameIndex := 121, descriptorIndex := 122, attributes := #[] }])
  fields := #[{ name := "$assertionsDisabled", type := .boolean, accessFlags := 4120, slot := 0, constantValue := 0 }]
  methods := #[k13m0]
  instanceTypes := #[]
  staticTypes := #[.boolean]
  resolved := Array.replicate 395 none
  statics := none }

def pool14 : Array CpInfo := pool [(9, u "<init>"), (6, .class_ 18), (1, u "java/lang/Object"), (0, u "()V"), (1, .class_ 23), (1, u "jdk/internal/util/ArraysSupport"), (0, u "LOG2_ARRAY_LONG_INDEX_SCALE"), (0, u "I"), (2, u "U"), (0, u "Ljdk/internal/misc/Unsafe;"), (8, u "BIG_ENDIAN"), (0, u "Z"), (8, u "LOG2_BYTE_BIT_SIZE"), (4, u "LOG2_ARRAY_INT_INDEX_SCALE"), (54, u "JLA"), (0, u "Ljdk/internal/access/JavaLangAccess;"), (11, u "LOG2_ARRAY_BOOLEAN_INDEX_SCALE"), (9, u "LOG2_ARRAY_BYTE_INDEX_SCALE"), (5, u "LOG2_ARRAY_CHAR_INDEX_SCALE"), (5, u "LOG2_ARRAY_SHORT_INDEX_SCALE"), (18, u "LOG2_ARRAY_FLOAT_INDEX_SCALE"), (24, u "LOG2_ARRAY_DOUBLE_INDEX_SCALE"), (89, u "T_BOOLEAN"), (2, u "T_CHAR"), (1, u "T_FLOAT"), (1, u "T_DOUBLE"), (1, u "T_BYTE"), (1, u "T_SHORT"), (1, u "T_INT"), (1, u "T_LONG"), (1, u "SOFT_MAX_ARRAY_LENGTH")] 83

def k14m0 : Method := { name := "<init>", desc := "()V", sig := { parameters := [], returnType := none }, accessFlags := 2, code := none }
/-- jdk/internal/util/ArraysSupport -/
def k14 : Class := { plain "jdk/internal/util/ArraysSupport" (some 0) with
  accessFlags := 33
  interfaces := #[]
  cf := some (fileOf pool14 21 #[] #[{ accessFlags := 2, nameIndex := 9, descriptorIndex := 19, attributes := #[] }] 33 16 #[] #[{ accessFlags := 24, nameIndex := 28, descriptorIndex := 29, attributes := #[] }, { accessFlags := 26, nameIndex := 38, descriptorIndex := 39, attributes := #[] }, { accessFlags := 25, nameIndex := 121, descriptorIndex := 25, attributes := #[] }, { accessFlags := 25, nameIndex := 131, descriptorIndex := 25, attributes := #[] }, { accessFlags := 25, nameIndex := 137, descriptorIndex := 25, attributes := #[] }, { accessFlags := 25, nameIndex := 143, descriptorIndex := 25, attributes := #[] }, { accessFlags := 25, nameIndex := 53, descriptorIndex := 25, attributes := #[] }, { accessFlags := 25, nameIndex := 24, descriptorIndex := 25, attributes := #[] }, { accessFlags := 25, nameIndex := 162, descriptorIndex := 25, attributes := #[] }, { accessFlags := 25, nameIndex := 187, descriptorIndex := 25, attributes := #[] }, { accessFlags := 26, nameIndex := 48, descriptorIndex := 25, attributes := #[] }, { accessFlags := 25, nameIndex := 277, descriptorIndex := 25, attributes := #[] }, { accessFlags := 25, nameIndex := 280, descriptorIndex := 25, attributes := #[] }, { accessFlags := 25, nameIndex := 282, descriptorIndex := 25, attributes := #[] }, { accessFlags := 25, nameIndex := 284, descriptorIndex := 25, attributes := #[] }, { accessFlags := 25, nameIndex := 286, descriptorIndex := 25, attributes := #[] }, { accessFlags := 25, nameIndex := 288, descriptorIndex := 25, attributes := #[] }, { accessFlags := 25, nameIndex := 290, descriptorIndex := 25, attributes := #[] }, { accessFlags := 25, nameIndex := 292, descriptorIndex := 25, attributes := #[] }, { accessFlags := 26, nameIndex := 108, descriptorIndex := 109, attributes := #[] }, { accessFlags := 25, nameIndex := 294, descriptorIndex := 25, attributes := #[] }])
  fields := #[{ name := "U", type := (.object "jdk/internal/misc/Unsafe"), accessFlags := 24, slot := 0, constantValue := 0 }, { name := "BIG_ENDIAN", type := .boolean, accessFlags := 26, slot := 1, constantValue := 0 }, { name := "LOG2_ARRAY_BOOLEAN_INDEX_SCALE", type := .int, accessFlags := 25, slot := 2, constantValue := 0 }, { name := "LOG2_ARRAY_BYTE_INDEX_SCALE", type := .int, accessFlags := 25, slot := 3, constantValue := 0 }, { name := "LOG2_ARRAY_CHAR_INDEX_SCALE", type := .int, accessFlags := 25, slot := 4, constantValue := 0 }, { name := "LOG2_ARRAY_SHORT_INDEX_SCALE", type := .int, accessFlags := 25, slot := 5, constantValue := 0 }, { name := "LOG2_ARRAY_INT_INDEX_SCALE", type := .int, accessFlags := 25, slot := 6, constantValue := 0 }, { name := "LOG2_ARRAY_LONG_INDEX_SCALE", type := .int, accessFlags := 25, slot := 7, constantValue := 0 }, { name := "LOG2_ARRAY_FLOAT_INDEX_SCALE", type := .int, accessFlags := 25, slot := 8, constantValue := 0 }, { name := "LOG2_ARRAY_DOUBLE_INDEX_SCALE", type := .int, accessFlags := 25, slot := 9, constantValue := 0 }, { name := "LOG2_BYTE_BIT_SIZE", type := .int, accessFlags := 26, slot := 10, constantValue := 0 }, { name := "T_BOOLEAN", type := .int, accessFlags := 25, slot := 11, constantValue := 0 }, { name := "T_CHAR", type := .int, accessFlags := 25, slot := 12, constantValue := 0 }, { name := "T_FLOAT", type := .int, accessFlags := 25, slot := 13, constantValue := 0 }, { name := "T_DOUBLE", type := .int, accessFlags := 25, slot := 14, constantValue := 0 }, { name := "T_BYTE", type := .int, accessFlags := 25, slot := 15, constantValue := 0 }, { name := "T_SHORT", type := .int, accessFlags := 25, slot := 16, constantValue := 0 }, { name := "T_INT", type := .int, accessFlags := 25, slot := 17, constantValue := 0 }, { name := "T_LONG", type := .int, accessFlags := 25, slot := 18, constantValue := 0 }, { name := "JLA", type := (.object "jdk/internal/access/JavaLangAccess"), accessFlags := 26, slot := 19, constantValue := 0 }, { name := "SOFT_MAX_ARRAY_LENGTH", type := .int, accessFlags := 25, slot := 20, constantValue := 0 }]
  methods := #[k14m0]
  instanceTypes := #[]
  staticTypes := #[(.object "jdk/internal/misc/Unsafe"), .boolean, .int, .int, .int, .int, .int, .int, .int, .int, .int, .int, .int, .int, .int, .int, .int, .int, .int, (.object "jdk/internal/access/JavaLangAccess"), .int]
  resolved := Array.replicate 378 none
  statics := none }

def pool15 : Array CpInfo := pool [(1, u "java/lang/Cloneable"), (0, .class_ 1), (0, u "java/lang/Object"), (0, .class_ 3)] 3

/-- java/lang/Cloneable -/
def k15 : Class := { plain "java/lang/Cloneable" (some 0) with
  accessFlags := 1537
  interfaces := #[]
  cf := some (fileOf pool15 2 #[] #[] 1537 4 #[] #[])
  fields := #[]
  methods := #[]
  instanceTypes := #[]
  staticTypes := #[]
  resolved := Array.replicate 8 none
  statics := none }

/-- the primitive byte -/
def k16 : Class := { plain "byte" none with kind := .primitive 'B', accessFlags := 0x411 }
/-- [B -/
def k17 : Class := { plain "[B" (some 0) with kind := .array 16 .byte, interfaces := #[15, 2], accessFlags := 1041 }

/-- the primitive char -/
def k18 : Class := { plain "char" none with kind := .primitive 'C', accessFlags := 0x411 }
/-- [C -/
def k19 : Class := { plain "[C" (some 0) with kind := .array 18 .char, interfaces := #[15, 2], accessFlags := 1041 }

/-- the primitive int -/
def k20 : Class := { plain "int" none with kind := .primitive 'I', accessFlags := 0x411 }
/-- [I -/
def k21 : Class := { plain "[I" (some 0) with kind := .array 20 .int, interfaces := #[15, 2], accessFlags := 1041 }

def heap : Heap := #[{ cls := 7, slots := #[.long 0, .int 1, .null, .int 0, .null, .int 0, .int 0], vm := .statics 7 },
  { cls := 8, slots := #[.int 0, .int 8, .int 0, .int 1], vm := .statics 8 },
  { cls := 11, slots := #[.null, .null, .null], vm := .statics 11 }]
def classes : Array Class := #[k0, k1, k2, k3, k4, k5, k6, k7, k8, k9, k10, k11, k12, k13, k14, k15, k16, k17, k18, k19, k20, k21]
def interned : List (Array UInt16 × Addr) := []
def slotsUsed : Nat := 14
def theMethod : MethodId := ⟨1, 3⟩
def args0 : Array Value := #[.int 5, .int 6, .int 7, .int 8, .int 9]
def aboutOver (below : List Frame) : State where
  vm := { classes := classes, interned := interned.toArray }
  heap := heap
  slotsUsed := slotsUsed
  threads := #[{ frames := .invoking theMethod args0 :: below }]
def below0 : List Frame := [.native { method := ⟨0, 0⟩, args := #[] }]
def about1 : State := aboutOver below0
def p0 : Program := .bare "" "" ""
def e0 : Env := launch0.env 0 0 0
theorem w_frames : about1.frames = Frame.invoking theMethod args0 :: below0 := rfl
set_option maxRecDepth 65536 in
theorem w_args : argsFit about1.vm theMethod args0 = true := by decide +kernel
set_option maxRecDepth 65536 in
theorem w_heap : heapFits about1 = true := by decide +kernel
set_option maxRecDepth 65536 in
theorem w_runnable : about1.curStatus? = some .runnable := by decide +kernel
set_option maxRecDepth 65536 in
theorem w_alone : about1.alone = true := by decide +kernel
set_option maxRecDepth 65536 in
theorem w_named : about1.methodNamed? x = some theMethod := by decide +kernel
set_option maxRecDepth 65536 in
theorem w_hears : about1.hears theMethod below0 = true := by decide +kernel
set_option maxRecDepth 65536 in
theorem w_ripe : about1.ripe theMethod args0 below0 = true := by decide +kernel
theorem w_running : about1.status = .running := rfl
set_option maxRecDepth 65536 in
theorem w_room : about1.hasRoom e0.platform room_1 = true :=
  launch0.hasRoom_least _ room_1 (by decide +kernel) (by decide +kernel) (by decide +kernel) (by decide +kernel) (by decide +kernel) (by decide +kernel)
theorem allAtoms_all (ts : List Jvm.Cond) (a : Array Jvm.Value) (st : Jvm.State) : (allAtoms ts).before a st = ts.all (fun c => c.before a st) := by
  induction ts with
  | nil => rfl
  | cons c t ih =>
    show (Jvm.Cond.and c (allAtoms t)).before a st = _
    rw [Jvm.Cond.before_and, ih, List.all_cons]
def words1 : List Jvm.Cond := Jvm.Cond.code x code maxLocals ret :: tables_1
/-- a 'code' word, met by the world's own term for the bytes: nothing is compared byte by byte -/
theorem code_word {y : MethodName} {bytes : ByteArray} {mx : Nat} {rt : Option FieldType} {a : Array Value} {s : State} {m : MethodId} {meth : Method} {c : Code} (h1 : s.methodNamed? y = some m) (h2 : s.vm.method? m = some meth) (h3 : meth.code = some c) (h4 : c.code = bytes)
    (h5 : (c.maxLocals == mx && c.exceptionTable.isEmpty && decide (c.maxStack ≤ mostOperands) && decide (meth.sig.returnType = rt) && !meth.locks && decide (parseMethodDescriptor y.desc = some meth.sig)) = true) : (Jvm.Cond.code y bytes mx rt).before a s = true := by
  simp only [Bool.and_eq_true, beq_iff_eq, Bool.not_eq_true', decide_eq_true_eq] at h5
  obtain ⟨⟨⟨⟨⟨g1, g2⟩, g3⟩, g4⟩, g5⟩, g6⟩ := h5
  simp [Cond.before, Cond.holds, Cond.value, h1, h2, h3, h4, g1, g2, g3, g4, g5, g6]
def isCode : Jvm.Cond → Bool
  | .code _ _ _ _ => true
  | _ => false
theorem all_split {L : List Jvm.Cond} {P : Jvm.Cond → Bool} (h1 : L.all (fun c => isCode c || P c) = true) (h2 : ∀ c ∈ L.filter isCode, P c = true) : L.all P = true := by
  refine List.all_eq_true.mpr fun c hc => ?_
  have h := List.all_eq_true.mp h1 c hc
  rcases Bool.eq_false_or_eq_true (isCode c) with hi | hi
  · exact h2 c (List.mem_filter.mpr ⟨hc, hi⟩)
  · simpa [hi] using h
set_option maxRecDepth 65536 in
theorem w_c0 : (Jvm.Cond.code x code maxLocals ret).before args0 about1 = true := code_word (m := ⟨1, 3⟩) (meth := k1m3) (c := k1c3) (by decide +kernel) rfl rfl rfl (by decide +kernel)
set_option maxRecDepth 65536 in
theorem w_c1 : (Jvm.Cond.code ({ cls := "com/example/kept_triples/kepttriples/model/LabelLexerColumnPinLaw", name := "draw", desc := "(I)C" } : Jvm.MethodName) method_2_code (3 : Nat) (Option.some Jvm.ClassFile.FieldType.char)).before args0 about1 = true := code_word (m := ⟨1, 1⟩) (meth := k1m1) (c := k1c1) (by decide +kernel) rfl rfl rfl (by decide +kernel)
set_option maxRecDepth 65536 in
theorem w_c2 : (Jvm.Cond.code ({ cls := "java/lang/String", name := "<init>", desc := "([C)V" } : Jvm.MethodName) jdk_42_method_3_code (2 : Nat) (Option.none : Option Jvm.ClassFile.FieldType)).before args0 about1 = true := code_word (m := ⟨7, 1⟩) (meth := k7m1) (c := k7c1) (by decide +kernel) rfl rfl rfl (by decide +kernel)
set_option maxRecDepth 65536 in
theorem w_c3 : (Jvm.Cond.code ({ cls := "java/lang/String", name := "<init>", desc := "([CIILjava/lang/Void;)V" } : Jvm.MethodName) jdk_42_method_149_code (6 : Nat) (Option.none : Option Jvm.ClassFile.FieldType)).before args0 about1 = true := code_word (m := ⟨7, 4⟩) (meth := k7m4) (c := k7c4) (by decide +kernel) rfl rfl rfl (by decide +kernel)
set_option maxRecDepth 65536 in
theorem w_c4 : (Jvm.Cond.code ({ cls := "java/lang/Object", name := "<init>", desc := "()V" } : Jvm.MethodName) object_method_1_code (1 : Nat) (Option.none : Option Jvm.ClassFile.FieldType)).before args0 about1 = true := code_word (m := ⟨0, 0⟩) (meth := k0m0) (c := k0c0) (by decide +kernel) rfl rfl rfl (by decide +kernel)
set_option maxRecDepth 65536 in
theorem w_c5 : (Jvm.Cond.code ({ cls := "java/lang/StringUTF16", name := "compress", desc := "([CII)[B" } : Jvm.MethodName) jdk_52_method_16_code (6 : Nat) (Option.some (Jvm.ClassFile.FieldType.array Jvm.ClassFile.FieldType.byte))).before args0 about1 = true := code_word (m := ⟨8, 9⟩) (meth := k8m9) (c := k8c9) (by decide +kernel) rfl rfl rfl (by decide +kernel)
set_option maxRecDepth 65536 in
theorem w_c6 : (Jvm.Cond.code ({ cls := "java/lang/StringUTF16", name := "compress", desc := "([CI[BII)I" } : Jvm.MethodName) jdk_52_method_21_code (7 : Nat) (Option.some Jvm.ClassFile.FieldType.int)).before args0 about1 = true := code_word (m := ⟨8, 10⟩) (meth := k8m10) (c := k8c10) (by decide +kernel) rfl rfl rfl (by decide +kernel)
set_option maxRecDepth 65536 in
theorem w_c7 : (Jvm.Cond.code ({ cls := "java/lang/StringUTF16", name := "toBytes", desc := "([CII)[B" } : Jvm.MethodName) jdk_52_method_14_code (5 : Nat) (Option.some (Jvm.ClassFile.FieldType.array Jvm.ClassFile.FieldType.byte))).before args0 about1 = true := code_word (m := ⟨8, 7⟩) (meth := k8m7) (c := k8c7) (by decide +kernel) rfl rfl rfl (by decide +kernel)
set_option maxRecDepth 65536 in
theorem w_c8 : (Jvm.Cond.code ({ cls := "java/lang/StringUTF16", name := "newBytesFor", desc := "(I)[B" } : Jvm.MethodName) jdk_52_method_2_code (1 : Nat) (Option.some (Jvm.ClassFile.FieldType.array Jvm.ClassFile.FieldType.byte))).before args0 about1 = true := code_word (m := ⟨8, 1⟩) (meth := k8m1) (c := k8c1) (by decide +kernel) rfl rfl rfl (by decide +kernel)
set_option maxRecDepth 65536 in
theorem w_c9 : (Jvm.Cond.code ({ cls := "java/lang/StringUTF16", name := "newBytesLength", desc := "(I)I" } : Jvm.MethodName) jdk_52_method_3_code (1 : Nat) (Option.some Jvm.ClassFile.FieldType.int)).before args0 about1 = true := code_word (m := ⟨8, 2⟩) (meth := k8m2) (c := k8c2) (by decide +kernel) rfl rfl rfl (by decide +kernel)
set_option maxRecDepth 65536 in
theorem w_c10 : (Jvm.Cond.code ({ cls := "java/lang/StringUTF16", name := "putChar", desc := "([BII)V" } : Jvm.MethodName) jdk_52_method_4_code (3 : Nat) (Option.none : Option Jvm.ClassFile.FieldType)).before args0 about1 = true := code_word (m := ⟨8, 3⟩) (meth := k8m3) (c := k8c3) (by decide +kernel) rfl rfl rfl (by decide +kernel)
set_option maxRecDepth 65536 in
theorem w_c11 : (Jvm.Cond.code ({ cls := "java/lang/StringUTF16", name := "getChar", desc := "([BI)C" } : Jvm.MethodName) jdk_52_method_5_code (2 : Nat) (Option.some Jvm.ClassFile.FieldType.char)).before args0 about1 = true := code_word (m := ⟨8, 4⟩) (meth := k8m4) (c := k8c4) (by decide +kernel) rfl rfl rfl (by decide +kernel)
set_option maxRecDepth 65536 in
theorem w_c12 : (Jvm.Cond.code ({ cls := "java/lang/StringUTF16", name := "coderFromArrayLen", desc := "([BI)B" } : Jvm.MethodName) jdk_52_method_15_code (2 : Nat) (Option.some Jvm.ClassFile.FieldType.byte)).before args0 about1 = true := code_word (m := ⟨8, 8⟩) (meth := k8m8) (c := k8c8) (by decide +kernel) rfl rfl rfl (by decide +kernel)
set_option maxRecDepth 65536 in
theorem w_c13 : (Jvm.Cond.code ({ cls := "com/example/kept_triples/kepttriples/model/LabelLexer", name := "<init>", desc := "(Ljava/lang/String;Ljava/lang/String;)V" } : Jvm.MethodName) prog_4_method_1_code (3 : Nat) (Option.none : Option Jvm.ClassFile.FieldType)).before args0 about1 = true := code_word (m := ⟨9, 0⟩) (meth := k9m0) (c := k9c0) (by decide +kernel) rfl rfl rfl (by decide +kernel)
set_option maxRecDepth 65536 in
theorem w_c14 : (Jvm.Cond.code ({ cls := "com/example/kept_triples/kepttriples/model/LabelLexer", name := "column", desc := "(I)I" } : Jvm.MethodName) prog_4_method_4_code (2 : Nat) (Option.some Jvm.ClassFile.FieldType.int)).before args0 about1 = true := code_word (m := ⟨9, 1⟩) (meth := k9m1) (c := k9c1) (by decide +kernel) rfl rfl rfl (by decide +kernel)
set_option maxRecDepth 65536 in
theorem w_c15 : (Jvm.Cond.code ({ cls := "java/lang/String", name := "codePointCount", desc := "(II)I" } : Jvm.MethodName) jdk_42_method_59_code (3 : Nat) (Option.some Jvm.ClassFile.FieldType.int)).before args0 about1 = true := code_word (m := ⟨7, 3⟩) (meth := k7m3) (c := k7c3) (by decide +kernel) rfl rfl rfl (by decide +kernel)
set_option maxRecDepth 65536 in
theorem w_c16 : (Jvm.Cond.code ({ cls := "java/lang/String", name := "length", desc := "()I" } : Jvm.MethodName) jdk_42_method_54_code (1 : Nat) (Option.some Jvm.ClassFile.FieldType.int)).before args0 about1 = true := code_word (m := ⟨7, 2⟩) (meth := k7m2) (c := k7c2) (by decide +kernel) rfl rfl rfl (by decide +kernel)
set_option maxRecDepth 65536 in
theorem w_c17 : (Jvm.Cond.code ({ cls := "java/lang/String", name := "coder", desc := "()B" } : Jvm.MethodName) jdk_42_method_152_code (1 : Nat) (Option.some Jvm.ClassFile.FieldType.byte)).before args0 about1 = true := code_word (m := ⟨7, 5⟩) (meth := k7m5) (c := k7c5) (by decide +kernel) rfl rfl rfl (by decide +kernel)
set_option maxRecDepth 65536 in
theorem w_c18 : (Jvm.Cond.code ({ cls := "java/util/Objects", name := "checkFromToIndex", desc := "(III)I" } : Jvm.MethodName) jdk_31_method_18_code (3 : Nat) (Option.some Jvm.ClassFile.FieldType.int)).before args0 about1 = true := code_word (m := ⟨10, 1⟩) (meth := k10m1) (c := k10c1) (by decide +kernel) rfl rfl rfl (by decide +kernel)
set_option maxRecDepth 65536 in
theorem w_c19 : (Jvm.Cond.code ({ cls := "jdk/internal/util/Preconditions", name := "checkFromToIndex", desc := "(IIILjava/util/function/BiFunction;)I" } : Jvm.MethodName) jdk_41_method_12_code (4 : Nat) (Option.some Jvm.ClassFile.FieldType.int)).before args0 about1 = true := code_word (m := ⟨11, 1⟩) (meth := k11m1) (c := k11c1) (by decide +kernel) rfl rfl rfl (by decide +kernel)
set_option maxRecDepth 65536 in
theorem w_c20 : (Jvm.Cond.code ({ cls := "java/lang/String", name := "isLatin1", desc := "()Z" } : Jvm.MethodName) jdk_42_method_154_code (1 : Nat) (Option.some Jvm.ClassFile.FieldType.boolean)).before args0 about1 = true := code_word (m := ⟨7, 6⟩) (meth := k7m6) (c := k7c6) (by decide +kernel) rfl rfl rfl (by decide +kernel)
set_option maxRecDepth 65536 in
theorem w_c21 : (Jvm.Cond.code ({ cls := "java/lang/StringUTF16", name := "codePointCount", desc := "([BII)I" } : Jvm.MethodName) jdk_52_method_12_code (3 : Nat) (Option.some Jvm.ClassFile.FieldType.int)).before args0 about1 = true := code_word (m := ⟨8, 6⟩) (meth := k8m6) (c := k8c6) (by decide +kernel) rfl rfl rfl (by decide +kernel)
set_option maxRecDepth 65536 in
theorem w_c22 : (Jvm.Cond.code ({ cls := "java/lang/StringUTF16", name := "codePointCount", desc := "([BIIZ)I" } : Jvm.MethodName) jdk_52_method_11_code (6 : Nat) (Option.some Jvm.ClassFile.FieldType.int)).before args0 about1 = true := code_word (m := ⟨8, 5⟩) (meth := k8m5) (c := k8c5) (by decide +kernel) rfl rfl rfl (by decide +kernel)
set_option maxRecDepth 65536 in
theorem w_c23 : (Jvm.Cond.code ({ cls := "java/lang/Character", name := "isHighSurrogate", desc := "(C)Z" } : Jvm.MethodName) jdk_89_method_14_code (1 : Nat) (Option.some Jvm.ClassFile.FieldType.boolean)).before args0 about1 = true := code_word (m := ⟨12, 0⟩) (meth := k12m0) (c := k12c0) (by decide +kernel) rfl rfl rfl (by decide +kernel)
set_option maxRecDepth 65536 in
theorem w_c24 : (Jvm.Cond.code ({ cls := "com/example/kept_triples/kepttriples/model/LabelLexerColumnPinLaw", name := "pair", desc := "(CC)Z" } : Jvm.MethodName) method_3_code (2 : Nat) (Option.some Jvm.ClassFile.FieldType.boolean)).before args0 about1 = true := code_word (m := ⟨1, 2⟩) (meth := k1m2) (c := k1c2) (by decide +kernel) rfl rfl rfl (by decide +kernel)
set_option maxRecDepth 65536 in
theorem w_c25 : (Jvm.Cond.code ({ cls := "java/lang/Character", name := "isLowSurrogate", desc := "(C)Z" } : Jvm.MethodName) jdk_89_method_15_code (1 : Nat) (Option.some Jvm.ClassFile.FieldType.boolean)).before args0 about1 = true := code_word (m := ⟨12, 1⟩) (meth := k12m1) (c := k12c1) (by decide +kernel) rfl rfl rfl (by decide +kernel)
def codes1 : List Jvm.Cond := [Jvm.Cond.code x code maxLocals ret, Jvm.Cond.code ({ cls := "com/example/kept_triples/kepttriples/model/LabelLexerColumnPinLaw", name := "draw", desc := "(I)C" } : Jvm.MethodName) method_2_code (3 : Nat) (Option.some Jvm.ClassFile.FieldType.char), Jvm.Cond.code ({ cls := "java/lang/String", name := "<init>", desc := "([C)V" } : Jvm.MethodName) jdk_42_method_3_code (2 : Nat) (Option.none : Option Jvm.ClassFile.FieldType), Jvm.Cond.code ({ cls := "java/lang/String", name := "<init>", desc := "([CIILjava/lang/Void;)V" } : Jvm.MethodName) jdk_42_method_149_code (6 : Nat) (Option.none : Option Jvm.ClassFile.FieldType), Jvm.Cond.code ({ cls := "java/lang/Object", name := "<init>", desc := "()V" } : Jvm.MethodName) object_method_1_code (1 : Nat) (Option.none : Option Jvm.ClassFile.FieldType), Jvm.Cond.code ({ cls := "java/lang/StringUTF16", name := "compress", desc := "([CII)[B" } : Jvm.MethodName) jdk_52_method_16_code (6 : Nat) (Option.some (Jvm.ClassFile.FieldType.array Jvm.ClassFile.FieldType.byte)), Jvm.Cond.code ({ cls := "java/lang/StringUTF16", name := "compress", desc := "([CI[BII)I" } : Jvm.MethodName) jdk_52_method_21_code (7 : Nat) (Option.some Jvm.ClassFile.FieldType.int), Jvm.Cond.code ({ cls := "java/lang/StringUTF16", name := "toBytes", desc := "([CII)[B" } : Jvm.MethodName) jdk_52_method_14_code (5 : Nat) (Option.some (Jvm.ClassFile.FieldType.array Jvm.ClassFile.FieldType.byte)), Jvm.Cond.code ({ cls := "java/lang/StringUTF16", name := "newBytesFor", desc := "(I)[B" } : Jvm.MethodName) jdk_52_method_2_code (1 : Nat) (Option.some (Jvm.ClassFile.FieldType.array Jvm.ClassFile.FieldType.byte)), Jvm.Cond.code ({ cls := "java/lang/StringUTF16", name := "newBytesLength", desc := "(I)I" } : Jvm.MethodName) jdk_52_method_3_code (1 : Nat) (Option.some Jvm.ClassFile.FieldType.int), Jvm.Cond.code ({ cls := "java/lang/StringUTF16", name := "putChar", desc := "([BII)V" } : Jvm.MethodName) jdk_52_method_4_code (3 : Nat) (Option.none : Option Jvm.ClassFile.FieldType), Jvm.Cond.code ({ cls := "java/lang/StringUTF16", name := "getChar", desc := "([BI)C" } : Jvm.MethodName) jdk_52_method_5_code (2 : Nat) (Option.some Jvm.ClassFile.FieldType.char), Jvm.Cond.code ({ cls := "java/lang/StringUTF16", name := "coderFromArrayLen", desc := "([BI)B" } : Jvm.MethodName) jdk_52_method_15_code (2 : Nat) (Option.some Jvm.ClassFile.FieldType.byte), Jvm.Cond.code ({ cls := "com/example/kept_triples/kepttriples/model/LabelLexer", name := "<init>", desc := "(Ljava/lang/String;Ljava/lang/String;)V" } : Jvm.MethodName) prog_4_method_1_code (3 : Nat) (Option.none : Option Jvm.ClassFile.FieldType), Jvm.Cond.code ({ cls := "com/example/kept_triples/kepttriples/model/LabelLexer", name := "column", desc := "(I)I" } : Jvm.MethodName) prog_4_method_4_code (2 : Nat) (Option.some Jvm.ClassFile.FieldType.int), Jvm.Cond.code ({ cls := "java/lang/String", name := "codePointCount", desc := "(II)I" } : Jvm.MethodName) jdk_42_method_59_code (3 : Nat) (Option.some Jvm.ClassFile.FieldType.int), Jvm.Cond.code ({ cls := "java/lang/String", name := "length", desc := "()I" } : Jvm.MethodName) jdk_42_method_54_code (1 : Nat) (Option.some Jvm.ClassFile.FieldType.int), Jvm.Cond.code ({ cls := "java/lang/String", name := "coder", desc := "()B" } : Jvm.MethodName) jdk_42_method_152_code (1 : Nat) (Option.some Jvm.ClassFile.FieldType.byte), Jvm.Cond.code ({ cls := "java/util/Objects", name := "checkFromToIndex", desc := "(III)I" } : Jvm.MethodName) jdk_31_method_18_code (3 : Nat) (Option.some Jvm.ClassFile.FieldType.int), Jvm.Cond.code ({ cls := "jdk/internal/util/Preconditions", name := "checkFromToIndex", desc := "(IIILjava/util/function/BiFunction;)I" } : Jvm.MethodName) jdk_41_method_12_code (4 : Nat) (Option.some Jvm.ClassFile.FieldType.int), Jvm.Cond.code ({ cls := "java/lang/String", name := "isLatin1", desc := "()Z" } : Jvm.MethodName) jdk_42_method_154_code (1 : Nat) (Option.some Jvm.ClassFile.FieldType.boolean), Jvm.Cond.code ({ cls := "java/lang/StringUTF16", name := "codePointCount", desc := "([BII)I" } : Jvm.MethodName) jdk_52_method_12_code (3 : Nat) (Option.some Jvm.ClassFile.FieldType.int), Jvm.Cond.code ({ cls := "java/lang/StringUTF16", name := "codePointCount", desc := "([BIIZ)I" } : Jvm.MethodName) jdk_52_method_11_code (6 : Nat) (Option.some Jvm.ClassFile.FieldType.int), Jvm.Cond.code ({ cls := "java/lang/Character", name := "isHighSurrogate", desc := "(C)Z" } : Jvm.MethodName) jdk_89_method_14_code (1 : Nat) (Option.some Jvm.ClassFile.FieldType.boolean), Jvm.Cond.code ({ cls := "com/example/kept_triples/kepttriples/model/LabelLexerColumnPinLaw", name := "pair", desc := "(CC)Z" } : Jvm.MethodName) method_3_code (2 : Nat) (Option.some Jvm.ClassFile.FieldType.boolean), Jvm.Cond.code ({ cls := "java/lang/Character", name := "isLowSurrogate", desc := "(C)Z" } : Jvm.MethodName) jdk_89_method_15_code (1 : Nat) (Option.some Jvm.ClassFile.FieldType.boolean)]
set_option maxRecDepth 65536 in
theorem codes_eq : words1.filter isCode = codes1 := rfl
theorem w_codes : ∀ c ∈ words1.filter isCode, c.before args0 about1 = true := by
  rw [codes_eq]
  intro c hc
  simp only [codes1, List.mem_cons, List.not_mem_nil, or_false] at hc
  rcases hc with rfl | rfl | rfl | rfl | rfl | rfl | rfl | rfl | rfl | rfl | rfl | rfl | rfl | rfl | rfl | rfl | rfl | rfl | rfl | rfl | rfl | rfl | rfl | rfl | rfl | rfl
  · exact w_c0
  · exact w_c1
  · exact w_c2
  · exact w_c3
  · exact w_c4
  · exact w_c5
  · exact w_c6
  · exact w_c7
  · exact w_c8
  · exact w_c9
  · exact w_c10
  · exact w_c11
  · exact w_c12
  · exact w_c13
  · exact w_c14
  · exact w_c15
  · exact w_c16
  · exact w_c17
  · exact w_c18
  · exact w_c19
  · exact w_c20
  · exact w_c21
  · exact w_c22
  · exact w_c23
  · exact w_c24
  · exact w_c25
set_option maxRecDepth 65536 in
theorem w_t1 : (words1.take 24).all (fun c => isCode c || c.before args0 about1) = true := by decide +kernel
set_option maxRecDepth 65536 in
theorem w_t2 : ((words1.drop 24).take 24).all (fun c => isCode c || c.before args0 about1) = true := by decide +kernel
set_option maxRecDepth 65536 in
theorem w_t3 : (((words1.drop 24).drop 24).take 24).all (fun c => isCode c || c.before args0 about1) = true := by decide +kernel
set_option maxRecDepth 65536 in
theorem w_t4 : ((((words1.drop 24).drop 24).drop 24).take 24).all (fun c => isCode c || c.before args0 about1) = true := by decide +kernel
set_option maxRecDepth 65536 in
theorem w_t5 : (((((words1.drop 24).drop 24).drop 24).drop 24).take 24).all (fun c => isCode c || c.before args0 about1) = true := by decide +kernel
set_option maxRecDepth 65536 in
theorem w_t6 : (((((words1.drop 24).drop 24).drop 24).drop 24).drop 24).all (fun c => isCode c || c.before args0 about1) = true := by decide +kernel
theorem w_tables : (allAtoms (Jvm.Cond.code x code maxLocals ret :: tables_1)).before args0 about1 = true := by
  rw [allAtoms_all]
  show words1.all (fun c => c.before args0 about1) = true
  refine all_split ?_ w_codes
  rw [← List.take_append_drop 24 words1, List.all_append, w_t1, ← List.take_append_drop 24 (words1.drop 24), List.all_append, w_t2, ← List.take_append_drop 24 ((words1.drop 24).drop 24), List.all_append, w_t3, ← List.take_append_drop 24 (((words1.drop 24).drop 24).drop 24), List.all_append, w_t4, ← List.take_append_drop 24 ((((words1.drop 24).drop 24).drop 24).drop 24), List.all_append, w_t5, w_t6]
  rfl
set_option maxRecDepth 65536 in
theorem w_rest : rest_1_c.before args0 about1 = true := by decide +kernel
set_option maxRecDepth 65536 in
theorem w_case : (Jvm.Cond.and given_1 narrow_1).before args0 about1 = true := by decide +kernel
theorem w_applies : (headSpec (Jvm.Cond.code x code maxLocals ret :: tables_1) room_1).applies x e0.platform about1 = true :=
  (Spec.applies_iff w_frames).mpr ⟨w_running, w_runnable, w_alone, w_named, w_hears, w_ripe, w_room, w_tables⟩
theorem atStart : AtStart classFile x code maxLocals ret World_1 tables_1 room_1 Calls_1 rest_1 Pre_1 launch0 p0 e0 about1 theMethod args0 below0 :=
  ⟨lists_1, trivial, launch0.admits_env _ _ _, launch0.least_env, fairChoices_fair.cas, fairChoices_fair.clock, w_frames, w_args, w_heap, w_applies, trivial, w_rest, w_case⟩
end start1
theorem witness_1 : WitnessClaimed_1 := ⟨start1.p0, start1.e0, start1.about1, start1.theMethod, start1.args0, start1.below0, start1.atStart⟩
end Jvm.Pilot.@@N@@
