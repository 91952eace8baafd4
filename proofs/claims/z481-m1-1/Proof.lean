import JvmDerived
import JvmDerived.Pilot.@@N@@Statement
import JvmDerived.Pilot.@@N@@Code
set_option linter.unusedVariables false
set_option linter.unusedSimpArgs false
namespace Jvm.RoadKit
open Sem ClassFile Op Lib Jvm.Stand Jvm.Free Jvm.LawKit
section New
variable {p : Program} {l : Launch} {e : Env} {R : Room} {s : State} {m : MethodId} {args : Array Value} {below : List Frame} {meth : Method} {c : Code} {T : State} {locs : List Loc} {cells slots : Nat}
theorem retI (X : Stand p l e R s m args below meth c T locs cells slots) (hx : p.tables.exec = Jvm.exec) {pc : Nat} {Ls : Array Slot} {z : Int32} {rest : List Value} (hret : meth.sig.returnType = some .int) (hd : decode c.code pc = .ok (.ireturn, 1)) {fs : List Frame}
    (hl : ∀ (f : JFrame) (acts : List Action), f.method = m → f.locked = none → f.entered = [] → (doReturn e (T.setTop f) acts (some (.int z))).1 = T.setFrames fs) : Steps p.tables e below (T.setTop (mkF m pc Ls (.int z :: rest))) (T.setFrames fs) := by
  have hm' : T.vm.method? m = some meth := X.method'
  have hn : narrow .int (.int z) = .int z := rfl
  show Steps p.tables e below (T.setTop { method := m, pc := pc, locals := Ls, stack := _ :: rest, locked := none }) _
  jvm_step X.here [X.here.top, hx, hd, hm', hret, hn]
  first | (intro acts; rw [hl _ acts rfl rfl rfl]) | rw [hl _ _ rfl rfl rfl]
  exact Steps.refl _
end New
end Jvm.RoadKit
namespace Jvm.Pilot.@@N@@
open Jvm Jvm.ClassFile Sem Op Lib Jvm.Free Jvm.Stand Jvm.LawKit Jvm.RoadKit Bundle Jvm.Pilot.@@N@@.Jvm.D
/-- whatever the machine reaches from (T', g') it reaches from (T, g) -/
def own_Go (p : Program) (e : Env) (below : List Frame) (T : State) (g : JFrame) (T' : State) (g' : JFrame) : Prop := ∀ t, Steps p.tables e below (T'.setTop g') t → Steps p.tables e below (T.setTop g) t
theorem own_Go.refl {p : Program} {e : Env} {below : List Frame} (T : State) (g : JFrame) : own_Go p e below T g T g := fun _ k => k
theorem own_Go.trans {p : Program} {e : Env} {below : List Frame} {T T' T'' : State} {g g' g'' : JFrame} (h : own_Go p e below T g T' g') (h' : own_Go p e below T' g' T'' g'') : own_Go p e below T g T'' g'' := fun tg_ kk_ => h tg_ (h' tg_ kk_)
/-! ## calls by their contracts, in one row each -/
section OwnCalls
variable {p : Program} {l : Launch} {e : Env} {R : Room} {s : State} {m : MethodId} {args : Array Value} {below : List Frame} {meth : Method} {c : Code} {T : State} {locs : List Loc} {cells slots : Nat} {Z : State} {a0 : Array Value} {h : Heap}
theorem own_callS (X : Stand p l e R s m args below meth c T locs cells slots) (hx : p.tables.exec = Jvm.exec) (hZ : Z.Warmed39 s.vm) {own : String} {index : Nat} {y : MethodName} {bytes : ByteArray} {maxL : Nat} {ret : Option FieldType} {rm : Room} {Q : Option Value → Heap → List Loc → Prop}
    (hown : s.vm.findClass own = some m.cls) (w1 : (Cond.methodLink own index y).before a0 Z = true) (w2 : (Cond.static y).before a0 Z = true) (w3 : (Cond.initialized y.cls).before a0 Z = true) (w4 : (Cond.code y bytes maxL ret).before a0 Z = true)
    (hy : y.cls ≠ "java/lang/invoke/MethodHandle" ∧ y.cls ≠ "java/lang/invoke/VarHandle") (W : Nat) {g : JFrame} (hg : g.method = m) (hsize : g.locals.size = c.maxLocals) (argsL rest : List Value)
    (hM : MetFree l y (head1 [Cond.code y bytes maxL ret] rm) (fun a U => a = argsL.toArray ∧ Z.Warmed39 U.vm ∧ U.heap = h) (fun _ _ _ _ _ => True) (fun _ U o U' => ∃ v L, o = .returned v ∧ Q v U'.heap L ∧ FrameEnd U o U' L rm.cells rm.slots))
    (hlen : ∀ sig, parseMethodDescriptor y.desc = some sig → argsL.length = sig.parameters.length) (hstack : g.stack = argsL.reverse ++ rest) (hW : 2 * g.monitorRoom + (rest.map fun v => v.category).sum ≤ W) (hd : decode c.code g.pc = .ok (.invokestatic index, 3))
    (hf : rm.frames + 1 ≤ R.frames) (hl : W + (maxL + 11) + rm.locals ≤ R.locals) (eT : T.heap = h) (hc : cells + rm.cells ≤ R.cells) (hs : slots + rm.slots ≤ R.slots) :
    ∃ (v : Option Value) (T' : State) (h' : Heap) (L : List Loc), Stand p l e R s m args below meth c T' (locs ++ L) (cells + rm.cells) (slots + rm.slots) ∧ T'.heap = h' ∧ Q v h' L ∧
      ∀ t, Steps p.tables e below (T'.setTop { g with pc := g.pc + 3, stack := v.toList ++ rest }) t → Steps p.tables e below (T.setTop g) t := by
  obtain ⟨v, _, ⟨T4, L4, k4, n4⟩, -, X4, ⟨Lc, hQ, l4, y4, z4⟩, st⟩ := Jvm.LawKit.callS X hx (y := y) hown (mvT hZ w1) (mvT hZ w2) (mvT hZ w3) (mvT hZ w4) hy (backOf (W := W) hM hZ w4 w3 hf hl) (g := g) hg hsize (argsL := argsL) (rest := rest) hlen hstack hW hd (fun _ _ => ⟨rfl, eT, hc, hs⟩)
  dsimp only [Pt.U, Pt.locs, Pt.cells, Pt.slots] at X4 l4 y4 z4 st hQ
  subst l4 y4 z4
  exact ⟨v, T4, _, Lc, X4, rfl, hQ, st⟩
theorem own_callI (X : Stand p l e R s m args below meth c T locs cells slots) (hx : p.tables.exec = Jvm.exec) (hZ : Z.Warmed39 s.vm) {own : String} {index : Nat} {y : MethodName} {bytes : ByteArray} {maxL : Nat} {rm : Room} {Q : Option Value → Heap → List Loc → Prop}
    (hy1 : y.name = "<init>") (hown : s.vm.findClass own = some m.cls) (w1 : (Cond.methodLink own index y).before a0 Z = true) (w2 : (Cond.instanceMethod y).before a0 Z = true) (w3 : (Cond.initialized y.cls).before a0 Z = true) (w4 : (Cond.code y bytes maxL none).before a0 Z = true)
    (hy : y.cls ≠ "java/lang/invoke/MethodHandle" ∧ y.cls ≠ "java/lang/invoke/VarHandle") (W : Nat) {g : JFrame} (hg : g.method = m) (hsize : g.locals.size = c.maxLocals) (a : Addr) (argsL rest : List Value)
    (hM : MetFree l y (head1 [Cond.code y bytes maxL none] rm) (fun a' U => a' = (.ref a :: argsL).toArray ∧ Z.Warmed39 U.vm ∧ U.heap = h) (fun _ _ _ _ _ => True) (fun _ U o U' => ∃ v L, o = .returned v ∧ Q v U'.heap L ∧ FrameEnd U o U' L rm.cells rm.slots))
    (hlen : ∀ sig, parseMethodDescriptor y.desc = some sig → argsL.length = sig.parameters.length) (hstack : g.stack = argsL.reverse ++ .ref a :: rest) (hW : 2 * g.monitorRoom + (rest.map fun v => v.category).sum ≤ W) (hd : decode c.code g.pc = .ok (.invokespecial index, 3))
    (hf : rm.frames + 1 ≤ R.frames) (hl : W + (maxL + 11) + rm.locals ≤ R.locals) (eT : T.heap = h) (hc : cells + rm.cells ≤ R.cells) (hs : slots + rm.slots ≤ R.slots) :
    ∃ (v : Option Value) (T' : State) (h' : Heap) (L : List Loc), Stand p l e R s m args below meth c T' (locs ++ L) (cells + rm.cells) (slots + rm.slots) ∧ T'.heap = h' ∧ Q v h' L ∧
      ∀ t, Steps p.tables e below (T'.setTop { g with pc := g.pc + 3, stack := v.toList ++ rest }) t → Steps p.tables e below (T.setTop g) t := by
  obtain ⟨v, _, ⟨T4, L4, k4, n4⟩, -, X4, ⟨Lc, hQ, l4, y4, z4⟩, st⟩ := X.specialBack hx (y := y) hy1 hown (mvT hZ w1) (mvT hZ w2) (mvT hZ w4) hy (backOf (W := W) hM hZ w4 w3 hf hl) (g := g) hg hsize (Steps.refl _) (a := a) (argsL := argsL) (rest := rest) hlen hstack hW hd (fun _ _ => ⟨rfl, eT, hc, hs⟩)
  dsimp only [Pt.U, Pt.locs, Pt.cells, Pt.slots] at X4 l4 y4 z4 st hQ
  subst l4 y4 z4
  exact ⟨v, T4, _, Lc, X4, rfl, hQ, fun t k => st.trans k⟩
theorem own_callV (X : Stand p l e R s m args below meth c T locs cells slots) (hx : p.tables.exec = Jvm.exec) (hZ : Z.Warmed39 s.vm) {own C : String} {index : Nat} {y : MethodName} {bytes : ByteArray} {maxL : Nat} {ret : Option FieldType} {rm : Room} {Q : Option Value → Heap → List Loc → Prop}
    (hown : s.vm.findClass own = some m.cls) (w1 : (Cond.methodLink own index y).before a0 Z = true) (w2 : (Cond.declares y).before a0 Z = true) (w5 : (Cond.selects C y y).before a0 Z = true) (w6 : (Cond.instanceMethod y).before a0 Z = true) (w3 : (Cond.initialized y.cls).before a0 Z = true) (w4 : (Cond.code y bytes maxL ret).before a0 Z = true)
    (hy : y.cls ≠ "java/lang/invoke/MethodHandle" ∧ y.cls ≠ "java/lang/invoke/VarHandle") (W : Nat) {g : JFrame} (hg : g.method = m) (hsize : g.locals.size = c.maxLocals) (a : Addr) (E : Exa Z h a C) (argsL rest : List Value)
    (hM : MetFree l y (head1 [Cond.code y bytes maxL ret] rm) (fun a' U => a' = (.ref a :: argsL).toArray ∧ Z.Warmed39 U.vm ∧ U.heap = h) (fun _ _ _ _ _ => True) (fun _ U o U' => ∃ v L, o = .returned v ∧ Q v U'.heap L ∧ FrameEnd U o U' L rm.cells rm.slots))
    (hlen : ∀ sig, parseMethodDescriptor y.desc = some sig → argsL.length = sig.parameters.length) (hstack : g.stack = argsL.reverse ++ .ref a :: rest) (hW : 2 * g.monitorRoom + (rest.map fun v => v.category).sum ≤ W) (hd : decode c.code g.pc = .ok (.invokevirtual index, 3))
    (hf : rm.frames + 1 ≤ R.frames) (hl : W + (maxL + 11) + rm.locals ≤ R.locals) (eT : T.heap = h) (hc : cells + rm.cells ≤ R.cells) (hs : slots + rm.slots ≤ R.slots) :
    ∃ (v : Option Value) (T' : State) (h' : Heap) (L : List Loc), Stand p l e R s m args below meth c T' (locs ++ L) (cells + rm.cells) (slots + rm.slots) ∧ T'.heap = h' ∧ Q v h' L ∧
      ∀ t, Steps p.tables e below (T'.setTop { g with pc := g.pc + 3, stack := v.toList ++ rest }) t → Steps p.tables e below (T.setTop g) t := by
  obtain ⟨cB, kB, qa, qb, qc⟩ := isOf (T := T) hZ eT E
  obtain ⟨v, _, ⟨T4, L4, k4, n4⟩, -, X4, ⟨Lc, hQ, l4, y4, z4⟩, st⟩ := X.virtualBack hx (y := y) (z := y) hown (mvT hZ w1) (mvT hZ w2) (notFace_of_selects (args := #[]) (mvT hZ w5)) (mvT hZ w5) (mvT hZ w6) hy (backOf (W := W) hM hZ w4 w3 hf hl) qa qc (g := g) hg hsize (Steps.refl _) (argsL := argsL) (rest := rest) hlen hstack hW hd (fun _ _ => ⟨rfl, eT, hc, hs⟩)
  dsimp only [Pt.U, Pt.locs, Pt.cells, Pt.slots] at X4 l4 y4 z4 st hQ
  subst l4 y4 z4
  exact ⟨v, T4, _, Lc, X4, rfl, hQ, fun t k => st.trans k⟩
end OwnCalls
/-! ## calls of what may intern a String, in one row each -/
section OwnCallsW
variable {p : Program} {l : Launch} {e : Env} {R : Room} {s : State} {vm0 : Vm} {m : MethodId} {args : Array Value} {below : List Frame} {meth : Method} {c : Code} {T : State} {locs : List Loc} {cells slots : Nat} {Z : State} {a0 : Array Value} {h : Heap}
theorem own_callSS (X : Stand p l e R (s.setVm vm0) m args below meth c T locs cells slots) (hx : p.tables.exec = Jvm.exec) (hZ : Z.Warmed39 vm0) {own : String} {index : Nat} {y : MethodName} {bytes : ByteArray} {maxL : Nat} {ret : Option FieldType} {rm : Room} {Q : Option Value → Heap → List Loc → Prop}
    (hown : vm0.findClass own = some m.cls) (w1 : (Cond.methodLink own index y).before a0 Z = true) (w2 : (Cond.static y).before a0 Z = true) (w3 : (Cond.initialized y.cls).before a0 Z = true) (w4 : (Cond.code y bytes maxL ret).before a0 Z = true)
    (hy : y.cls ≠ "java/lang/invoke/MethodHandle" ∧ y.cls ≠ "java/lang/invoke/VarHandle") (W : Nat) {g : JFrame} (hg : g.method = m) (hsize : g.locals.size = c.maxLocals) (argsL rest : List Value)
    (hM : MetFree l y (head1 [Cond.code y bytes maxL ret] rm) (fun a' U => a' = argsL.toArray ∧ Z.Warmed39 U.vm ∧ U.heap = h) (fun _ _ _ _ _ => True) (fun _ U o U' => ∃ v L, o = .returned v ∧ Q v U'.heap L ∧ ReturnedEndW U o U' L rm.cells rm.slots))
    (hlen : ∀ sig, parseMethodDescriptor y.desc = some sig → argsL.length = sig.parameters.length) (hstack : g.stack = argsL.reverse ++ rest) (hW : 2 * g.monitorRoom + (rest.map fun v => v.category).sum ≤ W) (hd : decode c.code g.pc = .ok (.invokestatic index, 3))
    (hf : rm.frames + 1 ≤ R.frames) (hl : W + (maxL + 11) + rm.locals ≤ R.locals) (eT : T.heap = h) (hc : cells + rm.cells ≤ R.cells) (hs : slots + rm.slots ≤ R.slots) {k0 : Nat} (hS : s.Since vm0 k0) (hk : k0 ≤ h.size) :
    ∃ (v : Option Value) (T' : State) (h' : Heap) (L : List Loc), Stand p l e R (s.setVm T'.vm) m args below meth c T' (locs ++ L) (cells + rm.cells) (slots + rm.slots) ∧ T'.heap = h' ∧ s.Since T'.vm h'.size ∧ Z.Warmed39 T'.vm ∧ T'.vm.findClass own = some m.cls ∧ Q v h' L ∧
      ∀ t, Steps p.tables e below (T'.setTop { g with pc := g.pc + 3, stack := v.toList ++ rest }) t → Steps p.tables e below (T.setTop g) t := by
  have hZ' : Z.Warmed39 (s.setVm vm0).vm := hZ
  obtain ⟨v, _, ⟨T4, L4, k4, n4⟩, -, X4, hS4, hgr, ⟨Lc, hQ, l4, y4, z4⟩, st⟩ := Jvm.RoadKit.callSS X hx (y := y) hown (mvT hZ' w1) (mvT hZ' w2) (mvT hZ' w3) (mvT hZ' w4) hy (backOfS (W := W) hM hZ' w4 w3 hf hl) (g := g) hg hsize (argsL := argsL) (rest := rest) hlen hstack hW hd (fun _ _ => ⟨rfl, eT, hc, hs⟩)
  dsimp only [Pt.U, Pt.locs, Pt.cells, Pt.slots] at X4 l4 y4 z4 st hQ hS4 hgr
  subst l4 y4 z4
  subst eT
  exact ⟨v, T4, _, Lc, X4, rfl, foldS hS hk hS4 hgr, State.Warmed39.trans (t := s.setVm vm0) hZ hS4.1, by rw [hS4.1.alike.findClass]; exact hown, hQ, fun t k => st.trans k⟩
theorem own_callVS (X : Stand p l e R (s.setVm vm0) m args below meth c T locs cells slots) (hx : p.tables.exec = Jvm.exec) (hZ : Z.Warmed39 vm0) {own C : String} {index : Nat} {y : MethodName} {bytes : ByteArray} {maxL : Nat} {ret : Option FieldType} {rm : Room} {Q : Option Value → Heap → List Loc → Prop}
    (hown : vm0.findClass own = some m.cls) (w1 : (Cond.methodLink own index y).before a0 Z = true) (w2 : (Cond.declares y).before a0 Z = true) (w5 : (Cond.selects C y y).before a0 Z = true) (w6 : (Cond.instanceMethod y).before a0 Z = true) (w3 : (Cond.initialized y.cls).before a0 Z = true) (w4 : (Cond.code y bytes maxL ret).before a0 Z = true)
    (hy : y.cls ≠ "java/lang/invoke/MethodHandle" ∧ y.cls ≠ "java/lang/invoke/VarHandle") (W : Nat) {g : JFrame} (hg : g.method = m) (hsize : g.locals.size = c.maxLocals) (a : Addr) (E : Exa Z h a C) (argsL rest : List Value)
    (hM : MetFree l y (head1 [Cond.code y bytes maxL ret] rm) (fun a' U => a' = (.ref a :: argsL).toArray ∧ Z.Warmed39 U.vm ∧ U.heap = h) (fun _ _ _ _ _ => True) (fun _ U o U' => ∃ v L, o = .returned v ∧ Q v U'.heap L ∧ ReturnedEndW U o U' L rm.cells rm.slots))
    (hlen : ∀ sig, parseMethodDescriptor y.desc = some sig → argsL.length = sig.parameters.length) (hstack : g.stack = argsL.reverse ++ .ref a :: rest) (hW : 2 * g.monitorRoom + (rest.map fun v => v.category).sum ≤ W) (hd : decode c.code g.pc = .ok (.invokevirtual index, 3))
    (hf : rm.frames + 1 ≤ R.frames) (hl : W + (maxL + 11) + rm.locals ≤ R.locals) (eT : T.heap = h) (hc : cells + rm.cells ≤ R.cells) (hs : slots + rm.slots ≤ R.slots) {k0 : Nat} (hS : s.Since vm0 k0) (hk : k0 ≤ h.size) :
    ∃ (v : Option Value) (T' : State) (h' : Heap) (L : List Loc), Stand p l e R (s.setVm T'.vm) m args below meth c T' (locs ++ L) (cells + rm.cells) (slots + rm.slots) ∧ T'.heap = h' ∧ s.Since T'.vm h'.size ∧ Z.Warmed39 T'.vm ∧ T'.vm.findClass own = some m.cls ∧ Q v h' L ∧
      ∀ t, Steps p.tables e below (T'.setTop { g with pc := g.pc + 3, stack := v.toList ++ rest }) t → Steps p.tables e below (T.setTop g) t := by
  have hZ' : Z.Warmed39 (s.setVm vm0).vm := hZ
  obtain ⟨cB, kB, qa, qb, qc⟩ := isOf (s := s.setVm vm0) (T := T) hZ' eT E
  obtain ⟨v, _, ⟨T4, L4, k4, n4⟩, -, X4, hS4, hgr, ⟨Lc, hQ, l4, y4, z4⟩, st⟩ := X.virtualBackS hx (y := y) (z := y) hown (mvT hZ' w1) (mvT hZ' w2) (notFace_of_selects (args := #[]) (mvT hZ' w5)) (mvT hZ' w5) (mvT hZ' w6) hy (backOfS (W := W) hM hZ' w4 w3 hf hl) qa qc (g := g) hg hsize (Steps.refl _) (argsL := argsL) (rest := rest) hlen hstack hW hd (fun _ _ => ⟨rfl, eT, hc, hs⟩)
  dsimp only [Pt.U, Pt.locs, Pt.cells, Pt.slots] at X4 l4 y4 z4 st hQ hS4 hgr
  subst l4 y4 z4
  subst eT
  exact ⟨v, T4, _, Lc, X4, rfl, foldS hS hk hS4 hgr, State.Warmed39.trans (t := s.setVm vm0) hZ hS4.1, by rw [hS4.1.alike.findClass]; exact hown, hQ, fun t k => st.trans k⟩
theorem own_callIS (X : Stand p l e R (s.setVm vm0) m args below meth c T locs cells slots) (hx : p.tables.exec = Jvm.exec) (hZ : Z.Warmed39 vm0) {own : String} {index : Nat} {y : MethodName} {bytes : ByteArray} {maxL : Nat} {rm : Room} {Q : Option Value → Heap → List Loc → Prop}
    (hy1 : y.name = "<init>") (hown : vm0.findClass own = some m.cls) (w1 : (Cond.methodLink own index y).before a0 Z = true) (w2 : (Cond.instanceMethod y).before a0 Z = true) (w3 : (Cond.initialized y.cls).before a0 Z = true) (w4 : (Cond.code y bytes maxL none).before a0 Z = true)
    (hy : y.cls ≠ "java/lang/invoke/MethodHandle" ∧ y.cls ≠ "java/lang/invoke/VarHandle") (W : Nat) {g : JFrame} (hg : g.method = m) (hsize : g.locals.size = c.maxLocals) (a : Addr) (argsL rest : List Value)
    (hM : MetFree l y (head1 [Cond.code y bytes maxL none] rm) (fun a' U => a' = (.ref a :: argsL).toArray ∧ Z.Warmed39 U.vm ∧ U.heap = h) (fun _ _ _ _ _ => True) (fun _ U o U' => ∃ v L, o = .returned v ∧ Q v U'.heap L ∧ ReturnedEndW U o U' L rm.cells rm.slots))
    (hlen : ∀ sig, parseMethodDescriptor y.desc = some sig → argsL.length = sig.parameters.length) (hstack : g.stack = argsL.reverse ++ .ref a :: rest) (hW : 2 * g.monitorRoom + (rest.map fun v => v.category).sum ≤ W) (hd : decode c.code g.pc = .ok (.invokespecial index, 3))
    (hf : rm.frames + 1 ≤ R.frames) (hl : W + (maxL + 11) + rm.locals ≤ R.locals) (eT : T.heap = h) (hc : cells + rm.cells ≤ R.cells) (hs : slots + rm.slots ≤ R.slots) {k0 : Nat} (hS : s.Since vm0 k0) (hk : k0 ≤ h.size) :
    ∃ (v : Option Value) (T' : State) (h' : Heap) (L : List Loc), Stand p l e R (s.setVm T'.vm) m args below meth c T' (locs ++ L) (cells + rm.cells) (slots + rm.slots) ∧ T'.heap = h' ∧ s.Since T'.vm h'.size ∧ Z.Warmed39 T'.vm ∧ T'.vm.findClass own = some m.cls ∧ Q v h' L ∧
      ∀ t, Steps p.tables e below (T'.setTop { g with pc := g.pc + 3, stack := v.toList ++ rest }) t → Steps p.tables e below (T.setTop g) t := by
  have hZ' : Z.Warmed39 (s.setVm vm0).vm := hZ
  obtain ⟨v, _, ⟨T4, L4, k4, n4⟩, -, X4, hS4, hgr, ⟨Lc, hQ, l4, y4, z4⟩, st⟩ := X.specialBackS hx (y := y) hy1 hown (mvT hZ' w1) (mvT hZ' w2) (mvT hZ' w4) hy (backOfS (W := W) hM hZ' w4 w3 hf hl) (g := g) hg hsize (Steps.refl _) (a := a) (argsL := argsL) (rest := rest) hlen hstack hW hd (fun _ _ => ⟨rfl, eT, hc, hs⟩)
  dsimp only [Pt.U, Pt.locs, Pt.cells, Pt.slots] at X4 l4 y4 z4 st hQ hS4 hgr
  subst l4 y4 z4
  subst eT
  exact ⟨v, T4, _, Lc, X4, rfl, foldS hS hk hS4 hgr, State.Warmed39.trans (t := s.setVm vm0) hZ hS4.1, by rw [hS4.1.alike.findClass]; exact hown, hQ, fun t k => st.trans k⟩
end OwnCallsW
/-! ## the same, where the callee reads a String constant of the list EL -/
section OwnCallsH
variable {p : Program} {l : Launch} {e : Env} {R : Room} {s : State} {vm0 : Vm} {m : MethodId} {args : Array Value} {below : List Frame} {meth : Method} {c : Code} {T : State} {locs : List Loc} {cells slots : Nat} {Z : State} {a0 : Array Value} {h : Heap} {EL : List (String × Nat)}
theorem own_backH {y : MethodName} {bytes : ByteArray} {maxL : Nat} {ret : Option FieldType} {rm : Room} {len W : Nat} {as' : Array Value} {Q : Option Value → Heap → List Loc → Prop}
    (hM : MetFree l y (head1 [Cond.code y bytes maxL ret] rm) (fun a U => a = as' ∧ Z.Warmed39 U.vm ∧ U.heap = h ∧ CHv Z EL U.vm h) (fun _ _ _ _ _ => True) (fun _ U o U' => ∃ v L, o = .returned v ∧ Q v U'.heap L ∧ ReturnedEndW U o U' L rm.cells rm.slots))
    (hZ : Z.Warmed39 vm0) (wc : (Cond.code y bytes maxL ret).before a0 Z = true) (wz : (Cond.initialized y.cls).before a0 Z = true) (hf : rm.frames + 1 ≤ R.frames) (hl : W + (maxL + 11) + rm.locals ≤ R.locals) (hEL : EW Z a0 EL) (H : CHv Z EL vm0 h) :
    BackS l R p e below (s.setVm vm0) args y len W (fun A a => a = as' ∧ A.U.heap = h ∧ A.cells + rm.cells ≤ R.cells ∧ A.slots + rm.slots ≤ R.slots)
      (fun A _ v B => ∃ L, Q v B.U.heap L ∧ B.locs = A.locs ++ L ∧ B.cells = A.cells + rm.cells ∧ B.slots = A.slots + rm.slots) :=
  BackS.of_freeW (bytes := bytes) (maxL := maxL) (ret := ret) (E := fun _ _ o t L k n => k = rm.cells ∧ n = rm.slots ∧ ∃ v, o = .returned v ∧ Q v t.heap L) hM hf hl
    (fun m meth c A a Y hp => have hU : Z.Warmed39 A.U.vm := wtrans (s := s.setVm vm0) hZ Y.warmed
      ⟨by show (Cond.and _ .tt).before a A.U = true; rw [Cond.before_and, mv hU wc]; rfl, mv hU wc, mv hU wz, hp.2.2.1, hp.2.2.2⟩)
    (fun m meth c A a g mk Y hp => ⟨hp.1, wtrans (s := s.setVm vm0) hZ Y.warmed, hp.2.1, (CHv.at Y hZ hEL H).1⟩) (fun _ _ _ _ _ _ _ _ _ => trivial)
    (fun _ _ _ _ ⟨v, L, h1, h2, h3⟩ => ⟨L, _, _, h3, rfl, rfl, v, h1, h2⟩)
    (fun m meth c A a g mk v t L k n Y hp _ _ ⟨e1, e2, v', e3, e4⟩ => by cases e3; subst e1 e2; exact ⟨L, e4, rfl, rfl, rfl⟩)
theorem own_callSSH (X : Stand p l e R (s.setVm vm0) m args below meth c T locs cells slots) (hx : p.tables.exec = Jvm.exec) (hZ : Z.Warmed39 vm0) {own : String} {index : Nat} {y : MethodName} {bytes : ByteArray} {maxL : Nat} {ret : Option FieldType} {rm : Room} {Q : Option Value → Heap → List Loc → Prop}
    (hown : vm0.findClass own = some m.cls) (w1 : (Cond.methodLink own index y).before a0 Z = true) (w2 : (Cond.static y).before a0 Z = true) (w3 : (Cond.initialized y.cls).before a0 Z = true) (w4 : (Cond.code y bytes maxL ret).before a0 Z = true)
    (hy : y.cls ≠ "java/lang/invoke/MethodHandle" ∧ y.cls ≠ "java/lang/invoke/VarHandle") (W : Nat) {g : JFrame} (hg : g.method = m) (hsize : g.locals.size = c.maxLocals) (argsL rest : List Value)
    (hM : MetFree l y (head1 [Cond.code y bytes maxL ret] rm) (fun a' U => a' = argsL.toArray ∧ Z.Warmed39 U.vm ∧ U.heap = h ∧ CHv Z EL U.vm h) (fun _ _ _ _ _ => True) (fun _ U o U' => ∃ v L, o = .returned v ∧ Q v U'.heap L ∧ ReturnedEndW U o U' L rm.cells rm.slots))
    (hlen : ∀ sig, parseMethodDescriptor y.desc = some sig → argsL.length = sig.parameters.length) (hstack : g.stack = argsL.reverse ++ rest) (hW : 2 * g.monitorRoom + (rest.map fun v => v.category).sum ≤ W) (hd : decode c.code g.pc = .ok (.invokestatic index, 3))
    (hf : rm.frames + 1 ≤ R.frames) (hl : W + (maxL + 11) + rm.locals ≤ R.locals) (eT : T.heap = h) (hc : cells + rm.cells ≤ R.cells) (hs : slots + rm.slots ≤ R.slots) {k0 : Nat} (hS : s.Since vm0 k0) (hk : k0 ≤ h.size) (hEL : EW Z a0 EL) (H : CHv Z EL vm0 h) :
    ∃ (v : Option Value) (T' : State) (h' : Heap) (L : List Loc), Stand p l e R (s.setVm T'.vm) m args below meth c T' (locs ++ L) (cells + rm.cells) (slots + rm.slots) ∧ T'.heap = h' ∧ s.Since T'.vm h'.size ∧ Z.Warmed39 T'.vm ∧ T'.vm.findClass own = some m.cls ∧ Q v h' L ∧
      ∀ t, Steps p.tables e below (T'.setTop { g with pc := g.pc + 3, stack := v.toList ++ rest }) t → Steps p.tables e below (T.setTop g) t := by
  have hZ' : Z.Warmed39 (s.setVm vm0).vm := hZ
  obtain ⟨v, _, ⟨T4, L4, k4, n4⟩, -, X4, hS4, hgr, ⟨Lc, hQ, l4, y4, z4⟩, st⟩ := Jvm.RoadKit.callSS X hx (y := y) hown (mvT hZ' w1) (mvT hZ' w2) (mvT hZ' w3) (mvT hZ' w4) hy (own_backH (W := W) hM hZ w4 w3 hf hl hEL H) (g := g) hg hsize (argsL := argsL) (rest := rest) hlen hstack hW hd (fun _ _ => ⟨rfl, eT, hc, hs⟩)
  dsimp only [Pt.U, Pt.locs, Pt.cells, Pt.slots] at X4 l4 y4 z4 st hQ hS4 hgr
  subst l4 y4 z4
  subst eT
  exact ⟨v, T4, _, Lc, X4, rfl, foldS hS hk hS4 hgr, State.Warmed39.trans (t := s.setVm vm0) hZ hS4.1, by rw [hS4.1.alike.findClass]; exact hown, hQ, fun t k => st.trans k⟩
theorem own_callISH (X : Stand p l e R (s.setVm vm0) m args below meth c T locs cells slots) (hx : p.tables.exec = Jvm.exec) (hZ : Z.Warmed39 vm0) {own : String} {index : Nat} {y : MethodName} {bytes : ByteArray} {maxL : Nat} {rm : Room} {Q : Option Value → Heap → List Loc → Prop}
    (hy1 : y.name = "<init>") (hown : vm0.findClass own = some m.cls) (w1 : (Cond.methodLink own index y).before a0 Z = true) (w2 : (Cond.instanceMethod y).before a0 Z = true) (w3 : (Cond.initialized y.cls).before a0 Z = true) (w4 : (Cond.code y bytes maxL none).before a0 Z = true)
    (hy : y.cls ≠ "java/lang/invoke/MethodHandle" ∧ y.cls ≠ "java/lang/invoke/VarHandle") (W : Nat) {g : JFrame} (hg : g.method = m) (hsize : g.locals.size = c.maxLocals) (a : Addr) (argsL rest : List Value)
    (hM : MetFree l y (head1 [Cond.code y bytes maxL none] rm) (fun a' U => a' = (.ref a :: argsL).toArray ∧ Z.Warmed39 U.vm ∧ U.heap = h ∧ CHv Z EL U.vm h) (fun _ _ _ _ _ => True) (fun _ U o U' => ∃ v L, o = .returned v ∧ Q v U'.heap L ∧ ReturnedEndW U o U' L rm.cells rm.slots))
    (hlen : ∀ sig, parseMethodDescriptor y.desc = some sig → argsL.length = sig.parameters.length) (hstack : g.stack = argsL.reverse ++ .ref a :: rest) (hW : 2 * g.monitorRoom + (rest.map fun v => v.category).sum ≤ W) (hd : decode c.code g.pc = .ok (.invokespecial index, 3))
    (hf : rm.frames + 1 ≤ R.frames) (hl : W + (maxL + 11) + rm.locals ≤ R.locals) (eT : T.heap = h) (hc : cells + rm.cells ≤ R.cells) (hs : slots + rm.slots ≤ R.slots) {k0 : Nat} (hS : s.Since vm0 k0) (hk : k0 ≤ h.size) (hEL : EW Z a0 EL) (H : CHv Z EL vm0 h) :
    ∃ (v : Option Value) (T' : State) (h' : Heap) (L : List Loc), Stand p l e R (s.setVm T'.vm) m args below meth c T' (locs ++ L) (cells + rm.cells) (slots + rm.slots) ∧ T'.heap = h' ∧ s.Since T'.vm h'.size ∧ Z.Warmed39 T'.vm ∧ T'.vm.findClass own = some m.cls ∧ Q v h' L ∧
      ∀ t, Steps p.tables e below (T'.setTop { g with pc := g.pc + 3, stack := v.toList ++ rest }) t → Steps p.tables e below (T.setTop g) t := by
  have hZ' : Z.Warmed39 (s.setVm vm0).vm := hZ
  obtain ⟨v, _, ⟨T4, L4, k4, n4⟩, -, X4, hS4, hgr, ⟨Lc, hQ, l4, y4, z4⟩, st⟩ := X.specialBackS hx (y := y) hy1 hown (mvT hZ' w1) (mvT hZ' w2) (mvT hZ' w4) hy (own_backH (W := W) hM hZ w4 w3 hf hl hEL H) (g := g) hg hsize (Steps.refl _) (a := a) (argsL := argsL) (rest := rest) hlen hstack hW hd (fun _ _ => ⟨rfl, eT, hc, hs⟩)
  dsimp only [Pt.U, Pt.locs, Pt.cells, Pt.slots] at X4 l4 y4 z4 st hQ hS4 hgr
  subst l4 y4 z4
  subst eT
  exact ⟨v, T4, _, Lc, X4, rfl, foldS hS hk hS4 hgr, State.Warmed39.trans (t := s.setVm vm0) hZ hS4.1, by rw [hS4.1.alike.findClass]; exact hown, hQ, fun t k => st.trans k⟩
end OwnCallsH
/-! ## chars, bytes, arrays -/
def own_Ch (c : Int32) : Prop := ¬ c < 0 ∧ ¬ (65535 : Int32) < c
def own_lo (c : Int32) : Int32 := c.toInt8.toInt32
def own_hi (c : Int32) : Int32 := (c >>> ((8 : Int32) &&& 31)).toInt8.toInt32
def own_vb (c : Int32) : Value := .int (own_lo c)
theorem own_ch_int {c : Int32} (h : own_Ch c) : 0 ≤ c.toInt ∧ c.toInt ≤ 65535 := by
  have h1 := h.1; have h2 := h.2
  rw [Int32.lt_iff_toInt_lt] at h1 h2
  have e1 : (0 : Int32).toInt = 0 := rfl
  have e2 : (65535 : Int32).toInt = 65535 := rfl
  omega
theorem own_nar_char {c : Int32} (h : own_Ch c) : nar .char c = c := by
  have h1 := own_ch_int h
  have h2 := c_i2c c
  refine Int32.toInt_inj.mp ?_
  show (c.toUInt32.toUInt16.toUInt32.toInt32).toInt = c.toInt
  omega
theorem own_nar_lo (c : Int32) : nar .byte (own_lo c) = own_lo c := by
  have h1 := c_i2b c
  have h2 := c_i2b (own_lo c)
  refine Int32.toInt_inj.mp ?_
  show ((own_lo c).toInt8.toInt32).toInt = (own_lo c).toInt
  have e : (own_lo c).toInt = (c.toInt8.toInt32).toInt := rfl
  omega
theorem own_nar_hi (c : Int32) : nar .byte (own_hi c) = own_hi c := own_nar_lo (c >>> ((8 : Int32) &&& 31))
theorem own_fit_lo (c : Int32) : fits .byte (.int (own_lo c)) = true := fits_nar_byte c
theorem own_fit_hi (c : Int32) : fits .byte (.int (own_hi c)) = true := fits_nar_byte _
theorem own_shr0 (c : Int32) : c >>> ((0 : Int32) &&& 31) = c := by
  have h := c_ishr c 0 0 (by decide)
  refine Int32.toInt_inj.mp ?_
  rw [h]; simp
theorem own_lo_mask {c : Int32} (h0 : ¬ c < 0) (h1 : ¬ (255 : Int32) < c) : own_lo c &&& 255 = c := by
  rw [Int32.lt_iff_toInt_lt] at h0 h1
  have e1 : (0 : Int32).toInt = 0 := rfl
  have e2 : (255 : Int32).toInt = 255 := rfl
  have h2 := c_i2b c
  have h3 := c_mask (own_lo c) 255 8 (by decide) (by decide)
  have e : (own_lo c).toInt = (c.toInt8.toInt32).toInt := rfl
  refine Int32.toInt_inj.mp ?_
  omega
theorem own_pair {c : Int32} (h : own_Ch c) : (((own_lo c &&& 255) <<< ((0 : Int32) &&& 31)) ||| ((own_hi c &&& 255) <<< ((8 : Int32) &&& 31))).toUInt32.toUInt16.toUInt32.toInt32 = c := by
  have h1 := own_ch_int h
  have a1 := c_i2b c
  have a2 := c_ishr c 8 8 (by decide)
  have a3 := c_i2b (c >>> ((8 : Int32) &&& 31))
  have b1 := c_mask (own_lo c) 255 8 (by decide) (by decide)
  have b2 := c_mask (own_hi c) 255 8 (by decide) (by decide)
  have c1 := c_ishl (own_lo c &&& 255) 0 0 (by decide)
  have c2 := c_ishl (own_hi c &&& 255) 8 8 (by decide)
  have r1 := rng32 ((own_lo c &&& 255) <<< ((0 : Int32) &&& 31))
  have r2 := rng32 ((own_hi c &&& 255) <<< ((8 : Int32) &&& 31))
  have e1 : (own_lo c).toInt = (c.toInt8.toInt32).toInt := rfl
  have e2 : (own_hi c).toInt = ((c >>> ((8 : Int32) &&& 31)).toInt8.toInt32).toInt := rfl
  generalize hx : (own_lo c &&& 255) <<< ((0 : Int32) &&& 31) = x at *
  generalize hy : (own_hi c &&& 255) <<< ((8 : Int32) &&& 31) = y at *
  have o := c_or' x y 8 (by decide) 256 (by decide) (by omega) (by omega) (by omega)
  have d := c_i2c (x ||| y)
  have r3 := rng32 (x ||| y)
  refine Int32.toInt_inj.mp ?_
  omega
/-- an array's store behind the values that are said so far -/
theorem own_push {Z : State} {h h' : Heap} {a : Addr} {k : ClassId} {ty : FieldType} {z j : Int32} {vs : List Value} {v dv : Value} (F : Arv Z h a k ty z vs dv) (hv : fits ty v = true) (W : Wr h h' a j.toNatClampNeg v) (hj : j.toNatClampNeg = vs.length) : Arv Z h' a k ty z (vs ++ [v]) dv := by
  obtain ⟨c, A, q1, S, q3, H, G⟩ := F.pad (pad_rep vs dv 1)
  have q := Arv.set A q1 S q3 H G hv W vs.length hj (by simp)
  have e : (vs ++ List.replicate 1 dv).set vs.length v = vs ++ [v] := by simp
  rw [e] at q
  exact q
theorem own_n32 {n : Nat} (h : n < 2 ^ 31) : (Int32.ofNat n).toNatClampNeg = n := by
  rw [Int32.toNatClampNeg, Int32.toInt_ofNat_of_lt h]; rfl
theorem own_lt32 {i n : Nat} (h : i < n) (hn : n < 2 ^ 31) : Int32.ofNat i < Int32.ofNat n := by
  rw [Int32.lt_iff_toInt_lt, Int32.toInt_ofNat_of_lt (by omega), Int32.toInt_ofNat_of_lt hn]; omega
theorem own_nn32 {n : Nat} (h : n < 2 ^ 31) : ¬ Int32.ofNat n < 0 := by
  rw [Int32.lt_iff_toInt_lt, Int32.toInt_ofNat_of_lt h]; show ¬ ((n : Int) < 0); omega
theorem own_suc (i : Nat) : Int32.ofNat i + 1 = Int32.ofNat (i + 1) := by rw [Int32.ofNat_add]; rfl
theorem own_in32 {i n : Nat} {c : Cell} (S : c.slots.size = (Int32.ofNat n).toNatClampNeg) (h : i < n) (hn : n < 2 ^ 31) : ¬ (Int32.ofNat i < 0 ∨ c.slots.size ≤ (Int32.ofNat i).toNatClampNeg) := by
  rw [S, own_n32 hn, own_n32 (by omega)]
  exact fun q => q.elim (own_nn32 (by omega)) (fun q => by omega)
theorem own_getI (cs : List Int32) (j : Nat) (h : j < cs.length) (d : Value) : (cs.map Value.int).getD j d = .int (cs.getD j 0) := by simp [List.getD, h]
theorem own_getB (cs : List Int32) (j : Nat) (h : j < cs.length) (d : Value) : (cs.map own_vb).getD j d = .int (own_lo (cs.getD j 0)) := by simp [List.getD, h, own_vb]
theorem own_take1 (cs : List Int32) (i : Nat) (h : i < cs.length) : cs.take (i + 1) = cs.take i ++ [cs.getD i 0] := by rw [List.take_add_one]; simp [List.getD, h]
theorem own_takeB (cs : List Int32) (i : Nat) (h : i < cs.length) : (cs.take i).map own_vb ++ [.int (own_lo (cs.getD i 0))] = (cs.take (i + 1)).map own_vb := by
  rw [own_take1 cs i h, List.map_append]; rfl
/-- the two bytes of each char, the low one first -/
def own_wide : List Int32 → List Value
  | [] => []
  | c :: cs => .int (own_lo c) :: .int (own_hi c) :: own_wide cs
theorem own_wide_len : ∀ cs : List Int32, (own_wide cs).length = 2 * cs.length
  | [] => rfl
  | c :: cs => by show (own_wide cs).length + 1 + 1 = 2 * (cs.length + 1); rw [own_wide_len cs]; omega
theorem own_wide_app : ∀ (cs ds : List Int32), own_wide (cs ++ ds) = own_wide cs ++ own_wide ds
  | [], _ => rfl
  | c :: cs, ds => by show _ :: _ :: own_wide (cs ++ ds) = _; rw [own_wide_app cs ds]; rfl
theorem own_wide_lo (d : Value) : ∀ (cs : List Int32) (j : Nat), j < cs.length → (own_wide cs).getD (2 * j) d = .int (own_lo (cs.getD j 0))
  | [], _, h => absurd h (Nat.not_lt_zero _)
  | c :: cs, 0, _ => rfl
  | c :: cs, j + 1, h => by
    have q := own_wide_lo d cs j (by simpa using h)
    have e : 2 * (j + 1) = 2 * j + 1 + 1 := by omega
    rw [e]; exact q
theorem own_wide_hi (d : Value) : ∀ (cs : List Int32) (j : Nat), j < cs.length → (own_wide cs).getD (2 * j + 1) d = .int (own_hi (cs.getD j 0))
  | [], _, h => absurd h (Nat.not_lt_zero _)
  | c :: cs, 0, _ => rfl
  | c :: cs, j + 1, h => by
    have q := own_wide_hi d cs j (by simpa using h)
    have e : 2 * (j + 1) + 1 = 2 * j + 1 + 1 + 1 := by omega
    rw [e]; exact q
theorem own_takeW (cs : List Int32) (i : Nat) (h : i < cs.length) : own_wide (cs.take i) ++ [.int (own_lo (cs.getD i 0)), .int (own_hi (cs.getD i 0))] = own_wide (cs.take (i + 1)) := by
  rw [own_take1 cs i h, own_wide_app]; rfl
theorem own_shl1 {n : Nat} (h : n < 2 ^ 30) : Int32.ofNat n <<< ((1 : Int32) &&& 31) = Int32.ofNat (2 * n) := by
  have q := c_ishl (Int32.ofNat n) 1 1 (by decide)
  have r := rng32 (Int32.ofNat n <<< ((1 : Int32) &&& 31))
  refine Int32.toInt_inj.mp ?_
  rw [Int32.toInt_ofNat_of_lt (by omega)] at *
  omega
theorem own_shr1 {n : Nat} (h : n < 2 ^ 30) : Int32.ofNat (2 * n) >>> ((1 : Int32) &&& 31) = Int32.ofNat n := by
  have q := c_ishr (Int32.ofNat (2 * n)) 1 1 (by decide)
  refine Int32.toInt_inj.mp ?_
  rw [q, Int32.toInt_ofNat_of_lt (by omega), Int32.toInt_ofNat_of_lt (by omega)]
  omega
/-- what a String holds: its chars, Latin-1 or UTF-16 -/
def own_Str (Z : State) (h : Heap) (x t : Addr) (cs : List Int32) : Prop := Exa Z h x "java/lang/String" ∧ Fld Z h x "java/lang/String" "value" "[B" (.ref t) ∧
  ((Fld Z h x "java/lang/String" "coder" "B" (.int 0) ∧ (∃ kt, Arv Z h t kt .byte (Int32.ofNat cs.length) (cs.map own_vb) (.int 0)) ∧ ∀ j, j < cs.length → ¬ (255 : Int32) < cs.getD j 0) ∨
   (Fld Z h x "java/lang/String" "coder" "B" (.int 1) ∧ (∃ kt, Arv Z h t kt .byte (Int32.ofNat (2 * cs.length)) (own_wide cs) (.int 0)) ∧ ∃ j, j < cs.length ∧ (255 : Int32) < cs.getD j 0))
theorem own_Str.ext {Z : State} {h h' : Heap} {x t : Addr} {cs : List Int32} (S : own_Str Z h x t cs) (E : Ext h h') : own_Str Z h' x t cs :=
  ⟨S.1.ext E, S.2.1.ext E, S.2.2.imp (fun q => ⟨q.1.ext E, q.2.1.imp fun _ z => z.ext E, q.2.2⟩) (fun q => ⟨q.1.ext E, q.2.1.imp fun _ z => z.ext E, q.2.2⟩)⟩
theorem own_Str.keep {Z : State} {h h' : Heap} {ws : List Addr} {x t : Addr} {cs : List Int32} (S : own_Str Z h x t cs) (K : Keep h h' ws) (q1 : x ∉ ws) (q2 : t ∉ ws) : own_Str Z h' x t cs :=
  ⟨S.1.keep K, S.2.1.keep K q1, S.2.2.imp (fun q => ⟨q.1.keep K q1, q.2.1.imp fun _ z => z.keep K q2, q.2.2⟩) (fun q => ⟨q.1.keep K q1, q.2.1.imp fun _ z => z.keep K q2, q.2.2⟩)⟩
theorem own_Str.tlt {Z : State} {h : Heap} {x t : Addr} {cs : List Int32} (S : own_Str Z h x t cs) : t < h.size := by
  rcases S.2.2 with ⟨-, ⟨_, A⟩, -⟩ | ⟨-, ⟨_, A⟩, -⟩ <;> exact A.lt
theorem own_sub {h h' : Heap} {n0 : Nat} (q : n0 ≤ h.size) (E : Ext h h') : n0 ≤ h'.size := Nat.le_trans q E.1

theorem d1_0 : decode method_2_code 0 = .ok (.iload_n 0, 1) := by decide +kernel
theorem d1_1 : decode method_2_code 1 = .ok (.bipush 16, 2) := by decide +kernel
theorem d1_3 : decode method_2_code 3 = .ok (.iushr, 1) := by decide +kernel
theorem d1_4 : decode method_2_code 4 = .ok (.iconst 3, 1) := by decide +kernel
theorem d1_5 : decode method_2_code 5 = .ok (.iand, 1) := by decide +kernel
theorem d1_6 : decode method_2_code 6 = .ok (.istore_n 1, 1) := by decide +kernel
theorem d1_7 : decode method_2_code 7 = .ok (.iload_n 1, 1) := by decide +kernel
theorem d1_8 : decode method_2_code 8 = .ok (.ifCond .ne 6, 3) := by decide +kernel
theorem d1_11 : decode method_2_code 11 = .ok (.bipush 13, 2) := by decide +kernel
theorem d1_13 : decode method_2_code 13 = .ok (.ireturn, 1) := by decide +kernel
theorem d1_14 : decode method_2_code 14 = .ok (.iload_n 1, 1) := by decide +kernel
theorem d1_15 : decode method_2_code 15 = .ok (.iconst 1, 1) := by decide +kernel
theorem d1_16 : decode method_2_code 16 = .ok (.if_icmp .ne 6, 3) := by decide +kernel
theorem d1_19 : decode method_2_code 19 = .ok (.bipush 10, 2) := by decide +kernel
theorem d1_21 : decode method_2_code 21 = .ok (.ireturn, 1) := by decide +kernel
theorem d1_22 : decode method_2_code 22 = .ok (.iload_n 1, 1) := by decide +kernel
theorem d1_23 : decode method_2_code 23 = .ok (.iconst 2, 1) := by decide +kernel
theorem d1_24 : decode method_2_code 24 = .ok (.if_icmp .ne 5, 3) := by decide +kernel
theorem d1_27 : decode method_2_code 27 = .ok (.iconst 0, 1) := by decide +kernel
theorem d1_28 : decode method_2_code 28 = .ok (.ireturn, 1) := by decide +kernel
theorem d1_29 : decode method_2_code 29 = .ok (.iload_n 0, 1) := by decide +kernel
theorem d1_30 : decode method_2_code 30 = .ok (.i2c, 1) := by decide +kernel
theorem d1_31 : decode method_2_code 31 = .ok (.ireturn, 1) := by decide +kernel
theorem d2_0 : decode jdk_42_method_3_code 0 = .ok (.aload_n 0, 1) := by decide +kernel
theorem d2_1 : decode jdk_42_method_3_code 1 = .ok (.aload_n 1, 1) := by decide +kernel
theorem d2_2 : decode jdk_42_method_3_code 2 = .ok (.iconst 0, 1) := by decide +kernel
theorem d2_3 : decode jdk_42_method_3_code 3 = .ok (.aload_n 1, 1) := by decide +kernel
theorem d2_4 : decode jdk_42_method_3_code 4 = .ok (.arraylength, 1) := by decide +kernel
theorem d2_5 : decode jdk_42_method_3_code 5 = .ok (.aconst_null, 1) := by decide +kernel
theorem d2_6 : decode jdk_42_method_3_code 6 = .ok (.invokespecial 27, 3) := by decide +kernel
theorem d2_9 : decode jdk_42_method_3_code 9 = .ok (.return_, 1) := by decide +kernel
theorem d3_0 : decode jdk_42_method_149_code 0 = .ok (.aload_n 0, 1) := by decide +kernel
theorem d3_1 : decode jdk_42_method_149_code 1 = .ok (.invokespecial 1, 3) := by decide +kernel
theorem d3_4 : decode jdk_42_method_149_code 4 = .ok (.iload_n 3, 1) := by decide +kernel
theorem d3_5 : decode jdk_42_method_149_code 5 = .ok (.ifCond .ne 22, 3) := by decide +kernel
theorem d3_8 : decode jdk_42_method_149_code 8 = .ok (.aload_n 0, 1) := by decide +kernel
theorem d3_9 : decode jdk_42_method_149_code 9 = .ok (.ldc 7, 2) := by decide +kernel
theorem d3_11 : decode jdk_42_method_149_code 11 = .ok (.getfield 9, 3) := by decide +kernel
theorem d3_14 : decode jdk_42_method_149_code 14 = .ok (.putfield 9, 3) := by decide +kernel
theorem d3_17 : decode jdk_42_method_149_code 17 = .ok (.aload_n 0, 1) := by decide +kernel
theorem d3_18 : decode jdk_42_method_149_code 18 = .ok (.ldc 7, 2) := by decide +kernel
theorem d3_20 : decode jdk_42_method_149_code 20 = .ok (.getfield 15, 3) := by decide +kernel
theorem d3_23 : decode jdk_42_method_149_code 23 = .ok (.putfield 15, 3) := by decide +kernel
theorem d3_26 : decode jdk_42_method_149_code 26 = .ok (.return_, 1) := by decide +kernel
theorem d3_27 : decode jdk_42_method_149_code 27 = .ok (.getstatic 38, 3) := by decide +kernel
theorem d3_30 : decode jdk_42_method_149_code 30 = .ok (.ifCond .eq 28, 3) := by decide +kernel
theorem d3_33 : decode jdk_42_method_149_code 33 = .ok (.aload_n 1, 1) := by decide +kernel
theorem d3_34 : decode jdk_42_method_149_code 34 = .ok (.iload_n 2, 1) := by decide +kernel
theorem d3_35 : decode jdk_42_method_149_code 35 = .ok (.iload_n 3, 1) := by decide +kernel
theorem d3_36 : decode jdk_42_method_149_code 36 = .ok (.invokestatic 177, 3) := by decide +kernel
theorem d3_39 : decode jdk_42_method_149_code 39 = .ok (.astore 5, 2) := by decide +kernel
theorem d3_41 : decode jdk_42_method_149_code 41 = .ok (.aload_n 0, 1) := by decide +kernel
theorem d3_42 : decode jdk_42_method_149_code 42 = .ok (.aload 5, 2) := by decide +kernel
theorem d3_44 : decode jdk_42_method_149_code 44 = .ok (.iload_n 3, 1) := by decide +kernel
theorem d3_45 : decode jdk_42_method_149_code 45 = .ok (.invokestatic 47, 3) := by decide +kernel
theorem d3_48 : decode jdk_42_method_149_code 48 = .ok (.putfield 15, 3) := by decide +kernel
theorem d3_51 : decode jdk_42_method_149_code 51 = .ok (.aload_n 0, 1) := by decide +kernel
theorem d3_52 : decode jdk_42_method_149_code 52 = .ok (.aload 5, 2) := by decide +kernel
theorem d3_54 : decode jdk_42_method_149_code 54 = .ok (.putfield 9, 3) := by decide +kernel
theorem d3_57 : decode jdk_42_method_149_code 57 = .ok (.return_, 1) := by decide +kernel
theorem d3_58 : decode jdk_42_method_149_code 58 = .ok (.aload_n 0, 1) := by decide +kernel
theorem d3_59 : decode jdk_42_method_149_code 59 = .ok (.iconst 1, 1) := by decide +kernel
theorem d3_60 : decode jdk_42_method_149_code 60 = .ok (.putfield 15, 3) := by decide +kernel
theorem d3_63 : decode jdk_42_method_149_code 63 = .ok (.aload_n 0, 1) := by decide +kernel
theorem d3_64 : decode jdk_42_method_149_code 64 = .ok (.aload_n 1, 1) := by decide +kernel
theorem d3_65 : decode jdk_42_method_149_code 65 = .ok (.iload_n 2, 1) := by decide +kernel
theorem d3_66 : decode jdk_42_method_149_code 66 = .ok (.iload_n 3, 1) := by decide +kernel
theorem d3_67 : decode jdk_42_method_149_code 67 = .ok (.invokestatic 180, 3) := by decide +kernel
theorem d3_70 : decode jdk_42_method_149_code 70 = .ok (.putfield 9, 3) := by decide +kernel
theorem d3_73 : decode jdk_42_method_149_code 73 = .ok (.return_, 1) := by decide +kernel
theorem d5_0 : decode prog_9_method_2_code 0 = .ok (.aload_n 0, 1) := by decide +kernel
theorem d5_1 : decode prog_9_method_2_code 1 = .ok (.bipush 13, 2) := by decide +kernel
theorem d5_3 : decode prog_9_method_2_code 3 = .ok (.invokevirtual 16, 3) := by decide +kernel
theorem d5_6 : decode prog_9_method_2_code 6 = .ok (.ifCond .ge 24, 3) := by decide +kernel
theorem d5_9 : decode prog_9_method_2_code 9 = .ok (.aload_n 0, 1) := by decide +kernel
theorem d5_10 : decode prog_9_method_2_code 10 = .ok (.bipush 10, 2) := by decide +kernel
theorem d5_12 : decode prog_9_method_2_code 12 = .ok (.invokevirtual 16, 3) := by decide +kernel
theorem d5_15 : decode prog_9_method_2_code 15 = .ok (.ifCond .ge 15, 3) := by decide +kernel
theorem d5_18 : decode prog_9_method_2_code 18 = .ok (.aload_n 0, 1) := by decide +kernel
theorem d5_19 : decode prog_9_method_2_code 19 = .ok (.iconst 0, 1) := by decide +kernel
theorem d5_20 : decode prog_9_method_2_code 20 = .ok (.invokevirtual 16, 3) := by decide +kernel
theorem d5_23 : decode prog_9_method_2_code 23 = .ok (.ifCond .ge 7, 3) := by decide +kernel
theorem d5_26 : decode prog_9_method_2_code 26 = .ok (.iconst 1, 1) := by decide +kernel
theorem d5_27 : decode prog_9_method_2_code 27 = .ok (.goto 4, 3) := by decide +kernel
theorem d5_30 : decode prog_9_method_2_code 30 = .ok (.iconst 0, 1) := by decide +kernel
theorem d5_31 : decode prog_9_method_2_code 31 = .ok (.ireturn, 1) := by decide +kernel
theorem d6_0 : decode jdk_42_method_79_code 0 = .ok (.aload_n 0, 1) := by decide +kernel
theorem d6_1 : decode jdk_42_method_79_code 1 = .ok (.iload_n 1, 1) := by decide +kernel
theorem d6_2 : decode jdk_42_method_79_code 2 = .ok (.iconst 0, 1) := by decide +kernel
theorem d6_3 : decode jdk_42_method_79_code 3 = .ok (.invokevirtual 633, 3) := by decide +kernel
theorem d6_6 : decode jdk_42_method_79_code 6 = .ok (.ireturn, 1) := by decide +kernel
theorem d7_0 : decode jdk_42_method_80_code 0 = .ok (.aload_n 0, 1) := by decide +kernel
theorem d7_1 : decode jdk_42_method_80_code 1 = .ok (.invokevirtual 492, 3) := by decide +kernel
theorem d7_4 : decode jdk_42_method_80_code 4 = .ok (.ifCond .eq 19, 3) := by decide +kernel
theorem d7_7 : decode jdk_42_method_80_code 7 = .ok (.aload_n 0, 1) := by decide +kernel
theorem d7_8 : decode jdk_42_method_80_code 8 = .ok (.getfield 9, 3) := by decide +kernel
theorem d7_11 : decode jdk_42_method_80_code 11 = .ok (.iload_n 1, 1) := by decide +kernel
theorem d7_12 : decode jdk_42_method_80_code 12 = .ok (.iload_n 2, 1) := by decide +kernel
theorem d7_13 : decode jdk_42_method_80_code 13 = .ok (.aload_n 0, 1) := by decide +kernel
theorem d7_14 : decode jdk_42_method_80_code 14 = .ok (.invokevirtual 505, 3) := by decide +kernel
theorem d7_17 : decode jdk_42_method_80_code 17 = .ok (.invokestatic 637, 3) := by decide +kernel
theorem d7_20 : decode jdk_42_method_80_code 20 = .ok (.goto 16, 3) := by decide +kernel
theorem d7_23 : decode jdk_42_method_80_code 23 = .ok (.aload_n 0, 1) := by decide +kernel
theorem d7_24 : decode jdk_42_method_80_code 24 = .ok (.getfield 9, 3) := by decide +kernel
theorem d7_27 : decode jdk_42_method_80_code 27 = .ok (.iload_n 1, 1) := by decide +kernel
theorem d7_28 : decode jdk_42_method_80_code 28 = .ok (.iload_n 2, 1) := by decide +kernel
theorem d7_29 : decode jdk_42_method_80_code 29 = .ok (.aload_n 0, 1) := by decide +kernel
theorem d7_30 : decode jdk_42_method_80_code 30 = .ok (.invokevirtual 505, 3) := by decide +kernel
theorem d7_33 : decode jdk_42_method_80_code 33 = .ok (.invokestatic 640, 3) := by decide +kernel
theorem d7_36 : decode jdk_42_method_80_code 36 = .ok (.ireturn, 1) := by decide +kernel
theorem d8_0 : decode jdk_42_method_154_code 0 = .ok (.getstatic 38, 3) := by decide +kernel
theorem d8_3 : decode jdk_42_method_154_code 3 = .ok (.ifCond .eq 14, 3) := by decide +kernel
theorem d8_6 : decode jdk_42_method_154_code 6 = .ok (.aload_n 0, 1) := by decide +kernel
theorem d8_7 : decode jdk_42_method_154_code 7 = .ok (.getfield 15, 3) := by decide +kernel
theorem d8_10 : decode jdk_42_method_154_code 10 = .ok (.ifCond .ne 7, 3) := by decide +kernel
theorem d8_13 : decode jdk_42_method_154_code 13 = .ok (.iconst 1, 1) := by decide +kernel
theorem d8_14 : decode jdk_42_method_154_code 14 = .ok (.goto 4, 3) := by decide +kernel
theorem d8_17 : decode jdk_42_method_154_code 17 = .ok (.iconst 0, 1) := by decide +kernel
theorem d8_18 : decode jdk_42_method_154_code 18 = .ok (.ireturn, 1) := by decide +kernel
theorem d9_0 : decode jdk_42_method_54_code 0 = .ok (.aload_n 0, 1) := by decide +kernel
theorem d9_1 : decode jdk_42_method_54_code 1 = .ok (.getfield 9, 3) := by decide +kernel
theorem d9_4 : decode jdk_42_method_54_code 4 = .ok (.arraylength, 1) := by decide +kernel
theorem d9_5 : decode jdk_42_method_54_code 5 = .ok (.aload_n 0, 1) := by decide +kernel
theorem d9_6 : decode jdk_42_method_54_code 6 = .ok (.invokevirtual 335, 3) := by decide +kernel
theorem d9_9 : decode jdk_42_method_54_code 9 = .ok (.ishr, 1) := by decide +kernel
theorem d9_10 : decode jdk_42_method_54_code 10 = .ok (.ireturn, 1) := by decide +kernel
theorem d10_0 : decode jdk_42_method_152_code 0 = .ok (.getstatic 38, 3) := by decide +kernel
theorem d10_3 : decode jdk_42_method_152_code 3 = .ok (.ifCond .eq 10, 3) := by decide +kernel
theorem d10_6 : decode jdk_42_method_152_code 6 = .ok (.aload_n 0, 1) := by decide +kernel
theorem d10_7 : decode jdk_42_method_152_code 7 = .ok (.getfield 15, 3) := by decide +kernel
theorem d10_10 : decode jdk_42_method_152_code 10 = .ok (.goto 4, 3) := by decide +kernel
theorem d10_13 : decode jdk_42_method_152_code 13 = .ok (.iconst 1, 1) := by decide +kernel
theorem d10_14 : decode jdk_42_method_152_code 14 = .ok (.ireturn, 1) := by decide +kernel
theorem d11_0 : decode jdk_43_method_22_code 0 = .ok (.iload_n 1, 1) := by decide +kernel
theorem d11_1 : decode jdk_43_method_22_code 1 = .ok (.invokestatic 88, 3) := by decide +kernel
theorem d11_4 : decode jdk_43_method_22_code 4 = .ok (.ifCond .ne 5, 3) := by decide +kernel
theorem d11_7 : decode jdk_43_method_22_code 7 = .ok (.iconst (-1), 1) := by decide +kernel
theorem d11_8 : decode jdk_43_method_22_code 8 = .ok (.ireturn, 1) := by decide +kernel
theorem d11_9 : decode jdk_43_method_22_code 9 = .ok (.iload_n 2, 1) := by decide +kernel
theorem d11_10 : decode jdk_43_method_22_code 10 = .ok (.iconst 0, 1) := by decide +kernel
theorem d11_11 : decode jdk_43_method_22_code 11 = .ok (.invokestatic 92, 3) := by decide +kernel
theorem d11_14 : decode jdk_43_method_22_code 14 = .ok (.istore_n 2, 1) := by decide +kernel
theorem d11_15 : decode jdk_43_method_22_code 15 = .ok (.iload_n 3, 1) := by decide +kernel
theorem d11_16 : decode jdk_43_method_22_code 16 = .ok (.aload_n 0, 1) := by decide +kernel
theorem d11_17 : decode jdk_43_method_22_code 17 = .ok (.arraylength, 1) := by decide +kernel
theorem d11_18 : decode jdk_43_method_22_code 18 = .ok (.invokestatic 38, 3) := by decide +kernel
theorem d11_21 : decode jdk_43_method_22_code 21 = .ok (.istore_n 3, 1) := by decide +kernel
theorem d11_22 : decode jdk_43_method_22_code 22 = .ok (.iload_n 2, 1) := by decide +kernel
theorem d11_23 : decode jdk_43_method_22_code 23 = .ok (.iload_n 3, 1) := by decide +kernel
theorem d11_24 : decode jdk_43_method_22_code 24 = .ok (.if_icmp .lt 5, 3) := by decide +kernel
theorem d11_27 : decode jdk_43_method_22_code 27 = .ok (.iconst (-1), 1) := by decide +kernel
theorem d11_28 : decode jdk_43_method_22_code 28 = .ok (.ireturn, 1) := by decide +kernel
theorem d11_29 : decode jdk_43_method_22_code 29 = .ok (.aload_n 0, 1) := by decide +kernel
theorem d11_30 : decode jdk_43_method_22_code 30 = .ok (.iload_n 1, 1) := by decide +kernel
theorem d11_31 : decode jdk_43_method_22_code 31 = .ok (.iload_n 2, 1) := by decide +kernel
theorem d11_32 : decode jdk_43_method_22_code 32 = .ok (.iload_n 3, 1) := by decide +kernel
theorem d11_33 : decode jdk_43_method_22_code 33 = .ok (.invokestatic 95, 3) := by decide +kernel
theorem d11_36 : decode jdk_43_method_22_code 36 = .ok (.ireturn, 1) := by decide +kernel
theorem d12_0 : decode jdk_43_method_4_code 0 = .ok (.iload_n 0, 1) := by decide +kernel
theorem d12_1 : decode jdk_43_method_4_code 1 = .ok (.ifCond .lt 14, 3) := by decide +kernel
theorem d12_4 : decode jdk_43_method_4_code 4 = .ok (.iload_n 0, 1) := by decide +kernel
theorem d12_5 : decode jdk_43_method_4_code 5 = .ok (.sipush 255, 3) := by decide +kernel
theorem d12_8 : decode jdk_43_method_4_code 8 = .ok (.if_icmp .gt 7, 3) := by decide +kernel
theorem d12_11 : decode jdk_43_method_4_code 11 = .ok (.iconst 1, 1) := by decide +kernel
theorem d12_12 : decode jdk_43_method_4_code 12 = .ok (.goto 4, 3) := by decide +kernel
theorem d12_15 : decode jdk_43_method_4_code 15 = .ok (.iconst 0, 1) := by decide +kernel
theorem d12_16 : decode jdk_43_method_4_code 16 = .ok (.ireturn, 1) := by decide +kernel
theorem d13_0 : decode jdk_29_method_65_code 0 = .ok (.iload_n 0, 1) := by decide +kernel
theorem d13_1 : decode jdk_29_method_65_code 1 = .ok (.iload_n 1, 1) := by decide +kernel
theorem d13_2 : decode jdk_29_method_65_code 2 = .ok (.if_icmp .lt 7, 3) := by decide +kernel
theorem d13_5 : decode jdk_29_method_65_code 5 = .ok (.iload_n 0, 1) := by decide +kernel
theorem d13_6 : decode jdk_29_method_65_code 6 = .ok (.goto 4, 3) := by decide +kernel
theorem d13_9 : decode jdk_29_method_65_code 9 = .ok (.iload_n 1, 1) := by decide +kernel
theorem d13_10 : decode jdk_29_method_65_code 10 = .ok (.ireturn, 1) := by decide +kernel
theorem d14_0 : decode jdk_29_method_69_code 0 = .ok (.iload_n 0, 1) := by decide +kernel
theorem d14_1 : decode jdk_29_method_69_code 1 = .ok (.iload_n 1, 1) := by decide +kernel
theorem d14_2 : decode jdk_29_method_69_code 2 = .ok (.if_icmp .gt 7, 3) := by decide +kernel
theorem d14_5 : decode jdk_29_method_69_code 5 = .ok (.iload_n 0, 1) := by decide +kernel
theorem d14_6 : decode jdk_29_method_69_code 6 = .ok (.goto 4, 3) := by decide +kernel
theorem d14_9 : decode jdk_29_method_69_code 9 = .ok (.iload_n 1, 1) := by decide +kernel
theorem d14_10 : decode jdk_29_method_69_code 10 = .ok (.ireturn, 1) := by decide +kernel
theorem d15_0 : decode jdk_52_method_16_code 0 = .ok (.iload_n 2, 1) := by decide +kernel
theorem d15_1 : decode jdk_52_method_16_code 1 = .ok (.newarray .byte, 2) := by decide +kernel
theorem d15_3 : decode jdk_52_method_16_code 3 = .ok (.astore_n 3, 1) := by decide +kernel
theorem d15_4 : decode jdk_52_method_16_code 4 = .ok (.aload_n 0, 1) := by decide +kernel
theorem d15_5 : decode jdk_52_method_16_code 5 = .ok (.iload_n 1, 1) := by decide +kernel
theorem d15_6 : decode jdk_52_method_16_code 6 = .ok (.aload_n 3, 1) := by decide +kernel
theorem d15_7 : decode jdk_52_method_16_code 7 = .ok (.iconst 0, 1) := by decide +kernel
theorem d15_8 : decode jdk_52_method_16_code 8 = .ok (.iload_n 2, 1) := by decide +kernel
theorem d15_9 : decode jdk_52_method_16_code 9 = .ok (.invokestatic 115, 3) := by decide +kernel
theorem d15_12 : decode jdk_52_method_16_code 12 = .ok (.istore 4, 2) := by decide +kernel
theorem d15_14 : decode jdk_52_method_16_code 14 = .ok (.iload 4, 2) := by decide +kernel
theorem d15_16 : decode jdk_52_method_16_code 16 = .ok (.iload_n 2, 1) := by decide +kernel
theorem d15_17 : decode jdk_52_method_16_code 17 = .ok (.if_icmp .eq 40, 3) := by decide +kernel
theorem d15_20 : decode jdk_52_method_16_code 20 = .ok (.aload_n 0, 1) := by decide +kernel
theorem d15_21 : decode jdk_52_method_16_code 21 = .ok (.iload_n 1, 1) := by decide +kernel
theorem d15_22 : decode jdk_52_method_16_code 22 = .ok (.iload_n 2, 1) := by decide +kernel
theorem d15_23 : decode jdk_52_method_16_code 23 = .ok (.invokestatic 119, 3) := by decide +kernel
theorem d15_26 : decode jdk_52_method_16_code 26 = .ok (.astore 5, 2) := by decide +kernel
theorem d15_28 : decode jdk_52_method_16_code 28 = .ok (.aload 5, 2) := by decide +kernel
theorem d15_30 : decode jdk_52_method_16_code 30 = .ok (.iload 4, 2) := by decide +kernel
theorem d15_32 : decode jdk_52_method_16_code 32 = .ok (.invokestatic 71, 3) := by decide +kernel
theorem d15_35 : decode jdk_52_method_16_code 35 = .ok (.sipush 255, 3) := by decide +kernel
theorem d15_38 : decode jdk_52_method_16_code 38 = .ok (.if_icmp .gt 16, 3) := by decide +kernel
theorem d15_41 : decode jdk_52_method_16_code 41 = .ok (.aload 5, 2) := by decide +kernel
theorem d15_43 : decode jdk_52_method_16_code 43 = .ok (.iconst 0, 1) := by decide +kernel
theorem d15_44 : decode jdk_52_method_16_code 44 = .ok (.aload_n 3, 1) := by decide +kernel
theorem d15_45 : decode jdk_52_method_16_code 45 = .ok (.iconst 0, 1) := by decide +kernel
theorem d15_46 : decode jdk_52_method_16_code 46 = .ok (.iload_n 2, 1) := by decide +kernel
theorem d15_47 : decode jdk_52_method_16_code 47 = .ok (.invokestatic 123, 3) := by decide +kernel
theorem d15_50 : decode jdk_52_method_16_code 50 = .ok (.iload_n 2, 1) := by decide +kernel
theorem d15_51 : decode jdk_52_method_16_code 51 = .ok (.if_icmp .eq 6, 3) := by decide +kernel
theorem d15_54 : decode jdk_52_method_16_code 54 = .ok (.aload 5, 2) := by decide +kernel
theorem d15_56 : decode jdk_52_method_16_code 56 = .ok (.areturn, 1) := by decide +kernel
theorem d15_57 : decode jdk_52_method_16_code 57 = .ok (.aload_n 3, 1) := by decide +kernel
theorem d15_58 : decode jdk_52_method_16_code 58 = .ok (.areturn, 1) := by decide +kernel
theorem d16_0 : decode jdk_52_method_21_code 0 = .ok (.iconst 0, 1) := by decide +kernel
theorem d16_1 : decode jdk_52_method_21_code 1 = .ok (.istore 5, 2) := by decide +kernel
theorem d16_3 : decode jdk_52_method_21_code 3 = .ok (.iload 5, 2) := by decide +kernel
theorem d16_5 : decode jdk_52_method_21_code 5 = .ok (.iload 4, 2) := by decide +kernel
theorem d16_7 : decode jdk_52_method_21_code 7 = .ok (.if_icmp .ge 37, 3) := by decide +kernel
theorem d16_10 : decode jdk_52_method_21_code 10 = .ok (.aload_n 0, 1) := by decide +kernel
theorem d16_11 : decode jdk_52_method_21_code 11 = .ok (.iload_n 1, 1) := by decide +kernel
theorem d16_12 : decode jdk_52_method_21_code 12 = .ok (.caload, 1) := by decide +kernel
theorem d16_13 : decode jdk_52_method_21_code 13 = .ok (.istore 6, 2) := by decide +kernel
theorem d16_15 : decode jdk_52_method_21_code 15 = .ok (.iload 6, 2) := by decide +kernel
theorem d16_17 : decode jdk_52_method_21_code 17 = .ok (.sipush 255, 3) := by decide +kernel
theorem d16_20 : decode jdk_52_method_21_code 20 = .ok (.if_icmp .le 6, 3) := by decide +kernel
theorem d16_23 : decode jdk_52_method_21_code 23 = .ok (.iload 5, 2) := by decide +kernel
theorem d16_25 : decode jdk_52_method_21_code 25 = .ok (.ireturn, 1) := by decide +kernel
theorem d16_26 : decode jdk_52_method_21_code 26 = .ok (.aload_n 2, 1) := by decide +kernel
theorem d16_27 : decode jdk_52_method_21_code 27 = .ok (.iload_n 3, 1) := by decide +kernel
theorem d16_28 : decode jdk_52_method_21_code 28 = .ok (.iload 6, 2) := by decide +kernel
theorem d16_30 : decode jdk_52_method_21_code 30 = .ok (.i2b, 1) := by decide +kernel
theorem d16_31 : decode jdk_52_method_21_code 31 = .ok (.bastore, 1) := by decide +kernel
theorem d16_32 : decode jdk_52_method_21_code 32 = .ok (.iinc 1 1, 3) := by decide +kernel
theorem d16_35 : decode jdk_52_method_21_code 35 = .ok (.iinc 3 1, 3) := by decide +kernel
theorem d16_38 : decode jdk_52_method_21_code 38 = .ok (.iinc 5 1, 3) := by decide +kernel
theorem d16_41 : decode jdk_52_method_21_code 41 = .ok (.goto (-38), 3) := by decide +kernel
theorem d16_44 : decode jdk_52_method_21_code 44 = .ok (.iload 4, 2) := by decide +kernel
theorem d16_46 : decode jdk_52_method_21_code 46 = .ok (.ireturn, 1) := by decide +kernel
theorem d17_0 : decode jdk_52_method_15_code 0 = .ok (.iload_n 1, 1) := by decide +kernel
theorem d17_1 : decode jdk_52_method_15_code 1 = .ok (.aload_n 0, 1) := by decide +kernel
theorem d17_2 : decode jdk_52_method_15_code 2 = .ok (.arraylength, 1) := by decide +kernel
theorem d17_3 : decode jdk_52_method_15_code 3 = .ok (.isub, 1) := by decide +kernel
theorem d17_4 : decode jdk_52_method_15_code 4 = .ok (.bipush 31, 2) := by decide +kernel
theorem d17_6 : decode jdk_52_method_15_code 6 = .ok (.iushr, 1) := by decide +kernel
theorem d17_7 : decode jdk_52_method_15_code 7 = .ok (.i2b, 1) := by decide +kernel
theorem d17_8 : decode jdk_52_method_15_code 8 = .ok (.ireturn, 1) := by decide +kernel
theorem d18_0 : decode method_3_code 0 = .ok (.iload_n 0, 1) := by decide +kernel
theorem d18_1 : decode method_3_code 1 = .ok (.bipush 13, 2) := by decide +kernel
theorem d18_3 : decode method_3_code 3 = .ok (.if_icmp .eq 13, 3) := by decide +kernel
theorem d18_6 : decode method_3_code 6 = .ok (.iload_n 0, 1) := by decide +kernel
theorem d18_7 : decode method_3_code 7 = .ok (.bipush 10, 2) := by decide +kernel
theorem d18_9 : decode method_3_code 9 = .ok (.if_icmp .eq 7, 3) := by decide +kernel
theorem d18_12 : decode method_3_code 12 = .ok (.iload_n 0, 1) := by decide +kernel
theorem d18_13 : decode method_3_code 13 = .ok (.ifCond .ne 7, 3) := by decide +kernel
theorem d18_16 : decode method_3_code 16 = .ok (.iconst 1, 1) := by decide +kernel
theorem d18_17 : decode method_3_code 17 = .ok (.goto 4, 3) := by decide +kernel
theorem d18_20 : decode method_3_code 20 = .ok (.iconst 0, 1) := by decide +kernel
theorem d18_21 : decode method_3_code 21 = .ok (.ireturn, 1) := by decide +kernel
theorem d19_0 : decode jdk_43_method_23_code 0 = .ok (.iload_n 1, 1) := by decide +kernel
theorem d19_1 : decode jdk_43_method_23_code 1 = .ok (.i2b, 1) := by decide +kernel
theorem d19_2 : decode jdk_43_method_23_code 2 = .ok (.istore 4, 2) := by decide +kernel
theorem d19_4 : decode jdk_43_method_23_code 4 = .ok (.iload_n 2, 1) := by decide +kernel
theorem d19_5 : decode jdk_43_method_23_code 5 = .ok (.istore 5, 2) := by decide +kernel
theorem d19_7 : decode jdk_43_method_23_code 7 = .ok (.iload 5, 2) := by decide +kernel
theorem d19_9 : decode jdk_43_method_23_code 9 = .ok (.iload_n 3, 1) := by decide +kernel
theorem d19_10 : decode jdk_43_method_23_code 10 = .ok (.if_icmp .ge 21, 3) := by decide +kernel
theorem d19_13 : decode jdk_43_method_23_code 13 = .ok (.aload_n 0, 1) := by decide +kernel
theorem d19_14 : decode jdk_43_method_23_code 14 = .ok (.iload 5, 2) := by decide +kernel
theorem d19_16 : decode jdk_43_method_23_code 16 = .ok (.baload, 1) := by decide +kernel
theorem d19_17 : decode jdk_43_method_23_code 17 = .ok (.iload 4, 2) := by decide +kernel
theorem d19_19 : decode jdk_43_method_23_code 19 = .ok (.if_icmp .ne 6, 3) := by decide +kernel
theorem d19_22 : decode jdk_43_method_23_code 22 = .ok (.iload 5, 2) := by decide +kernel
theorem d19_24 : decode jdk_43_method_23_code 24 = .ok (.ireturn, 1) := by decide +kernel
theorem d19_25 : decode jdk_43_method_23_code 25 = .ok (.iinc 5 1, 3) := by decide +kernel
theorem d19_28 : decode jdk_43_method_23_code 28 = .ok (.goto (-21), 3) := by decide +kernel
theorem d19_31 : decode jdk_43_method_23_code 31 = .ok (.iconst (-1), 1) := by decide +kernel
theorem d19_32 : decode jdk_43_method_23_code 32 = .ok (.ireturn, 1) := by decide +kernel
theorem d20_0 : decode jdk_52_method_14_code 0 = .ok (.iload_n 2, 1) := by decide +kernel
theorem d20_1 : decode jdk_52_method_14_code 1 = .ok (.invokestatic 107, 3) := by decide +kernel
theorem d20_4 : decode jdk_52_method_14_code 4 = .ok (.astore_n 3, 1) := by decide +kernel
theorem d20_5 : decode jdk_52_method_14_code 5 = .ok (.iconst 0, 1) := by decide +kernel
theorem d20_6 : decode jdk_52_method_14_code 6 = .ok (.istore 4, 2) := by decide +kernel
theorem d20_8 : decode jdk_52_method_14_code 8 = .ok (.iload 4, 2) := by decide +kernel
theorem d20_10 : decode jdk_52_method_14_code 10 = .ok (.iload_n 2, 1) := by decide +kernel
theorem d20_11 : decode jdk_52_method_14_code 11 = .ok (.if_icmp .ge 21, 3) := by decide +kernel
theorem d20_14 : decode jdk_52_method_14_code 14 = .ok (.aload_n 3, 1) := by decide +kernel
theorem d20_15 : decode jdk_52_method_14_code 15 = .ok (.iload 4, 2) := by decide +kernel
theorem d20_17 : decode jdk_52_method_14_code 17 = .ok (.aload_n 0, 1) := by decide +kernel
theorem d20_18 : decode jdk_52_method_14_code 18 = .ok (.iload_n 1, 1) := by decide +kernel
theorem d20_19 : decode jdk_52_method_14_code 19 = .ok (.caload, 1) := by decide +kernel
theorem d20_20 : decode jdk_52_method_14_code 20 = .ok (.invokestatic 111, 3) := by decide +kernel
theorem d20_23 : decode jdk_52_method_14_code 23 = .ok (.iinc 1 1, 3) := by decide +kernel
theorem d20_26 : decode jdk_52_method_14_code 26 = .ok (.iinc 4 1, 3) := by decide +kernel
theorem d20_29 : decode jdk_52_method_14_code 29 = .ok (.goto (-21), 3) := by decide +kernel
theorem d20_32 : decode jdk_52_method_14_code 32 = .ok (.aload_n 3, 1) := by decide +kernel
theorem d20_33 : decode jdk_52_method_14_code 33 = .ok (.areturn, 1) := by decide +kernel
theorem d21_0 : decode jdk_52_method_2_code 0 = .ok (.iload_n 0, 1) := by decide +kernel
theorem d21_1 : decode jdk_52_method_2_code 1 = .ok (.invokestatic 11, 3) := by decide +kernel
theorem d21_4 : decode jdk_52_method_2_code 4 = .ok (.newarray .byte, 2) := by decide +kernel
theorem d21_6 : decode jdk_52_method_2_code 6 = .ok (.areturn, 1) := by decide +kernel
theorem d22_0 : decode jdk_52_method_3_code 0 = .ok (.iload_n 0, 1) := by decide +kernel
theorem d22_1 : decode jdk_52_method_3_code 1 = .ok (.ifCond .ge 11, 3) := by decide +kernel
theorem d22_4 : decode jdk_52_method_3_code 4 = .ok (.new 17, 3) := by decide +kernel
theorem d22_7 : decode jdk_52_method_3_code 7 = .ok (.dup, 1) := by decide +kernel
theorem d22_8 : decode jdk_52_method_3_code 8 = .ok (.invokespecial 19, 3) := by decide +kernel
theorem d22_11 : decode jdk_52_method_3_code 11 = .ok (.athrow, 1) := by decide +kernel
theorem d22_12 : decode jdk_52_method_3_code 12 = .ok (.iload_n 0, 1) := by decide +kernel
theorem d22_13 : decode jdk_52_method_3_code 13 = .ok (.ldc 20, 2) := by decide +kernel
theorem d22_15 : decode jdk_52_method_3_code 15 = .ok (.if_icmp .lt 40, 3) := by decide +kernel
theorem d22_18 : decode jdk_52_method_3_code 18 = .ok (.new 21, 3) := by decide +kernel
theorem d22_21 : decode jdk_52_method_3_code 21 = .ok (.dup, 1) := by decide +kernel
theorem d22_22 : decode jdk_52_method_3_code 22 = .ok (.new 23, 3) := by decide +kernel
theorem d22_25 : decode jdk_52_method_3_code 25 = .ok (.dup, 1) := by decide +kernel
theorem d22_26 : decode jdk_52_method_3_code 26 = .ok (.invokespecial 25, 3) := by decide +kernel
theorem d22_29 : decode jdk_52_method_3_code 29 = .ok (.ldc 26, 2) := by decide +kernel
theorem d22_31 : decode jdk_52_method_3_code 31 = .ok (.invokevirtual 28, 3) := by decide +kernel
theorem d22_34 : decode jdk_52_method_3_code 34 = .ok (.iload_n 0, 1) := by decide +kernel
theorem d22_35 : decode jdk_52_method_3_code 35 = .ok (.invokevirtual 32, 3) := by decide +kernel
theorem d22_38 : decode jdk_52_method_3_code 38 = .ok (.ldc 35, 2) := by decide +kernel
theorem d22_40 : decode jdk_52_method_3_code 40 = .ok (.invokevirtual 28, 3) := by decide +kernel
theorem d22_43 : decode jdk_52_method_3_code 43 = .ok (.ldc 20, 2) := by decide +kernel
theorem d22_45 : decode jdk_52_method_3_code 45 = .ok (.invokevirtual 32, 3) := by decide +kernel
theorem d22_48 : decode jdk_52_method_3_code 48 = .ok (.invokevirtual 37, 3) := by decide +kernel
theorem d22_51 : decode jdk_52_method_3_code 51 = .ok (.invokespecial 41, 3) := by decide +kernel
theorem d22_54 : decode jdk_52_method_3_code 54 = .ok (.athrow, 1) := by decide +kernel
theorem d22_55 : decode jdk_52_method_3_code 55 = .ok (.iload_n 0, 1) := by decide +kernel
theorem d22_56 : decode jdk_52_method_3_code 56 = .ok (.iconst 1, 1) := by decide +kernel
theorem d22_57 : decode jdk_52_method_3_code 57 = .ok (.ishl, 1) := by decide +kernel
theorem d22_58 : decode jdk_52_method_3_code 58 = .ok (.ireturn, 1) := by decide +kernel
theorem d23_0 : decode jdk_52_method_4_code 0 = .ok (.getstatic 44, 3) := by decide +kernel
theorem d23_3 : decode jdk_52_method_4_code 3 = .ok (.ifCond .ne 25, 3) := by decide +kernel
theorem d23_6 : decode jdk_52_method_4_code 6 = .ok (.iload_n 1, 1) := by decide +kernel
theorem d23_7 : decode jdk_52_method_4_code 7 = .ok (.ifCond .lt 11, 3) := by decide +kernel
theorem d23_10 : decode jdk_52_method_4_code 10 = .ok (.iload_n 1, 1) := by decide +kernel
theorem d23_11 : decode jdk_52_method_4_code 11 = .ok (.aload_n 0, 1) := by decide +kernel
theorem d23_12 : decode jdk_52_method_4_code 12 = .ok (.invokestatic 48, 3) := by decide +kernel
theorem d23_15 : decode jdk_52_method_4_code 15 = .ok (.if_icmp .lt 13, 3) := by decide +kernel
theorem d23_18 : decode jdk_52_method_4_code 18 = .ok (.new 52, 3) := by decide +kernel
theorem d23_21 : decode jdk_52_method_4_code 21 = .ok (.dup, 1) := by decide +kernel
theorem d23_22 : decode jdk_52_method_4_code 22 = .ok (.ldc 54, 2) := by decide +kernel
theorem d23_24 : decode jdk_52_method_4_code 24 = .ok (.invokespecial 56, 3) := by decide +kernel
theorem d23_27 : decode jdk_52_method_4_code 27 = .ok (.athrow, 1) := by decide +kernel
theorem d23_28 : decode jdk_52_method_4_code 28 = .ok (.iload_n 1, 1) := by decide +kernel
theorem d23_29 : decode jdk_52_method_4_code 29 = .ok (.iconst 1, 1) := by decide +kernel
theorem d23_30 : decode jdk_52_method_4_code 30 = .ok (.ishl, 1) := by decide +kernel
theorem d23_31 : decode jdk_52_method_4_code 31 = .ok (.istore_n 1, 1) := by decide +kernel
theorem d23_32 : decode jdk_52_method_4_code 32 = .ok (.aload_n 0, 1) := by decide +kernel
theorem d23_33 : decode jdk_52_method_4_code 33 = .ok (.iload_n 1, 1) := by decide +kernel
theorem d23_34 : decode jdk_52_method_4_code 34 = .ok (.iinc 1 1, 3) := by decide +kernel
theorem d23_37 : decode jdk_52_method_4_code 37 = .ok (.iload_n 2, 1) := by decide +kernel
theorem d23_38 : decode jdk_52_method_4_code 38 = .ok (.getstatic 59, 3) := by decide +kernel
theorem d23_41 : decode jdk_52_method_4_code 41 = .ok (.ishr, 1) := by decide +kernel
theorem d23_42 : decode jdk_52_method_4_code 42 = .ok (.i2b, 1) := by decide +kernel
theorem d23_43 : decode jdk_52_method_4_code 43 = .ok (.bastore, 1) := by decide +kernel
theorem d23_44 : decode jdk_52_method_4_code 44 = .ok (.aload_n 0, 1) := by decide +kernel
theorem d23_45 : decode jdk_52_method_4_code 45 = .ok (.iload_n 1, 1) := by decide +kernel
theorem d23_46 : decode jdk_52_method_4_code 46 = .ok (.iload_n 2, 1) := by decide +kernel
theorem d23_47 : decode jdk_52_method_4_code 47 = .ok (.getstatic 63, 3) := by decide +kernel
theorem d23_50 : decode jdk_52_method_4_code 50 = .ok (.ishr, 1) := by decide +kernel
theorem d23_51 : decode jdk_52_method_4_code 51 = .ok (.i2b, 1) := by decide +kernel
theorem d23_52 : decode jdk_52_method_4_code 52 = .ok (.bastore, 1) := by decide +kernel
theorem d23_53 : decode jdk_52_method_4_code 53 = .ok (.return_, 1) := by decide +kernel
theorem d24_0 : decode jdk_52_method_5_code 0 = .ok (.getstatic 44, 3) := by decide +kernel
theorem d24_3 : decode jdk_52_method_5_code 3 = .ok (.ifCond .ne 25, 3) := by decide +kernel
theorem d24_6 : decode jdk_52_method_5_code 6 = .ok (.iload_n 1, 1) := by decide +kernel
theorem d24_7 : decode jdk_52_method_5_code 7 = .ok (.ifCond .lt 11, 3) := by decide +kernel
theorem d24_10 : decode jdk_52_method_5_code 10 = .ok (.iload_n 1, 1) := by decide +kernel
theorem d24_11 : decode jdk_52_method_5_code 11 = .ok (.aload_n 0, 1) := by decide +kernel
theorem d24_12 : decode jdk_52_method_5_code 12 = .ok (.invokestatic 48, 3) := by decide +kernel
theorem d24_15 : decode jdk_52_method_5_code 15 = .ok (.if_icmp .lt 13, 3) := by decide +kernel
theorem d24_18 : decode jdk_52_method_5_code 18 = .ok (.new 52, 3) := by decide +kernel
theorem d24_21 : decode jdk_52_method_5_code 21 = .ok (.dup, 1) := by decide +kernel
theorem d24_22 : decode jdk_52_method_5_code 22 = .ok (.ldc 54, 2) := by decide +kernel
theorem d24_24 : decode jdk_52_method_5_code 24 = .ok (.invokespecial 56, 3) := by decide +kernel
theorem d24_27 : decode jdk_52_method_5_code 27 = .ok (.athrow, 1) := by decide +kernel
theorem d24_28 : decode jdk_52_method_5_code 28 = .ok (.iload_n 1, 1) := by decide +kernel
theorem d24_29 : decode jdk_52_method_5_code 29 = .ok (.iconst 1, 1) := by decide +kernel
theorem d24_30 : decode jdk_52_method_5_code 30 = .ok (.ishl, 1) := by decide +kernel
theorem d24_31 : decode jdk_52_method_5_code 31 = .ok (.istore_n 1, 1) := by decide +kernel
theorem d24_32 : decode jdk_52_method_5_code 32 = .ok (.aload_n 0, 1) := by decide +kernel
theorem d24_33 : decode jdk_52_method_5_code 33 = .ok (.iload_n 1, 1) := by decide +kernel
theorem d24_34 : decode jdk_52_method_5_code 34 = .ok (.iinc 1 1, 3) := by decide +kernel
theorem d24_37 : decode jdk_52_method_5_code 37 = .ok (.baload, 1) := by decide +kernel
theorem d24_38 : decode jdk_52_method_5_code 38 = .ok (.sipush 255, 3) := by decide +kernel
theorem d24_41 : decode jdk_52_method_5_code 41 = .ok (.iand, 1) := by decide +kernel
theorem d24_42 : decode jdk_52_method_5_code 42 = .ok (.getstatic 59, 3) := by decide +kernel
theorem d24_45 : decode jdk_52_method_5_code 45 = .ok (.ishl, 1) := by decide +kernel
theorem d24_46 : decode jdk_52_method_5_code 46 = .ok (.aload_n 0, 1) := by decide +kernel
theorem d24_47 : decode jdk_52_method_5_code 47 = .ok (.iload_n 1, 1) := by decide +kernel
theorem d24_48 : decode jdk_52_method_5_code 48 = .ok (.baload, 1) := by decide +kernel
theorem d24_49 : decode jdk_52_method_5_code 49 = .ok (.sipush 255, 3) := by decide +kernel
theorem d24_52 : decode jdk_52_method_5_code 52 = .ok (.iand, 1) := by decide +kernel
theorem d24_53 : decode jdk_52_method_5_code 53 = .ok (.getstatic 63, 3) := by decide +kernel
theorem d24_56 : decode jdk_52_method_5_code 56 = .ok (.ishl, 1) := by decide +kernel
theorem d24_57 : decode jdk_52_method_5_code 57 = .ok (.ior, 1) := by decide +kernel
theorem d24_58 : decode jdk_52_method_5_code 58 = .ok (.i2c, 1) := by decide +kernel
theorem d24_59 : decode jdk_52_method_5_code 59 = .ok (.ireturn, 1) := by decide +kernel
theorem d25_0 : decode jdk_52_method_40_code 0 = .ok (.iload_n 2, 1) := by decide +kernel
theorem d25_1 : decode jdk_52_method_40_code 1 = .ok (.iconst 0, 1) := by decide +kernel
theorem d25_2 : decode jdk_52_method_40_code 2 = .ok (.invokestatic 224, 3) := by decide +kernel
theorem d25_5 : decode jdk_52_method_40_code 5 = .ok (.istore_n 2, 1) := by decide +kernel
theorem d25_6 : decode jdk_52_method_40_code 6 = .ok (.iload_n 3, 1) := by decide +kernel
theorem d25_7 : decode jdk_52_method_40_code 7 = .ok (.aload_n 0, 1) := by decide +kernel
theorem d25_8 : decode jdk_52_method_40_code 8 = .ok (.arraylength, 1) := by decide +kernel
theorem d25_9 : decode jdk_52_method_40_code 9 = .ok (.iconst 1, 1) := by decide +kernel
theorem d25_10 : decode jdk_52_method_40_code 10 = .ok (.ishr, 1) := by decide +kernel
theorem d25_11 : decode jdk_52_method_40_code 11 = .ok (.invokestatic 183, 3) := by decide +kernel
theorem d25_14 : decode jdk_52_method_40_code 14 = .ok (.istore_n 3, 1) := by decide +kernel
theorem d25_15 : decode jdk_52_method_40_code 15 = .ok (.iload_n 2, 1) := by decide +kernel
theorem d25_16 : decode jdk_52_method_40_code 16 = .ok (.iload_n 3, 1) := by decide +kernel
theorem d25_17 : decode jdk_52_method_40_code 17 = .ok (.if_icmp .lt 5, 3) := by decide +kernel
theorem d25_20 : decode jdk_52_method_40_code 20 = .ok (.iconst (-1), 1) := by decide +kernel
theorem d25_21 : decode jdk_52_method_40_code 21 = .ok (.ireturn, 1) := by decide +kernel
theorem d25_22 : decode jdk_52_method_40_code 22 = .ok (.iload_n 1, 1) := by decide +kernel
theorem d25_23 : decode jdk_52_method_40_code 23 = .ok (.ldc 227, 2) := by decide +kernel
theorem d25_25 : decode jdk_52_method_40_code 25 = .ok (.if_icmp .ge 11, 3) := by decide +kernel
theorem d25_28 : decode jdk_52_method_40_code 28 = .ok (.aload_n 0, 1) := by decide +kernel
theorem d25_29 : decode jdk_52_method_40_code 29 = .ok (.iload_n 1, 1) := by decide +kernel
theorem d25_30 : decode jdk_52_method_40_code 30 = .ok (.iload_n 2, 1) := by decide +kernel
theorem d25_31 : decode jdk_52_method_40_code 31 = .ok (.iload_n 3, 1) := by decide +kernel
theorem d25_32 : decode jdk_52_method_40_code 32 = .ok (.invokestatic 228, 3) := by decide +kernel
theorem d25_35 : decode jdk_52_method_40_code 35 = .ok (.ireturn, 1) := by decide +kernel
theorem d25_36 : decode jdk_52_method_40_code 36 = .ok (.aload_n 0, 1) := by decide +kernel
theorem d25_37 : decode jdk_52_method_40_code 37 = .ok (.iload_n 1, 1) := by decide +kernel
theorem d25_38 : decode jdk_52_method_40_code 38 = .ok (.iload_n 2, 1) := by decide +kernel
theorem d25_39 : decode jdk_52_method_40_code 39 = .ok (.iload_n 3, 1) := by decide +kernel
theorem d25_40 : decode jdk_52_method_40_code 40 = .ok (.invokestatic 232, 3) := by decide +kernel
theorem d25_43 : decode jdk_52_method_40_code 43 = .ok (.ireturn, 1) := by decide +kernel
theorem d26_0 : decode jdk_52_method_47_code 0 = .ok (.iload_n 2, 1) := by decide +kernel
theorem d26_1 : decode jdk_52_method_47_code 1 = .ok (.iload_n 3, 1) := by decide +kernel
theorem d26_2 : decode jdk_52_method_47_code 2 = .ok (.aload_n 0, 1) := by decide +kernel
theorem d26_3 : decode jdk_52_method_47_code 3 = .ok (.invokestatic 96, 3) := by decide +kernel
theorem d26_6 : decode jdk_52_method_47_code 6 = .ok (.aload_n 0, 1) := by decide +kernel
theorem d26_7 : decode jdk_52_method_47_code 7 = .ok (.iload_n 1, 1) := by decide +kernel
theorem d26_8 : decode jdk_52_method_47_code 8 = .ok (.iload_n 2, 1) := by decide +kernel
theorem d26_9 : decode jdk_52_method_47_code 9 = .ok (.iload_n 3, 1) := by decide +kernel
theorem d26_10 : decode jdk_52_method_47_code 10 = .ok (.invokestatic 244, 3) := by decide +kernel
theorem d26_13 : decode jdk_52_method_47_code 13 = .ok (.ireturn, 1) := by decide +kernel
theorem d27_0 : decode jdk_52_method_93_code 0 = .ok (.iload_n 0, 1) := by decide +kernel
theorem d27_1 : decode jdk_52_method_93_code 1 = .ok (.iload_n 1, 1) := by decide +kernel
theorem d27_2 : decode jdk_52_method_93_code 2 = .ok (.aload_n 2, 1) := by decide +kernel
theorem d27_3 : decode jdk_52_method_93_code 3 = .ok (.invokestatic 48, 3) := by decide +kernel
theorem d27_6 : decode jdk_52_method_93_code 6 = .ok (.invokestatic 241, 3) := by decide +kernel
theorem d27_9 : decode jdk_52_method_93_code 9 = .ok (.return_, 1) := by decide +kernel
theorem d28_0 : decode jdk_52_method_6_code 0 = .ok (.aload_n 0, 1) := by decide +kernel
theorem d28_1 : decode jdk_52_method_6_code 1 = .ok (.arraylength, 1) := by decide +kernel
theorem d28_2 : decode jdk_52_method_6_code 2 = .ok (.iconst 1, 1) := by decide +kernel
theorem d28_3 : decode jdk_52_method_6_code 3 = .ok (.ishr, 1) := by decide +kernel
theorem d28_4 : decode jdk_52_method_6_code 4 = .ok (.ireturn, 1) := by decide +kernel
theorem d29_0 : decode jdk_42_method_158_code 0 = .ok (.iload_n 0, 1) := by decide +kernel
theorem d29_1 : decode jdk_42_method_158_code 1 = .ok (.iload_n 1, 1) := by decide +kernel
theorem d29_2 : decode jdk_42_method_158_code 2 = .ok (.iload_n 2, 1) := by decide +kernel
theorem d29_3 : decode jdk_42_method_158_code 3 = .ok (.getstatic 1053, 3) := by decide +kernel
theorem d29_6 : decode jdk_42_method_158_code 6 = .ok (.invokestatic 1062, 3) := by decide +kernel
theorem d29_9 : decode jdk_42_method_158_code 9 = .ok (.pop, 1) := by decide +kernel
theorem d29_10 : decode jdk_42_method_158_code 10 = .ok (.return_, 1) := by decide +kernel
theorem d30_0 : decode jdk_41_method_12_code 0 = .ok (.iload_n 0, 1) := by decide +kernel
theorem d30_1 : decode jdk_41_method_12_code 1 = .ok (.ifCond .lt 13, 3) := by decide +kernel
theorem d30_4 : decode jdk_41_method_12_code 4 = .ok (.iload_n 0, 1) := by decide +kernel
theorem d30_5 : decode jdk_41_method_12_code 5 = .ok (.iload_n 1, 1) := by decide +kernel
theorem d30_6 : decode jdk_41_method_12_code 6 = .ok (.if_icmp .gt 8, 3) := by decide +kernel
theorem d30_9 : decode jdk_41_method_12_code 9 = .ok (.iload_n 1, 1) := by decide +kernel
theorem d30_10 : decode jdk_41_method_12_code 10 = .ok (.iload_n 2, 1) := by decide +kernel
theorem d30_11 : decode jdk_41_method_12_code 11 = .ok (.if_icmp .le 11, 3) := by decide +kernel
theorem d30_14 : decode jdk_41_method_12_code 14 = .ok (.aload_n 3, 1) := by decide +kernel
theorem d30_15 : decode jdk_41_method_12_code 15 = .ok (.iload_n 0, 1) := by decide +kernel
theorem d30_16 : decode jdk_41_method_12_code 16 = .ok (.iload_n 1, 1) := by decide +kernel
theorem d30_17 : decode jdk_41_method_12_code 17 = .ok (.iload_n 2, 1) := by decide +kernel
theorem d30_18 : decode jdk_41_method_12_code 18 = .ok (.invokestatic 99, 3) := by decide +kernel
theorem d30_21 : decode jdk_41_method_12_code 21 = .ok (.athrow, 1) := by decide +kernel
theorem d30_22 : decode jdk_41_method_12_code 22 = .ok (.iload_n 0, 1) := by decide +kernel
theorem d30_23 : decode jdk_41_method_12_code 23 = .ok (.ireturn, 1) := by decide +kernel
theorem d31_0 : decode jdk_52_method_48_code 0 = .ok (.iload_n 2, 1) := by decide +kernel
theorem d31_1 : decode jdk_52_method_48_code 1 = .ok (.istore 4, 2) := by decide +kernel
theorem d31_3 : decode jdk_52_method_48_code 3 = .ok (.iload 4, 2) := by decide +kernel
theorem d31_5 : decode jdk_52_method_48_code 5 = .ok (.iload_n 3, 1) := by decide +kernel
theorem d31_6 : decode jdk_52_method_48_code 6 = .ok (.if_icmp .ge 22, 3) := by decide +kernel
theorem d31_9 : decode jdk_52_method_48_code 9 = .ok (.aload_n 0, 1) := by decide +kernel
theorem d31_10 : decode jdk_52_method_48_code 10 = .ok (.iload 4, 2) := by decide +kernel
theorem d31_12 : decode jdk_52_method_48_code 12 = .ok (.invokestatic 71, 3) := by decide +kernel
theorem d31_15 : decode jdk_52_method_48_code 15 = .ok (.iload_n 1, 1) := by decide +kernel
theorem d31_16 : decode jdk_52_method_48_code 16 = .ok (.if_icmp .ne 6, 3) := by decide +kernel
theorem d31_19 : decode jdk_52_method_48_code 19 = .ok (.iload 4, 2) := by decide +kernel
theorem d31_21 : decode jdk_52_method_48_code 21 = .ok (.ireturn, 1) := by decide +kernel
theorem d31_22 : decode jdk_52_method_48_code 22 = .ok (.iinc 4 1, 3) := by decide +kernel
theorem d31_25 : decode jdk_52_method_48_code 25 = .ok (.goto (-22), 3) := by decide +kernel
theorem d31_28 : decode jdk_52_method_48_code 28 = .ok (.iconst (-1), 1) := by decide +kernel
theorem d31_29 : decode jdk_52_method_48_code 29 = .ok (.ireturn, 1) := by decide +kernel
theorem pd1 : parseMethodDescriptor "(IIII)Z" = some ⟨[.int, .int, .int, .int], some .boolean⟩ := by decide +kernel
theorem pd2 : parseMethodDescriptor "(I)C" = some ⟨[.int], some .char⟩ := by decide +kernel
theorem pd3 : parseMethodDescriptor "([C)V" = some ⟨[(.array .char)], none⟩ := by decide +kernel
theorem pd4 : parseMethodDescriptor "([CIILjava/lang/Void;)V" = some ⟨[(.array .char), .int, .int, (.object "java/lang/Void")], none⟩ := by decide +kernel
theorem pd5 : parseMethodDescriptor "()V" = some ⟨[], none⟩ := by decide +kernel
theorem pd6 : parseMethodDescriptor "(Ljava/lang/String;)Z" = some ⟨[(.object "java/lang/String")], some .boolean⟩ := by decide +kernel
theorem pd7 : parseMethodDescriptor "(I)I" = some ⟨[.int], some .int⟩ := by decide +kernel
theorem pd8 : parseMethodDescriptor "(II)I" = some ⟨[.int, .int], some .int⟩ := by decide +kernel
theorem pd9 : parseMethodDescriptor "()Z" = some ⟨[], some .boolean⟩ := by decide +kernel
theorem pd10 : parseMethodDescriptor "()I" = some ⟨[], some .int⟩ := by decide +kernel
theorem pd11 : parseMethodDescriptor "()B" = some ⟨[], some .byte⟩ := by decide +kernel
theorem pd12 : parseMethodDescriptor "([BIII)I" = some ⟨[(.array .byte), .int, .int, .int], some .int⟩ := by decide +kernel
theorem pd13 : parseMethodDescriptor "(I)Z" = some ⟨[.int], some .boolean⟩ := by decide +kernel
theorem pd14 : parseMethodDescriptor "([CII)[B" = some ⟨[(.array .char), .int, .int], (some (.array .byte))⟩ := by decide +kernel
theorem pd15 : parseMethodDescriptor "([CI[BII)I" = some ⟨[(.array .char), .int, (.array .byte), .int, .int], some .int⟩ := by decide +kernel
theorem pd16 : parseMethodDescriptor "([BI)B" = some ⟨[(.array .byte), .int], some .byte⟩ := by decide +kernel
theorem pd17 : parseMethodDescriptor "(C)Z" = some ⟨[.char], some .boolean⟩ := by decide +kernel
theorem pd18 : parseMethodDescriptor "(I)[B" = some ⟨[.int], (some (.array .byte))⟩ := by decide +kernel
theorem pd19 : parseMethodDescriptor "([BII)V" = some ⟨[(.array .byte), .int, .int], none⟩ := by decide +kernel
theorem pd20 : parseMethodDescriptor "([BI)C" = some ⟨[(.array .byte), .int], some .char⟩ := by decide +kernel
theorem pd21 : parseMethodDescriptor "(II[B)V" = some ⟨[.int, .int, (.array .byte)], none⟩ := by decide +kernel
theorem pd22 : parseMethodDescriptor "([B)I" = some ⟨[(.array .byte)], some .int⟩ := by decide +kernel
theorem pd23 : parseMethodDescriptor "(III)V" = some ⟨[.int, .int, .int], none⟩ := by decide +kernel
theorem pd24 : parseMethodDescriptor "(IIILjava/util/function/BiFunction;)I" = some ⟨[.int, .int, .int, (.object "java/util/function/BiFunction")], some .int⟩ := by decide +kernel
/-- the statics of StringUTF16 that its bodies read -/
def own_A16 (Z : State) : Prop := Sta Z Z.heap "java/lang/StringUTF16" "$assertionsDisabled" "Z" (.int 1) ∧ Sta Z Z.heap "java/lang/StringUTF16" "HI_BYTE_SHIFT" "I" (.int 0) ∧ Sta Z Z.heap "java/lang/StringUTF16" "LO_BYTE_SHIFT" "I" (.int 8)
theorem own_inj32 {i n : Nat} (hi : i < 2 ^ 31) (hn : n < 2 ^ 31) (h : Int32.ofNat i = Int32.ofNat n) : i = n := by
  have q := congrArg Int32.toInt h
  rw [Int32.toInt_ofNat_of_lt hi, Int32.toInt_ofNat_of_lt hn] at q
  exact Int.ofNat.inj q
theorem pn1 : plainName "java/lang/StringUTF16" = true := by first | (simp [plainName, overriddenIn]; done) | decide +kernel
def Q22 (Z : State) (n : Nat) (h0 : Heap) (n0 : Nat) (v : Option Value) (h : Heap) (L : List Loc) : Prop := v = some (.int (Int32.ofNat (2 * n))) ∧ Fr n0 L ∧ h0 = h
set_option maxRecDepth 65536 in
set_option maxHeartbeats 40000000 in
theorem rm22 (l : Launch) (Z : State) (a0 : Array Value) (hw : ∀ d ∈ tables_1, d.before a0 Z = true) (ws : List Jvm.Cond) (n : Nat) (h0 : Heap) (n0 : Nat) (Z0 : n0 ≤ h0.size) (hn : n ≤ 1000) :
    MetFree l (⟨"java/lang/StringUTF16", "newBytesLength", "(I)I"⟩ : MethodName) (head1 (Jvm.Cond.code (⟨"java/lang/StringUTF16", "newBytesLength", "(I)I"⟩ : MethodName) jdk_52_method_3_code 1 (some .int) :: ws) ({ frames := 0, cells := 0, slots := 0, locals := 0 } : Room)) (fun aa_ U => aa_ = #[(.int (Int32.ofNat n))] ∧ Z.Warmed39 U.vm ∧ U.heap = h0) (fun _ _ _ _ _ => True) (fun _ U o U' => ∃ v L, o = .returned v ∧ Q22 Z n h0 n0 v U'.heap L ∧ FrameEnd U o U' L ({ frames := 0, cells := 0, slots := 0, locals := 0 } : Room).cells ({ frames := 0, cells := 0, slots := 0, locals := 0 } : Room).slots) := by
  refine MetFree.of_bodySF (plainFor_of_name pn1) hisR ?_
  intro p e s m args below meth c s₁ Bd hml0 hP hK
  obtain ⟨rfl, hZ, hh⟩ := hP
  have hx := Bd.exec
  have hby := Bd.bytes
  have hml : c.maxLocals = 1 := hml0
  have hown : s.vm.findClass "java/lang/StringUTF16" = some m.cls := findClass_of_methodNamed Bd.named
  have hnm := (name_of_methodNamed Bd.named Bd.method).1
  have X0 : Stand p l e ({ frames := 0, cells := 0, slots := 0, locals := 0 } : Room) s m #[(.int (Int32.ofNat n))] below meth c s₁ [] 0 0 := Stand.of_body Bd
  have e0 : s₁.heap = h0 := by rw [← hh, Bd.state]; rfl
  have N0 := Fr.nil n0
  obtain ⟨G, hG⟩ : ∃ G, G = entryFrame m #[(.int (Int32.ofNat n))] 1 := ⟨_, rfl⟩
  have S0 : own_Go p e below s₁ G s₁ (mkF m 0 #[.val (.int (Int32.ofNat n))] []) := fun tg_ kk_ => castTop (by rw [hG]; first | rfl | simp [entryFrame, mkF, argsToLocals, Value.category, maxLocals]) kk_
  have S1 : own_Go p e below s₁ G s₁ (mkF m 58 #[.val (.int (Int32.ofNat n))] [(.int ((Int32.ofNat n) <<< ((1 : Int32) &&& 31)))]) := fun tg_ kk_ => S0 tg_ (by
    refine XS.iloadN X0.here hx rfl (hb hby d22_0) rfl ?_
    show Steps p.tables e below (s₁.setTop (mkF m 1 #[.val (.int (Int32.ofNat n))] [(.int (Int32.ofNat n))])) _
    refine XS.ifYes X0.here hx rfl (pc0 := 1) (pc' := 12) rfl (hb hby d22_1) rfl (XT.i0_ge_t (own_nn32 (by omega))) (by decide) (by decide) ?_
    show Steps p.tables e below (s₁.setTop (mkF m 12 #[.val (.int (Int32.ofNat n))] [])) _
    refine XS.iloadN X0.here hx rfl (hb hby d22_12) rfl ?_
    show Steps p.tables e below (s₁.setTop (mkF m 13 #[.val (.int (Int32.ofNat n))] [(.int (Int32.ofNat n))])) _
    refine X0.ldcInt hx hown (mvT hZ (hw _ (List.mem_of_getElem? (i := 95) rfl))) (g := (mkF m 13 #[.val (.int (Int32.ofNat n))] [(.int (Int32.ofNat n))])) rfl (hb hby d22_13) _ ?_
    show Steps p.tables e below (s₁.setTop (mkF m 15 #[.val (.int (Int32.ofNat n))] [(.int (1073741823 : Int32)), (.int (Int32.ofNat n))])) _
    refine XS.icmpYes X0.here hx rfl (pc0 := 15) (pc' := 55) rfl (hb hby d22_15) rfl (tlt (own_lt32 (i := n) (n := 1073741823) (by omega) (by decide))).1 (by decide) (by decide) ?_
    show Steps p.tables e below (s₁.setTop (mkF m 55 #[.val (.int (Int32.ofNat n))] [])) _
    refine XS.iloadN X0.here hx rfl (hb hby d22_55) rfl ?_
    show Steps p.tables e below (s₁.setTop (mkF m 56 #[.val (.int (Int32.ofNat n))] [(.int (Int32.ofNat n))])) _
    refine XS.iconst X0.here hx rfl (hb hby d22_56) ?_
    show Steps p.tables e below (s₁.setTop (mkF m 57 #[.val (.int (Int32.ofNat n))] [(.int (1 : Int32)), (.int (Int32.ofNat n))])) _
    refine XT.ishl X0.here hx rfl (hb hby d22_57) rfl ?_
    exact kk_)
  rw [own_shl1 (by omega)] at S1
  obtain ⟨fs, hr, hrun, hended, hW, hsame⟩ := X0.leave (v := some (.int (Int32.ofNat (2 * n)))) (fun h => by rw [Bd.returns] at h; cases h)
  refine ⟨_, _, ?_, hrun, hended, _, _, rfl, ?_, ⟨_, rfl⟩, hW, hsame.mono (by decide) (by decide)⟩
  · rw [← hG]; exact S1 _ (retI X0 hx Bd.returns (hb hby d22_58) hr)
  · show Q22 Z n h0 n0 _ s₁.heap _
    rw [e0]
    exact ⟨rfl, N0, rfl⟩
def Q21 (Z : State) (n : Nat) (h0 : Heap) (n0 : Nat) (v : Option Value) (h : Heap) (L : List Loc) : Prop := v = some (.ref h0.size) ∧ Fr n0 L ∧ Ext h0 h ∧ ∃ k, Arv Z h h0.size k .byte (Int32.ofNat (2 * n)) [] (.int 0)
set_option maxRecDepth 65536 in
set_option maxHeartbeats 40000000 in
theorem rm21 (l : Launch) (Z : State) (a0 : Array Value) (hw : ∀ d ∈ tables_1, d.before a0 Z = true) (ws : List Jvm.Cond) (n : Nat) (h0 : Heap) (n0 : Nat) (Z0 : n0 ≤ h0.size) (hn : n ≤ 3) :
    MetFree l (⟨"java/lang/StringUTF16", "newBytesFor", "(I)[B"⟩ : MethodName) (head1 (Jvm.Cond.code (⟨"java/lang/StringUTF16", "newBytesFor", "(I)[B"⟩ : MethodName) jdk_52_method_2_code 1 (some (.array .byte)) :: ws) ({ frames := 1, cells := 1, slots := 6, locals := 12 } : Room)) (fun aa_ U => aa_ = #[(.int (Int32.ofNat n))] ∧ Z.Warmed39 U.vm ∧ U.heap = h0) (fun _ _ _ _ _ => True) (fun _ U o U' => ∃ v L, o = .returned v ∧ Q21 Z n h0 n0 v U'.heap L ∧ FrameEnd U o U' L ({ frames := 1, cells := 1, slots := 6, locals := 12 } : Room).cells ({ frames := 1, cells := 1, slots := 6, locals := 12 } : Room).slots) := by
  refine MetFree.of_bodySF (plainFor_of_name pn1) hisR ?_
  intro p e s m args below meth c s₁ Bd hml0 hP hK
  obtain ⟨rfl, hZ, hh⟩ := hP
  have hx := Bd.exec
  have hby := Bd.bytes
  have hml : c.maxLocals = 1 := hml0
  have hown : s.vm.findClass "java/lang/StringUTF16" = some m.cls := findClass_of_methodNamed Bd.named
  have hnm := (name_of_methodNamed Bd.named Bd.method).1
  have X0 : Stand p l e ({ frames := 1, cells := 1, slots := 6, locals := 12 } : Room) s m #[(.int (Int32.ofNat n))] below meth c s₁ [] 0 0 := Stand.of_body Bd
  have e0 : s₁.heap = h0 := by rw [← hh, Bd.state]; rfl
  have N0 := Fr.nil n0
  obtain ⟨G, hG⟩ : ∃ G, G = entryFrame m #[(.int (Int32.ofNat n))] 1 := ⟨_, rfl⟩
  have S0 : own_Go p e below s₁ G s₁ (mkF m 0 #[.val (.int (Int32.ofNat n))] []) := fun tg_ kk_ => castTop (by rw [hG]; first | rfl | simp [entryFrame, mkF, argsToLocals, Value.category, maxLocals]) kk_
  have S2 : own_Go p e below s₁ G s₁ (mkF m 1 #[.val (.int (Int32.ofNat n))] [(.int (Int32.ofNat n))]) := fun tg_ kk_ => S0 tg_ (by
    refine XS.iloadN X0.here hx rfl (hb hby d21_0) rfl ?_
    exact kk_)
  obtain ⟨_, T3, h3, L3, X3, e3, hQ3, st3⟩ := own_callS X0 hx hZ (y := (⟨"java/lang/StringUTF16", "newBytesLength", "(I)I"⟩ : MethodName)) hown (hw _ (List.mem_of_getElem? (i := 92) rfl)) (hw _ (List.mem_of_getElem? (i := 93) rfl)) (hw _ (List.mem_of_getElem? (i := 72) rfl)) (hw _ (List.mem_of_getElem? (i := 94) rfl)) (by decide) 0 (g := (mkF m 1 #[.val (.int (Int32.ofNat n))] [(.int (Int32.ofNat n))])) rfl (by rw [hml]; rfl) [(.int (Int32.ofNat n))] [] (rm22 l Z a0 hw [] n h0 n0 Z0 (by omega)) (lenOf pd7 rfl) rfl (by show 2 * 0 + _ ≤ _; exact Nat.le_of_eq rfl) (hb hby d21_1) (by decide) (by decide) e0 (by decide) (by decide)
  obtain ⟨rfl, N3, rfl⟩ := hQ3
  have S4 : own_Go p e below s₁ G T3 (mkF m 4 #[.val (.int (Int32.ofNat n))] [(.int (Int32.ofNat (2 * n)))]) := fun tg_ kk_ => S2 tg_ (st3 tg_ kk_)
  have M1 := Fr.app N0 N3
  obtain ⟨Tp1, hp1, kp1, Xp1, ep1, Ep1, Ap1, stp1⟩ := newP X3 hx hZ (hw _ (List.mem_of_getElem? (i := 19) rfl)) e3 (g := (mkF m 4 #[.val (.int (Int32.ofNat n))] [(.int (Int32.ofNat (2 * n)))])) rfl (hb hby d21_4) rfl (own_nn32 (by omega)) (cap := 6) (by rw [own_n32 (by omega)]; omega) (by decide) (by decide) (by decide)
  have S5 : own_Go p e below s₁ G Tp1 (mkF m 6 #[.val (.int (Int32.ofNat n))] [(.ref h0.size)]) := fun tg_ kk_ => S4 tg_ (stp1 tg_ kk_)
  obtain ⟨fs, hr, hrun, hended, hW, hsame⟩ := Xp1.leave (v := some (.ref h0.size)) (fun h => by rw [Bd.returns] at h; cases h)
  refine ⟨_, _, ?_, hrun, hended, _, _, rfl, ?_, ⟨_, rfl⟩, hW, hsame.mono (by decide) (by decide)⟩
  · rw [← hG]; exact S5 _ (retOut Xp1 hx Bd.returns (by first | rfl | cases (.ref h0.size) <;> rfl) (Or.inr (Or.inr (Or.inr (Or.inr ⟨rfl, rfl, rfl⟩)))) (hb hby d21_6) hr)
  · show Q21 Z n h0 n0 _ Tp1.heap _
    rw [ep1]
    exact ⟨rfl, M1, Ep1, kp1, Arv.new Ap1 (own_nn32 (by omega))⟩
def Q23 (Z : State) (d : Addr) (i : Nat) (c0 : Int32) (kd : ClassId) (M : Nat) (vs : List Value) (h0 : Heap) (n0 : Nat) (v : Option Value) (h : Heap) (L : List Loc) : Prop := v = none ∧ Fr n0 L ∧ Keep h0 h [d] ∧ Arv Z h d kd .byte (Int32.ofNat M) (vs ++ [.int (own_lo c0), .int (own_hi c0)]) (.int 0)
set_option maxRecDepth 65536 in
set_option maxHeartbeats 40000000 in
theorem rm23 (l : Launch) (Z : State) (a0 : Array Value) (hw : ∀ d ∈ tables_1, d.before a0 Z = true) (ws : List Jvm.Cond) (d : Addr) (i : Nat) (c0 : Int32) (kd : ClassId) (M : Nat) (vs : List Value) (h0 : Heap) (n0 : Nat) (Z0 : n0 ≤ h0.size) (V : Arv Z h0 d kd .byte (Int32.ofNat M) vs (.int 0)) (hv : vs.length = 2 * i) (hM : 2 * i + 1 < M) (hM2 : M ≤ 2000) (hd0 : n0 ≤ d) (O : Old Z n0 h0) (A16 : own_A16 Z) :
    MetFree l (⟨"java/lang/StringUTF16", "putChar", "([BII)V"⟩ : MethodName) (head1 (Jvm.Cond.code (⟨"java/lang/StringUTF16", "putChar", "([BII)V"⟩ : MethodName) jdk_52_method_4_code 3 none :: ws) ({ frames := 0, cells := 0, slots := 0, locals := 0 } : Room)) (fun aa_ U => aa_ = #[(.ref d), (.int (Int32.ofNat i)), (.int c0)] ∧ Z.Warmed39 U.vm ∧ U.heap = h0) (fun _ _ _ _ _ => True) (fun _ U o U' => ∃ v L, o = .returned v ∧ Q23 Z d i c0 kd M vs h0 n0 v U'.heap L ∧ FrameEnd U o U' L ({ frames := 0, cells := 0, slots := 0, locals := 0 } : Room).cells ({ frames := 0, cells := 0, slots := 0, locals := 0 } : Room).slots) := by
  refine MetFree.of_bodySF (plainFor_of_name pn1) hisR ?_
  intro p e s m args below meth c s₁ Bd hml0 hP hK
  obtain ⟨rfl, hZ, hh⟩ := hP
  have hx := Bd.exec
  have hby := Bd.bytes
  have hml : c.maxLocals = 3 := hml0
  have hown : s.vm.findClass "java/lang/StringUTF16" = some m.cls := findClass_of_methodNamed Bd.named
  have hnm := (name_of_methodNamed Bd.named Bd.method).1
  have X0 : Stand p l e ({ frames := 0, cells := 0, slots := 0, locals := 0 } : Room) s m #[(.ref d), (.int (Int32.ofNat i)), (.int c0)] below meth c s₁ [] 0 0 := Stand.of_body Bd
  have e0 : s₁.heap = h0 := by rw [← hh, Bd.state]; rfl
  have N0 := Fr.nil n0
  obtain ⟨G, hG⟩ : ∃ G, G = entryFrame m #[(.ref d), (.int (Int32.ofNat i)), (.int c0)] 3 := ⟨_, rfl⟩
  have S0 : own_Go p e below s₁ G s₁ (mkF m 0 #[.val (.ref d), .val (.int (Int32.ofNat i)), .val (.int c0)] []) := fun tg_ kk_ => castTop (by rw [hG]; first | rfl | simp [entryFrame, mkF, argsToLocals, Value.category, maxLocals]) kk_
  obtain ⟨T6, X6, e6, st6⟩ := getS X0 hx hZ (host := "") hown (hw _ (List.mem_of_getElem? (i := 99) rfl)) Via.refl e0 (A16.1.ext O.2) (g := (mkF m 0 #[.val (.ref d), .val (.int (Int32.ofNat i)), .val (.int c0)] [])) rfl (hb hby d23_0)
  have S7 : own_Go p e below s₁ G T6 (mkF m 3 #[.val (.ref d), .val (.int (Int32.ofNat i)), .val (.int c0)] [(.int (1 : Int32))]) := fun tg_ kk_ => S0 tg_ (st6 tg_ kk_)
  have S8 : own_Go p e below s₁ G T6 (mkF m 31 #[.val (.ref d), .val (.int (Int32.ofNat i)), .val (.int c0)] [(.int ((Int32.ofNat i) <<< ((1 : Int32) &&& 31)))]) := fun tg_ kk_ => S7 tg_ (by
    refine XS.ifYes X6.here hx rfl (pc0 := 3) (pc' := 28) rfl (hb hby d23_3) rfl (by decide) (by decide) (by decide) ?_
    show Steps p.tables e below (T6.setTop (mkF m 28 #[.val (.ref d), .val (.int (Int32.ofNat i)), .val (.int c0)] [])) _
    refine XS.iloadN X6.here hx rfl (hb hby d23_28) rfl ?_
    show Steps p.tables e below (T6.setTop (mkF m 29 #[.val (.ref d), .val (.int (Int32.ofNat i)), .val (.int c0)] [(.int (Int32.ofNat i))])) _
    refine XS.iconst X6.here hx rfl (hb hby d23_29) ?_
    show Steps p.tables e below (T6.setTop (mkF m 30 #[.val (.ref d), .val (.int (Int32.ofNat i)), .val (.int c0)] [(.int (1 : Int32)), (.int (Int32.ofNat i))])) _
    refine XT.ishl X6.here hx rfl (hb hby d23_30) rfl ?_
    exact kk_)
  rw [own_shl1 (by omega)] at S8
  have S9 : own_Go p e below s₁ G T6 (mkF m 38 #[.val (.ref d), .val (.int ((Int32.ofNat (2 * i)) + (1 : Int32))), .val (.int c0)] [(.int c0), (.int (Int32.ofNat (2 * i))), (.ref d)]) := fun tg_ kk_ => S8 tg_ (by
    refine XS.istoreN X6.here hx rfl (hb hby d23_31) rfl (l' := #[.val (.ref d), .val (.int (Int32.ofNat (2 * i))), .val (.int c0)]) rfl ?_
    show Steps p.tables e below (T6.setTop (mkF m 32 #[.val (.ref d), .val (.int (Int32.ofNat (2 * i))), .val (.int c0)] [])) _
    refine XS.aloadN X6.here hx rfl (hb hby d23_32) rfl rfl ?_
    show Steps p.tables e below (T6.setTop (mkF m 33 #[.val (.ref d), .val (.int (Int32.ofNat (2 * i))), .val (.int c0)] [(.ref d)])) _
    refine XS.iloadN X6.here hx rfl (hb hby d23_33) rfl ?_
    show Steps p.tables e below (T6.setTop (mkF m 34 #[.val (.ref d), .val (.int (Int32.ofNat (2 * i))), .val (.int c0)] [(.int (Int32.ofNat (2 * i))), (.ref d)])) _
    refine XS.iinc X6.here hx rfl (hb hby d23_34) rfl (l' := #[.val (.ref d), .val (.int ((Int32.ofNat (2 * i)) + (1 : Int32))), .val (.int c0)]) rfl ?_
    show Steps p.tables e below (T6.setTop (mkF m 37 #[.val (.ref d), .val (.int ((Int32.ofNat (2 * i)) + (1 : Int32))), .val (.int c0)] [(.int (Int32.ofNat (2 * i))), (.ref d)])) _
    refine XS.iloadN X6.here hx rfl (hb hby d23_37) rfl ?_
    exact kk_)
  rw [own_suc] at S9
  obtain ⟨T10, X10, e10, st10⟩ := getS X6 hx hZ (host := "") hown (hw _ (List.mem_of_getElem? (i := 100) rfl)) Via.refl e6 (A16.2.1.ext O.2) (g := (mkF m 38 #[.val (.ref d), .val (.int (Int32.ofNat (2 * i + 1))), .val (.int c0)] [(.int c0), (.int (Int32.ofNat (2 * i))), (.ref d)])) rfl (hb hby d23_38)
  have S11 : own_Go p e below s₁ G T10 (mkF m 41 #[.val (.ref d), .val (.int (Int32.ofNat (2 * i + 1))), .val (.int c0)] [(.int (0 : Int32)), (.int c0), (.int (Int32.ofNat (2 * i))), (.ref d)]) := fun tg_ kk_ => S9 tg_ (st10 tg_ kk_)
  have S12 : own_Go p e below s₁ G T10 (mkF m 43 #[.val (.ref d), .val (.int (Int32.ofNat (2 * i + 1))), .val (.int c0)] [(.int ((c0 >>> ((0 : Int32) &&& 31)).toInt8.toInt32)), (.int (Int32.ofNat (2 * i))), (.ref d)]) := fun tg_ kk_ => S11 tg_ (by
    refine XT.ishr X10.here hx rfl (hb hby d23_41) rfl ?_
    show Steps p.tables e below (T10.setTop (mkF m 42 #[.val (.ref d), .val (.int (Int32.ofNat (2 * i + 1))), .val (.int c0)] [(.int (c0 >>> ((0 : Int32) &&& 31))), (.int (Int32.ofNat (2 * i))), (.ref d)])) _
    refine XT.i2b X10.here hx rfl (hb hby d23_42) rfl ?_
    exact kk_)
  have q1 : nar .byte ((c0 >>> ((0 : Int32) &&& 31)).toInt8.toInt32) = own_lo c0 := by rw [own_shr0]; exact own_nar_lo c0
  obtain ⟨cla, Ba, ba, za, ya, Ha, Fa⟩ := id V
  obtain ⟨Ua, ua, Ya, fa, Wa, sua⟩ := stB X10 hx hZ e10 Ba (j := (Int32.ofNat (2 * i))) (own_in32 za (by omega) (by omega)) (g := (mkF m 43 #[.val (.ref d), .val (.int (Int32.ofNat (2 * i + 1))), .val (.int c0)] [(.int ((c0 >>> ((0 : Int32) &&& 31)).toInt8.toInt32)), (.int (Int32.ofNat (2 * i))), (.ref d)])) rfl rfl (hb hby d23_43)
  have S13 : own_Go p e below s₁ G Ua (mkF m 44 #[.val (.ref d), .val (.int (Int32.ofNat (2 * i + 1))), .val (.int c0)] []) := fun tg_ kk_ => S12 tg_ (sua tg_ kk_)
  rw [q1] at Wa
  have Va := own_push V (own_fit_lo c0) Wa (by rw [own_n32 (by omega)]; omega)
  have Oa := O.wr Wa hd0
  have Na := Fr.snoc Ya N0 hd0
  have Ka : Keep h0 ua [d] := (Keep.refl h0 [d]).wr Wa (Or.inl (List.mem_of_getElem? (i := 0) rfl))
  have S14 : own_Go p e below s₁ G Ua (mkF m 47 #[.val (.ref d), .val (.int (Int32.ofNat (2 * i + 1))), .val (.int c0)] [(.int c0), (.int (Int32.ofNat (2 * i + 1))), (.ref d)]) := fun tg_ kk_ => S13 tg_ (by
    refine XS.aloadN Ya.here hx rfl (hb hby d23_44) rfl rfl ?_
    show Steps p.tables e below (Ua.setTop (mkF m 45 #[.val (.ref d), .val (.int (Int32.ofNat (2 * i + 1))), .val (.int c0)] [(.ref d)])) _
    refine XS.iloadN Ya.here hx rfl (hb hby d23_45) rfl ?_
    show Steps p.tables e below (Ua.setTop (mkF m 46 #[.val (.ref d), .val (.int (Int32.ofNat (2 * i + 1))), .val (.int c0)] [(.int (Int32.ofNat (2 * i + 1))), (.ref d)])) _
    refine XS.iloadN Ya.here hx rfl (hb hby d23_46) rfl ?_
    exact kk_)
  obtain ⟨T15, X15, e15, st15⟩ := getS Ya hx hZ (host := "") hown (hw _ (List.mem_of_getElem? (i := 101) rfl)) Via.refl fa (A16.2.2.ext Oa.2) (g := (mkF m 47 #[.val (.ref d), .val (.int (Int32.ofNat (2 * i + 1))), .val (.int c0)] [(.int c0), (.int (Int32.ofNat (2 * i + 1))), (.ref d)])) rfl (hb hby d23_47)
  have S16 : own_Go p e below s₁ G T15 (mkF m 50 #[.val (.ref d), .val (.int (Int32.ofNat (2 * i + 1))), .val (.int c0)] [(.int (8 : Int32)), (.int c0), (.int (Int32.ofNat (2 * i + 1))), (.ref d)]) := fun tg_ kk_ => S14 tg_ (st15 tg_ kk_)
  have S17 : own_Go p e below s₁ G T15 (mkF m 52 #[.val (.ref d), .val (.int (Int32.ofNat (2 * i + 1))), .val (.int c0)] [(.int ((c0 >>> ((8 : Int32) &&& 31)).toInt8.toInt32)), (.int (Int32.ofNat (2 * i + 1))), (.ref d)]) := fun tg_ kk_ => S16 tg_ (by
    refine XT.ishr X15.here hx rfl (hb hby d23_50) rfl ?_
    show Steps p.tables e below (T15.setTop (mkF m 51 #[.val (.ref d), .val (.int (Int32.ofNat (2 * i + 1))), .val (.int c0)] [(.int (c0 >>> ((8 : Int32) &&& 31))), (.int (Int32.ofNat (2 * i + 1))), (.ref d)])) _
    refine XT.i2b X15.here hx rfl (hb hby d23_51) rfl ?_
    exact kk_)
  have q2 : nar .byte ((c0 >>> ((8 : Int32) &&& 31)).toInt8.toInt32) = own_hi c0 := own_nar_hi c0
  obtain ⟨clb, Bb, bb, zb, yb, Hb, Fb⟩ := id Va
  obtain ⟨Ub, ub, Yb, fb, Wb, sub⟩ := stB X15 hx hZ e15 Bb (j := (Int32.ofNat (2 * i + 1))) (own_in32 zb (by omega) (by omega)) (g := (mkF m 52 #[.val (.ref d), .val (.int (Int32.ofNat (2 * i + 1))), .val (.int c0)] [(.int ((c0 >>> ((8 : Int32) &&& 31)).toInt8.toInt32)), (.int (Int32.ofNat (2 * i + 1))), (.ref d)])) rfl rfl (hb hby d23_52)
  have S18 : own_Go p e below s₁ G Ub (mkF m 53 #[.val (.ref d), .val (.int (Int32.ofNat (2 * i + 1))), .val (.int c0)] []) := fun tg_ kk_ => S17 tg_ (sub tg_ kk_)
  rw [q2] at Wb
  have Vb := own_push Va (own_fit_hi c0) Wb (by rw [own_n32 (by omega)]; simp; omega)
  have Ob := Oa.wr Wb hd0
  have Nb := Fr.snoc Yb Na hd0
  have Kb : Keep h0 ub [d] := Ka.wr Wb (Or.inl (List.mem_of_getElem? (i := 0) rfl))
  rw [List.append_assoc] at Vb
  obtain ⟨fs, hr, hrun, hended, hW, hsame⟩ := Yb.leave (v := none) (fun _ => rfl)
  refine ⟨_, _, ?_, hrun, hended, _, _, rfl, ?_, ⟨_, rfl⟩, hW, hsame.mono (by decide) (by decide)⟩
  · rw [← hG]; exact S18 _ (Yb.returnOut hx Bd.returns (hb hby d23_53) hr)
  · show Q23 Z d i c0 kd M vs h0 n0 _ Ub.heap _
    rw [fb]
    exact ⟨rfl, Nb, Kb, Vb⟩
def Q24 (Z : State) (t : Addr) (i : Nat) (cs : List Int32) (h0 : Heap) (n0 : Nat) (v : Option Value) (h : Heap) (L : List Loc) : Prop := v = some (.int (cs.getD i 0)) ∧ Fr n0 L ∧ h0 = h
set_option maxRecDepth 65536 in
set_option maxHeartbeats 40000000 in
theorem rm24 (l : Launch) (Z : State) (a0 : Array Value) (hw : ∀ d ∈ tables_1, d.before a0 Z = true) (ws : List Jvm.Cond) (t : Addr) (i : Nat) (cs : List Int32) (h0 : Heap) (n0 : Nat) (Z0 : n0 ≤ h0.size) (kt : ClassId) (V : Arv Z h0 t kt .byte (Int32.ofNat (2 * cs.length)) (own_wide cs) (.int 0)) (hi : i < cs.length) (hn : cs.length ≤ 1000) (hc : own_Ch (cs.getD i 0)) (O : Old Z n0 h0) (A16 : own_A16 Z) :
    MetFree l (⟨"java/lang/StringUTF16", "getChar", "([BI)C"⟩ : MethodName) (head1 (Jvm.Cond.code (⟨"java/lang/StringUTF16", "getChar", "([BI)C"⟩ : MethodName) jdk_52_method_5_code 2 (some .char) :: ws) ({ frames := 0, cells := 0, slots := 0, locals := 0 } : Room)) (fun aa_ U => aa_ = #[(.ref t), (.int (Int32.ofNat i))] ∧ Z.Warmed39 U.vm ∧ U.heap = h0) (fun _ _ _ _ _ => True) (fun _ U o U' => ∃ v L, o = .returned v ∧ Q24 Z t i cs h0 n0 v U'.heap L ∧ FrameEnd U o U' L ({ frames := 0, cells := 0, slots := 0, locals := 0 } : Room).cells ({ frames := 0, cells := 0, slots := 0, locals := 0 } : Room).slots) := by
  refine MetFree.of_bodySF (plainFor_of_name pn1) hisR ?_
  intro p e s m args below meth c s₁ Bd hml0 hP hK
  obtain ⟨rfl, hZ, hh⟩ := hP
  have hx := Bd.exec
  have hby := Bd.bytes
  have hml : c.maxLocals = 2 := hml0
  have hown : s.vm.findClass "java/lang/StringUTF16" = some m.cls := findClass_of_methodNamed Bd.named
  have hnm := (name_of_methodNamed Bd.named Bd.method).1
  have X0 : Stand p l e ({ frames := 0, cells := 0, slots := 0, locals := 0 } : Room) s m #[(.ref t), (.int (Int32.ofNat i))] below meth c s₁ [] 0 0 := Stand.of_body Bd
  have e0 : s₁.heap = h0 := by rw [← hh, Bd.state]; rfl
  have N0 := Fr.nil n0
  obtain ⟨G, hG⟩ : ∃ G, G = entryFrame m #[(.ref t), (.int (Int32.ofNat i))] 2 := ⟨_, rfl⟩
  have S0 : own_Go p e below s₁ G s₁ (mkF m 0 #[.val (.ref t), .val (.int (Int32.ofNat i))] []) := fun tg_ kk_ => castTop (by rw [hG]; first | rfl | simp [entryFrame, mkF, argsToLocals, Value.category, maxLocals]) kk_
  obtain ⟨cl, Ar, -, Sz, -, H, -⟩ := V
  have at1 : cl.slots[(Int32.ofNat (2 * i)).toNatClampNeg]? = some (.int (own_lo (cs.getD i 0))) := H.at (own_in32 Sz (by omega) (by omega)) (by rw [own_n32 (by omega)]; exact own_wide_lo _ cs i hi)
  have at2 : cl.slots[(Int32.ofNat (2 * i + 1)).toNatClampNeg]? = some (.int (own_hi (cs.getD i 0))) := H.at (own_in32 Sz (by omega) (by omega)) (by rw [own_n32 (by omega)]; exact own_wide_hi _ cs i hi)
  obtain ⟨T19, X19, e19, st19⟩ := getS X0 hx hZ (host := "") hown (hw _ (List.mem_of_getElem? (i := 99) rfl)) Via.refl e0 (A16.1.ext O.2) (g := (mkF m 0 #[.val (.ref t), .val (.int (Int32.ofNat i))] [])) rfl (hb hby d24_0)
  have S20 : own_Go p e below s₁ G T19 (mkF m 3 #[.val (.ref t), .val (.int (Int32.ofNat i))] [(.int (1 : Int32))]) := fun tg_ kk_ => S0 tg_ (st19 tg_ kk_)
  have S21 : own_Go p e below s₁ G T19 (mkF m 31 #[.val (.ref t), .val (.int (Int32.ofNat i))] [(.int ((Int32.ofNat i) <<< ((1 : Int32) &&& 31)))]) := fun tg_ kk_ => S20 tg_ (by
    refine XS.ifYes X19.here hx rfl (pc0 := 3) (pc' := 28) rfl (hb hby d24_3) rfl (by decide) (by decide) (by decide) ?_
    show Steps p.tables e below (T19.setTop (mkF m 28 #[.val (.ref t), .val (.int (Int32.ofNat i))] [])) _
    refine XS.iloadN X19.here hx rfl (hb hby d24_28) rfl ?_
    show Steps p.tables e below (T19.setTop (mkF m 29 #[.val (.ref t), .val (.int (Int32.ofNat i))] [(.int (Int32.ofNat i))])) _
    refine XS.iconst X19.here hx rfl (hb hby d24_29) ?_
    show Steps p.tables e below (T19.setTop (mkF m 30 #[.val (.ref t), .val (.int (Int32.ofNat i))] [(.int (1 : Int32)), (.int (Int32.ofNat i))])) _
    refine XT.ishl X19.here hx rfl (hb hby d24_30) rfl ?_
    exact kk_)
  rw [own_shl1 (by omega)] at S21
  have S22 : own_Go p e below s₁ G T19 (mkF m 37 #[.val (.ref t), .val (.int ((Int32.ofNat (2 * i)) + (1 : Int32)))] [(.int (Int32.ofNat (2 * i))), (.ref t)]) := fun tg_ kk_ => S21 tg_ (by
    refine XS.istoreN X19.here hx rfl (hb hby d24_31) rfl (l' := #[.val (.ref t), .val (.int (Int32.ofNat (2 * i)))]) rfl ?_
    show Steps p.tables e below (T19.setTop (mkF m 32 #[.val (.ref t), .val (.int (Int32.ofNat (2 * i)))] [])) _
    refine XS.aloadN X19.here hx rfl (hb hby d24_32) rfl rfl ?_
    show Steps p.tables e below (T19.setTop (mkF m 33 #[.val (.ref t), .val (.int (Int32.ofNat (2 * i)))] [(.ref t)])) _
    refine XS.iloadN X19.here hx rfl (hb hby d24_33) rfl ?_
    show Steps p.tables e below (T19.setTop (mkF m 34 #[.val (.ref t), .val (.int (Int32.ofNat (2 * i)))] [(.int (Int32.ofNat (2 * i))), (.ref t)])) _
    refine XS.iinc X19.here hx rfl (hb hby d24_34) rfl (l' := #[.val (.ref t), .val (.int ((Int32.ofNat (2 * i)) + (1 : Int32)))]) rfl ?_
    exact kk_)
  rw [own_suc] at S22
  have S23 : own_Go p e below s₁ G T19 (mkF m 42 #[.val (.ref t), .val (.int (Int32.ofNat (2 * i + 1)))] [(.int ((own_lo (cs.getD i 0)) &&& (255 : Int32)))]) := fun tg_ kk_ => S22 tg_ (by
    refine X19.baloadBytes hx (j := (Int32.ofNat (2 * i))) (v := (.int (own_lo (cs.getD i 0)))) (cell := cl) (by rw [e19]; exact Ar.1) (State.isArrayOf_alike hZ.alike Ar.2.1) Ar.2.2 (own_in32 Sz (by omega) (by omega)) at1 (g := (mkF m 37 #[.val (.ref t), .val (.int (Int32.ofNat (2 * i + 1)))] [(.int (Int32.ofNat (2 * i))), (.ref t)])) rfl rfl (hb hby d24_37) _ ?_
    show Steps p.tables e below (T19.setTop (mkF m 38 #[.val (.ref t), .val (.int (Int32.ofNat (2 * i + 1)))] [(.int (own_lo (cs.getD i 0)))])) _
    refine XS.sipush X19.here hx rfl (hb hby d24_38) ?_
    show Steps p.tables e below (T19.setTop (mkF m 41 #[.val (.ref t), .val (.int (Int32.ofNat (2 * i + 1)))] [(.int (255 : Int32)), (.int (own_lo (cs.getD i 0)))])) _
    refine XS.iand X19.here hx rfl (hb hby d24_41) rfl ?_
    exact kk_)
  obtain ⟨T24, X24, e24, st24⟩ := getS X19 hx hZ (host := "") hown (hw _ (List.mem_of_getElem? (i := 100) rfl)) Via.refl e19 (A16.2.1.ext O.2) (g := (mkF m 42 #[.val (.ref t), .val (.int (Int32.ofNat (2 * i + 1)))] [(.int ((own_lo (cs.getD i 0)) &&& (255 : Int32)))])) rfl (hb hby d24_42)
  have S25 : own_Go p e below s₁ G T24 (mkF m 45 #[.val (.ref t), .val (.int (Int32.ofNat (2 * i + 1)))] [(.int (0 : Int32)), (.int ((own_lo (cs.getD i 0)) &&& (255 : Int32)))]) := fun tg_ kk_ => S23 tg_ (st24 tg_ kk_)
  have S26 : own_Go p e below s₁ G T24 (mkF m 53 #[.val (.ref t), .val (.int (Int32.ofNat (2 * i + 1)))] [(.int ((own_hi (cs.getD i 0)) &&& (255 : Int32))), (.int (((own_lo (cs.getD i 0)) &&& (255 : Int32)) <<< ((0 : Int32) &&& 31)))]) := fun tg_ kk_ => S25 tg_ (by
    refine XT.ishl X24.here hx rfl (hb hby d24_45) rfl ?_
    show Steps p.tables e below (T24.setTop (mkF m 46 #[.val (.ref t), .val (.int (Int32.ofNat (2 * i + 1)))] [(.int (((own_lo (cs.getD i 0)) &&& (255 : Int32)) <<< ((0 : Int32) &&& 31)))])) _
    refine XS.aloadN X24.here hx rfl (hb hby d24_46) rfl rfl ?_
    show Steps p.tables e below (T24.setTop (mkF m 47 #[.val (.ref t), .val (.int (Int32.ofNat (2 * i + 1)))] [(.ref t), (.int (((own_lo (cs.getD i 0)) &&& (255 : Int32)) <<< ((0 : Int32) &&& 31)))])) _
    refine XS.iloadN X24.here hx rfl (hb hby d24_47) rfl ?_
    show Steps p.tables e below (T24.setTop (mkF m 48 #[.val (.ref t), .val (.int (Int32.ofNat (2 * i + 1)))] [(.int (Int32.ofNat (2 * i + 1))), (.ref t), (.int (((own_lo (cs.getD i 0)) &&& (255 : Int32)) <<< ((0 : Int32) &&& 31)))])) _
    refine X24.baloadBytes hx (j := (Int32.ofNat (2 * i + 1))) (v := (.int (own_hi (cs.getD i 0)))) (cell := cl) (by rw [e24]; exact Ar.1) (State.isArrayOf_alike hZ.alike Ar.2.1) Ar.2.2 (own_in32 Sz (by omega) (by omega)) at2 (g := (mkF m 48 #[.val (.ref t), .val (.int (Int32.ofNat (2 * i + 1)))] [(.int (Int32.ofNat (2 * i + 1))), (.ref t), (.int (((own_lo (cs.getD i 0)) &&& (255 : Int32)) <<< ((0 : Int32) &&& 31)))])) rfl rfl (hb hby d24_48) _ ?_
    show Steps p.tables e below (T24.setTop (mkF m 49 #[.val (.ref t), .val (.int (Int32.ofNat (2 * i + 1)))] [(.int (own_hi (cs.getD i 0))), (.int (((own_lo (cs.getD i 0)) &&& (255 : Int32)) <<< ((0 : Int32) &&& 31)))])) _
    refine XS.sipush X24.here hx rfl (hb hby d24_49) ?_
    show Steps p.tables e below (T24.setTop (mkF m 52 #[.val (.ref t), .val (.int (Int32.ofNat (2 * i + 1)))] [(.int (255 : Int32)), (.int (own_hi (cs.getD i 0))), (.int (((own_lo (cs.getD i 0)) &&& (255 : Int32)) <<< ((0 : Int32) &&& 31)))])) _
    refine XS.iand X24.here hx rfl (hb hby d24_52) rfl ?_
    exact kk_)
  obtain ⟨T27, X27, e27, st27⟩ := getS X24 hx hZ (host := "") hown (hw _ (List.mem_of_getElem? (i := 101) rfl)) Via.refl e24 (A16.2.2.ext O.2) (g := (mkF m 53 #[.val (.ref t), .val (.int (Int32.ofNat (2 * i + 1)))] [(.int ((own_hi (cs.getD i 0)) &&& (255 : Int32))), (.int (((own_lo (cs.getD i 0)) &&& (255 : Int32)) <<< ((0 : Int32) &&& 31)))])) rfl (hb hby d24_53)
  have S28 : own_Go p e below s₁ G T27 (mkF m 56 #[.val (.ref t), .val (.int (Int32.ofNat (2 * i + 1)))] [(.int (8 : Int32)), (.int ((own_hi (cs.getD i 0)) &&& (255 : Int32))), (.int (((own_lo (cs.getD i 0)) &&& (255 : Int32)) <<< ((0 : Int32) &&& 31)))]) := fun tg_ kk_ => S26 tg_ (st27 tg_ kk_)
  have S29 : own_Go p e below s₁ G T27 (mkF m 59 #[.val (.ref t), .val (.int (Int32.ofNat (2 * i + 1)))] [(.int (((((own_lo (cs.getD i 0)) &&& (255 : Int32)) <<< ((0 : Int32) &&& 31)) ||| (((own_hi (cs.getD i 0)) &&& (255 : Int32)) <<< ((8 : Int32) &&& 31))).toUInt32.toUInt16.toUInt32.toInt32))]) := fun tg_ kk_ => S28 tg_ (by
    refine XT.ishl X27.here hx rfl (hb hby d24_56) rfl ?_
    show Steps p.tables e below (T27.setTop (mkF m 57 #[.val (.ref t), .val (.int (Int32.ofNat (2 * i + 1)))] [(.int (((own_hi (cs.getD i 0)) &&& (255 : Int32)) <<< ((8 : Int32) &&& 31))), (.int (((own_lo (cs.getD i 0)) &&& (255 : Int32)) <<< ((0 : Int32) &&& 31)))])) _
    refine XT.ior X27.here hx rfl (hb hby d24_57) rfl ?_
    show Steps p.tables e below (T27.setTop (mkF m 58 #[.val (.ref t), .val (.int (Int32.ofNat (2 * i + 1)))] [(.int ((((own_lo (cs.getD i 0)) &&& (255 : Int32)) <<< ((0 : Int32) &&& 31)) ||| (((own_hi (cs.getD i 0)) &&& (255 : Int32)) <<< ((8 : Int32) &&& 31))))])) _
    refine XT.i2c X27.here hx rfl (hb hby d24_58) rfl ?_
    exact kk_)
  rw [own_pair hc] at S29
  obtain ⟨fs, hr, hrun, hended, hW, hsame⟩ := X27.leave (v := some (.int (nar .char (cs.getD i 0)))) (fun h => by rw [Bd.returns] at h; cases h)
  refine ⟨_, _, ?_, hrun, hended, _, _, rfl, ?_, ⟨_, rfl⟩, hW, hsame.mono (by decide) (by decide)⟩
  · rw [← hG]; exact S29 _ (retN X27 hx (t := .char) Bd.returns (by simp) (hb hby d24_59) hr)
  · show Q24 Z t i cs h0 n0 _ T27.heap _
    rw [e27]
    exact ⟨by rw [own_nar_char hc], N0, rfl⟩
set_option maxRecDepth 65536 in
set_option maxHeartbeats 40000000 in
theorem own_c5turn {p : Program} {l : Launch} {e : Env} {R : Room} {s : State} {m : MethodId} {args : Array Value} {below : List Frame} {meth : Method} {c : Code} {locs : List Loc} {cells slots : Nat} {Z : State} {T0 : State} {h : Heap} (b d : Addr) (i N c0 : Int32) (s6 : Slot) (hs : One s6) (clb cld : Cell) (X0 : Stand p l e R s m args below meth c T0 locs cells slots) (hx : p.tables.exec = Jvm.exec) (hZ : Z.Warmed39 s.vm) (hby : c.code = jdk_52_method_21_code) (e0 : T0.heap = h) (Ab : Arr Z h b clb .char) (Ad : Arr Z h d cld .byte) (hc : i < N) (hinb : ¬ (i < 0 ∨ clb.slots.size ≤ i.toNatClampNeg)) (hatb : clb.slots[i.toNatClampNeg]? = some (.int c0)) (h255 : ¬ (255 : Int32) < c0) (hind : ¬ (i < 0 ∨ cld.slots.size ≤ i.toNatClampNeg)) :
    ∃ T' h', Stand p l e R s m args below meth c T' (locs ++ [⟨d, i.toNatClampNeg⟩]) cells slots ∧ T'.heap = h' ∧ Wr h h' d i.toNatClampNeg (.int (nar .byte (c0).toInt8.toInt32)) ∧ own_Go p e below T0 (mkF m 3 #[.val (.ref b), .val (.int i), .val (.ref d), .val (.int i), .val (.int N), .val (.int i), s6] []) T' (mkF m 3 #[.val (.ref b), .val (.int (i + (1 : Int32))), .val (.ref d), .val (.int (i + (1 : Int32))), .val (.int N), .val (.int (i + (1 : Int32))), .val (.int c0)] []) := by
  have S30 : own_Go p e below T0 (mkF m 3 #[.val (.ref b), .val (.int i), .val (.ref d), .val (.int i), .val (.int N), .val (.int i), s6] []) T0 (mkF m 31 #[.val (.ref b), .val (.int i), .val (.ref d), .val (.int i), .val (.int N), .val (.int i), .val (.int c0)] [(.int ((c0).toInt8.toInt32)), (.int i), (.ref d)]) := fun tg_ kk_ => (own_Go.refl T0 _) tg_ (by
    refine XS.iload X0.here hx rfl (hb hby d16_3) rfl ?_
    show Steps p.tables e below (T0.setTop (mkF m 5 #[.val (.ref b), .val (.int i), .val (.ref d), .val (.int i), .val (.int N), .val (.int i), s6] [(.int i)])) _
    refine XS.iload X0.here hx rfl (hb hby d16_5) rfl ?_
    show Steps p.tables e below (T0.setTop (mkF m 7 #[.val (.ref b), .val (.int i), .val (.ref d), .val (.int i), .val (.int N), .val (.int i), s6] [(.int N), (.int i)])) _
    refine XS.icmpNo X0.here hx rfl (hb hby d16_7) rfl (tlt hc).2.1 ?_
    show Steps p.tables e below (T0.setTop (mkF m 10 #[.val (.ref b), .val (.int i), .val (.ref d), .val (.int i), .val (.int N), .val (.int i), s6] [])) _
    refine XS.aloadN X0.here hx rfl (hb hby d16_10) rfl rfl ?_
    show Steps p.tables e below (T0.setTop (mkF m 11 #[.val (.ref b), .val (.int i), .val (.ref d), .val (.int i), .val (.int N), .val (.int i), s6] [(.ref b)])) _
    refine XS.iloadN X0.here hx rfl (hb hby d16_11) rfl ?_
    show Steps p.tables e below (T0.setTop (mkF m 12 #[.val (.ref b), .val (.int i), .val (.ref d), .val (.int i), .val (.int N), .val (.int i), s6] [(.int i), (.ref b)])) _
    refine X0.caload hx (j := i) (v := (.int c0)) (cell := clb) (by rw [e0]; exact Ab.1) (State.isArrayOf_alike hZ.alike Ab.2.1) Ab.2.2 hinb hatb (g := (mkF m 12 #[.val (.ref b), .val (.int i), .val (.ref d), .val (.int i), .val (.int N), .val (.int i), s6] [(.int i), (.ref b)])) rfl rfl (hb hby d16_12) _ ?_
    show Steps p.tables e below (T0.setTop (mkF m 13 #[.val (.ref b), .val (.int i), .val (.ref d), .val (.int i), .val (.int N), .val (.int i), s6] [(.int c0)])) _
    refine XS.istore X0.here hx rfl (hb hby d16_13) rfl (l' := #[.val (.ref b), .val (.int i), .val (.ref d), .val (.int i), .val (.int N), .val (.int i), .val (.int c0)]) (XS.store1 rfl hs rfl) ?_
    show Steps p.tables e below (T0.setTop (mkF m 15 #[.val (.ref b), .val (.int i), .val (.ref d), .val (.int i), .val (.int N), .val (.int i), .val (.int c0)] [])) _
    refine XS.iload X0.here hx rfl (hb hby d16_15) rfl ?_
    show Steps p.tables e below (T0.setTop (mkF m 17 #[.val (.ref b), .val (.int i), .val (.ref d), .val (.int i), .val (.int N), .val (.int i), .val (.int c0)] [(.int c0)])) _
    refine XS.sipush X0.here hx rfl (hb hby d16_17) ?_
    show Steps p.tables e below (T0.setTop (mkF m 20 #[.val (.ref b), .val (.int i), .val (.ref d), .val (.int i), .val (.int N), .val (.int i), .val (.int c0)] [(.int (255 : Int32)), (.int c0)])) _
    refine XS.icmpYes X0.here hx rfl (pc0 := 20) (pc' := 26) rfl (hb hby d16_20) rfl (flt h255).2.2.2 (by decide) (by decide) ?_
    show Steps p.tables e below (T0.setTop (mkF m 26 #[.val (.ref b), .val (.int i), .val (.ref d), .val (.int i), .val (.int N), .val (.int i), .val (.int c0)] [])) _
    refine XS.aloadN X0.here hx rfl (hb hby d16_26) rfl rfl ?_
    show Steps p.tables e below (T0.setTop (mkF m 27 #[.val (.ref b), .val (.int i), .val (.ref d), .val (.int i), .val (.int N), .val (.int i), .val (.int c0)] [(.ref d)])) _
    refine XS.iloadN X0.here hx rfl (hb hby d16_27) rfl ?_
    show Steps p.tables e below (T0.setTop (mkF m 28 #[.val (.ref b), .val (.int i), .val (.ref d), .val (.int i), .val (.int N), .val (.int i), .val (.int c0)] [(.int i), (.ref d)])) _
    refine XS.iload X0.here hx rfl (hb hby d16_28) rfl ?_
    show Steps p.tables e below (T0.setTop (mkF m 30 #[.val (.ref b), .val (.int i), .val (.ref d), .val (.int i), .val (.int N), .val (.int i), .val (.int c0)] [(.int c0), (.int i), (.ref d)])) _
    refine XT.i2b X0.here hx rfl (hb hby d16_30) rfl ?_
    exact kk_)
  obtain ⟨T1, h1, X1, e1, W1, st1⟩ := stB X0 hx hZ e0 Ad (j := i) hind (g := (mkF m 31 #[.val (.ref b), .val (.int i), .val (.ref d), .val (.int i), .val (.int N), .val (.int i), .val (.int c0)] [(.int ((c0).toInt8.toInt32)), (.int i), (.ref d)])) rfl rfl (hb hby d16_31)
  have S31 : own_Go p e below T0 (mkF m 3 #[.val (.ref b), .val (.int i), .val (.ref d), .val (.int i), .val (.int N), .val (.int i), s6] []) T1 (mkF m 32 #[.val (.ref b), .val (.int i), .val (.ref d), .val (.int i), .val (.int N), .val (.int i), .val (.int c0)] []) := fun tg_ kk_ => S30 tg_ (st1 tg_ kk_)
  have S32 : own_Go p e below T0 (mkF m 3 #[.val (.ref b), .val (.int i), .val (.ref d), .val (.int i), .val (.int N), .val (.int i), s6] []) T1 (mkF m 3 #[.val (.ref b), .val (.int (i + (1 : Int32))), .val (.ref d), .val (.int (i + (1 : Int32))), .val (.int N), .val (.int (i + (1 : Int32))), .val (.int c0)] []) := fun tg_ kk_ => S31 tg_ (by
    refine XS.iinc X1.here hx rfl (hb hby d16_32) rfl (l' := #[.val (.ref b), .val (.int (i + (1 : Int32))), .val (.ref d), .val (.int i), .val (.int N), .val (.int i), .val (.int c0)]) rfl ?_
    show Steps p.tables e below (T1.setTop (mkF m 35 #[.val (.ref b), .val (.int (i + (1 : Int32))), .val (.ref d), .val (.int i), .val (.int N), .val (.int i), .val (.int c0)] [])) _
    refine XS.iinc X1.here hx rfl (hb hby d16_35) rfl (l' := #[.val (.ref b), .val (.int (i + (1 : Int32))), .val (.ref d), .val (.int (i + (1 : Int32))), .val (.int N), .val (.int i), .val (.int c0)]) rfl ?_
    show Steps p.tables e below (T1.setTop (mkF m 38 #[.val (.ref b), .val (.int (i + (1 : Int32))), .val (.ref d), .val (.int (i + (1 : Int32))), .val (.int N), .val (.int i), .val (.int c0)] [])) _
    refine XS.iinc X1.here hx rfl (hb hby d16_38) rfl (l' := #[.val (.ref b), .val (.int (i + (1 : Int32))), .val (.ref d), .val (.int (i + (1 : Int32))), .val (.int N), .val (.int (i + (1 : Int32))), .val (.int c0)]) rfl ?_
    show Steps p.tables e below (T1.setTop (mkF m 41 #[.val (.ref b), .val (.int (i + (1 : Int32))), .val (.ref d), .val (.int (i + (1 : Int32))), .val (.int N), .val (.int (i + (1 : Int32))), .val (.int c0)] [])) _
    refine XS.goto X1.here hx rfl (pc0 := 41) (pc' := 3) rfl (hb hby d16_41) (by decide) (by decide) ?_
    exact kk_)
  exact ⟨T1, h1, X1, e1, W1, S32⟩
set_option maxRecDepth 65536 in
set_option maxHeartbeats 40000000 in
theorem own_c5mid {p : Program} {l : Launch} {e : Env} {R : Room} {s : State} {m : MethodId} {args : Array Value} {below : List Frame} {meth : Method} {c : Code} {locs : List Loc} {cells slots : Nat} {Z : State} {T0 : State} {h : Heap} (b d : Addr) (i N c0 : Int32) (s6 : Slot) (hs : One s6) (clb cld : Cell) (X0 : Stand p l e R s m args below meth c T0 locs cells slots) (hx : p.tables.exec = Jvm.exec) (hZ : Z.Warmed39 s.vm) (hby : c.code = jdk_52_method_21_code) (e0 : T0.heap = h) (Ab : Arr Z h b clb .char) (hc : i < N) (hinb : ¬ (i < 0 ∨ clb.slots.size ≤ i.toNatClampNeg)) (hatb : clb.slots[i.toNatClampNeg]? = some (.int c0)) (h255 : (255 : Int32) < c0) :
    own_Go p e below T0 (mkF m 3 #[.val (.ref b), .val (.int i), .val (.ref d), .val (.int i), .val (.int N), .val (.int i), s6] []) T0 (mkF m 25 #[.val (.ref b), .val (.int i), .val (.ref d), .val (.int i), .val (.int N), .val (.int i), .val (.int c0)] [(.int i)]) := by
  have S33 : own_Go p e below T0 (mkF m 3 #[.val (.ref b), .val (.int i), .val (.ref d), .val (.int i), .val (.int N), .val (.int i), s6] []) T0 (mkF m 25 #[.val (.ref b), .val (.int i), .val (.ref d), .val (.int i), .val (.int N), .val (.int i), .val (.int c0)] [(.int i)]) := fun tg_ kk_ => (own_Go.refl T0 _) tg_ (by
    refine XS.iload X0.here hx rfl (hb hby d16_3) rfl ?_
    show Steps p.tables e below (T0.setTop (mkF m 5 #[.val (.ref b), .val (.int i), .val (.ref d), .val (.int i), .val (.int N), .val (.int i), s6] [(.int i)])) _
    refine XS.iload X0.here hx rfl (hb hby d16_5) rfl ?_
    show Steps p.tables e below (T0.setTop (mkF m 7 #[.val (.ref b), .val (.int i), .val (.ref d), .val (.int i), .val (.int N), .val (.int i), s6] [(.int N), (.int i)])) _
    refine XS.icmpNo X0.here hx rfl (hb hby d16_7) rfl (tlt hc).2.1 ?_
    show Steps p.tables e below (T0.setTop (mkF m 10 #[.val (.ref b), .val (.int i), .val (.ref d), .val (.int i), .val (.int N), .val (.int i), s6] [])) _
    refine XS.aloadN X0.here hx rfl (hb hby d16_10) rfl rfl ?_
    show Steps p.tables e below (T0.setTop (mkF m 11 #[.val (.ref b), .val (.int i), .val (.ref d), .val (.int i), .val (.int N), .val (.int i), s6] [(.ref b)])) _
    refine XS.iloadN X0.here hx rfl (hb hby d16_11) rfl ?_
    show Steps p.tables e below (T0.setTop (mkF m 12 #[.val (.ref b), .val (.int i), .val (.ref d), .val (.int i), .val (.int N), .val (.int i), s6] [(.int i), (.ref b)])) _
    refine X0.caload hx (j := i) (v := (.int c0)) (cell := clb) (by rw [e0]; exact Ab.1) (State.isArrayOf_alike hZ.alike Ab.2.1) Ab.2.2 hinb hatb (g := (mkF m 12 #[.val (.ref b), .val (.int i), .val (.ref d), .val (.int i), .val (.int N), .val (.int i), s6] [(.int i), (.ref b)])) rfl rfl (hb hby d16_12) _ ?_
    show Steps p.tables e below (T0.setTop (mkF m 13 #[.val (.ref b), .val (.int i), .val (.ref d), .val (.int i), .val (.int N), .val (.int i), s6] [(.int c0)])) _
    refine XS.istore X0.here hx rfl (hb hby d16_13) rfl (l' := #[.val (.ref b), .val (.int i), .val (.ref d), .val (.int i), .val (.int N), .val (.int i), .val (.int c0)]) (XS.store1 rfl hs rfl) ?_
    show Steps p.tables e below (T0.setTop (mkF m 15 #[.val (.ref b), .val (.int i), .val (.ref d), .val (.int i), .val (.int N), .val (.int i), .val (.int c0)] [])) _
    refine XS.iload X0.here hx rfl (hb hby d16_15) rfl ?_
    show Steps p.tables e below (T0.setTop (mkF m 17 #[.val (.ref b), .val (.int i), .val (.ref d), .val (.int i), .val (.int N), .val (.int i), .val (.int c0)] [(.int c0)])) _
    refine XS.sipush X0.here hx rfl (hb hby d16_17) ?_
    show Steps p.tables e below (T0.setTop (mkF m 20 #[.val (.ref b), .val (.int i), .val (.ref d), .val (.int i), .val (.int N), .val (.int i), .val (.int c0)] [(.int (255 : Int32)), (.int c0)])) _
    refine XS.icmpNo X0.here hx rfl (hb hby d16_20) rfl (tlt h255).2.2.2 ?_
    show Steps p.tables e below (T0.setTop (mkF m 23 #[.val (.ref b), .val (.int i), .val (.ref d), .val (.int i), .val (.int N), .val (.int i), .val (.int c0)] [])) _
    refine XS.iload X0.here hx rfl (hb hby d16_23) rfl ?_
    exact kk_)
  exact S33
set_option maxRecDepth 65536 in
set_option maxHeartbeats 40000000 in
theorem own_c5end {p : Program} {l : Launch} {e : Env} {R : Room} {s : State} {m : MethodId} {args : Array Value} {below : List Frame} {meth : Method} {c : Code} {locs : List Loc} {cells slots : Nat} {T0 : State} (b d : Addr) (i N : Int32) (s6 : Slot) (X0 : Stand p l e R s m args below meth c T0 locs cells slots) (hx : p.tables.exec = Jvm.exec) (hby : c.code = jdk_52_method_21_code) (hc : ¬ i < N) :
    own_Go p e below T0 (mkF m 3 #[.val (.ref b), .val (.int i), .val (.ref d), .val (.int i), .val (.int N), .val (.int i), s6] []) T0 (mkF m 46 #[.val (.ref b), .val (.int i), .val (.ref d), .val (.int i), .val (.int N), .val (.int i), s6] [(.int N)]) := by
  have S34 : own_Go p e below T0 (mkF m 3 #[.val (.ref b), .val (.int i), .val (.ref d), .val (.int i), .val (.int N), .val (.int i), s6] []) T0 (mkF m 46 #[.val (.ref b), .val (.int i), .val (.ref d), .val (.int i), .val (.int N), .val (.int i), s6] [(.int N)]) := fun tg_ kk_ => (own_Go.refl T0 _) tg_ (by
    refine XS.iload X0.here hx rfl (hb hby d16_3) rfl ?_
    show Steps p.tables e below (T0.setTop (mkF m 5 #[.val (.ref b), .val (.int i), .val (.ref d), .val (.int i), .val (.int N), .val (.int i), s6] [(.int i)])) _
    refine XS.iload X0.here hx rfl (hb hby d16_5) rfl ?_
    show Steps p.tables e below (T0.setTop (mkF m 7 #[.val (.ref b), .val (.int i), .val (.ref d), .val (.int i), .val (.int N), .val (.int i), s6] [(.int N), (.int i)])) _
    refine XS.icmpYes X0.here hx rfl (pc0 := 7) (pc' := 44) rfl (hb hby d16_7) rfl (flt hc).2.1 (by decide) (by decide) ?_
    show Steps p.tables e below (T0.setTop (mkF m 44 #[.val (.ref b), .val (.int i), .val (.ref d), .val (.int i), .val (.int N), .val (.int i), s6] [])) _
    refine XS.iload X0.here hx rfl (hb hby d16_44) rfl ?_
    exact kk_)
  exact S34
/-- **compress's loop, whole**: it stops at the first char above 255, or behind the last -/
theorem own_c5 {p : Program} {l : Launch} {e : Env} {R : Room} {s : State} {m : MethodId} {args : Array Value} {below : List Frame} {meth : Method} {c : Code} {cells slots : Nat} {Z : State} {h0 : Heap} {n0 : Nat} (b d : Addr) (kb kd : ClassId) (cs : List Int32) (hn : cs.length ≤ 1000) (hbd : b ≠ d) (hd0 : n0 ≤ d) (hx : p.tables.exec = Jvm.exec) (hZ : Z.Warmed39 s.vm) (hby : c.code = jdk_52_method_21_code) :
    ∀ (k i : Nat) (T0 : State) (h : Heap) (locs : List Loc) (s6 : Slot), i + k = cs.length → One s6 → Stand p l e R s m args below meth c T0 locs cells slots → T0.heap = h → Fr n0 locs → Keep h0 h [d] →
      Arv Z h b kb .char (Int32.ofNat cs.length) (cs.map Value.int) (.int 0) → Arv Z h d kd .byte (Int32.ofNat cs.length) ((cs.take i).map own_vb) (.int 0) → (∀ j, j < i → ¬ (255 : Int32) < cs.getD j 0) →
      ∃ (j : Nat) (T' : State) (h' : Heap) (locs' : List Loc) (s6' : Slot) (pc : Nat), j ≤ cs.length ∧ (∀ q, q < j → ¬ (255 : Int32) < cs.getD q 0) ∧ (j < cs.length → (255 : Int32) < cs.getD j 0) ∧ (pc = 25 ∨ pc = 46) ∧
        Stand p l e R s m args below meth c T' locs' cells slots ∧ T'.heap = h' ∧ Fr n0 locs' ∧ Keep h0 h' [d] ∧ Arv Z h' d kd .byte (Int32.ofNat cs.length) ((cs.take j).map own_vb) (.int 0) ∧
        own_Go p e below T0 (mkF m 3 #[.val (.ref b), .val (.int (Int32.ofNat i)), .val (.ref d), .val (.int (Int32.ofNat i)), .val (.int (Int32.ofNat cs.length)), .val (.int (Int32.ofNat i)), s6] []) T' (mkF m pc #[.val (.ref b), .val (.int (Int32.ofNat j)), .val (.ref d), .val (.int (Int32.ofNat j)), .val (.int (Int32.ofNat cs.length)), .val (.int (Int32.ofNat j)), s6'] [(.int (Int32.ofNat j))]) := by
  intro k
  induction k with
  | zero =>
    intro i T0 h locs s6 hi hs X0 e0 N K Vb Vd hp
    have hi' : i = cs.length := by omega
    subst hi'
    exact ⟨cs.length, T0, h, locs, s6, 46, Nat.le_refl _, hp, fun q => absurd q (Nat.lt_irrefl _), Or.inr rfl, X0, e0, N, K, Vd, own_c5end b d _ _ s6 X0 hx hby Int32.lt_irrefl⟩
  | succ k ih =>
    intro i T0 h locs s6 hi hs X0 e0 N K Vb Vd hp
    have hil : i < cs.length := by omega
    obtain ⟨clb, Ab, -, Sb, -, Hb, -⟩ := id Vb
    obtain ⟨cld, Ad, -, Sd, -, -, -⟩ := id Vd
    have hat : clb.slots[(Int32.ofNat i).toNatClampNeg]? = some (.int (cs.getD i 0)) := Hb.at (own_in32 Sb hil (by omega)) (by rw [own_n32 (by omega)]; exact own_getI cs i hil _)
    by_cases h255 : (255 : Int32) < cs.getD i 0
    · exact ⟨i, T0, h, locs, _, 25, by omega, hp, fun _ => h255, Or.inl rfl, X0, e0, N, K, Vd, own_c5mid b d (Int32.ofNat i) (Int32.ofNat cs.length) (cs.getD i 0) s6 hs clb cld X0 hx hZ hby e0 Ab (own_lt32 hil (by omega)) (own_in32 Sb hil (by omega)) hat h255⟩
    · obtain ⟨T1, h1, X1, e1, W1, g1⟩ := own_c5turn b d (Int32.ofNat i) (Int32.ofNat cs.length) (cs.getD i 0) s6 hs clb cld X0 hx hZ hby e0 Ab Ad (own_lt32 hil (by omega)) (own_in32 Sb hil (by omega)) hat h255 (own_in32 Sd hil (by omega))
      have W2 : Wr h h1 d (Int32.ofNat i).toNatClampNeg (.int (own_lo (cs.getD i 0))) := by rw [← own_nar_lo]; exact W1
      have Vd1 := own_push Vd (own_fit_lo _) W2 (by rw [own_n32 (by omega)]; simp; omega)
      rw [own_takeB cs i hil] at Vd1
      rw [own_suc] at g1
      obtain ⟨j, T', h', locs', s6', pc, r1, r2, r3, r4, r5, r6, r7, r8, r9, g2⟩ := ih (i + 1) T1 h1 _ (.val (.int (cs.getD i 0))) (by omega) (One.val rfl) X1 e1 (Fr.snoc X1 N hd0) (K.wr W2 (Or.inl (List.mem_of_getElem? (i := 0) rfl))) (Vb.other W2 hbd) Vd1 (fun j hj => by
        by_cases q : j < i
        · exact hp j q
        · have : j = i := by omega
          subst this; exact h255)
      exact ⟨j, T', h', locs', s6', pc, r1, r2, r3, r4, r5, r6, r7, r8, r9, g1.trans g2⟩
def Q16 (Z : State) (b : Addr) (d : Addr) (kd : ClassId) (cs : List Int32) (h0 : Heap) (n0 : Nat) (v : Option Value) (h : Heap) (L : List Loc) : Prop := ∃ j, v = some (.int (Int32.ofNat j)) ∧ j ≤ cs.length ∧ (∀ q, q < j → ¬ (255 : Int32) < cs.getD q 0) ∧ (j < cs.length → (255 : Int32) < cs.getD j 0) ∧ Fr n0 L ∧ Keep h0 h [d] ∧ Arv Z h d kd .byte (Int32.ofNat cs.length) ((cs.take j).map own_vb) (.int 0)
set_option maxRecDepth 65536 in
set_option maxHeartbeats 40000000 in
theorem rm16 (l : Launch) (Z : State) (a0 : Array Value) (hw : ∀ d ∈ tables_1, d.before a0 Z = true) (ws : List Jvm.Cond) (b : Addr) (d : Addr) (kd : ClassId) (cs : List Int32) (h0 : Heap) (n0 : Nat) (Z0 : n0 ≤ h0.size) (kb : ClassId) (hn : cs.length ≤ 1000) (hbd : b ≠ d) (hd0 : n0 ≤ d) (Vb : Arv Z h0 b kb .char (Int32.ofNat cs.length) (cs.map Value.int) (.int 0)) (Vd : Arv Z h0 d kd .byte (Int32.ofNat cs.length) [] (.int 0)) :
    MetFree l (⟨"java/lang/StringUTF16", "compress", "([CI[BII)I"⟩ : MethodName) (head1 (Jvm.Cond.code (⟨"java/lang/StringUTF16", "compress", "([CI[BII)I"⟩ : MethodName) jdk_52_method_21_code 7 (some .int) :: ws) ({ frames := 0, cells := 0, slots := 0, locals := 0 } : Room)) (fun aa_ U => aa_ = #[(.ref b), (.int (0 : Int32)), (.ref d), (.int (0 : Int32)), (.int (Int32.ofNat cs.length))] ∧ Z.Warmed39 U.vm ∧ U.heap = h0) (fun _ _ _ _ _ => True) (fun _ U o U' => ∃ v L, o = .returned v ∧ Q16 Z b d kd cs h0 n0 v U'.heap L ∧ FrameEnd U o U' L ({ frames := 0, cells := 0, slots := 0, locals := 0 } : Room).cells ({ frames := 0, cells := 0, slots := 0, locals := 0 } : Room).slots) := by
  refine MetFree.of_bodySF (plainFor_of_name pn1) hisR ?_
  intro p e s m args below meth c s₁ Bd hml0 hP hK
  obtain ⟨rfl, hZ, hh⟩ := hP
  have hx := Bd.exec
  have hby := Bd.bytes
  have hml : c.maxLocals = 7 := hml0
  have hown : s.vm.findClass "java/lang/StringUTF16" = some m.cls := findClass_of_methodNamed Bd.named
  have hnm := (name_of_methodNamed Bd.named Bd.method).1
  have X0 : Stand p l e ({ frames := 0, cells := 0, slots := 0, locals := 0 } : Room) s m #[(.ref b), (.int (0 : Int32)), (.ref d), (.int (0 : Int32)), (.int (Int32.ofNat cs.length))] below meth c s₁ [] 0 0 := Stand.of_body Bd
  have e0 : s₁.heap = h0 := by rw [← hh, Bd.state]; rfl
  have N0 := Fr.nil n0
  obtain ⟨G, hG⟩ : ∃ G, G = entryFrame m #[(.ref b), (.int (0 : Int32)), (.ref d), (.int (0 : Int32)), (.int (Int32.ofNat cs.length))] 7 := ⟨_, rfl⟩
  have S0 : own_Go p e below s₁ G s₁ (mkF m 0 #[.val (.ref b), .val (.int (0 : Int32)), .val (.ref d), .val (.int (0 : Int32)), .val (.int (Int32.ofNat cs.length)), .unset, .unset] []) := fun tg_ kk_ => castTop (by rw [hG]; first | rfl | simp [entryFrame, mkF, argsToLocals, Value.category, maxLocals]) kk_
  have S35 : own_Go p e below s₁ G s₁ (mkF m 3 #[.val (.ref b), .val (.int (0 : Int32)), .val (.ref d), .val (.int (0 : Int32)), .val (.int (Int32.ofNat cs.length)), .val (.int (0 : Int32)), .unset] []) := fun tg_ kk_ => S0 tg_ (by
    refine XS.iconst X0.here hx rfl (hb hby d16_0) ?_
    show Steps p.tables e below (s₁.setTop (mkF m 1 #[.val (.ref b), .val (.int (0 : Int32)), .val (.ref d), .val (.int (0 : Int32)), .val (.int (Int32.ofNat cs.length)), .unset, .unset] [(.int (0 : Int32))])) _
    refine XS.istore X0.here hx rfl (hb hby d16_1) rfl (l' := #[.val (.ref b), .val (.int (0 : Int32)), .val (.ref d), .val (.int (0 : Int32)), .val (.int (Int32.ofNat cs.length)), .val (.int (0 : Int32)), .unset]) rfl ?_
    exact kk_)
  obtain ⟨j, T', h', locs', s6', pc, r1, r2, r3, r4, X1, e1, r7, r8, r9, g2⟩ := own_c5 (h0 := h0) b d kb kd cs hn hbd hd0 hx hZ hby cs.length 0 s₁ h0 [] .unset (by omega) One.u X0 e0 N0 (Keep.refl _ _) Vb Vd (fun j hj => absurd hj (Nat.not_lt_zero j))
  have SL := own_Go.trans S35 g2
  rcases r4 with rfl | rfl
  · have _ := r1
    obtain ⟨fs, hr, hrun, hended, hW, hsame⟩ := X1.leave (v := some (.int (Int32.ofNat j))) (fun h => by rw [Bd.returns] at h; cases h)
    refine ⟨_, _, ?_, hrun, hended, _, _, rfl, ?_, ⟨_, rfl⟩, hW, hsame.mono (by decide) (by decide)⟩
    · rw [← hG]; exact SL _ (retI X1 hx Bd.returns (hb hby d16_25) hr)
    · show Q16 Z b d kd cs h0 n0 _ T'.heap _
      rw [e1]
      exact ⟨j, rfl, r1, r2, r3, r7, r8, r9⟩
  · have _ := r1
    obtain ⟨fs, hr, hrun, hended, hW, hsame⟩ := X1.leave (v := some (.int (Int32.ofNat j))) (fun h => by rw [Bd.returns] at h; cases h)
    refine ⟨_, _, ?_, hrun, hended, _, _, rfl, ?_, ⟨_, rfl⟩, hW, hsame.mono (by decide) (by decide)⟩
    · rw [← hG]; exact SL _ (retI X1 hx Bd.returns (hb hby d16_46) hr)
    · show Q16 Z b d kd cs h0 n0 _ T'.heap _
      rw [e1]
      exact ⟨j, rfl, r1, r2, r3, r7, r8, r9⟩
set_option maxRecDepth 65536 in
set_option maxHeartbeats 40000000 in
theorem own_tbturn {p : Program} {l : Launch} {e : Env} {s : State} {m : MethodId} {args : Array Value} {below : List Frame} {meth : Method} {c : Code} {locs : List Loc} {Z : State} {a0 : Array Value} {h0 : Heap} {n0 : Nat} {T0 : State} {h : Heap} (b d : Addr) (kb kd : ClassId) (cs : List Int32) (i : Nat) (hil : i < cs.length) (hn : cs.length ≤ 3) (hbd : b ≠ d) (hd0 : n0 ≤ d) (X0 : Stand p l e ({ frames := 2, cells := 1, slots := 6, locals := 40 } : Room) s m args below meth c T0 locs 1 6) (hx : p.tables.exec = Jvm.exec) (hZ : Z.Warmed39 s.vm) (hw : ∀ q ∈ tables_1, q.before a0 Z = true) (hby : c.code = jdk_52_method_14_code) (hml : c.maxLocals = 5) (hown : s.vm.findClass "java/lang/StringUTF16" = some m.cls) (e0 : T0.heap = h) (Z0 : n0 ≤ h.size) (A16 : own_A16 Z) (O : Old Z n0 h) (N : Fr n0 locs) (Vb : Arv Z h b kb .char (Int32.ofNat cs.length) (cs.map Value.int) (.int 0)) (Vd : Arv Z h d kd .byte (Int32.ofNat (2 * cs.length)) (own_wide (cs.take i)) (.int 0)) :
    ∃ T' h' L, Stand p l e ({ frames := 2, cells := 1, slots := 6, locals := 40 } : Room) s m args below meth c T' (locs ++ L) 1 6 ∧ T'.heap = h' ∧ Fr n0 (locs ++ L) ∧ Keep h h' [d] ∧ Arv Z h' d kd .byte (Int32.ofNat (2 * cs.length)) (own_wide (cs.take (i + 1))) (.int 0) ∧ own_Go p e below T0 (mkF m 8 #[.val (.ref b), .val (.int (Int32.ofNat i)), .val (.int (Int32.ofNat cs.length)), .val (.ref d), .val (.int (Int32.ofNat i))] []) T' (mkF m 8 #[.val (.ref b), .val (.int (Int32.ofNat (i + 1))), .val (.int (Int32.ofNat cs.length)), .val (.ref d), .val (.int (Int32.ofNat (i + 1)))] []) := by
  obtain ⟨clb, Ab, -, Sb, -, Hb, -⟩ := id Vb
  have hat : clb.slots[(Int32.ofNat i).toNatClampNeg]? = some (.int (cs.getD i 0)) := Hb.at (own_in32 Sb hil (by omega)) (by rw [own_n32 (by omega)]; exact own_getI cs i hil _)
  have S36 : own_Go p e below T0 (mkF m 8 #[.val (.ref b), .val (.int (Int32.ofNat i)), .val (.int (Int32.ofNat cs.length)), .val (.ref d), .val (.int (Int32.ofNat i))] []) T0 (mkF m 20 #[.val (.ref b), .val (.int (Int32.ofNat i)), .val (.int (Int32.ofNat cs.length)), .val (.ref d), .val (.int (Int32.ofNat i))] [(.int (cs.getD i 0)), (.int (Int32.ofNat i)), (.ref d)]) := fun tg_ kk_ => (own_Go.refl T0 _) tg_ (by
    refine XS.iload X0.here hx rfl (hb hby d20_8) rfl ?_
    show Steps p.tables e below (T0.setTop (mkF m 10 #[.val (.ref b), .val (.int (Int32.ofNat i)), .val (.int (Int32.ofNat cs.length)), .val (.ref d), .val (.int (Int32.ofNat i))] [(.int (Int32.ofNat i))])) _
    refine XS.iloadN X0.here hx rfl (hb hby d20_10) rfl ?_
    show Steps p.tables e below (T0.setTop (mkF m 11 #[.val (.ref b), .val (.int (Int32.ofNat i)), .val (.int (Int32.ofNat cs.length)), .val (.ref d), .val (.int (Int32.ofNat i))] [(.int (Int32.ofNat cs.length)), (.int (Int32.ofNat i))])) _
    refine XS.icmpNo X0.here hx rfl (hb hby d20_11) rfl (tlt (own_lt32 hil (by omega))).2.1 ?_
    show Steps p.tables e below (T0.setTop (mkF m 14 #[.val (.ref b), .val (.int (Int32.ofNat i)), .val (.int (Int32.ofNat cs.length)), .val (.ref d), .val (.int (Int32.ofNat i))] [])) _
    refine XS.aloadN X0.here hx rfl (hb hby d20_14) rfl rfl ?_
    show Steps p.tables e below (T0.setTop (mkF m 15 #[.val (.ref b), .val (.int (Int32.ofNat i)), .val (.int (Int32.ofNat cs.length)), .val (.ref d), .val (.int (Int32.ofNat i))] [(.ref d)])) _
    refine XS.iload X0.here hx rfl (hb hby d20_15) rfl ?_
    show Steps p.tables e below (T0.setTop (mkF m 17 #[.val (.ref b), .val (.int (Int32.ofNat i)), .val (.int (Int32.ofNat cs.length)), .val (.ref d), .val (.int (Int32.ofNat i))] [(.int (Int32.ofNat i)), (.ref d)])) _
    refine XS.aloadN X0.here hx rfl (hb hby d20_17) rfl rfl ?_
    show Steps p.tables e below (T0.setTop (mkF m 18 #[.val (.ref b), .val (.int (Int32.ofNat i)), .val (.int (Int32.ofNat cs.length)), .val (.ref d), .val (.int (Int32.ofNat i))] [(.ref b), (.int (Int32.ofNat i)), (.ref d)])) _
    refine XS.iloadN X0.here hx rfl (hb hby d20_18) rfl ?_
    show Steps p.tables e below (T0.setTop (mkF m 19 #[.val (.ref b), .val (.int (Int32.ofNat i)), .val (.int (Int32.ofNat cs.length)), .val (.ref d), .val (.int (Int32.ofNat i))] [(.int (Int32.ofNat i)), (.ref b), (.int (Int32.ofNat i)), (.ref d)])) _
    refine X0.caload hx (j := (Int32.ofNat i)) (v := (.int (cs.getD i 0))) (cell := clb) (by rw [e0]; exact Ab.1) (State.isArrayOf_alike hZ.alike Ab.2.1) Ab.2.2 (own_in32 Sb hil (by omega)) hat (g := (mkF m 19 #[.val (.ref b), .val (.int (Int32.ofNat i)), .val (.int (Int32.ofNat cs.length)), .val (.ref d), .val (.int (Int32.ofNat i))] [(.int (Int32.ofNat i)), (.ref b), (.int (Int32.ofNat i)), (.ref d)])) rfl rfl (hb hby d20_19) _ ?_
    exact kk_)
  obtain ⟨_, T37, h37, L37, X37, e37, hQ37, st37⟩ := own_callS X0 hx hZ (y := (⟨"java/lang/StringUTF16", "putChar", "([BII)V"⟩ : MethodName)) hown (hw _ (List.mem_of_getElem? (i := 96) rfl)) (hw _ (List.mem_of_getElem? (i := 97) rfl)) (hw _ (List.mem_of_getElem? (i := 72) rfl)) (hw _ (List.mem_of_getElem? (i := 98) rfl)) (by decide) 0 (g := (mkF m 20 #[.val (.ref b), .val (.int (Int32.ofNat i)), .val (.int (Int32.ofNat cs.length)), .val (.ref d), .val (.int (Int32.ofNat i))] [(.int (cs.getD i 0)), (.int (Int32.ofNat i)), (.ref d)])) rfl (by rw [hml]; rfl) [(.ref d), (.int (Int32.ofNat i)), (.int (cs.getD i 0))] [] (rm23 l Z a0 hw [] d i (cs.getD i 0) kd (2 * cs.length) (own_wide (cs.take i)) h n0 Z0 Vd (by rw [own_wide_len, List.length_take]; omega) (by omega) (by omega) hd0 O A16) (lenOf pd19 rfl) rfl (by show 2 * 0 + _ ≤ _; exact Nat.le_of_eq rfl) (hb hby d20_20) (by decide) (by decide) e0 (by decide) (by decide)
  obtain ⟨rfl, N37, K37, V37⟩ := hQ37
  have S38 : own_Go p e below T0 (mkF m 8 #[.val (.ref b), .val (.int (Int32.ofNat i)), .val (.int (Int32.ofNat cs.length)), .val (.ref d), .val (.int (Int32.ofNat i))] []) T37 (mkF m 23 #[.val (.ref b), .val (.int (Int32.ofNat i)), .val (.int (Int32.ofNat cs.length)), .val (.ref d), .val (.int (Int32.ofNat i))] []) := fun tg_ kk_ => S36 tg_ (st37 tg_ kk_)
  rw [own_takeW cs i hil] at V37
  have S39 : own_Go p e below T0 (mkF m 8 #[.val (.ref b), .val (.int (Int32.ofNat i)), .val (.int (Int32.ofNat cs.length)), .val (.ref d), .val (.int (Int32.ofNat i))] []) T37 (mkF m 8 #[.val (.ref b), .val (.int ((Int32.ofNat i) + (1 : Int32))), .val (.int (Int32.ofNat cs.length)), .val (.ref d), .val (.int ((Int32.ofNat i) + (1 : Int32)))] []) := fun tg_ kk_ => S38 tg_ (by
    refine XS.iinc X37.here hx rfl (hb hby d20_23) rfl (l' := #[.val (.ref b), .val (.int ((Int32.ofNat i) + (1 : Int32))), .val (.int (Int32.ofNat cs.length)), .val (.ref d), .val (.int (Int32.ofNat i))]) rfl ?_
    show Steps p.tables e below (T37.setTop (mkF m 26 #[.val (.ref b), .val (.int ((Int32.ofNat i) + (1 : Int32))), .val (.int (Int32.ofNat cs.length)), .val (.ref d), .val (.int (Int32.ofNat i))] [])) _
    refine XS.iinc X37.here hx rfl (hb hby d20_26) rfl (l' := #[.val (.ref b), .val (.int ((Int32.ofNat i) + (1 : Int32))), .val (.int (Int32.ofNat cs.length)), .val (.ref d), .val (.int ((Int32.ofNat i) + (1 : Int32)))]) rfl ?_
    show Steps p.tables e below (T37.setTop (mkF m 29 #[.val (.ref b), .val (.int ((Int32.ofNat i) + (1 : Int32))), .val (.int (Int32.ofNat cs.length)), .val (.ref d), .val (.int ((Int32.ofNat i) + (1 : Int32)))] [])) _
    refine XS.goto X37.here hx rfl (pc0 := 29) (pc' := 8) rfl (hb hby d20_29) (by decide) (by decide) ?_
    exact kk_)
  rw [own_suc] at S39
  exact ⟨T37, h37, L37, X37, e37, Fr.app N N37, K37, V37, S39⟩
set_option maxRecDepth 65536 in
set_option maxHeartbeats 40000000 in
theorem own_tbend {p : Program} {l : Launch} {e : Env} {R : Room} {s : State} {m : MethodId} {args : Array Value} {below : List Frame} {meth : Method} {c : Code} {locs : List Loc} {cells slots : Nat} {T0 : State} (b d : Addr) (i N : Int32) (X0 : Stand p l e R s m args below meth c T0 locs cells slots) (hx : p.tables.exec = Jvm.exec) (hby : c.code = jdk_52_method_14_code) (hc : ¬ i < N) :
    own_Go p e below T0 (mkF m 8 #[.val (.ref b), .val (.int i), .val (.int N), .val (.ref d), .val (.int i)] []) T0 (mkF m 33 #[.val (.ref b), .val (.int i), .val (.int N), .val (.ref d), .val (.int i)] [(.ref d)]) := by
  have S40 : own_Go p e below T0 (mkF m 8 #[.val (.ref b), .val (.int i), .val (.int N), .val (.ref d), .val (.int i)] []) T0 (mkF m 33 #[.val (.ref b), .val (.int i), .val (.int N), .val (.ref d), .val (.int i)] [(.ref d)]) := fun tg_ kk_ => (own_Go.refl T0 _) tg_ (by
    refine XS.iload X0.here hx rfl (hb hby d20_8) rfl ?_
    show Steps p.tables e below (T0.setTop (mkF m 10 #[.val (.ref b), .val (.int i), .val (.int N), .val (.ref d), .val (.int i)] [(.int i)])) _
    refine XS.iloadN X0.here hx rfl (hb hby d20_10) rfl ?_
    show Steps p.tables e below (T0.setTop (mkF m 11 #[.val (.ref b), .val (.int i), .val (.int N), .val (.ref d), .val (.int i)] [(.int N), (.int i)])) _
    refine XS.icmpYes X0.here hx rfl (pc0 := 11) (pc' := 32) rfl (hb hby d20_11) rfl (flt hc).2.1 (by decide) (by decide) ?_
    show Steps p.tables e below (T0.setTop (mkF m 32 #[.val (.ref b), .val (.int i), .val (.int N), .val (.ref d), .val (.int i)] [])) _
    refine XS.aloadN X0.here hx rfl (hb hby d20_32) rfl rfl ?_
    exact kk_)
  exact S40
theorem own_tb {p : Program} {l : Launch} {e : Env} {s : State} {m : MethodId} {args : Array Value} {below : List Frame} {meth : Method} {c : Code} {Z : State} {a0 : Array Value} {h0 : Heap} {n0 : Nat} (b d : Addr) (kb kd : ClassId) (cs : List Int32) (hn : cs.length ≤ 3) (hbd : b ≠ d) (hd0 : n0 ≤ d) (hx : p.tables.exec = Jvm.exec) (hZ : Z.Warmed39 s.vm) (hw : ∀ q ∈ tables_1, q.before a0 Z = true) (hby : c.code = jdk_52_method_14_code) (hml : c.maxLocals = 5) (hown : s.vm.findClass "java/lang/StringUTF16" = some m.cls) (A16 : own_A16 Z) :
    ∀ (k i : Nat) (T0 : State) (h : Heap) (locs : List Loc), i + k = cs.length → Stand p l e ({ frames := 2, cells := 1, slots := 6, locals := 40 } : Room) s m args below meth c T0 locs 1 6 → T0.heap = h → n0 ≤ h.size → Old Z n0 h → Fr n0 locs → Keep h0 h [d] →
      Arv Z h b kb .char (Int32.ofNat cs.length) (cs.map Value.int) (.int 0) → Arv Z h d kd .byte (Int32.ofNat (2 * cs.length)) (own_wide (cs.take i)) (.int 0) →
      ∃ (T' : State) (h' : Heap) (locs' : List Loc), Stand p l e ({ frames := 2, cells := 1, slots := 6, locals := 40 } : Room) s m args below meth c T' locs' 1 6 ∧ T'.heap = h' ∧ Fr n0 locs' ∧ Keep h0 h' [d] ∧ Arv Z h' d kd .byte (Int32.ofNat (2 * cs.length)) (own_wide cs) (.int 0) ∧
        own_Go p e below T0 (mkF m 8 #[.val (.ref b), .val (.int (Int32.ofNat i)), .val (.int (Int32.ofNat cs.length)), .val (.ref d), .val (.int (Int32.ofNat i))] []) T' (mkF m 33 #[.val (.ref b), .val (.int (Int32.ofNat cs.length)), .val (.int (Int32.ofNat cs.length)), .val (.ref d), .val (.int (Int32.ofNat cs.length))] [(.ref d)]) := by
  intro k
  induction k with
  | zero =>
    intro i T0 h locs hi X0 e0 Z0 O N K Vb Vd
    have hi' : i = cs.length := by omega
    subst hi'
    rw [List.take_length] at Vd
    exact ⟨T0, h, locs, X0, e0, N, K, Vd, own_tbend b d _ _ X0 hx hby Int32.lt_irrefl⟩
  | succ k ih =>
    intro i T0 h locs hi X0 e0 Z0 O N K Vb Vd
    obtain ⟨T1, h1, L1, X1, e1, N1, K1, V1, g1⟩ := own_tbturn (h0 := h0) b d kb kd cs i (by omega) hn hbd hd0 X0 hx hZ hw hby hml hown e0 Z0 A16 O N Vb Vd
    obtain ⟨T', h', locs', r1, r2, r3, r4, r5, g2⟩ := ih (i + 1) T1 h1 _ (by omega) X1 e1 (Nat.le_trans Z0 K1.1) (O.keep K1 (allS hd0 all0)) N1 (K.trans K1 (fun x hx => Or.inl hx)) (Vb.keep K1 (ninS hbd nin0)) V1
    exact ⟨T', h', locs', r1, r2, r3, r4, r5, g1.trans g2⟩
def Q20 (Z : State) (b : Addr) (cs : List Int32) (h0 : Heap) (n0 : Nat) (v : Option Value) (h : Heap) (L : List Loc) : Prop := v = some (.ref h0.size) ∧ Fr n0 L ∧ Ext h0 h ∧ ∃ k, Arv Z h h0.size k .byte (Int32.ofNat (2 * cs.length)) (own_wide cs) (.int 0)
set_option maxRecDepth 65536 in
set_option maxHeartbeats 40000000 in
theorem rm20 (l : Launch) (Z : State) (a0 : Array Value) (hw : ∀ d ∈ tables_1, d.before a0 Z = true) (ws : List Jvm.Cond) (b : Addr) (cs : List Int32) (h0 : Heap) (n0 : Nat) (Z0 : n0 ≤ h0.size) (kb : ClassId) (hn : cs.length ≤ 3) (Vb : Arv Z h0 b kb .char (Int32.ofNat cs.length) (cs.map Value.int) (.int 0)) (O : Old Z n0 h0) (A16 : own_A16 Z) :
    MetFree l (⟨"java/lang/StringUTF16", "toBytes", "([CII)[B"⟩ : MethodName) (head1 (Jvm.Cond.code (⟨"java/lang/StringUTF16", "toBytes", "([CII)[B"⟩ : MethodName) jdk_52_method_14_code 5 (some (.array .byte)) :: ws) ({ frames := 2, cells := 1, slots := 6, locals := 40 } : Room)) (fun aa_ U => aa_ = #[(.ref b), (.int (0 : Int32)), (.int (Int32.ofNat cs.length))] ∧ Z.Warmed39 U.vm ∧ U.heap = h0) (fun _ _ _ _ _ => True) (fun _ U o U' => ∃ v L, o = .returned v ∧ Q20 Z b cs h0 n0 v U'.heap L ∧ FrameEnd U o U' L ({ frames := 2, cells := 1, slots := 6, locals := 40 } : Room).cells ({ frames := 2, cells := 1, slots := 6, locals := 40 } : Room).slots) := by
  refine MetFree.of_bodySF (plainFor_of_name pn1) hisR ?_
  intro p e s m args below meth c s₁ Bd hml0 hP hK
  obtain ⟨rfl, hZ, hh⟩ := hP
  have hx := Bd.exec
  have hby := Bd.bytes
  have hml : c.maxLocals = 5 := hml0
  have hown : s.vm.findClass "java/lang/StringUTF16" = some m.cls := findClass_of_methodNamed Bd.named
  have hnm := (name_of_methodNamed Bd.named Bd.method).1
  have X0 : Stand p l e ({ frames := 2, cells := 1, slots := 6, locals := 40 } : Room) s m #[(.ref b), (.int (0 : Int32)), (.int (Int32.ofNat cs.length))] below meth c s₁ [] 0 0 := Stand.of_body Bd
  have e0 : s₁.heap = h0 := by rw [← hh, Bd.state]; rfl
  have N0 := Fr.nil n0
  obtain ⟨G, hG⟩ : ∃ G, G = entryFrame m #[(.ref b), (.int (0 : Int32)), (.int (Int32.ofNat cs.length))] 5 := ⟨_, rfl⟩
  have S0 : own_Go p e below s₁ G s₁ (mkF m 0 #[.val (.ref b), .val (.int (0 : Int32)), .val (.int (Int32.ofNat cs.length)), .unset, .unset] []) := fun tg_ kk_ => castTop (by rw [hG]; first | rfl | simp [entryFrame, mkF, argsToLocals, Value.category, maxLocals]) kk_
  have S41 : own_Go p e below s₁ G s₁ (mkF m 1 #[.val (.ref b), .val (.int (0 : Int32)), .val (.int (Int32.ofNat cs.length)), .unset, .unset] [(.int (Int32.ofNat cs.length))]) := fun tg_ kk_ => S0 tg_ (by
    refine XS.iloadN X0.here hx rfl (hb hby d20_0) rfl ?_
    exact kk_)
  obtain ⟨_, T42, h42, L42, X42, e42, hQ42, st42⟩ := own_callS X0 hx hZ (y := (⟨"java/lang/StringUTF16", "newBytesFor", "(I)[B"⟩ : MethodName)) hown (hw _ (List.mem_of_getElem? (i := 89) rfl)) (hw _ (List.mem_of_getElem? (i := 90) rfl)) (hw _ (List.mem_of_getElem? (i := 72) rfl)) (hw _ (List.mem_of_getElem? (i := 91) rfl)) (by decide) 0 (g := (mkF m 1 #[.val (.ref b), .val (.int (0 : Int32)), .val (.int (Int32.ofNat cs.length)), .unset, .unset] [(.int (Int32.ofNat cs.length))])) rfl (by rw [hml]; rfl) [(.int (Int32.ofNat cs.length))] [] (rm21 l Z a0 hw [] cs.length h0 n0 Z0 hn) (lenOf pd18 rfl) rfl (by show 2 * 0 + _ ≤ _; exact Nat.le_of_eq rfl) (hb hby d20_1) (by decide) (by decide) e0 (by decide) (by decide)
  obtain ⟨rfl, N42, E42, k42, V42⟩ := hQ42
  have S43 : own_Go p e below s₁ G T42 (mkF m 4 #[.val (.ref b), .val (.int (0 : Int32)), .val (.int (Int32.ofNat cs.length)), .unset, .unset] [(.ref h0.size)]) := fun tg_ kk_ => S41 tg_ (st42 tg_ kk_)
  have M1 := Fr.app N0 N42
  obtain ⟨d, gd⟩ : ∃ z, z = h0.size := ⟨_, rfl⟩
  rw [← gd] at S43
  rw [← gd] at V42
  have hbd : b ≠ d := Nat.ne_of_lt (Nat.lt_of_lt_of_le Vb.lt (Nat.le_of_eq gd.symm))
  have hd0 : n0 ≤ d := Nat.le_trans Z0 (Nat.le_of_eq gd.symm)
  have S44 : own_Go p e below s₁ G T42 (mkF m 8 #[.val (.ref b), .val (.int (0 : Int32)), .val (.int (Int32.ofNat cs.length)), .val (.ref d), .val (.int (0 : Int32))] []) := fun tg_ kk_ => S43 tg_ (by
    refine XS.astoreN X42.here hx rfl (hb hby d20_4) rfl rfl (l' := #[.val (.ref b), .val (.int (0 : Int32)), .val (.int (Int32.ofNat cs.length)), .val (.ref d), .unset]) rfl ?_
    show Steps p.tables e below (T42.setTop (mkF m 5 #[.val (.ref b), .val (.int (0 : Int32)), .val (.int (Int32.ofNat cs.length)), .val (.ref d), .unset] [])) _
    refine XS.iconst X42.here hx rfl (hb hby d20_5) ?_
    show Steps p.tables e below (T42.setTop (mkF m 6 #[.val (.ref b), .val (.int (0 : Int32)), .val (.int (Int32.ofNat cs.length)), .val (.ref d), .unset] [(.int (0 : Int32))])) _
    refine XS.istore X42.here hx rfl (hb hby d20_6) rfl (l' := #[.val (.ref b), .val (.int (0 : Int32)), .val (.int (Int32.ofNat cs.length)), .val (.ref d), .val (.int (0 : Int32))]) rfl ?_
    exact kk_)
  obtain ⟨T', h', locs', r1, r2, r3, r4, r5, g2⟩ := own_tb (h0 := h42) b d kb k42 cs hn hbd hd0 hx hZ hw hby hml hown A16 cs.length 0 T42 h42 _ (by omega) X42 e42 (own_sub Z0 E42) (O.ext E42) M1 (Keep.refl _ _) (Vb.ext E42) V42
  have SL := own_Go.trans S44 g2
  have E2 : Ext h0 h' := ⟨Nat.le_trans E42.1 r4.1, fun a c q => r4.2.1 a c (E42.2 a c q) (ninS (Nat.ne_of_lt (Nat.lt_of_lt_of_le (Array.getElem?_eq_some_iff.mp q).1 (Nat.le_of_eq gd.symm))) nin0)⟩
  subst gd
  obtain ⟨fs, hr, hrun, hended, hW, hsame⟩ := r1.leave (v := some (.ref h0.size)) (fun h => by rw [Bd.returns] at h; cases h)
  refine ⟨_, _, ?_, hrun, hended, _, _, rfl, ?_, ⟨_, rfl⟩, hW, hsame.mono (by decide) (by decide)⟩
  · rw [← hG]; exact SL _ (retOut r1 hx Bd.returns (by first | rfl | cases (.ref h0.size) <;> rfl) (Or.inr (Or.inr (Or.inr (Or.inr ⟨rfl, rfl, rfl⟩)))) (hb hby d20_33) hr)
  · show Q20 Z b cs h0 n0 _ T'.heap _
    rw [r2]
    exact ⟨rfl, r3, E2, _, r5⟩
theorem own_coder {n M : Nat} {cd : Int32} (hn : 1 ≤ n ∧ n ≤ 1000) (hcd : (cd = 0 ∧ M = n) ∨ (cd = 1 ∧ M = 2 * n)) : ((XT.ushr ((Int32.ofNat n) - (Int32.ofNat M)) (31 : Int32)).toInt8.toInt32) = cd := by
  rcases hcd with ⟨rfl, rfl⟩ | ⟨rfl, rfl⟩
  · rw [Int32.sub_self]; decide
  · have h1 := c_isub (Int32.ofNat n) (Int32.ofNat (2 * n))
    have r1 := rng32 (Int32.ofNat n - Int32.ofNat (2 * n))
    rw [Int32.toInt_ofNat_of_lt (by omega), Int32.toInt_ofNat_of_lt (by omega)] at h1
    have h2 := c_iushr (Int32.ofNat n - Int32.ofNat (2 * n)) 31 31 (by decide) (by decide)
    have h3 := c_i2b (XT.ushr (Int32.ofNat n - Int32.ofNat (2 * n)) 31)
    have e : (XT.ushr (Int32.ofNat n - Int32.ofNat (2 * n)) 31).toInt = ((Int32.ofNat n - Int32.ofNat (2 * n)).toUInt32 >>> ((31 : Int32) &&& 31).toUInt32).toInt32.toInt := rfl
    refine Int32.toInt_inj.mp ?_
    have e1 : (1 : Int32).toInt = 1 := rfl
    omega
def Q17 (Z : State) (t : Addr) (n : Nat) (cd : Int32) (h0 : Heap) (n0 : Nat) (v : Option Value) (h : Heap) (L : List Loc) : Prop := v = some (.int cd) ∧ Fr n0 L ∧ h0 = h
set_option maxRecDepth 65536 in
set_option maxHeartbeats 40000000 in
theorem rm17 (l : Launch) (Z : State) (a0 : Array Value) (hw : ∀ d ∈ tables_1, d.before a0 Z = true) (ws : List Jvm.Cond) (t : Addr) (n : Nat) (cd : Int32) (h0 : Heap) (n0 : Nat) (Z0 : n0 ≤ h0.size) (kt : ClassId) (M : Nat) (vs : List Value) (V : Arv Z h0 t kt .byte (Int32.ofNat M) vs (.int 0)) (hM : M ≤ 2000) (hn : 1 ≤ n ∧ n ≤ 1000) (hcd : (cd = 0 ∧ M = n) ∨ (cd = 1 ∧ M = 2 * n)) :
    MetFree l (⟨"java/lang/StringUTF16", "coderFromArrayLen", "([BI)B"⟩ : MethodName) (head1 (Jvm.Cond.code (⟨"java/lang/StringUTF16", "coderFromArrayLen", "([BI)B"⟩ : MethodName) jdk_52_method_15_code 2 (some .byte) :: ws) ({ frames := 0, cells := 0, slots := 0, locals := 0 } : Room)) (fun aa_ U => aa_ = #[(.ref t), (.int (Int32.ofNat n))] ∧ Z.Warmed39 U.vm ∧ U.heap = h0) (fun _ _ _ _ _ => True) (fun _ U o U' => ∃ v L, o = .returned v ∧ Q17 Z t n cd h0 n0 v U'.heap L ∧ FrameEnd U o U' L ({ frames := 0, cells := 0, slots := 0, locals := 0 } : Room).cells ({ frames := 0, cells := 0, slots := 0, locals := 0 } : Room).slots) := by
  refine MetFree.of_bodySF (plainFor_of_name pn1) hisR ?_
  intro p e s m args below meth c s₁ Bd hml0 hP hK
  obtain ⟨rfl, hZ, hh⟩ := hP
  have hx := Bd.exec
  have hby := Bd.bytes
  have hml : c.maxLocals = 2 := hml0
  have hown : s.vm.findClass "java/lang/StringUTF16" = some m.cls := findClass_of_methodNamed Bd.named
  have hnm := (name_of_methodNamed Bd.named Bd.method).1
  have X0 : Stand p l e ({ frames := 0, cells := 0, slots := 0, locals := 0 } : Room) s m #[(.ref t), (.int (Int32.ofNat n))] below meth c s₁ [] 0 0 := Stand.of_body Bd
  have e0 : s₁.heap = h0 := by rw [← hh, Bd.state]; rfl
  have N0 := Fr.nil n0
  obtain ⟨G, hG⟩ : ∃ G, G = entryFrame m #[(.ref t), (.int (Int32.ofNat n))] 2 := ⟨_, rfl⟩
  have S0 : own_Go p e below s₁ G s₁ (mkF m 0 #[.val (.ref t), .val (.int (Int32.ofNat n))] []) := fun tg_ kk_ => castTop (by rw [hG]; first | rfl | simp [entryFrame, mkF, argsToLocals, Value.category, maxLocals]) kk_
  obtain ⟨cl, Ar, -, Sz, Mn, H, -⟩ := V
  have S45 : own_Go p e below s₁ G s₁ (mkF m 8 #[.val (.ref t), .val (.int (Int32.ofNat n))] [(.int ((XT.ushr ((Int32.ofNat n) - (Int32.ofNat M)) (31 : Int32)).toInt8.toInt32))]) := fun tg_ kk_ => S0 tg_ (by
    refine XS.iloadN X0.here hx rfl (hb hby d17_0) rfl ?_
    show Steps p.tables e below (s₁.setTop (mkF m 1 #[.val (.ref t), .val (.int (Int32.ofNat n))] [(.int (Int32.ofNat n))])) _
    refine XS.aloadN X0.here hx rfl (hb hby d17_1) rfl rfl ?_
    show Steps p.tables e below (s₁.setTop (mkF m 2 #[.val (.ref t), .val (.int (Int32.ofNat n))] [(.ref t), (.int (Int32.ofNat n))])) _
    refine X0.arraylength hx (cell := cl) (by rw [e0]; exact Ar.1) (State.isArrayOf_alike hZ.alike Ar.2.1) (g := (mkF m 2 #[.val (.ref t), .val (.int (Int32.ofNat n))] [(.ref t), (.int (Int32.ofNat n))])) rfl (rest := [(.int (Int32.ofNat n))]) rfl (hb hby d17_2) _ ?_
    rw [len_of Sz Mn]
    show Steps p.tables e below (s₁.setTop (mkF m 3 #[.val (.ref t), .val (.int (Int32.ofNat n))] [(.int (Int32.ofNat M)), (.int (Int32.ofNat n))])) _
    refine XS.isub X0.here hx rfl (hb hby d17_3) rfl ?_
    show Steps p.tables e below (s₁.setTop (mkF m 4 #[.val (.ref t), .val (.int (Int32.ofNat n))] [(.int ((Int32.ofNat n) - (Int32.ofNat M)))])) _
    refine XS.bipush X0.here hx rfl (hb hby d17_4) ?_
    show Steps p.tables e below (s₁.setTop (mkF m 6 #[.val (.ref t), .val (.int (Int32.ofNat n))] [(.int (31 : Int32)), (.int ((Int32.ofNat n) - (Int32.ofNat M)))])) _
    refine XT.iushr X0.here hx rfl (hb hby d17_6) rfl ?_
    show Steps p.tables e below (s₁.setTop (mkF m 7 #[.val (.ref t), .val (.int (Int32.ofNat n))] [(.int (XT.ushr ((Int32.ofNat n) - (Int32.ofNat M)) (31 : Int32)))])) _
    refine XT.i2b X0.here hx rfl (hb hby d17_7) rfl ?_
    exact kk_)
  have hq : ((XT.ushr ((Int32.ofNat n) - (Int32.ofNat M)) (31 : Int32)).toInt8.toInt32) = cd := own_coder hn hcd
  rw [hq] at S45
  rcases hcd with ⟨rfl, -⟩ | ⟨rfl, -⟩
  · have _ := N0
    obtain ⟨fs, hr, hrun, hended, hW, hsame⟩ := X0.leave (v := some (.int (0 : Int32))) (fun h => by rw [Bd.returns] at h; cases h)
    refine ⟨_, _, ?_, hrun, hended, _, _, rfl, ?_, ⟨_, rfl⟩, hW, hsame.mono (by decide) (by decide)⟩
    · rw [← hG]; exact S45 _ (retN X0 hx (t := .byte) Bd.returns (by simp) (hb hby d17_8) hr)
    · show Q17 Z t n (0 : Int32) h0 n0 _ s₁.heap _
      rw [e0]
      exact ⟨rfl, N0, rfl⟩
  · have _ := N0
    obtain ⟨fs, hr, hrun, hended, hW, hsame⟩ := X0.leave (v := some (.int (1 : Int32))) (fun h => by rw [Bd.returns] at h; cases h)
    refine ⟨_, _, ?_, hrun, hended, _, _, rfl, ?_, ⟨_, rfl⟩, hW, hsame.mono (by decide) (by decide)⟩
    · rw [← hG]; exact S45 _ (retN X0 hx (t := .byte) Bd.returns (by simp) (hb hby d17_8) hr)
    · show Q17 Z t n (1 : Int32) h0 n0 _ s₁.heap _
      rw [e0]
      exact ⟨rfl, N0, rfl⟩
def Q15 (Z : State) (b : Addr) (cs : List Int32) (h0 : Heap) (n0 : Nat) (v : Option Value) (h : Heap) (L : List Loc) : Prop := ∃ t, v = some (.ref t) ∧ h0.size ≤ t ∧ Fr n0 L ∧ Ext h0 h ∧ ((∃ k, Arv Z h t k .byte (Int32.ofNat cs.length) (cs.map own_vb) (.int 0)) ∧ (∀ j, j < cs.length → ¬ (255 : Int32) < cs.getD j 0) ∨ (∃ k, Arv Z h t k .byte (Int32.ofNat (2 * cs.length)) (own_wide cs) (.int 0)) ∧ ∃ j, j < cs.length ∧ (255 : Int32) < cs.getD j 0)
set_option maxRecDepth 65536 in
set_option maxHeartbeats 40000000 in
theorem rm15 (l : Launch) (Z : State) (a0 : Array Value) (hw : ∀ d ∈ tables_1, d.before a0 Z = true) (ws : List Jvm.Cond) (b : Addr) (cs : List Int32) (h0 : Heap) (n0 : Nat) (Z0 : n0 ≤ h0.size) (kb : ClassId) (hn : cs.length ≤ 3) (Vb : Arv Z h0 b kb .char (Int32.ofNat cs.length) (cs.map Value.int) (.int 0)) (O : Old Z n0 h0) (A16 : own_A16 Z) (hch : ∀ j, j < cs.length → own_Ch (cs.getD j 0)) :
    MetFree l (⟨"java/lang/StringUTF16", "compress", "([CII)[B"⟩ : MethodName) (head1 (Jvm.Cond.code (⟨"java/lang/StringUTF16", "compress", "([CII)[B"⟩ : MethodName) jdk_52_method_16_code 6 (some (.array .byte)) :: ws) ({ frames := 3, cells := 2, slots := 9, locals := 60 } : Room)) (fun aa_ U => aa_ = #[(.ref b), (.int (0 : Int32)), (.int (Int32.ofNat cs.length))] ∧ Z.Warmed39 U.vm ∧ U.heap = h0) (fun _ _ _ _ _ => True) (fun _ U o U' => ∃ v L, o = .returned v ∧ Q15 Z b cs h0 n0 v U'.heap L ∧ FrameEnd U o U' L ({ frames := 3, cells := 2, slots := 9, locals := 60 } : Room).cells ({ frames := 3, cells := 2, slots := 9, locals := 60 } : Room).slots) := by
  refine MetFree.of_bodySF (plainFor_of_name pn1) hisR ?_
  intro p e s m args below meth c s₁ Bd hml0 hP hK
  obtain ⟨rfl, hZ, hh⟩ := hP
  have hx := Bd.exec
  have hby := Bd.bytes
  have hml : c.maxLocals = 6 := hml0
  have hown : s.vm.findClass "java/lang/StringUTF16" = some m.cls := findClass_of_methodNamed Bd.named
  have hnm := (name_of_methodNamed Bd.named Bd.method).1
  have X0 : Stand p l e ({ frames := 3, cells := 2, slots := 9, locals := 60 } : Room) s m #[(.ref b), (.int (0 : Int32)), (.int (Int32.ofNat cs.length))] below meth c s₁ [] 0 0 := Stand.of_body Bd
  have e0 : s₁.heap = h0 := by rw [← hh, Bd.state]; rfl
  have N0 := Fr.nil n0
  obtain ⟨G, hG⟩ : ∃ G, G = entryFrame m #[(.ref b), (.int (0 : Int32)), (.int (Int32.ofNat cs.length))] 6 := ⟨_, rfl⟩
  have S0 : own_Go p e below s₁ G s₁ (mkF m 0 #[.val (.ref b), .val (.int (0 : Int32)), .val (.int (Int32.ofNat cs.length)), .unset, .unset, .unset] []) := fun tg_ kk_ => castTop (by rw [hG]; first | rfl | simp [entryFrame, mkF, argsToLocals, Value.category, maxLocals]) kk_
  have S46 : own_Go p e below s₁ G s₁ (mkF m 1 #[.val (.ref b), .val (.int (0 : Int32)), .val (.int (Int32.ofNat cs.length)), .unset, .unset, .unset] [(.int (Int32.ofNat cs.length))]) := fun tg_ kk_ => S0 tg_ (by
    refine XS.iloadN X0.here hx rfl (hb hby d15_0) rfl ?_
    exact kk_)
  obtain ⟨Tp1, hp1, kp1, Xp1, ep1, Ep1, Ap1, stp1⟩ := newP X0 hx hZ (hw _ (List.mem_of_getElem? (i := 19) rfl)) e0 (g := (mkF m 1 #[.val (.ref b), .val (.int (0 : Int32)), .val (.int (Int32.ofNat cs.length)), .unset, .unset, .unset] [(.int (Int32.ofNat cs.length))])) rfl (hb hby d15_1) rfl (own_nn32 (by omega)) (cap := 3) (by rw [own_n32 (by omega)]; omega) (by decide) (by decide) (by decide)
  have S47 : own_Go p e below s₁ G Tp1 (mkF m 3 #[.val (.ref b), .val (.int (0 : Int32)), .val (.int (Int32.ofNat cs.length)), .unset, .unset, .unset] [(.ref h0.size)]) := fun tg_ kk_ => S46 tg_ (stp1 tg_ kk_)
  obtain ⟨d, gd⟩ : ∃ z, z = h0.size := ⟨_, rfl⟩
  rw [← gd] at S47
  rw [← gd] at Ap1
  have hbd : b ≠ d := Nat.ne_of_lt (Nat.lt_of_lt_of_le Vb.lt (Nat.le_of_eq gd.symm))
  have hd0 : n0 ≤ d := Nat.le_trans Z0 (Nat.le_of_eq gd.symm)
  have Vd0 : Arv Z hp1 d kp1 .byte (Int32.ofNat cs.length) [] (.int 0) := Arv.new Ap1 (own_nn32 (by omega))
  have S48 : own_Go p e below s₁ G Tp1 (mkF m 9 #[.val (.ref b), .val (.int (0 : Int32)), .val (.int (Int32.ofNat cs.length)), .val (.ref d), .unset, .unset] [(.int (Int32.ofNat cs.length)), (.int (0 : Int32)), (.ref d), (.int (0 : Int32)), (.ref b)]) := fun tg_ kk_ => S47 tg_ (by
    refine XS.astoreN Xp1.here hx rfl (hb hby d15_3) rfl rfl (l' := #[.val (.ref b), .val (.int (0 : Int32)), .val (.int (Int32.ofNat cs.length)), .val (.ref d), .unset, .unset]) rfl ?_
    show Steps p.tables e below (Tp1.setTop (mkF m 4 #[.val (.ref b), .val (.int (0 : Int32)), .val (.int (Int32.ofNat cs.length)), .val (.ref d), .unset, .unset] [])) _
    refine XS.aloadN Xp1.here hx rfl (hb hby d15_4) rfl rfl ?_
    show Steps p.tables e below (Tp1.setTop (mkF m 5 #[.val (.ref b), .val (.int (0 : Int32)), .val (.int (Int32.ofNat cs.length)), .val (.ref d), .unset, .unset] [(.ref b)])) _
    refine XS.iloadN Xp1.here hx rfl (hb hby d15_5) rfl ?_
    show Steps p.tables e below (Tp1.setTop (mkF m 6 #[.val (.ref b), .val (.int (0 : Int32)), .val (.int (Int32.ofNat cs.length)), .val (.ref d), .unset, .unset] [(.int (0 : Int32)), (.ref b)])) _
    refine XS.aloadN Xp1.here hx rfl (hb hby d15_6) rfl rfl ?_
    show Steps p.tables e below (Tp1.setTop (mkF m 7 #[.val (.ref b), .val (.int (0 : Int32)), .val (.int (Int32.ofNat cs.length)), .val (.ref d), .unset, .unset] [(.ref d), (.int (0 : Int32)), (.ref b)])) _
    refine XS.iconst Xp1.here hx rfl (hb hby d15_7) ?_
    show Steps p.tables e below (Tp1.setTop (mkF m 8 #[.val (.ref b), .val (.int (0 : Int32)), .val (.int (Int32.ofNat cs.length)), .val (.ref d), .unset, .unset] [(.int (0 : Int32)), (.ref d), (.int (0 : Int32)), (.ref b)])) _
    refine XS.iloadN Xp1.here hx rfl (hb hby d15_8) rfl ?_
    exact kk_)
  obtain ⟨_, T49, h49, L49, X49, e49, hQ49, st49⟩ := own_callS Xp1 hx hZ (y := (⟨"java/lang/StringUTF16", "compress", "([CI[BII)I"⟩ : MethodName)) hown (hw _ (List.mem_of_getElem? (i := 74) rfl)) (hw _ (List.mem_of_getElem? (i := 75) rfl)) (hw _ (List.mem_of_getElem? (i := 72) rfl)) (hw _ (List.mem_of_getElem? (i := 76) rfl)) (by decide) 0 (g := (mkF m 9 #[.val (.ref b), .val (.int (0 : Int32)), .val (.int (Int32.ofNat cs.length)), .val (.ref d), .unset, .unset] [(.int (Int32.ofNat cs.length)), (.int (0 : Int32)), (.ref d), (.int (0 : Int32)), (.ref b)])) rfl (by rw [hml]; rfl) [(.ref b), (.int (0 : Int32)), (.ref d), (.int (0 : Int32)), (.int (Int32.ofNat cs.length))] [] (rm16 l Z a0 hw [] b d kp1 cs hp1 n0 (own_sub Z0 Ep1) kb (by omega) hbd hd0 (Vb.ext Ep1) Vd0) (lenOf pd15 rfl) rfl (by show 2 * 0 + _ ≤ _; exact Nat.le_of_eq rfl) (hb hby d15_9) (by decide) (by decide) ep1 (by decide) (by decide)
  obtain ⟨j, rfl, j1, j2, j3, N49, K49, V49⟩ := hQ49
  have S50 : own_Go p e below s₁ G T49 (mkF m 12 #[.val (.ref b), .val (.int (0 : Int32)), .val (.int (Int32.ofNat cs.length)), .val (.ref d), .unset, .unset] [(.int (Int32.ofNat j))]) := fun tg_ kk_ => S48 tg_ (st49 tg_ kk_)
  have M1 := Fr.app N0 N49
  have E2 : Ext h0 h49 := ⟨Nat.le_trans Ep1.1 K49.1, fun a c q => K49.2.1 a c (Ep1.2 a c q) (ninS (Nat.ne_of_lt (Nat.lt_of_lt_of_le (Array.getElem?_eq_some_iff.mp q).1 (Nat.le_of_eq gd.symm))) nin0)⟩
  have S51 : own_Go p e below s₁ G T49 (mkF m 17 #[.val (.ref b), .val (.int (0 : Int32)), .val (.int (Int32.ofNat cs.length)), .val (.ref d), .val (.int (Int32.ofNat j)), .unset] [(.int (Int32.ofNat cs.length)), (.int (Int32.ofNat j))]) := fun tg_ kk_ => S50 tg_ (by
    refine XS.istore X49.here hx rfl (hb hby d15_12) rfl (l' := #[.val (.ref b), .val (.int (0 : Int32)), .val (.int (Int32.ofNat cs.length)), .val (.ref d), .val (.int (Int32.ofNat j)), .unset]) rfl ?_
    show Steps p.tables e below (T49.setTop (mkF m 14 #[.val (.ref b), .val (.int (0 : Int32)), .val (.int (Int32.ofNat cs.length)), .val (.ref d), .val (.int (Int32.ofNat j)), .unset] [])) _
    refine XS.iload X49.here hx rfl (hb hby d15_14) rfl ?_
    show Steps p.tables e below (T49.setTop (mkF m 16 #[.val (.ref b), .val (.int (0 : Int32)), .val (.int (Int32.ofNat cs.length)), .val (.ref d), .val (.int (Int32.ofNat j)), .unset] [(.int (Int32.ofNat j))])) _
    refine XS.iloadN X49.here hx rfl (hb hby d15_16) rfl ?_
    exact kk_)
  by_cases hj : j = cs.length
  · subst hj
    rw [List.take_length] at V49
    have S52 : own_Go p e below s₁ G T49 (mkF m 58 #[.val (.ref b), .val (.int (0 : Int32)), .val (.int (Int32.ofNat cs.length)), .val (.ref d), .val (.int (Int32.ofNat cs.length)), .unset] [(.ref d)]) := fun tg_ kk_ => S51 tg_ (by
      refine XS.icmpYes X49.here hx rfl (pc0 := 17) (pc' := 57) rfl (hb hby d15_17) rfl (teq rfl).1 (by decide) (by decide) ?_
      show Steps p.tables e below (T49.setTop (mkF m 57 #[.val (.ref b), .val (.int (0 : Int32)), .val (.int (Int32.ofNat cs.length)), .val (.ref d), .val (.int (Int32.ofNat cs.length)), .unset] [])) _
      refine XS.aloadN X49.here hx rfl (hb hby d15_57) rfl rfl ?_
      exact kk_)
    obtain ⟨fs, hr, hrun, hended, hW, hsame⟩ := X49.leave (v := some (.ref d)) (fun h => by rw [Bd.returns] at h; cases h)
    refine ⟨_, _, ?_, hrun, hended, _, _, rfl, ?_, ⟨_, rfl⟩, hW, hsame.mono (by decide) (by decide)⟩
    · rw [← hG]; exact S52 _ (retOut X49 hx Bd.returns (by first | rfl | cases (.ref d) <;> rfl) (Or.inr (Or.inr (Or.inr (Or.inr ⟨rfl, rfl, rfl⟩)))) (hb hby d15_58) hr)
    · show Q15 Z b cs h0 n0 _ T49.heap _
      rw [e49]
      exact ⟨d, rfl, Nat.le_of_eq gd.symm, M1, E2, Or.inl ⟨⟨_, V49⟩, j2⟩⟩
  · have hjl : j < cs.length := by omega
    have O2 := O.ext E2
    have S53 : own_Go p e below s₁ G T49 (mkF m 23 #[.val (.ref b), .val (.int (0 : Int32)), .val (.int (Int32.ofNat cs.length)), .val (.ref d), .val (.int (Int32.ofNat j)), .unset] [(.int (Int32.ofNat cs.length)), (.int (0 : Int32)), (.ref b)]) := fun tg_ kk_ => S51 tg_ (by
      refine XS.icmpNo X49.here hx rfl (hb hby d15_17) rfl (feq (fun q => hj (own_inj32 (by omega) (by omega) q))).1 ?_
      show Steps p.tables e below (T49.setTop (mkF m 20 #[.val (.ref b), .val (.int (0 : Int32)), .val (.int (Int32.ofNat cs.length)), .val (.ref d), .val (.int (Int32.ofNat j)), .unset] [])) _
      refine XS.aloadN X49.here hx rfl (hb hby d15_20) rfl rfl ?_
      show Steps p.tables e below (T49.setTop (mkF m 21 #[.val (.ref b), .val (.int (0 : Int32)), .val (.int (Int32.ofNat cs.length)), .val (.ref d), .val (.int (Int32.ofNat j)), .unset] [(.ref b)])) _
      refine XS.iloadN X49.here hx rfl (hb hby d15_21) rfl ?_
      show Steps p.tables e below (T49.setTop (mkF m 22 #[.val (.ref b), .val (.int (0 : Int32)), .val (.int (Int32.ofNat cs.length)), .val (.ref d), .val (.int (Int32.ofNat j)), .unset] [(.int (0 : Int32)), (.ref b)])) _
      refine XS.iloadN X49.here hx rfl (hb hby d15_22) rfl ?_
      exact kk_)
    obtain ⟨_, T54, h54, L54, X54, e54, hQ54, st54⟩ := own_callS X49 hx hZ (y := (⟨"java/lang/StringUTF16", "toBytes", "([CII)[B"⟩ : MethodName)) hown (hw _ (List.mem_of_getElem? (i := 86) rfl)) (hw _ (List.mem_of_getElem? (i := 87) rfl)) (hw _ (List.mem_of_getElem? (i := 72) rfl)) (hw _ (List.mem_of_getElem? (i := 88) rfl)) (by decide) 0 (g := (mkF m 23 #[.val (.ref b), .val (.int (0 : Int32)), .val (.int (Int32.ofNat cs.length)), .val (.ref d), .val (.int (Int32.ofNat j)), .unset] [(.int (Int32.ofNat cs.length)), (.int (0 : Int32)), (.ref b)])) rfl (by rw [hml]; rfl) [(.ref b), (.int (0 : Int32)), (.int (Int32.ofNat cs.length))] [] (rm20 l Z a0 hw [] b cs h49 n0 (own_sub Z0 E2) kb hn (Vb.ext E2) O2 A16) (lenOf pd14 rfl) rfl (by show 2 * 0 + _ ≤ _; exact Nat.le_of_eq rfl) (hb hby d15_23) (by decide) (by decide) e49 (by decide) (by decide)
    obtain ⟨rfl, N54, E54, k54, V54⟩ := hQ54
    have S55 : own_Go p e below s₁ G T54 (mkF m 26 #[.val (.ref b), .val (.int (0 : Int32)), .val (.int (Int32.ofNat cs.length)), .val (.ref d), .val (.int (Int32.ofNat j)), .unset] [(.ref h49.size)]) := fun tg_ kk_ => S53 tg_ (st54 tg_ kk_)
    obtain ⟨t, gt⟩ : ∃ z, z = h49.size := ⟨_, rfl⟩
    rw [← gt] at S55
    rw [← gt] at V54
    have M2 := Fr.app M1 N54
    have S56 : own_Go p e below s₁ G T54 (mkF m 32 #[.val (.ref b), .val (.int (0 : Int32)), .val (.int (Int32.ofNat cs.length)), .val (.ref d), .val (.int (Int32.ofNat j)), .val (.ref t)] [(.int (Int32.ofNat j)), (.ref t)]) := fun tg_ kk_ => S55 tg_ (by
      refine XS.astore X54.here hx rfl (hb hby d15_26) rfl rfl (l' := #[.val (.ref b), .val (.int (0 : Int32)), .val (.int (Int32.ofNat cs.length)), .val (.ref d), .val (.int (Int32.ofNat j)), .val (.ref t)]) rfl ?_
      show Steps p.tables e below (T54.setTop (mkF m 28 #[.val (.ref b), .val (.int (0 : Int32)), .val (.int (Int32.ofNat cs.length)), .val (.ref d), .val (.int (Int32.ofNat j)), .val (.ref t)] [])) _
      refine XS.aload X54.here hx rfl (hb hby d15_28) rfl rfl ?_
      show Steps p.tables e below (T54.setTop (mkF m 30 #[.val (.ref b), .val (.int (0 : Int32)), .val (.int (Int32.ofNat cs.length)), .val (.ref d), .val (.int (Int32.ofNat j)), .val (.ref t)] [(.ref t)])) _
      refine XS.iload X54.here hx rfl (hb hby d15_30) rfl ?_
      exact kk_)
    obtain ⟨_, T57, h57, L57, X57, e57, hQ57, st57⟩ := own_callS X54 hx hZ (y := (⟨"java/lang/StringUTF16", "getChar", "([BI)C"⟩ : MethodName)) hown (hw _ (List.mem_of_getElem? (i := 102) rfl)) (hw _ (List.mem_of_getElem? (i := 103) rfl)) (hw _ (List.mem_of_getElem? (i := 72) rfl)) (hw _ (List.mem_of_getElem? (i := 104) rfl)) (by decide) 0 (g := (mkF m 32 #[.val (.ref b), .val (.int (0 : Int32)), .val (.int (Int32.ofNat cs.length)), .val (.ref d), .val (.int (Int32.ofNat j)), .val (.ref t)] [(.int (Int32.ofNat j)), (.ref t)])) rfl (by rw [hml]; rfl) [(.ref t), (.int (Int32.ofNat j))] [] (rm24 l Z a0 hw [] t j cs h54 n0 (own_sub (own_sub Z0 E2) E54) k54 V54 hjl (by omega) (hch j hjl) (O2.ext E54) A16) (lenOf pd20 rfl) rfl (by show 2 * 0 + _ ≤ _; exact Nat.le_of_eq rfl) (hb hby d15_32) (by decide) (by decide) e54 (by decide) (by decide)
    obtain ⟨rfl, N57, rfl⟩ := hQ57
    have S58 : own_Go p e below s₁ G T57 (mkF m 35 #[.val (.ref b), .val (.int (0 : Int32)), .val (.int (Int32.ofNat cs.length)), .val (.ref d), .val (.int (Int32.ofNat j)), .val (.ref t)] [(.int (cs.getD j 0))]) := fun tg_ kk_ => S56 tg_ (st57 tg_ kk_)
    have M3 := Fr.app M2 N57
    have S59 : own_Go p e below s₁ G T57 (mkF m 56 #[.val (.ref b), .val (.int (0 : Int32)), .val (.int (Int32.ofNat cs.length)), .val (.ref d), .val (.int (Int32.ofNat j)), .val (.ref t)] [(.ref t)]) := fun tg_ kk_ => S58 tg_ (by
      refine XS.sipush X57.here hx rfl (hb hby d15_35) ?_
      show Steps p.tables e below (T57.setTop (mkF m 38 #[.val (.ref b), .val (.int (0 : Int32)), .val (.int (Int32.ofNat cs.length)), .val (.ref d), .val (.int (Int32.ofNat j)), .val (.ref t)] [(.int (255 : Int32)), (.int (cs.getD j 0))])) _
      refine XS.icmpYes X57.here hx rfl (pc0 := 38) (pc' := 54) rfl (hb hby d15_38) rfl (tlt (j3 hjl)).2.2.1 (by decide) (by decide) ?_
      show Steps p.tables e below (T57.setTop (mkF m 54 #[.val (.ref b), .val (.int (0 : Int32)), .val (.int (Int32.ofNat cs.length)), .val (.ref d), .val (.int (Int32.ofNat j)), .val (.ref t)] [])) _
      refine XS.aload X57.here hx rfl (hb hby d15_54) rfl rfl ?_
      exact kk_)
    obtain ⟨fs, hr, hrun, hended, hW, hsame⟩ := X57.leave (v := some (.ref t)) (fun h => by rw [Bd.returns] at h; cases h)
    refine ⟨_, _, ?_, hrun, hended, _, _, rfl, ?_, ⟨_, rfl⟩, hW, hsame.mono (by decide) (by decide)⟩
    · rw [← hG]; exact S59 _ (retOut X57 hx Bd.returns (by first | rfl | cases (.ref t) <;> rfl) (Or.inr (Or.inr (Or.inr (Or.inr ⟨rfl, rfl, rfl⟩)))) (hb hby d15_56) hr)
    · show Q15 Z b cs h0 n0 _ T57.heap _
      rw [e57]
      exact ⟨t, rfl, Nat.le_trans E2.1 (Nat.le_of_eq gt.symm), M3, ⟨Nat.le_trans E2.1 E54.1, fun a c q => E54.2 a c (E2.2 a c q)⟩, Or.inr ⟨⟨_, V54⟩, j, hjl, j3 hjl⟩⟩
theorem pn2 : plainName "java/lang/String" = true := by first | (simp [plainName, overriddenIn]; done) | decide +kernel
def Q3 (Z : State) (x : Addr) (b : Addr) (cs : List Int32) (h0 : Heap) (n0 : Nat) (v : Option Value) (h : Heap) (L : List Loc) : Prop := v = none ∧ Fr n0 L ∧ Keep h0 h [x] ∧ ∃ t, h0.size ≤ t ∧ own_Str Z h x t cs
set_option maxRecDepth 65536 in
set_option maxHeartbeats 40000000 in
theorem rm3 (l : Launch) (Z : State) (a0 : Array Value) (hw : ∀ d ∈ tables_1, d.before a0 Z = true) (ws : List Jvm.Cond) (x : Addr) (b : Addr) (cs : List Int32) (h0 : Heap) (n0 : Nat) (Z0 : n0 ≤ h0.size) (z : Int32) (kb : ClassId) (hn : 1 ≤ cs.length ∧ cs.length ≤ 3) (Ex : Exa Z h0 x "java/lang/String") (Fv : Fld Z h0 x "java/lang/String" "value" "[B" .null) (Fc : Fld Z h0 x "java/lang/String" "coder" "B" (.int 0)) (hx0 : n0 ≤ x) (Vb : Arv Z h0 b kb .char (Int32.ofNat cs.length) (cs.map Value.int) (.int 0)) (O : Old Z n0 h0) (O2 : Sta Z Z.heap "java/lang/String" "COMPACT_STRINGS" "Z" (.int z)) (P5 : ¬ z = 0) (A16 : own_A16 Z) (hch : ∀ j, j < cs.length → own_Ch (cs.getD j 0)) :
    MetFree l (⟨"java/lang/String", "<init>", "([CIILjava/lang/Void;)V"⟩ : MethodName) (head1 (Jvm.Cond.code (⟨"java/lang/String", "<init>", "([CIILjava/lang/Void;)V"⟩ : MethodName) jdk_42_method_149_code 6 none :: ws) ({ frames := 4, cells := 2, slots := 9, locals := 80 } : Room)) (fun aa_ U => aa_ = #[(.ref x), (.ref b), (.int (0 : Int32)), (.int (Int32.ofNat cs.length)), .null] ∧ Z.Warmed39 U.vm ∧ U.heap = h0) (fun _ _ _ _ _ => True) (fun _ U o U' => ∃ v L, o = .returned v ∧ Q3 Z x b cs h0 n0 v U'.heap L ∧ FrameEnd U o U' L ({ frames := 4, cells := 2, slots := 9, locals := 80 } : Room).cells ({ frames := 4, cells := 2, slots := 9, locals := 80 } : Room).slots) := by
  refine MetFree.of_bodySF (plainFor_of_name pn2) hisR ?_
  intro p e s m args below meth c s₁ Bd hml0 hP hK
  obtain ⟨rfl, hZ, hh⟩ := hP
  have hx := Bd.exec
  have hby := Bd.bytes
  have hml : c.maxLocals = 6 := hml0
  have hown : s.vm.findClass "java/lang/String" = some m.cls := findClass_of_methodNamed Bd.named
  have hnm := (name_of_methodNamed Bd.named Bd.method).1
  have X0 : Stand p l e ({ frames := 4, cells := 2, slots := 9, locals := 80 } : Room) s m #[(.ref x), (.ref b), (.int (0 : Int32)), (.int (Int32.ofNat cs.length)), .null] below meth c s₁ [] 0 0 := Stand.of_body Bd
  have e0 : s₁.heap = h0 := by rw [← hh, Bd.state]; rfl
  have N0 := Fr.nil n0
  obtain ⟨G, hG⟩ : ∃ G, G = entryFrame m #[(.ref x), (.ref b), (.int (0 : Int32)), (.int (Int32.ofNat cs.length)), .null] 6 := ⟨_, rfl⟩
  have S0 : own_Go p e below s₁ G s₁ (mkF m 0 #[.val (.ref x), .val (.ref b), .val (.int (0 : Int32)), .val (.int (Int32.ofNat cs.length)), .val .null, .unset] []) := fun tg_ kk_ => castTop (by rw [hG]; first | rfl | simp [entryFrame, mkF, argsToLocals, Value.category, maxLocals]) kk_
  have S60 : own_Go p e below s₁ G s₁ (mkF m 1 #[.val (.ref x), .val (.ref b), .val (.int (0 : Int32)), .val (.int (Int32.ofNat cs.length)), .val .null, .unset] [(.ref x)]) := fun tg_ kk_ => S0 tg_ (by
    refine XS.aloadN X0.here hx rfl (hb hby d3_0) rfl rfl ?_
    exact kk_)
  obtain ⟨T61, X61, e61, st61⟩ := initO X0 hx hZ hown (hw _ (List.mem_of_getElem? (i := 15) rfl)) (hw _ (List.mem_of_getElem? (i := 16) rfl)) (hw _ (List.mem_of_getElem? (i := 17) rfl)) e0 (g := (mkF m 1 #[.val (.ref x), .val (.ref b), .val (.int (0 : Int32)), .val (.int (Int32.ofNat cs.length)), .val .null, .unset] [(.ref x)])) rfl (by rw [hml]; rfl) rfl (hb hby d3_1) (by decide) (W := 0) (by show 2 * 0 + _ ≤ _; exact Nat.le_of_eq rfl) (by decide)
  have S62 : own_Go p e below s₁ G T61 (mkF m 4 #[.val (.ref x), .val (.ref b), .val (.int (0 : Int32)), .val (.int (Int32.ofNat cs.length)), .val .null, .unset] []) := fun tg_ kk_ => S60 tg_ (st61 tg_ kk_)
  have S63 : own_Go p e below s₁ G T61 (mkF m 27 #[.val (.ref x), .val (.ref b), .val (.int (0 : Int32)), .val (.int (Int32.ofNat cs.length)), .val .null, .unset] []) := fun tg_ kk_ => S62 tg_ (by
    refine XS.iloadN X61.here hx rfl (hb hby d3_4) rfl ?_
    show Steps p.tables e below (T61.setTop (mkF m 5 #[.val (.ref x), .val (.ref b), .val (.int (0 : Int32)), .val (.int (Int32.ofNat cs.length)), .val .null, .unset] [(.int (Int32.ofNat cs.length))])) _
    refine XS.ifYes X61.here hx rfl (pc0 := 5) (pc' := 27) rfl (hb hby d3_5) rfl (XT.i0_ne_t (fun q => absurd (own_inj32 (n := 0) (by omega) (by omega) q) (by omega))) (by decide) (by decide) ?_
    exact kk_)
  obtain ⟨T64, X64, e64, st64⟩ := getS X61 hx hZ (host := "") hown (hw _ (List.mem_of_getElem? (i := 45) rfl)) Via.refl e61 (O2.ext O.2) (g := (mkF m 27 #[.val (.ref x), .val (.ref b), .val (.int (0 : Int32)), .val (.int (Int32.ofNat cs.length)), .val .null, .unset] [])) rfl (hb hby d3_27)
  have S65 : own_Go p e below s₁ G T64 (mkF m 30 #[.val (.ref x), .val (.ref b), .val (.int (0 : Int32)), .val (.int (Int32.ofNat cs.length)), .val .null, .unset] [(.int z)]) := fun tg_ kk_ => S63 tg_ (st64 tg_ kk_)
  have S66 : own_Go p e below s₁ G T64 (mkF m 36 #[.val (.ref x), .val (.ref b), .val (.int (0 : Int32)), .val (.int (Int32.ofNat cs.length)), .val .null, .unset] [(.int (Int32.ofNat cs.length)), (.int (0 : Int32)), (.ref b)]) := fun tg_ kk_ => S65 tg_ (by
    refine XS.ifNo X64.here hx rfl (hb hby d3_30) rfl (XT.i0_eq_f P5) ?_
    show Steps p.tables e below (T64.setTop (mkF m 33 #[.val (.ref x), .val (.ref b), .val (.int (0 : Int32)), .val (.int (Int32.ofNat cs.length)), .val .null, .unset] [])) _
    refine XS.aloadN X64.here hx rfl (hb hby d3_33) rfl rfl ?_
    show Steps p.tables e below (T64.setTop (mkF m 34 #[.val (.ref x), .val (.ref b), .val (.int (0 : Int32)), .val (.int (Int32.ofNat cs.length)), .val .null, .unset] [(.ref b)])) _
    refine XS.iloadN X64.here hx rfl (hb hby d3_34) rfl ?_
    show Steps p.tables e below (T64.setTop (mkF m 35 #[.val (.ref x), .val (.ref b), .val (.int (0 : Int32)), .val (.int (Int32.ofNat cs.length)), .val .null, .unset] [(.int (0 : Int32)), (.ref b)])) _
    refine XS.iloadN X64.here hx rfl (hb hby d3_35) rfl ?_
    exact kk_)
  obtain ⟨_, T67, h67, L67, X67, e67, hQ67, st67⟩ := own_callS X64 hx hZ (y := (⟨"java/lang/StringUTF16", "compress", "([CII)[B"⟩ : MethodName)) hown (hw _ (List.mem_of_getElem? (i := 70) rfl)) (hw _ (List.mem_of_getElem? (i := 71) rfl)) (hw _ (List.mem_of_getElem? (i := 72) rfl)) (hw _ (List.mem_of_getElem? (i := 73) rfl)) (by decide) 0 (g := (mkF m 36 #[.val (.ref x), .val (.ref b), .val (.int (0 : Int32)), .val (.int (Int32.ofNat cs.length)), .val .null, .unset] [(.int (Int32.ofNat cs.length)), (.int (0 : Int32)), (.ref b)])) rfl (by rw [hml]; rfl) [(.ref b), (.int (0 : Int32)), (.int (Int32.ofNat cs.length))] [] (rm15 l Z a0 hw [] b cs h0 n0 Z0 kb hn.2 Vb O A16 hch) (lenOf pd14 rfl) rfl (by show 2 * 0 + _ ≤ _; exact Nat.le_of_eq rfl) (hb hby d3_36) (by decide) (by decide) e64 (by decide) (by decide)
  obtain ⟨t, rfl, ht, N67, E67, V67⟩ := hQ67
  have S68 : own_Go p e below s₁ G T67 (mkF m 39 #[.val (.ref x), .val (.ref b), .val (.int (0 : Int32)), .val (.int (Int32.ofNat cs.length)), .val .null, .unset] [(.ref t)]) := fun tg_ kk_ => S66 tg_ (st67 tg_ kk_)
  have M1 := Fr.app N0 N67
  have hcd : ∃ (cd : Int32) (M : Nat) (vs : List Value) (k : ClassId), Arv Z h67 t k .byte (Int32.ofNat M) vs (.int 0) ∧ M ≤ 2000 ∧ ((cd = 0 ∧ M = cs.length) ∨ (cd = 1 ∧ M = 2 * cs.length)) ∧ ((cd = 0 ∧ M = cs.length ∧ vs = cs.map own_vb ∧ ∀ j, j < cs.length → ¬ (255 : Int32) < cs.getD j 0) ∨ (cd = 1 ∧ M = 2 * cs.length ∧ vs = own_wide cs ∧ ∃ j, j < cs.length ∧ (255 : Int32) < cs.getD j 0)) := by
    rcases V67 with ⟨⟨k, V⟩, q⟩ | ⟨⟨k, V⟩, q⟩
    · exact ⟨0, _, _, k, V, by omega, Or.inl ⟨rfl, rfl⟩, Or.inl ⟨rfl, rfl, rfl, q⟩⟩
    · exact ⟨1, _, _, k, V, by omega, Or.inr ⟨rfl, rfl⟩, Or.inr ⟨rfl, rfl, rfl, q⟩⟩
  obtain ⟨cd, M, vs, kt, Vt, hM, hcM, hall⟩ := hcd
  have S69 : own_Go p e below s₁ G T67 (mkF m 45 #[.val (.ref x), .val (.ref b), .val (.int (0 : Int32)), .val (.int (Int32.ofNat cs.length)), .val .null, .val (.ref t)] [(.int (Int32.ofNat cs.length)), (.ref t), (.ref x)]) := fun tg_ kk_ => S68 tg_ (by
    refine XS.astore X67.here hx rfl (hb hby d3_39) rfl rfl (l' := #[.val (.ref x), .val (.ref b), .val (.int (0 : Int32)), .val (.int (Int32.ofNat cs.length)), .val .null, .val (.ref t)]) rfl ?_
    show Steps p.tables e below (T67.setTop (mkF m 41 #[.val (.ref x), .val (.ref b), .val (.int (0 : Int32)), .val (.int (Int32.ofNat cs.length)), .val .null, .val (.ref t)] [])) _
    refine XS.aloadN X67.here hx rfl (hb hby d3_41) rfl rfl ?_
    show Steps p.tables e below (T67.setTop (mkF m 42 #[.val (.ref x), .val (.ref b), .val (.int (0 : Int32)), .val (.int (Int32.ofNat cs.length)), .val .null, .val (.ref t)] [(.ref x)])) _
    refine XS.aload X67.here hx rfl (hb hby d3_42) rfl rfl ?_
    show Steps p.tables e below (T67.setTop (mkF m 44 #[.val (.ref x), .val (.ref b), .val (.int (0 : Int32)), .val (.int (Int32.ofNat cs.length)), .val .null, .val (.ref t)] [(.ref t), (.ref x)])) _
    refine XS.iloadN X67.here hx rfl (hb hby d3_44) rfl ?_
    exact kk_)
  obtain ⟨_, T70, h70, L70, X70, e70, hQ70, st70⟩ := own_callS X67 hx hZ (y := (⟨"java/lang/StringUTF16", "coderFromArrayLen", "([BI)B"⟩ : MethodName)) hown (hw _ (List.mem_of_getElem? (i := 77) rfl)) (hw _ (List.mem_of_getElem? (i := 78) rfl)) (hw _ (List.mem_of_getElem? (i := 72) rfl)) (hw _ (List.mem_of_getElem? (i := 79) rfl)) (by decide) 1 (g := (mkF m 45 #[.val (.ref x), .val (.ref b), .val (.int (0 : Int32)), .val (.int (Int32.ofNat cs.length)), .val .null, .val (.ref t)] [(.int (Int32.ofNat cs.length)), (.ref t), (.ref x)])) rfl (by rw [hml]; rfl) [(.ref t), (.int (Int32.ofNat cs.length))] [(.ref x)] (rm17 l Z a0 hw [] t cs.length cd h67 n0 (own_sub Z0 E67) kt M vs Vt hM (by omega) hcM) (lenOf pd16 rfl) rfl (by show 2 * 0 + _ ≤ _; exact Nat.le_of_eq rfl) (hb hby d3_45) (by decide) (by decide) e67 (by decide) (by decide)
  obtain ⟨rfl, N70, rfl⟩ := hQ70
  have S71 : own_Go p e below s₁ G T70 (mkF m 48 #[.val (.ref x), .val (.ref b), .val (.int (0 : Int32)), .val (.int (Int32.ofNat cs.length)), .val .null, .val (.ref t)] [(.int cd), (.ref x)]) := fun tg_ kk_ => S69 tg_ (st70 tg_ kk_)
  have M2 := Fr.app M1 N70
  have htx : t ≠ x := Nat.ne_of_gt (Nat.lt_of_lt_of_le Ex.lt ht)
  have Ex1 := Ex.ext E67
  obtain ⟨T72, h72, X72, e72, W72, st72⟩ := putF X70 hx hZ hown (host := "") (Or.inl (hw _ (List.mem_of_getElem? (i := 25) rfl))) Via.refl e70 (Fc.ext E67) Ex1 (Or.inr ⟨(hw _ (List.mem_of_getElem? (i := 21) rfl)), rfl, hnm⟩) (hw _ (List.mem_of_getElem? (i := 6) rfl)) (ty := .byte) (by decide) (by rcases hcM with ⟨rfl, -⟩ | ⟨rfl, -⟩ <;> rfl) (by rcases hcM with ⟨rfl, -⟩ | ⟨rfl, -⟩ <;> rfl) (g := (mkF m 48 #[.val (.ref x), .val (.ref b), .val (.int (0 : Int32)), .val (.int (Int32.ofNat cs.length)), .val .null, .val (.ref t)] [(.int cd), (.ref x)])) rfl rfl (hb hby d3_48)
  have S73 : own_Go p e below s₁ G T72 (mkF m 51 #[.val (.ref x), .val (.ref b), .val (.int (0 : Int32)), .val (.int (Int32.ofNat cs.length)), .val .null, .val (.ref t)] []) := fun tg_ kk_ => S71 tg_ (st72 tg_ kk_)
  have Fc1 := (Fc.ext E67).same W72
  have Fv1 := (Fv.ext E67).other W72 (Or.inr (slot_ne (C := "java/lang/String") (a0 := a0) (Or.inr (hw _ (List.mem_of_getElem? (i := 20) rfl))) (Or.inr (hw _ (List.mem_of_getElem? (i := 21) rfl))) (by decide) (t := .array .byte) (by decide) (t' := .byte) (by decide)))
  have Vt1 := Vt.other W72 htx
  have M3 := Fr.snoc X72 M2 hx0
  have K1 : Keep h0 h72 [x] := ((Keep.refl h0 [x]).ext E67).wr W72 (Or.inl (List.mem_of_getElem? (i := 0) rfl))
  have S74 : own_Go p e below s₁ G T72 (mkF m 54 #[.val (.ref x), .val (.ref b), .val (.int (0 : Int32)), .val (.int (Int32.ofNat cs.length)), .val .null, .val (.ref t)] [(.ref t), (.ref x)]) := fun tg_ kk_ => S73 tg_ (by
    refine XS.aloadN X72.here hx rfl (hb hby d3_51) rfl rfl ?_
    show Steps p.tables e below (T72.setTop (mkF m 52 #[.val (.ref x), .val (.ref b), .val (.int (0 : Int32)), .val (.int (Int32.ofNat cs.length)), .val .null, .val (.ref t)] [(.ref x)])) _
    refine XS.aload X72.here hx rfl (hb hby d3_52) rfl rfl ?_
    exact kk_)
  obtain ⟨T75, h75, X75, e75, W75, st75⟩ := putF X72 hx hZ hown (host := "") (Or.inl (hw _ (List.mem_of_getElem? (i := 24) rfl))) Via.refl e72 Fv1 (Ex1.wr W72) (Or.inr ⟨(hw _ (List.mem_of_getElem? (i := 20) rfl)), rfl, hnm⟩) (hw _ (List.mem_of_getElem? (i := 6) rfl)) (ty := (.array .byte)) (by decide) rfl rfl (g := (mkF m 54 #[.val (.ref x), .val (.ref b), .val (.int (0 : Int32)), .val (.int (Int32.ofNat cs.length)), .val .null, .val (.ref t)] [(.ref t), (.ref x)])) rfl rfl (hb hby d3_54)
  have S76 : own_Go p e below s₁ G T75 (mkF m 57 #[.val (.ref x), .val (.ref b), .val (.int (0 : Int32)), .val (.int (Int32.ofNat cs.length)), .val .null, .val (.ref t)] []) := fun tg_ kk_ => S74 tg_ (st75 tg_ kk_)
  have M4 := Fr.snoc X75 M3 hx0
  have K2 : Keep h0 h75 [x] := K1.wr W75 (Or.inl (List.mem_of_getElem? (i := 0) rfl))
  have SS : own_Str Z h75 x t cs := ⟨(Ex1.wr W72).wr W75, Fv1.same W75, by
    have Fc2 := Fc1.other W75 (Or.inr (slot_ne (C := "java/lang/String") (a0 := a0) (Or.inr (hw _ (List.mem_of_getElem? (i := 21) rfl))) (Or.inr (hw _ (List.mem_of_getElem? (i := 20) rfl))) (by decide) (t := .byte) (by decide) (t' := .array .byte) (by decide)))
    have Vt2 := Vt1.other W75 htx
    rcases hall with ⟨rfl, rfl, rfl, q⟩ | ⟨rfl, rfl, rfl, q⟩
    · exact Or.inl ⟨Fc2, ⟨_, Vt2⟩, q⟩
    · exact Or.inr ⟨Fc2, ⟨_, Vt2⟩, q⟩⟩
  obtain ⟨fs, hr, hrun, hended, hW, hsame⟩ := X75.leave (v := none) (fun _ => rfl)
  refine ⟨_, _, ?_, hrun, hended, _, _, rfl, ?_, ⟨_, rfl⟩, hW, hsame.mono (by decide) (by decide)⟩
  · rw [← hG]; exact S76 _ (X75.returnOut hx Bd.returns (hb hby d3_57) hr)
  · show Q3 Z x b cs h0 n0 _ T75.heap _
    rw [e75]
    exact ⟨rfl, M4, K2, t, ht, SS⟩
def Q2 (Z : State) (x : Addr) (b : Addr) (cs : List Int32) (h0 : Heap) (n0 : Nat) (v : Option Value) (h : Heap) (L : List Loc) : Prop := v = none ∧ Fr n0 L ∧ Keep h0 h [x] ∧ ∃ t, h0.size ≤ t ∧ own_Str Z h x t cs
set_option maxRecDepth 65536 in
set_option maxHeartbeats 40000000 in
theorem rm2 (l : Launch) (Z : State) (a0 : Array Value) (hw : ∀ d ∈ tables_1, d.before a0 Z = true) (ws : List Jvm.Cond) (x : Addr) (b : Addr) (cs : List Int32) (h0 : Heap) (n0 : Nat) (Z0 : n0 ≤ h0.size) (z : Int32) (kb : ClassId) (hn : 1 ≤ cs.length ∧ cs.length ≤ 3) (Ex : Exa Z h0 x "java/lang/String") (Fv : Fld Z h0 x "java/lang/String" "value" "[B" .null) (Fc : Fld Z h0 x "java/lang/String" "coder" "B" (.int 0)) (hx0 : n0 ≤ x) (Vb : Arv Z h0 b kb .char (Int32.ofNat cs.length) (cs.map Value.int) (.int 0)) (O : Old Z n0 h0) (O2 : Sta Z Z.heap "java/lang/String" "COMPACT_STRINGS" "Z" (.int z)) (P5 : ¬ z = 0) (A16 : own_A16 Z) (hch : ∀ j, j < cs.length → own_Ch (cs.getD j 0)) :
    MetFree l (⟨"java/lang/String", "<init>", "([C)V"⟩ : MethodName) (head1 (Jvm.Cond.code (⟨"java/lang/String", "<init>", "([C)V"⟩ : MethodName) jdk_42_method_3_code 2 none :: ws) ({ frames := 5, cells := 2, slots := 9, locals := 97 } : Room)) (fun aa_ U => aa_ = #[(.ref x), (.ref b)] ∧ Z.Warmed39 U.vm ∧ U.heap = h0) (fun _ _ _ _ _ => True) (fun _ U o U' => ∃ v L, o = .returned v ∧ Q2 Z x b cs h0 n0 v U'.heap L ∧ FrameEnd U o U' L ({ frames := 5, cells := 2, slots := 9, locals := 97 } : Room).cells ({ frames := 5, cells := 2, slots := 9, locals := 97 } : Room).slots) := by
  refine MetFree.of_bodySF (plainFor_of_name pn2) hisR ?_
  intro p e s m args below meth c s₁ Bd hml0 hP hK
  obtain ⟨rfl, hZ, hh⟩ := hP
  have hx := Bd.exec
  have hby := Bd.bytes
  have hml : c.maxLocals = 2 := hml0
  have hown : s.vm.findClass "java/lang/String" = some m.cls := findClass_of_methodNamed Bd.named
  have hnm := (name_of_methodNamed Bd.named Bd.method).1
  have X0 : Stand p l e ({ frames := 5, cells := 2, slots := 9, locals := 97 } : Room) s m #[(.ref x), (.ref b)] below meth c s₁ [] 0 0 := Stand.of_body Bd
  have e0 : s₁.heap = h0 := by rw [← hh, Bd.state]; rfl
  have N0 := Fr.nil n0
  obtain ⟨G, hG⟩ : ∃ G, G = entryFrame m #[(.ref x), (.ref b)] 2 := ⟨_, rfl⟩
  have S0 : own_Go p e below s₁ G s₁ (mkF m 0 #[.val (.ref x), .val (.ref b)] []) := fun tg_ kk_ => castTop (by rw [hG]; first | rfl | simp [entryFrame, mkF, argsToLocals, Value.category, maxLocals]) kk_
  obtain ⟨cl, Ar, -, Sz, Mn, H, -⟩ := id Vb
  have S77 : own_Go p e below s₁ G s₁ (mkF m 6 #[.val (.ref x), .val (.ref b)] [.null, (.int (Int32.ofNat cs.length)), (.int (0 : Int32)), (.ref b), (.ref x)]) := fun tg_ kk_ => S0 tg_ (by
    refine XS.aloadN X0.here hx rfl (hb hby d2_0) rfl rfl ?_
    show Steps p.tables e below (s₁.setTop (mkF m 1 #[.val (.ref x), .val (.ref b)] [(.ref x)])) _
    refine XS.aloadN X0.here hx rfl (hb hby d2_1) rfl rfl ?_
    show Steps p.tables e below (s₁.setTop (mkF m 2 #[.val (.ref x), .val (.ref b)] [(.ref b), (.ref x)])) _
    refine XS.iconst X0.here hx rfl (hb hby d2_2) ?_
    show Steps p.tables e below (s₁.setTop (mkF m 3 #[.val (.ref x), .val (.ref b)] [(.int (0 : Int32)), (.ref b), (.ref x)])) _
    refine XS.aloadN X0.here hx rfl (hb hby d2_3) rfl rfl ?_
    show Steps p.tables e below (s₁.setTop (mkF m 4 #[.val (.ref x), .val (.ref b)] [(.ref b), (.int (0 : Int32)), (.ref b), (.ref x)])) _
    refine X0.arraylength hx (cell := cl) (by rw [e0]; exact Ar.1) (State.isArrayOf_alike hZ.alike Ar.2.1) (g := (mkF m 4 #[.val (.ref x), .val (.ref b)] [(.ref b), (.int (0 : Int32)), (.ref b), (.ref x)])) rfl (rest := [(.int (0 : Int32)), (.ref b), (.ref x)]) rfl (hb hby d2_4) _ ?_
    rw [len_of Sz Mn]
    show Steps p.tables e below (s₁.setTop (mkF m 5 #[.val (.ref x), .val (.ref b)] [(.int (Int32.ofNat cs.length)), (.int (0 : Int32)), (.ref b), (.ref x)])) _
    refine XS.aconstNull X0.here hx rfl (hb hby d2_5) ?_
    exact kk_)
  obtain ⟨_, T78, h78, L78, X78, e78, hQ78, st78⟩ := own_callI X0 hx hZ (y := (⟨"java/lang/String", "<init>", "([CIILjava/lang/Void;)V"⟩ : MethodName)) rfl hown (hw _ (List.mem_of_getElem? (i := 11) rfl)) (hw _ (List.mem_of_getElem? (i := 12) rfl)) (hw _ (List.mem_of_getElem? (i := 7) rfl)) (hw _ (List.mem_of_getElem? (i := 14) rfl)) (by decide) 0 (g := (mkF m 6 #[.val (.ref x), .val (.ref b)] [.null, (.int (Int32.ofNat cs.length)), (.int (0 : Int32)), (.ref b), (.ref x)])) rfl (by rw [hml]; rfl) x [(.ref b), (.int (0 : Int32)), (.int (Int32.ofNat cs.length)), .null] [] (rm3 l Z a0 hw [] x b cs h0 n0 Z0 z kb hn Ex Fv Fc hx0 Vb O O2 P5 A16 hch) (lenOf pd4 rfl) rfl (by show 2 * 0 + _ ≤ _; exact Nat.le_of_eq rfl) (hb hby d2_6) (by decide) (by decide) e0 (by decide) (by decide)
  obtain ⟨rfl, N78, K78, t, ht, SS⟩ := hQ78
  have S79 : own_Go p e below s₁ G T78 (mkF m 9 #[.val (.ref x), .val (.ref b)] []) := fun tg_ kk_ => S77 tg_ (st78 tg_ kk_)
  have M1 := Fr.app N0 N78
  obtain ⟨fs, hr, hrun, hended, hW, hsame⟩ := X78.leave (v := none) (fun _ => rfl)
  refine ⟨_, _, ?_, hrun, hended, _, _, rfl, ?_, ⟨_, rfl⟩, hW, hsame.mono (by decide) (by decide)⟩
  · rw [← hG]; exact S79 _ (X78.returnOut hx Bd.returns (hb hby d2_9) hr)
  · show Q2 Z x b cs h0 n0 _ T78.heap _
    rw [e78]
    exact ⟨rfl, M1, K78, t, ht, SS⟩
def Q10 (Z : State) (x : Addr) (cd : Int32) (h0 : Heap) (n0 : Nat) (v : Option Value) (h : Heap) (L : List Loc) : Prop := v = some (.int cd) ∧ Fr n0 L ∧ h0 = h
set_option maxRecDepth 65536 in
set_option maxHeartbeats 40000000 in
theorem rm10 (l : Launch) (Z : State) (a0 : Array Value) (hw : ∀ d ∈ tables_1, d.before a0 Z = true) (ws : List Jvm.Cond) (x : Addr) (cd : Int32) (h0 : Heap) (n0 : Nat) (Z0 : n0 ≤ h0.size) (z : Int32) (O : Old Z n0 h0) (O2 : Sta Z Z.heap "java/lang/String" "COMPACT_STRINGS" "Z" (.int z)) (P5 : ¬ z = 0) (Fc : Fld Z h0 x "java/lang/String" "coder" "B" (.int cd)) (hcd : cd = 0 ∨ cd = 1) :
    MetFree l (⟨"java/lang/String", "coder", "()B"⟩ : MethodName) (head1 (Jvm.Cond.code (⟨"java/lang/String", "coder", "()B"⟩ : MethodName) jdk_42_method_152_code 1 (some .byte) :: ws) ({ frames := 0, cells := 0, slots := 0, locals := 0 } : Room)) (fun aa_ U => aa_ = #[(.ref x)] ∧ Z.Warmed39 U.vm ∧ U.heap = h0) (fun _ _ _ _ _ => True) (fun _ U o U' => ∃ v L, o = .returned v ∧ Q10 Z x cd h0 n0 v U'.heap L ∧ FrameEnd U o U' L ({ frames := 0, cells := 0, slots := 0, locals := 0 } : Room).cells ({ frames := 0, cells := 0, slots := 0, locals := 0 } : Room).slots) := by
  refine MetFree.of_bodySF (plainFor_of_name pn2) hisR ?_
  intro p e s m args below meth c s₁ Bd hml0 hP hK
  obtain ⟨rfl, hZ, hh⟩ := hP
  have hx := Bd.exec
  have hby := Bd.bytes
  have hml : c.maxLocals = 1 := hml0
  have hown : s.vm.findClass "java/lang/String" = some m.cls := findClass_of_methodNamed Bd.named
  have hnm := (name_of_methodNamed Bd.named Bd.method).1
  have X0 : Stand p l e ({ frames := 0, cells := 0, slots := 0, locals := 0 } : Room) s m #[(.ref x)] below meth c s₁ [] 0 0 := Stand.of_body Bd
  have e0 : s₁.heap = h0 := by rw [← hh, Bd.state]; rfl
  have N0 := Fr.nil n0
  obtain ⟨G, hG⟩ : ∃ G, G = entryFrame m #[(.ref x)] 1 := ⟨_, rfl⟩
  have S0 : own_Go p e below s₁ G s₁ (mkF m 0 #[.val (.ref x)] []) := fun tg_ kk_ => castTop (by rw [hG]; first | rfl | simp [entryFrame, mkF, argsToLocals, Value.category, maxLocals]) kk_
  obtain ⟨T80, X80, e80, st80⟩ := getS X0 hx hZ (host := "") hown (hw _ (List.mem_of_getElem? (i := 45) rfl)) Via.refl e0 (O2.ext O.2) (g := (mkF m 0 #[.val (.ref x)] [])) rfl (hb hby d10_0)
  have S81 : own_Go p e below s₁ G T80 (mkF m 3 #[.val (.ref x)] [(.int z)]) := fun tg_ kk_ => S0 tg_ (st80 tg_ kk_)
  have S82 : own_Go p e below s₁ G T80 (mkF m 7 #[.val (.ref x)] [(.ref x)]) := fun tg_ kk_ => S81 tg_ (by
    refine XS.ifNo X80.here hx rfl (hb hby d10_3) rfl (XT.i0_eq_f P5) ?_
    show Steps p.tables e below (T80.setTop (mkF m 6 #[.val (.ref x)] [])) _
    refine XS.aloadN X80.here hx rfl (hb hby d10_6) rfl rfl ?_
    exact kk_)
  obtain ⟨T83, X83, e83, st83⟩ := getF X80 hx hZ hown (host := "") (Or.inl (hw _ (List.mem_of_getElem? (i := 25) rfl))) Via.refl e80 Fc (g := (mkF m 7 #[.val (.ref x)] [(.ref x)])) rfl rfl (hb hby d10_7)
  have S84 : own_Go p e below s₁ G T83 (mkF m 10 #[.val (.ref x)] [(.int cd)]) := fun tg_ kk_ => S82 tg_ (st83 tg_ kk_)
  have S85 : own_Go p e below s₁ G T83 (mkF m 14 #[.val (.ref x)] [(.int cd)]) := fun tg_ kk_ => S84 tg_ (by
    refine XS.goto X83.here hx rfl (pc0 := 10) (pc' := 14) rfl (hb hby d10_10) (by decide) (by decide) ?_
    exact kk_)
  rcases hcd with rfl | rfl
  · have _ := N0
    obtain ⟨fs, hr, hrun, hended, hW, hsame⟩ := X83.leave (v := some (.int (0 : Int32))) (fun h => by rw [Bd.returns] at h; cases h)
    refine ⟨_, _, ?_, hrun, hended, _, _, rfl, ?_, ⟨_, rfl⟩, hW, hsame.mono (by decide) (by decide)⟩
    · rw [← hG]; exact S85 _ (retN X83 hx (t := .byte) Bd.returns (by simp) (hb hby d10_14) hr)
    · show Q10 Z x (0 : Int32) h0 n0 _ T83.heap _
      rw [e83]
      exact ⟨rfl, N0, rfl⟩
  · have _ := N0
    obtain ⟨fs, hr, hrun, hended, hW, hsame⟩ := X83.leave (v := some (.int (1 : Int32))) (fun h => by rw [Bd.returns] at h; cases h)
    refine ⟨_, _, ?_, hrun, hended, _, _, rfl, ?_, ⟨_, rfl⟩, hW, hsame.mono (by decide) (by decide)⟩
    · rw [← hG]; exact S85 _ (retN X83 hx (t := .byte) Bd.returns (by simp) (hb hby d10_14) hr)
    · show Q10 Z x (1 : Int32) h0 n0 _ T83.heap _
      rw [e83]
      exact ⟨rfl, N0, rfl⟩
def Q8 (Z : State) (x : Addr) (cd : Int32) (h0 : Heap) (n0 : Nat) (v : Option Value) (h : Heap) (L : List Loc) : Prop := v = some (.int (1 - cd)) ∧ Fr n0 L ∧ h0 = h
set_option maxRecDepth 65536 in
set_option maxHeartbeats 40000000 in
theorem rm8 (l : Launch) (Z : State) (a0 : Array Value) (hw : ∀ d ∈ tables_1, d.before a0 Z = true) (ws : List Jvm.Cond) (x : Addr) (cd : Int32) (h0 : Heap) (n0 : Nat) (Z0 : n0 ≤ h0.size) (z : Int32) (O : Old Z n0 h0) (O2 : Sta Z Z.heap "java/lang/String" "COMPACT_STRINGS" "Z" (.int z)) (P5 : ¬ z = 0) (Fc : Fld Z h0 x "java/lang/String" "coder" "B" (.int cd)) (hcd : cd = 0 ∨ cd = 1) :
    MetFree l (⟨"java/lang/String", "isLatin1", "()Z"⟩ : MethodName) (head1 (Jvm.Cond.code (⟨"java/lang/String", "isLatin1", "()Z"⟩ : MethodName) jdk_42_method_154_code 1 (some .boolean) :: ws) ({ frames := 0, cells := 0, slots := 0, locals := 0 } : Room)) (fun aa_ U => aa_ = #[(.ref x)] ∧ Z.Warmed39 U.vm ∧ U.heap = h0) (fun _ _ _ _ _ => True) (fun _ U o U' => ∃ v L, o = .returned v ∧ Q8 Z x cd h0 n0 v U'.heap L ∧ FrameEnd U o U' L ({ frames := 0, cells := 0, slots := 0, locals := 0 } : Room).cells ({ frames := 0, cells := 0, slots := 0, locals := 0 } : Room).slots) := by
  refine MetFree.of_bodySF (plainFor_of_name pn2) hisR ?_
  intro p e s m args below meth c s₁ Bd hml0 hP hK
  obtain ⟨rfl, hZ, hh⟩ := hP
  have hx := Bd.exec
  have hby := Bd.bytes
  have hml : c.maxLocals = 1 := hml0
  have hown : s.vm.findClass "java/lang/String" = some m.cls := findClass_of_methodNamed Bd.named
  have hnm := (name_of_methodNamed Bd.named Bd.method).1
  have X0 : Stand p l e ({ frames := 0, cells := 0, slots := 0, locals := 0 } : Room) s m #[(.ref x)] below meth c s₁ [] 0 0 := Stand.of_body Bd
  have e0 : s₁.heap = h0 := by rw [← hh, Bd.state]; rfl
  have N0 := Fr.nil n0
  obtain ⟨G, hG⟩ : ∃ G, G = entryFrame m #[(.ref x)] 1 := ⟨_, rfl⟩
  have S0 : own_Go p e below s₁ G s₁ (mkF m 0 #[.val (.ref x)] []) := fun tg_ kk_ => castTop (by rw [hG]; first | rfl | simp [entryFrame, mkF, argsToLocals, Value.category, maxLocals]) kk_
  obtain ⟨T86, X86, e86, st86⟩ := getS X0 hx hZ (host := "") hown (hw _ (List.mem_of_getElem? (i := 45) rfl)) Via.refl e0 (O2.ext O.2) (g := (mkF m 0 #[.val (.ref x)] [])) rfl (hb hby d8_0)
  have S87 : own_Go p e below s₁ G T86 (mkF m 3 #[.val (.ref x)] [(.int z)]) := fun tg_ kk_ => S0 tg_ (st86 tg_ kk_)
  have S88 : own_Go p e below s₁ G T86 (mkF m 7 #[.val (.ref x)] [(.ref x)]) := fun tg_ kk_ => S87 tg_ (by
    refine XS.ifNo X86.here hx rfl (hb hby d8_3) rfl (XT.i0_eq_f P5) ?_
    show Steps p.tables e below (T86.setTop (mkF m 6 #[.val (.ref x)] [])) _
    refine XS.aloadN X86.here hx rfl (hb hby d8_6) rfl rfl ?_
    exact kk_)
  obtain ⟨T89, X89, e89, st89⟩ := getF X86 hx hZ hown (host := "") (Or.inl (hw _ (List.mem_of_getElem? (i := 25) rfl))) Via.refl e86 Fc (g := (mkF m 7 #[.val (.ref x)] [(.ref x)])) rfl rfl (hb hby d8_7)
  have S90 : own_Go p e below s₁ G T89 (mkF m 10 #[.val (.ref x)] [(.int cd)]) := fun tg_ kk_ => S88 tg_ (st89 tg_ kk_)
  rcases hcd with rfl | rfl
  · have _ := N0
    have S91 : own_Go p e below s₁ G T89 (mkF m 18 #[.val (.ref x)] [(.int (1 : Int32))]) := fun tg_ kk_ => S90 tg_ (by
      refine XS.ifNo X89.here hx rfl (hb hby d8_10) rfl (XT.i0_ne_f (by decide)) ?_
      show Steps p.tables e below (T89.setTop (mkF m 13 #[.val (.ref x)] [])) _
      refine XS.iconst X89.here hx rfl (hb hby d8_13) ?_
      show Steps p.tables e below (T89.setTop (mkF m 14 #[.val (.ref x)] [(.int (1 : Int32))])) _
      refine XS.goto X89.here hx rfl (pc0 := 14) (pc' := 18) rfl (hb hby d8_14) (by decide) (by decide) ?_
      exact kk_)
    obtain ⟨fs, hr, hrun, hended, hW, hsame⟩ := X89.leave (v := some (.int (1 : Int32))) (fun h => by rw [Bd.returns] at h; cases h)
    refine ⟨_, _, ?_, hrun, hended, _, _, rfl, ?_, ⟨_, rfl⟩, hW, hsame.mono (by decide) (by decide)⟩
    · rw [← hG]; exact S91 _ (retN X89 hx (t := .boolean) Bd.returns (by simp) (hb hby d8_18) hr)
    · show Q8 Z x (0 : Int32) h0 n0 _ T89.heap _
      rw [e89]
      exact ⟨rfl, N0, rfl⟩
  · have _ := N0
    have S92 : own_Go p e below s₁ G T89 (mkF m 18 #[.val (.ref x)] [(.int (0 : Int32))]) := fun tg_ kk_ => S90 tg_ (by
      refine XS.ifYes X89.here hx rfl (pc0 := 10) (pc' := 17) rfl (hb hby d8_10) rfl (XT.i0_ne_t (by decide)) (by decide) (by decide) ?_
      show Steps p.tables e below (T89.setTop (mkF m 17 #[.val (.ref x)] [])) _
      refine XS.iconst X89.here hx rfl (hb hby d8_17) ?_
      exact kk_)
    obtain ⟨fs, hr, hrun, hended, hW, hsame⟩ := X89.leave (v := some (.int (0 : Int32))) (fun h => by rw [Bd.returns] at h; cases h)
    refine ⟨_, _, ?_, hrun, hended, _, _, rfl, ?_, ⟨_, rfl⟩, hW, hsame.mono (by decide) (by decide)⟩
    · rw [← hG]; exact S92 _ (retN X89 hx (t := .boolean) Bd.returns (by simp) (hb hby d8_18) hr)
    · show Q8 Z x (1 : Int32) h0 n0 _ T89.heap _
      rw [e89]
      exact ⟨rfl, N0, rfl⟩
def Q9 (Z : State) (x : Addr) (t : Addr) (cs : List Int32) (h0 : Heap) (n0 : Nat) (v : Option Value) (h : Heap) (L : List Loc) : Prop := v = some (.int (Int32.ofNat cs.length)) ∧ Fr n0 L ∧ h0 = h
set_option maxRecDepth 65536 in
set_option maxHeartbeats 40000000 in
theorem rm9 (l : Launch) (Z : State) (a0 : Array Value) (hw : ∀ d ∈ tables_1, d.before a0 Z = true) (ws : List Jvm.Cond) (x : Addr) (t : Addr) (cs : List Int32) (h0 : Heap) (n0 : Nat) (Z0 : n0 ≤ h0.size) (z : Int32) (O : Old Z n0 h0) (O2 : Sta Z Z.heap "java/lang/String" "COMPACT_STRINGS" "Z" (.int z)) (P5 : ¬ z = 0) (S : own_Str Z h0 x t cs) (hn : cs.length ≤ 1000) :
    MetFree l (⟨"java/lang/String", "length", "()I"⟩ : MethodName) (head1 (Jvm.Cond.code (⟨"java/lang/String", "length", "()I"⟩ : MethodName) jdk_42_method_54_code 1 (some .int) :: ws) ({ frames := 1, cells := 0, slots := 0, locals := 14 } : Room)) (fun aa_ U => aa_ = #[(.ref x)] ∧ Z.Warmed39 U.vm ∧ U.heap = h0) (fun _ _ _ _ _ => True) (fun _ U o U' => ∃ v L, o = .returned v ∧ Q9 Z x t cs h0 n0 v U'.heap L ∧ FrameEnd U o U' L ({ frames := 1, cells := 0, slots := 0, locals := 14 } : Room).cells ({ frames := 1, cells := 0, slots := 0, locals := 14 } : Room).slots) := by
  refine MetFree.of_bodySF (plainFor_of_name pn2) hisR ?_
  intro p e s m args below meth c s₁ Bd hml0 hP hK
  obtain ⟨rfl, hZ, hh⟩ := hP
  have hx := Bd.exec
  have hby := Bd.bytes
  have hml : c.maxLocals = 1 := hml0
  have hown : s.vm.findClass "java/lang/String" = some m.cls := findClass_of_methodNamed Bd.named
  have hnm := (name_of_methodNamed Bd.named Bd.method).1
  have X0 : Stand p l e ({ frames := 1, cells := 0, slots := 0, locals := 14 } : Room) s m #[(.ref x)] below meth c s₁ [] 0 0 := Stand.of_body Bd
  have e0 : s₁.heap = h0 := by rw [← hh, Bd.state]; rfl
  have N0 := Fr.nil n0
  obtain ⟨G, hG⟩ : ∃ G, G = entryFrame m #[(.ref x)] 1 := ⟨_, rfl⟩
  have S0 : own_Go p e below s₁ G s₁ (mkF m 0 #[.val (.ref x)] []) := fun tg_ kk_ => castTop (by rw [hG]; first | rfl | simp [entryFrame, mkF, argsToLocals, Value.category, maxLocals]) kk_
  rcases S.2.2 with ⟨Fc, ⟨kt, V⟩, -⟩ | ⟨Fc, ⟨kt, V⟩, -⟩
  · obtain ⟨cl, Ar, -, Sz, Mn, -, -⟩ := V
    have S93 : own_Go p e below s₁ G s₁ (mkF m 1 #[.val (.ref x)] [(.ref x)]) := fun tg_ kk_ => S0 tg_ (by
      refine XS.aloadN X0.here hx rfl (hb hby d9_0) rfl rfl ?_
      exact kk_)
    obtain ⟨T94, X94, e94, st94⟩ := getF X0 hx hZ hown (host := "") (Or.inl (hw _ (List.mem_of_getElem? (i := 24) rfl))) Via.refl e0 S.2.1 (g := (mkF m 1 #[.val (.ref x)] [(.ref x)])) rfl rfl (hb hby d9_1)
    have S95 : own_Go p e below s₁ G T94 (mkF m 4 #[.val (.ref x)] [(.ref t)]) := fun tg_ kk_ => S93 tg_ (st94 tg_ kk_)
    have S96 : own_Go p e below s₁ G T94 (mkF m 6 #[.val (.ref x)] [(.ref x), (.int (Int32.ofNat cs.length))]) := fun tg_ kk_ => S95 tg_ (by
      refine X94.arraylength hx (cell := cl) (by rw [e94]; exact Ar.1) (State.isArrayOf_alike hZ.alike Ar.2.1) (g := (mkF m 4 #[.val (.ref x)] [(.ref t)])) rfl (rest := []) rfl (hb hby d9_4) _ ?_
      rw [len_of Sz Mn]
      show Steps p.tables e below (T94.setTop (mkF m 5 #[.val (.ref x)] [(.int (Int32.ofNat cs.length))])) _
      refine XS.aloadN X94.here hx rfl (hb hby d9_5) rfl rfl ?_
      exact kk_)
    obtain ⟨_, T97, h97, L97, X97, e97, hQ97, st97⟩ := own_callV X94 hx hZ (y := (⟨"java/lang/String", "coder", "()B"⟩ : MethodName)) hown (hw _ (List.mem_of_getElem? (i := 51) rfl)) (hw _ (List.mem_of_getElem? (i := 52) rfl)) (hw _ (List.mem_of_getElem? (i := 54) rfl)) (hw _ (List.mem_of_getElem? (i := 53) rfl)) (hw _ (List.mem_of_getElem? (i := 7) rfl)) (hw _ (List.mem_of_getElem? (i := 55) rfl)) (by decide) 1 (g := (mkF m 6 #[.val (.ref x)] [(.ref x), (.int (Int32.ofNat cs.length))])) rfl (by rw [hml]; rfl) x S.1 [] [(.int (Int32.ofNat cs.length))] (rm10 l Z a0 hw [] x (0 : Int32) h0 n0 Z0 z O O2 P5 Fc (Or.inl rfl)) (lenOf pd11 rfl) rfl (by show 2 * 0 + _ ≤ _; exact Nat.le_of_eq rfl) (hb hby d9_6) (by decide) (by decide) e94 (by decide) (by decide)
    obtain ⟨rfl, N97, rfl⟩ := hQ97
    have S98 : own_Go p e below s₁ G T97 (mkF m 9 #[.val (.ref x)] [(.int (0 : Int32)), (.int (Int32.ofNat cs.length))]) := fun tg_ kk_ => S96 tg_ (st97 tg_ kk_)
    have M1 := Fr.app N0 N97
    have S99 : own_Go p e below s₁ G T97 (mkF m 10 #[.val (.ref x)] [(.int ((Int32.ofNat cs.length) >>> ((0 : Int32) &&& 31)))]) := fun tg_ kk_ => S98 tg_ (by
      refine XT.ishr X97.here hx rfl (hb hby d9_9) rfl ?_
      exact kk_)
    rw [own_shr0] at S99
    obtain ⟨fs, hr, hrun, hended, hW, hsame⟩ := X97.leave (v := some (.int (Int32.ofNat cs.length))) (fun h => by rw [Bd.returns] at h; cases h)
    refine ⟨_, _, ?_, hrun, hended, _, _, rfl, ?_, ⟨_, rfl⟩, hW, hsame.mono (by decide) (by decide)⟩
    · rw [← hG]; exact S99 _ (retI X97 hx Bd.returns (hb hby d9_10) hr)
    · show Q9 Z x t cs h0 n0 _ T97.heap _
      rw [e97]
      exact ⟨rfl, M1, rfl⟩
  · obtain ⟨cl, Ar, -, Sz, Mn, -, -⟩ := V
    have S100 : own_Go p e below s₁ G s₁ (mkF m 1 #[.val (.ref x)] [(.ref x)]) := fun tg_ kk_ => S0 tg_ (by
      refine XS.aloadN X0.here hx rfl (hb hby d9_0) rfl rfl ?_
      exact kk_)
    obtain ⟨T101, X101, e101, st101⟩ := getF X0 hx hZ hown (host := "") (Or.inl (hw _ (List.mem_of_getElem? (i := 24) rfl))) Via.refl e0 S.2.1 (g := (mkF m 1 #[.val (.ref x)] [(.ref x)])) rfl rfl (hb hby d9_1)
    have S102 : own_Go p e below s₁ G T101 (mkF m 4 #[.val (.ref x)] [(.ref t)]) := fun tg_ kk_ => S100 tg_ (st101 tg_ kk_)
    have S103 : own_Go p e below s₁ G T101 (mkF m 6 #[.val (.ref x)] [(.ref x), (.int (Int32.ofNat (2 * cs.length)))]) := fun tg_ kk_ => S102 tg_ (by
      refine X101.arraylength hx (cell := cl) (by rw [e101]; exact Ar.1) (State.isArrayOf_alike hZ.alike Ar.2.1) (g := (mkF m 4 #[.val (.ref x)] [(.ref t)])) rfl (rest := []) rfl (hb hby d9_4) _ ?_
      rw [len_of Sz Mn]
      show Steps p.tables e below (T101.setTop (mkF m 5 #[.val (.ref x)] [(.int (Int32.ofNat (2 * cs.length)))])) _
      refine XS.aloadN X101.here hx rfl (hb hby d9_5) rfl rfl ?_
      exact kk_)
    obtain ⟨_, T104, h104, L104, X104, e104, hQ104, st104⟩ := own_callV X101 hx hZ (y := (⟨"java/lang/String", "coder", "()B"⟩ : MethodName)) hown (hw _ (List.mem_of_getElem? (i := 51) rfl)) (hw _ (List.mem_of_getElem? (i := 52) rfl)) (hw _ (List.mem_of_getElem? (i := 54) rfl)) (hw _ (List.mem_of_getElem? (i := 53) rfl)) (hw _ (List.mem_of_getElem? (i := 7) rfl)) (hw _ (List.mem_of_getElem? (i := 55) rfl)) (by decide) 1 (g := (mkF m 6 #[.val (.ref x)] [(.ref x), (.int (Int32.ofNat (2 * cs.length)))])) rfl (by rw [hml]; rfl) x S.1 [] [(.int (Int32.ofNat (2 * cs.length)))] (rm10 l Z a0 hw [] x (1 : Int32) h0 n0 Z0 z O O2 P5 Fc (Or.inr rfl)) (lenOf pd11 rfl) rfl (by show 2 * 0 + _ ≤ _; exact Nat.le_of_eq rfl) (hb hby d9_6) (by decide) (by decide) e101 (by decide) (by decide)
    obtain ⟨rfl, N104, rfl⟩ := hQ104
    have S105 : own_Go p e below s₁ G T104 (mkF m 9 #[.val (.ref x)] [(.int (1 : Int32)), (.int (Int32.ofNat (2 * cs.length)))]) := fun tg_ kk_ => S103 tg_ (st104 tg_ kk_)
    have M1 := Fr.app N0 N104
    have S106 : own_Go p e below s₁ G T104 (mkF m 10 #[.val (.ref x)] [(.int ((Int32.ofNat (2 * cs.length)) >>> ((1 : Int32) &&& 31)))]) := fun tg_ kk_ => S105 tg_ (by
      refine XT.ishr X104.here hx rfl (hb hby d9_9) rfl ?_
      exact kk_)
    rw [own_shr1 (by omega)] at S106
    obtain ⟨fs, hr, hrun, hended, hW, hsame⟩ := X104.leave (v := some (.int (Int32.ofNat cs.length))) (fun h => by rw [Bd.returns] at h; cases h)
    refine ⟨_, _, ?_, hrun, hended, _, _, rfl, ?_, ⟨_, rfl⟩, hW, hsame.mono (by decide) (by decide)⟩
    · rw [← hG]; exact S106 _ (retI X104 hx Bd.returns (hb hby d9_10) hr)
    · show Q9 Z x t cs h0 n0 _ T104.heap _
      rw [e104]
      exact ⟨rfl, M1, rfl⟩
/-- the constants whose text is held -/
def own_EL : List (String × Nat) := [("java/lang/String", 7)]
theorem own_wS0 {Z : State} {a0 : Array Value} (hw : ∀ d ∈ tables_1, d.before a0 Z = true) : ∀ a ∈ Bundle.stringAtoms, a.before a0 Z = true := by
  intro a ha
  have h : ∀ a ∈ Bundle.stringAtoms, a ∈ tables_1 := by decide +kernel
  exact hw a (h a ha)
theorem own_EW {Z : State} {a0 : Array Value} (hw : ∀ d ∈ tables_1, d.before a0 Z = true) : EW Z a0 own_EL := EW.cons (hw _ (List.mem_of_getElem? (i := 18) rfl)) (by decide) EW.nil
def Q3e (Z : State) (x : Addr) (b : Addr) (h0 : Heap) (n0 : Nat) (v : Option Value) (h : Heap) (L : List Loc) : Prop := v = none ∧ Fr n0 L ∧ Keep h0 h [x] ∧ ∃ t, own_Str Z h x t []
set_option maxRecDepth 65536 in
set_option maxHeartbeats 40000000 in
theorem rm3e (l : Launch) (Z : State) (a0 : Array Value) (hw : ∀ d ∈ tables_1, d.before a0 Z = true) (ws : List Jvm.Cond) (x : Addr) (b : Addr) (h0 : Heap) (n0 : Nat) (Z0 : n0 ≤ h0.size) (Ex : Exa Z h0 x "java/lang/String") (Fv : Fld Z h0 x "java/lang/String" "value" "[B" .null) (Fc : Fld Z h0 x "java/lang/String" "coder" "B" (.int 0)) (hx0 : n0 ≤ x) :
    MetFree l (⟨"java/lang/String", "<init>", "([CIILjava/lang/Void;)V"⟩ : MethodName) (head1 (Jvm.Cond.code (⟨"java/lang/String", "<init>", "([CIILjava/lang/Void;)V"⟩ : MethodName) jdk_42_method_149_code 6 none :: ws) ({ frames := 1, cells := 2, slots := 4, locals := 18 } : Room)) (fun aa_ U => aa_ = #[(.ref x), (.ref b), (.int (0 : Int32)), (.int (0 : Int32)), .null] ∧ Z.Warmed39 U.vm ∧ U.heap = h0 ∧ CHv Z own_EL U.vm h0) (fun _ _ _ _ _ => True) (fun _ U o U' => ∃ v L, o = .returned v ∧ Q3e Z x b h0 n0 v U'.heap L ∧ ReturnedEndW U o U' L ({ frames := 1, cells := 2, slots := 4, locals := 18 } : Room).cells ({ frames := 1, cells := 2, slots := 4, locals := 18 } : Room).slots) := by
  refine MetFree.of_bodySF (plainFor_of_name pn2) hisR ?_
  intro p e s m args below meth c s₁ Bd hml0 hP hK
  obtain ⟨rfl, hZ, hh, hCH⟩ := hP
  have hx := Bd.exec
  have hby := Bd.bytes
  have hml : c.maxLocals = 6 := hml0
  have hown : s.vm.findClass "java/lang/String" = some m.cls := findClass_of_methodNamed Bd.named
  have hnm := (name_of_methodNamed Bd.named Bd.method).1
  have X0 : Stand p l e ({ frames := 1, cells := 2, slots := 4, locals := 18 } : Room) s m #[(.ref x), (.ref b), (.int (0 : Int32)), (.int (0 : Int32)), .null] below meth c s₁ [] 0 0 := Stand.of_body Bd
  have e0 : s₁.heap = h0 := by rw [← hh, Bd.state]; rfl
  have N0 := Fr.nil n0
  obtain ⟨G, hG⟩ : ∃ G, G = entryFrame m #[(.ref x), (.ref b), (.int (0 : Int32)), (.int (0 : Int32)), .null] 6 := ⟨_, rfl⟩
  have S0 : own_Go p e below s₁ G s₁ (mkF m 0 #[.val (.ref x), .val (.ref b), .val (.int (0 : Int32)), .val (.int (0 : Int32)), .val .null, .unset] []) := fun tg_ kk_ => castTop (by rw [hG]; first | rfl | simp [entryFrame, mkF, argsToLocals, Value.category, maxLocals]) kk_
  have S107 : own_Go p e below s₁ G s₁ (mkF m 1 #[.val (.ref x), .val (.ref b), .val (.int (0 : Int32)), .val (.int (0 : Int32)), .val .null, .unset] [(.ref x)]) := fun tg_ kk_ => S0 tg_ (by
    refine XS.aloadN X0.here hx rfl (hb hby d3_0) rfl rfl ?_
    exact kk_)
  obtain ⟨T108, X108, e108, st108⟩ := initO X0 hx hZ hown (hw _ (List.mem_of_getElem? (i := 15) rfl)) (hw _ (List.mem_of_getElem? (i := 16) rfl)) (hw _ (List.mem_of_getElem? (i := 17) rfl)) e0 (g := (mkF m 1 #[.val (.ref x), .val (.ref b), .val (.int (0 : Int32)), .val (.int (0 : Int32)), .val .null, .unset] [(.ref x)])) rfl (by rw [hml]; rfl) rfl (hb hby d3_1) (by decide) (W := 0) (by show 2 * 0 + _ ≤ _; exact Nat.le_of_eq rfl) (by decide)
  have S109 : own_Go p e below s₁ G T108 (mkF m 4 #[.val (.ref x), .val (.ref b), .val (.int (0 : Int32)), .val (.int (0 : Int32)), .val .null, .unset] []) := fun tg_ kk_ => S107 tg_ (st108 tg_ kk_)
  have S110 : own_Go p e below s₁ G T108 (mkF m 9 #[.val (.ref x), .val (.ref b), .val (.int (0 : Int32)), .val (.int (0 : Int32)), .val .null, .unset] [(.ref x)]) := fun tg_ kk_ => S109 tg_ (by
    refine XS.iloadN X108.here hx rfl (hb hby d3_4) rfl ?_
    show Steps p.tables e below (T108.setTop (mkF m 5 #[.val (.ref x), .val (.ref b), .val (.int (0 : Int32)), .val (.int (0 : Int32)), .val .null, .unset] [(.int (0 : Int32))])) _
    refine XS.ifNo X108.here hx rfl (hb hby d3_5) rfl (XT.i0_ne_f (by decide)) ?_
    show Steps p.tables e below (T108.setTop (mkF m 8 #[.val (.ref x), .val (.ref b), .val (.int (0 : Int32)), .val (.int (0 : Int32)), .val .null, .unset] [])) _
    refine XS.aloadN X108.here hx rfl (hb hby d3_8) rfl rfl ?_
    exact kk_)
  have XW : Stand p l e ({ frames := 1, cells := 2, slots := 4, locals := 18 } : Room) (s.setVm s.vm) m #[(.ref x), (.ref b), (.int (0 : Int32)), (.int (0 : Int32)), .null] below meth c T108 _ _ _ := X108
  obtain ⟨q, TL, hL, kL, t, kt, XL, eL, EL, hSL, hkL, hZL, hownL, Eq, Fqc, Fqv, Vq, hq1, hq2, -, LT, -, stL⟩ := ldcCH (vs := []) (z := (0 : Int32)) XW hx hZ hown (hw _ (List.mem_of_getElem? (i := 18) rfl)) (own_wS0 hw) e108 ((State.WarmedH.refl s).since 0) (Nat.zero_le _) (own_EW hw) (List.mem_of_getElem? (i := 0) rfl) hCH ⟨by decide, rfl⟩ (by decide) rfl (g := (mkF m 9 #[.val (.ref x), .val (.ref b), .val (.int (0 : Int32)), .val (.int (0 : Int32)), .val .null, .unset] [(.ref x)])) rfl (hb hby d3_9) (n := 0) (by decide) (by decide) (by decide) (by decide)
  have S111 : own_Go p e below s₁ G TL (mkF m 11 #[.val (.ref x), .val (.ref b), .val (.int (0 : Int32)), .val (.int (0 : Int32)), .val .null, .unset] [(.ref q), (.ref x)]) := fun tg_ kk_ => S110 tg_ (stL tg_ kk_)
  obtain ⟨T112, X112, e112, st112⟩ := getF XL hx hZL hownL (host := "") (Or.inl (hw _ (List.mem_of_getElem? (i := 24) rfl))) Via.refl eL Fqv (g := (mkF m 11 #[.val (.ref x), .val (.ref b), .val (.int (0 : Int32)), .val (.int (0 : Int32)), .val .null, .unset] [(.ref q), (.ref x)])) rfl rfl (hb hby d3_11)
  have S113 : own_Go p e below s₁ G T112 (mkF m 14 #[.val (.ref x), .val (.ref b), .val (.int (0 : Int32)), .val (.int (0 : Int32)), .val .null, .unset] [(.ref t), (.ref x)]) := fun tg_ kk_ => S111 tg_ (st112 tg_ kk_)
  have Fv1 := Fv.ext EL
  have hxq : x ≠ q := Fld.ne Fv1 Fqv (by simp)
  have Ex1 := Ex.ext EL
  obtain ⟨T114, h114, X114, e114, W114, st114⟩ := putF X112 hx hZL hownL (host := "") (Or.inl (hw _ (List.mem_of_getElem? (i := 24) rfl))) Via.refl e112 Fv1 Ex1 (Or.inr ⟨(hw _ (List.mem_of_getElem? (i := 20) rfl)), rfl, hnm⟩) (hw _ (List.mem_of_getElem? (i := 6) rfl)) (ty := (.array .byte)) (by decide) rfl rfl (g := (mkF m 14 #[.val (.ref x), .val (.ref b), .val (.int (0 : Int32)), .val (.int (0 : Int32)), .val .null, .unset] [(.ref t), (.ref x)])) rfl rfl (hb hby d3_14)
  have S115 : own_Go p e below s₁ G T114 (mkF m 17 #[.val (.ref x), .val (.ref b), .val (.int (0 : Int32)), .val (.int (0 : Int32)), .val .null, .unset] []) := fun tg_ kk_ => S113 tg_ (st114 tg_ kk_)
  have Fv2 := Fv1.same W114
  have Fc2 := (Fc.ext EL).other W114 (Or.inr (slot_ne (C := "java/lang/String") (a0 := a0) (Or.inr (hw _ (List.mem_of_getElem? (i := 21) rfl))) (Or.inr (hw _ (List.mem_of_getElem? (i := 20) rfl))) (by decide) (t := .byte) (by decide) (t' := .array .byte) (by decide)))
  have Fq2 := Fqc.other W114 (Or.inl hxq.symm)
  have htx : t ≠ x := (Exa.neArv Ex1 Vq (hw _ (List.mem_of_getElem? (i := 6) rfl))).symm
  have Vt2 := Vq.other W114 htx
  have M1 := Fr.snoc X114 N0 hx0
  have K1 : Keep h0 h114 [x] := ((Keep.refl h0 [x]).ext EL).wr W114 (Or.inl (List.mem_of_getElem? (i := 0) rfl))
  have hk1 : kL ≤ h114.size := by rw [W114.size]; exact hkL
  have S116 : own_Go p e below s₁ G T114 (mkF m 18 #[.val (.ref x), .val (.ref b), .val (.int (0 : Int32)), .val (.int (0 : Int32)), .val .null, .unset] [(.ref x)]) := fun tg_ kk_ => S115 tg_ (by
    refine XS.aloadN X114.here hx rfl (hb hby d3_17) rfl rfl ?_
    exact kk_)
  have st117 := ldcAgain X114 hx hZL hownL (hw _ (List.mem_of_getElem? (i := 18) rfl)) LT (g := (mkF m 18 #[.val (.ref x), .val (.ref b), .val (.int (0 : Int32)), .val (.int (0 : Int32)), .val .null, .unset] [(.ref x)])) rfl (hb hby d3_18)
  have S118 : own_Go p e below s₁ G T114 (mkF m 20 #[.val (.ref x), .val (.ref b), .val (.int (0 : Int32)), .val (.int (0 : Int32)), .val .null, .unset] [(.ref q), (.ref x)]) := fun tg_ kk_ => S116 tg_ (st117 tg_ kk_)
  obtain ⟨T119, X119, e119, st119⟩ := getF X114 hx hZL hownL (host := "") (Or.inl (hw _ (List.mem_of_getElem? (i := 25) rfl))) Via.refl e114 Fq2 (g := (mkF m 20 #[.val (.ref x), .val (.ref b), .val (.int (0 : Int32)), .val (.int (0 : Int32)), .val .null, .unset] [(.ref q), (.ref x)])) rfl rfl (hb hby d3_20)
  have S120 : own_Go p e below s₁ G T119 (mkF m 23 #[.val (.ref x), .val (.ref b), .val (.int (0 : Int32)), .val (.int (0 : Int32)), .val .null, .unset] [(.int (0 : Int32)), (.ref x)]) := fun tg_ kk_ => S118 tg_ (st119 tg_ kk_)
  obtain ⟨T121, h121, X121, e121, W121, st121⟩ := putF X119 hx hZL hownL (host := "") (Or.inl (hw _ (List.mem_of_getElem? (i := 25) rfl))) Via.refl e119 Fc2 (Ex1.wr W114) (Or.inr ⟨(hw _ (List.mem_of_getElem? (i := 21) rfl)), rfl, hnm⟩) (hw _ (List.mem_of_getElem? (i := 6) rfl)) (ty := .byte) (by decide) rfl rfl (g := (mkF m 23 #[.val (.ref x), .val (.ref b), .val (.int (0 : Int32)), .val (.int (0 : Int32)), .val .null, .unset] [(.int (0 : Int32)), (.ref x)])) rfl rfl (hb hby d3_23)
  have S122 : own_Go p e below s₁ G T121 (mkF m 26 #[.val (.ref x), .val (.ref b), .val (.int (0 : Int32)), .val (.int (0 : Int32)), .val .null, .unset] []) := fun tg_ kk_ => S120 tg_ (st121 tg_ kk_)
  have M2 := Fr.snoc X121 M1 hx0
  have K2 : Keep h0 h121 [x] := K1.wr W121 (Or.inl (List.mem_of_getElem? (i := 0) rfl))
  have hk2 : kL ≤ h121.size := by rw [W121.size]; exact hk1
  have SS : own_Str Z h121 x t [] := ⟨(Ex1.wr W114).wr W121, Fv2.other W121 (Or.inr (slot_ne (C := "java/lang/String") (a0 := a0) (Or.inr (hw _ (List.mem_of_getElem? (i := 20) rfl))) (Or.inr (hw _ (List.mem_of_getElem? (i := 21) rfl))) (by decide) (t := .array .byte) (by decide) (t' := .byte) (by decide))), Or.inl ⟨Fc2.same W121, ⟨kt, Vt2.other W121 htx⟩, fun j hj => absurd hj (Nat.not_lt_zero j)⟩⟩
  obtain ⟨fs, hr, hrun, hended, hend⟩ := X121.leaveW hSL (by rw [e121]; exact hk2) (v := none) (fun _ => rfl)
  refine ⟨_, _, ?_, hrun, hended, _, _, rfl, ?_, hend.1, hend.2.1, hend.2.2.1, hend.2.2.2.mono (by decide) (by decide)⟩
  · rw [← hG]; exact S122 _ (X121.returnOut hx Bd.returns (hb hby d3_26) hr)
  · show Q3e Z x b h0 n0 _ T121.heap _
    rw [e121]
    exact ⟨rfl, M2, K2, t, SS⟩
def Q2e (Z : State) (x : Addr) (b : Addr) (h0 : Heap) (n0 : Nat) (v : Option Value) (h : Heap) (L : List Loc) : Prop := v = none ∧ Fr n0 L ∧ Keep h0 h [x] ∧ ∃ t, own_Str Z h x t []
set_option maxRecDepth 65536 in
set_option maxHeartbeats 40000000 in
theorem rm2e (l : Launch) (Z : State) (a0 : Array Value) (hw : ∀ d ∈ tables_1, d.before a0 Z = true) (ws : List Jvm.Cond) (x : Addr) (b : Addr) (h0 : Heap) (n0 : Nat) (Z0 : n0 ≤ h0.size) (kb : ClassId) (Vb : Arv Z h0 b kb .char (0 : Int32) [] (.int 0)) (Ex : Exa Z h0 x "java/lang/String") (Fv : Fld Z h0 x "java/lang/String" "value" "[B" .null) (Fc : Fld Z h0 x "java/lang/String" "coder" "B" (.int 0)) (hx0 : n0 ≤ x) :
    MetFree l (⟨"java/lang/String", "<init>", "([C)V"⟩ : MethodName) (head1 (Jvm.Cond.code (⟨"java/lang/String", "<init>", "([C)V"⟩ : MethodName) jdk_42_method_3_code 2 none :: ws) ({ frames := 2, cells := 2, slots := 4, locals := 35 } : Room)) (fun aa_ U => aa_ = #[(.ref x), (.ref b)] ∧ Z.Warmed39 U.vm ∧ U.heap = h0 ∧ CHv Z own_EL U.vm h0) (fun _ _ _ _ _ => True) (fun _ U o U' => ∃ v L, o = .returned v ∧ Q2e Z x b h0 n0 v U'.heap L ∧ ReturnedEndW U o U' L ({ frames := 2, cells := 2, slots := 4, locals := 35 } : Room).cells ({ frames := 2, cells := 2, slots := 4, locals := 35 } : Room).slots) := by
  refine MetFree.of_bodySF (plainFor_of_name pn2) hisR ?_
  intro p e s m args below meth c s₁ Bd hml0 hP hK
  obtain ⟨rfl, hZ, hh, hCH⟩ := hP
  have hx := Bd.exec
  have hby := Bd.bytes
  have hml : c.maxLocals = 2 := hml0
  have hown : s.vm.findClass "java/lang/String" = some m.cls := findClass_of_methodNamed Bd.named
  have hnm := (name_of_methodNamed Bd.named Bd.method).1
  have X0 : Stand p l e ({ frames := 2, cells := 2, slots := 4, locals := 35 } : Room) s m #[(.ref x), (.ref b)] below meth c s₁ [] 0 0 := Stand.of_body Bd
  have e0 : s₁.heap = h0 := by rw [← hh, Bd.state]; rfl
  have N0 := Fr.nil n0
  obtain ⟨G, hG⟩ : ∃ G, G = entryFrame m #[(.ref x), (.ref b)] 2 := ⟨_, rfl⟩
  have S0 : own_Go p e below s₁ G s₁ (mkF m 0 #[.val (.ref x), .val (.ref b)] []) := fun tg_ kk_ => castTop (by rw [hG]; first | rfl | simp [entryFrame, mkF, argsToLocals, Value.category, maxLocals]) kk_
  obtain ⟨cl, Ar, -, Sz, Mn, H, -⟩ := id Vb
  have S123 : own_Go p e below s₁ G s₁ (mkF m 6 #[.val (.ref x), .val (.ref b)] [.null, (.int (0 : Int32)), (.int (0 : Int32)), (.ref b), (.ref x)]) := fun tg_ kk_ => S0 tg_ (by
    refine XS.aloadN X0.here hx rfl (hb hby d2_0) rfl rfl ?_
    show Steps p.tables e below (s₁.setTop (mkF m 1 #[.val (.ref x), .val (.ref b)] [(.ref x)])) _
    refine XS.aloadN X0.here hx rfl (hb hby d2_1) rfl rfl ?_
    show Steps p.tables e below (s₁.setTop (mkF m 2 #[.val (.ref x), .val (.ref b)] [(.ref b), (.ref x)])) _
    refine XS.iconst X0.here hx rfl (hb hby d2_2) ?_
    show Steps p.tables e below (s₁.setTop (mkF m 3 #[.val (.ref x), .val (.ref b)] [(.int (0 : Int32)), (.ref b), (.ref x)])) _
    refine XS.aloadN X0.here hx rfl (hb hby d2_3) rfl rfl ?_
    show Steps p.tables e below (s₁.setTop (mkF m 4 #[.val (.ref x), .val (.ref b)] [(.ref b), (.int (0 : Int32)), (.ref b), (.ref x)])) _
    refine X0.arraylength hx (cell := cl) (by rw [e0]; exact Ar.1) (State.isArrayOf_alike hZ.alike Ar.2.1) (g := (mkF m 4 #[.val (.ref x), .val (.ref b)] [(.ref b), (.int (0 : Int32)), (.ref b), (.ref x)])) rfl (rest := [(.int (0 : Int32)), (.ref b), (.ref x)]) rfl (hb hby d2_4) _ ?_
    rw [len_of Sz Mn]
    show Steps p.tables e below (s₁.setTop (mkF m 5 #[.val (.ref x), .val (.ref b)] [(.int (0 : Int32)), (.int (0 : Int32)), (.ref b), (.ref x)])) _
    refine XS.aconstNull X0.here hx rfl (hb hby d2_5) ?_
    exact kk_)
  have XW : Stand p l e ({ frames := 2, cells := 2, slots := 4, locals := 35 } : Room) (s.setVm s.vm) m #[(.ref x), (.ref b)] below meth c s₁ _ _ _ := X0
  have hSW := (State.WarmedH.refl s).since 0
  have hEL := own_EW hw
  obtain ⟨_, T124, h124, L124, X124, e124, hS124, hZ124, hown124, hQ124, st124⟩ := own_callISH XW hx hZ (y := (⟨"java/lang/String", "<init>", "([CIILjava/lang/Void;)V"⟩ : MethodName)) rfl hown (hw _ (List.mem_of_getElem? (i := 11) rfl)) (hw _ (List.mem_of_getElem? (i := 12) rfl)) (hw _ (List.mem_of_getElem? (i := 7) rfl)) (hw _ (List.mem_of_getElem? (i := 14) rfl)) (by decide) 0 (g := (mkF m 6 #[.val (.ref x), .val (.ref b)] [.null, (.int (0 : Int32)), (.int (0 : Int32)), (.ref b), (.ref x)])) rfl (by rw [hml]; rfl) x [(.ref b), (.int (0 : Int32)), (.int (0 : Int32)), .null] [] (rm3e l Z a0 hw [] x b h0 n0 Z0 Ex Fv Fc hx0) (lenOf pd4 rfl) rfl (by show 2 * 0 + _ ≤ _; exact Nat.le_of_eq rfl) (hb hby d2_6) (by decide) (by decide) e0 (by decide) (by decide) hSW (Nat.zero_le _) hEL hCH
  obtain ⟨rfl, N124, K124, t, SS⟩ := hQ124
  have S125 : own_Go p e below s₁ G T124 (mkF m 9 #[.val (.ref x), .val (.ref b)] []) := fun tg_ kk_ => S123 tg_ (st124 tg_ kk_)
  have M1 := Fr.app N0 N124
  obtain ⟨fs, hr, hrun, hended, hend⟩ := X124.leaveW hS124 (by rw [e124]; exact (Nat.le_refl _)) (v := none) (fun _ => rfl)
  refine ⟨_, _, ?_, hrun, hended, _, _, rfl, ?_, hend.1, hend.2.1, hend.2.2.1, hend.2.2.2.mono (by decide) (by decide)⟩
  · rw [← hG]; exact S125 _ (X124.returnOut hx Bd.returns (hb hby d2_9) hr)
  · show Q2e Z x b h0 n0 _ T124.heap _
    rw [e124]
    exact ⟨rfl, M1, K124, t, SS⟩
theorem own_ch_nar (x : Int32) : own_Ch (nar .char x) := by
  have h := c_i2c x
  have e : (nar .char x).toInt = (x.toUInt32.toUInt16.toUInt32.toInt32).toInt := rfl
  have e1 : (0 : Int32).toInt = 0 := rfl
  have e2 : (65535 : Int32).toInt = 65535 := rfl
  constructor <;> (rw [Int32.lt_iff_toInt_lt]; omega)
def own_bad (c : Int32) : Bool := decide (c = 13) || decide (c = 10) || decide (c = 0)
theorem own_le32 {i n : Nat} (h : i ≤ n) (hn : n < 2 ^ 31) : ¬ Int32.ofNat n < Int32.ofNat i := by
  rw [Int32.lt_iff_toInt_lt, Int32.toInt_ofNat_of_lt hn, Int32.toInt_ofNat_of_lt (by omega)]; omega
theorem own_lo_inj {a b : Int32} (ha : own_Ch a) (ha2 : ¬ (255 : Int32) < a) (hb : own_Ch b) (hb2 : ¬ (255 : Int32) < b) (h : own_lo a = own_lo b) : a = b := by
  rw [← own_lo_mask ha.1 ha2, ← own_lo_mask hb.1 hb2, h]
theorem pn3 : plainName "com/example/caddis/caddis/ManifestWriterCanHoldPinLaw" = true := by first | (simp [plainName, overriddenIn]; done) | decide +kernel
def Q1 (Z : State) (x : Int32) (h0 : Heap) (n0 : Nat) (v : Option Value) (h : Heap) (L : List Loc) : Prop := ∃ c, own_Ch c ∧ v = some (.int c) ∧ Fr n0 L ∧ h0 = h
set_option maxRecDepth 65536 in
set_option maxHeartbeats 40000000 in
theorem rm1 (l : Launch) (Z : State) (a0 : Array Value) (hw : ∀ d ∈ tables_1, d.before a0 Z = true) (ws : List Jvm.Cond) (x : Int32) (h0 : Heap) (n0 : Nat) (Z0 : n0 ≤ h0.size)  :
    MetFree l (⟨"com/example/caddis/caddis/ManifestWriterCanHoldPinLaw", "draw", "(I)C"⟩ : MethodName) (head1 (Jvm.Cond.code (⟨"com/example/caddis/caddis/ManifestWriterCanHoldPinLaw", "draw", "(I)C"⟩ : MethodName) method_2_code 2 (some .char) :: ws) ({ frames := 0, cells := 0, slots := 0, locals := 0 } : Room)) (fun aa_ U => aa_ = #[(.int x)] ∧ Z.Warmed39 U.vm ∧ U.heap = h0) (fun _ _ _ _ _ => True) (fun _ U o U' => ∃ v L, o = .returned v ∧ Q1 Z x h0 n0 v U'.heap L ∧ FrameEnd U o U' L ({ frames := 0, cells := 0, slots := 0, locals := 0 } : Room).cells ({ frames := 0, cells := 0, slots := 0, locals := 0 } : Room).slots) := by
  refine MetFree.of_bodySF (plainFor_of_name pn3) hisR ?_
  intro p e s m args below meth c s₁ Bd hml0 hP hK
  obtain ⟨rfl, hZ, hh⟩ := hP
  have hx := Bd.exec
  have hby := Bd.bytes
  have hml : c.maxLocals = 2 := hml0
  have hown : s.vm.findClass "com/example/caddis/caddis/ManifestWriterCanHoldPinLaw" = some m.cls := findClass_of_methodNamed Bd.named
  have hnm := (name_of_methodNamed Bd.named Bd.method).1
  have X0 : Stand p l e ({ frames := 0, cells := 0, slots := 0, locals := 0 } : Room) s m #[(.int x)] below meth c s₁ [] 0 0 := Stand.of_body Bd
  have e0 : s₁.heap = h0 := by rw [← hh, Bd.state]; rfl
  have N0 := Fr.nil n0
  obtain ⟨G, hG⟩ : ∃ G, G = entryFrame m #[(.int x)] 2 := ⟨_, rfl⟩
  have S0 : own_Go p e below s₁ G s₁ (mkF m 0 #[.val (.int x), .unset] []) := fun tg_ kk_ => castTop (by rw [hG]; first | rfl | simp [entryFrame, mkF, argsToLocals, Value.category, maxLocals]) kk_
  have S126 : own_Go p e below s₁ G s₁ (mkF m 8 #[.val (.int x), .val (.int ((XT.ushr x (16 : Int32)) &&& (3 : Int32)))] [(.int ((XT.ushr x (16 : Int32)) &&& (3 : Int32)))]) := fun tg_ kk_ => S0 tg_ (by
    refine XS.iloadN X0.here hx rfl (hb hby d1_0) rfl ?_
    show Steps p.tables e below (s₁.setTop (mkF m 1 #[.val (.int x), .unset] [(.int x)])) _
    refine XS.bipush X0.here hx rfl (hb hby d1_1) ?_
    show Steps p.tables e below (s₁.setTop (mkF m 3 #[.val (.int x), .unset] [(.int (16 : Int32)), (.int x)])) _
    refine XT.iushr X0.here hx rfl (hb hby d1_3) rfl ?_
    show Steps p.tables e below (s₁.setTop (mkF m 4 #[.val (.int x), .unset] [(.int (XT.ushr x (16 : Int32)))])) _
    refine XS.iconst X0.here hx rfl (hb hby d1_4) ?_
    show Steps p.tables e below (s₁.setTop (mkF m 5 #[.val (.int x), .unset] [(.int (3 : Int32)), (.int (XT.ushr x (16 : Int32)))])) _
    refine XS.iand X0.here hx rfl (hb hby d1_5) rfl ?_
    show Steps p.tables e below (s₁.setTop (mkF m 6 #[.val (.int x), .unset] [(.int ((XT.ushr x (16 : Int32)) &&& (3 : Int32)))])) _
    refine XS.istoreN X0.here hx rfl (hb hby d1_6) rfl (l' := #[.val (.int x), .val (.int ((XT.ushr x (16 : Int32)) &&& (3 : Int32)))]) rfl ?_
    show Steps p.tables e below (s₁.setTop (mkF m 7 #[.val (.int x), .val (.int ((XT.ushr x (16 : Int32)) &&& (3 : Int32)))] [])) _
    refine XS.iloadN X0.here hx rfl (hb hby d1_7) rfl ?_
    exact kk_)
  by_cases hc127 : ((XT.ushr x (16 : Int32)) &&& (3 : Int32)) = 0
  · have _ := N0
    have S128 : own_Go p e below s₁ G s₁ (mkF m 13 #[.val (.int x), .val (.int ((XT.ushr x (16 : Int32)) &&& (3 : Int32)))] [(.int (13 : Int32))]) := fun tg_ kk_ => S126 tg_ (by
      refine XS.ifNo X0.here hx rfl (hb hby d1_8) rfl (XT.i0_ne_f hc127) ?_
      show Steps p.tables e below (s₁.setTop (mkF m 11 #[.val (.int x), .val (.int ((XT.ushr x (16 : Int32)) &&& (3 : Int32)))] [])) _
      refine XS.bipush X0.here hx rfl (hb hby d1_11) ?_
      exact kk_)
    obtain ⟨fs, hr, hrun, hended, hW, hsame⟩ := X0.leave (v := some (.int (nar .char (13 : Int32)))) (fun h => by rw [Bd.returns] at h; cases h)
    refine ⟨_, _, ?_, hrun, hended, _, _, rfl, ?_, ⟨_, rfl⟩, hW, hsame.mono (by decide) (by decide)⟩
    · rw [← hG]; exact S128 _ (retN X0 hx (t := .char) Bd.returns (by simp) (hb hby d1_13) hr)
    · show Q1 Z x h0 n0 _ s₁.heap _
      rw [e0]
      exact ⟨_, own_ch_nar _, rfl, N0, rfl⟩
  · have _ := N0
    have S129 : own_Go p e below s₁ G s₁ (mkF m 16 #[.val (.int x), .val (.int ((XT.ushr x (16 : Int32)) &&& (3 : Int32)))] [(.int (1 : Int32)), (.int ((XT.ushr x (16 : Int32)) &&& (3 : Int32)))]) := fun tg_ kk_ => S126 tg_ (by
      refine XS.ifYes X0.here hx rfl (pc0 := 8) (pc' := 14) rfl (hb hby d1_8) rfl (XT.i0_ne_t hc127) (by decide) (by decide) ?_
      show Steps p.tables e below (s₁.setTop (mkF m 14 #[.val (.int x), .val (.int ((XT.ushr x (16 : Int32)) &&& (3 : Int32)))] [])) _
      refine XS.iloadN X0.here hx rfl (hb hby d1_14) rfl ?_
      show Steps p.tables e below (s₁.setTop (mkF m 15 #[.val (.int x), .val (.int ((XT.ushr x (16 : Int32)) &&& (3 : Int32)))] [(.int ((XT.ushr x (16 : Int32)) &&& (3 : Int32)))])) _
      refine XS.iconst X0.here hx rfl (hb hby d1_15) ?_
      exact kk_)
    by_cases hc130 : ((XT.ushr x (16 : Int32)) &&& (3 : Int32)) = (1 : Int32)
    · have _ := N0
      have S131 : own_Go p e below s₁ G s₁ (mkF m 21 #[.val (.int x), .val (.int ((XT.ushr x (16 : Int32)) &&& (3 : Int32)))] [(.int (10 : Int32))]) := fun tg_ kk_ => S129 tg_ (by
        refine XS.icmpNo X0.here hx rfl (hb hby d1_16) rfl (XT.ii_ne_f hc130) ?_
        show Steps p.tables e below (s₁.setTop (mkF m 19 #[.val (.int x), .val (.int ((XT.ushr x (16 : Int32)) &&& (3 : Int32)))] [])) _
        refine XS.bipush X0.here hx rfl (hb hby d1_19) ?_
        exact kk_)
      obtain ⟨fs, hr, hrun, hended, hW, hsame⟩ := X0.leave (v := some (.int (nar .char (10 : Int32)))) (fun h => by rw [Bd.returns] at h; cases h)
      refine ⟨_, _, ?_, hrun, hended, _, _, rfl, ?_, ⟨_, rfl⟩, hW, hsame.mono (by decide) (by decide)⟩
      · rw [← hG]; exact S131 _ (retN X0 hx (t := .char) Bd.returns (by simp) (hb hby d1_21) hr)
      · show Q1 Z x h0 n0 _ s₁.heap _
        rw [e0]
        exact ⟨_, own_ch_nar _, rfl, N0, rfl⟩
    · have _ := N0
      have S132 : own_Go p e below s₁ G s₁ (mkF m 24 #[.val (.int x), .val (.int ((XT.ushr x (16 : Int32)) &&& (3 : Int32)))] [(.int (2 : Int32)), (.int ((XT.ushr x (16 : Int32)) &&& (3 : Int32)))]) := fun tg_ kk_ => S129 tg_ (by
        refine XS.icmpYes X0.here hx rfl (pc0 := 16) (pc' := 22) rfl (hb hby d1_16) rfl (XT.ii_ne_t hc130) (by decide) (by decide) ?_
        show Steps p.tables e below (s₁.setTop (mkF m 22 #[.val (.int x), .val (.int ((XT.ushr x (16 : Int32)) &&& (3 : Int32)))] [])) _
        refine XS.iloadN X0.here hx rfl (hb hby d1_22) rfl ?_
        show Steps p.tables e below (s₁.setTop (mkF m 23 #[.val (.int x), .val (.int ((XT.ushr x (16 : Int32)) &&& (3 : Int32)))] [(.int ((XT.ushr x (16 : Int32)) &&& (3 : Int32)))])) _
        refine XS.iconst X0.here hx rfl (hb hby d1_23) ?_
        exact kk_)
      by_cases hc133 : ((XT.ushr x (16 : Int32)) &&& (3 : Int32)) = (2 : Int32)
      · have _ := N0
        have S134 : own_Go p e below s₁ G s₁ (mkF m 28 #[.val (.int x), .val (.int ((XT.ushr x (16 : Int32)) &&& (3 : Int32)))] [(.int (0 : Int32))]) := fun tg_ kk_ => S132 tg_ (by
          refine XS.icmpNo X0.here hx rfl (hb hby d1_24) rfl (XT.ii_ne_f hc133) ?_
          show Steps p.tables e below (s₁.setTop (mkF m 27 #[.val (.int x), .val (.int ((XT.ushr x (16 : Int32)) &&& (3 : Int32)))] [])) _
          refine XS.iconst X0.here hx rfl (hb hby d1_27) ?_
          exact kk_)
        obtain ⟨fs, hr, hrun, hended, hW, hsame⟩ := X0.leave (v := some (.int (nar .char (0 : Int32)))) (fun h => by rw [Bd.returns] at h; cases h)
        refine ⟨_, _, ?_, hrun, hended, _, _, rfl, ?_, ⟨_, rfl⟩, hW, hsame.mono (by decide) (by decide)⟩
        · rw [← hG]; exact S134 _ (retN X0 hx (t := .char) Bd.returns (by simp) (hb hby d1_28) hr)
        · show Q1 Z x h0 n0 _ s₁.heap _
          rw [e0]
          exact ⟨_, own_ch_nar _, rfl, N0, rfl⟩
      · have _ := N0
        have S135 : own_Go p e below s₁ G s₁ (mkF m 31 #[.val (.int x), .val (.int ((XT.ushr x (16 : Int32)) &&& (3 : Int32)))] [(.int ((x).toUInt32.toUInt16.toUInt32.toInt32))]) := fun tg_ kk_ => S132 tg_ (by
          refine XS.icmpYes X0.here hx rfl (pc0 := 24) (pc' := 29) rfl (hb hby d1_24) rfl (XT.ii_ne_t hc133) (by decide) (by decide) ?_
          show Steps p.tables e below (s₁.setTop (mkF m 29 #[.val (.int x), .val (.int ((XT.ushr x (16 : Int32)) &&& (3 : Int32)))] [])) _
          refine XS.iloadN X0.here hx rfl (hb hby d1_29) rfl ?_
          show Steps p.tables e below (s₁.setTop (mkF m 30 #[.val (.int x), .val (.int ((XT.ushr x (16 : Int32)) &&& (3 : Int32)))] [(.int x)])) _
          refine XT.i2c X0.here hx rfl (hb hby d1_30) rfl ?_
          exact kk_)
        obtain ⟨fs, hr, hrun, hended, hW, hsame⟩ := X0.leave (v := some (.int (nar .char ((x).toUInt32.toUInt16.toUInt32.toInt32)))) (fun h => by rw [Bd.returns] at h; cases h)
        refine ⟨_, _, ?_, hrun, hended, _, _, rfl, ?_, ⟨_, rfl⟩, hW, hsame.mono (by decide) (by decide)⟩
        · rw [← hG]; exact S135 _ (retN X0 hx (t := .char) Bd.returns (by simp) (hb hby d1_31) hr)
        · show Q1 Z x h0 n0 _ s₁.heap _
          rw [e0]
          exact ⟨_, own_ch_nar _, rfl, N0, rfl⟩
def Q18 (Z : State) (c0 : Int32) (h0 : Heap) (n0 : Nat) (v : Option Value) (h : Heap) (L : List Loc) : Prop := ((own_bad c0 = true ∧ v = some (.int 1)) ∨ (own_bad c0 = false ∧ v = some (.int 0))) ∧ Fr n0 L ∧ h0 = h
set_option maxRecDepth 65536 in
set_option maxHeartbeats 40000000 in
theorem rm18 (l : Launch) (Z : State) (a0 : Array Value) (hw : ∀ d ∈ tables_1, d.before a0 Z = true) (ws : List Jvm.Cond) (c0 : Int32) (h0 : Heap) (n0 : Nat) (Z0 : n0 ≤ h0.size)  :
    MetFree l (⟨"com/example/caddis/caddis/ManifestWriterCanHoldPinLaw", "bad", "(C)Z"⟩ : MethodName) (head1 (Jvm.Cond.code (⟨"com/example/caddis/caddis/ManifestWriterCanHoldPinLaw", "bad", "(C)Z"⟩ : MethodName) method_3_code 1 (some .boolean) :: ws) ({ frames := 0, cells := 0, slots := 0, locals := 0 } : Room)) (fun aa_ U => aa_ = #[(.int c0)] ∧ Z.Warmed39 U.vm ∧ U.heap = h0) (fun _ _ _ _ _ => True) (fun _ U o U' => ∃ v L, o = .returned v ∧ Q18 Z c0 h0 n0 v U'.heap L ∧ FrameEnd U o U' L ({ frames := 0, cells := 0, slots := 0, locals := 0 } : Room).cells ({ frames := 0, cells := 0, slots := 0, locals := 0 } : Room).slots) := by
  refine MetFree.of_bodySF (plainFor_of_name pn3) hisR ?_
  intro p e s m args below meth c s₁ Bd hml0 hP hK
  obtain ⟨rfl, hZ, hh⟩ := hP
  have hx := Bd.exec
  have hby := Bd.bytes
  have hml : c.maxLocals = 1 := hml0
  have hown : s.vm.findClass "com/example/caddis/caddis/ManifestWriterCanHoldPinLaw" = some m.cls := findClass_of_methodNamed Bd.named
  have hnm := (name_of_methodNamed Bd.named Bd.method).1
  have X0 : Stand p l e ({ frames := 0, cells := 0, slots := 0, locals := 0 } : Room) s m #[(.int c0)] below meth c s₁ [] 0 0 := Stand.of_body Bd
  have e0 : s₁.heap = h0 := by rw [← hh, Bd.state]; rfl
  have N0 := Fr.nil n0
  obtain ⟨G, hG⟩ : ∃ G, G = entryFrame m #[(.int c0)] 1 := ⟨_, rfl⟩
  have S0 : own_Go p e below s₁ G s₁ (mkF m 0 #[.val (.int c0)] []) := fun tg_ kk_ => castTop (by rw [hG]; first | rfl | simp [entryFrame, mkF, argsToLocals, Value.category, maxLocals]) kk_
  have S136 : own_Go p e below s₁ G s₁ (mkF m 3 #[.val (.int c0)] [(.int (13 : Int32)), (.int c0)]) := fun tg_ kk_ => S0 tg_ (by
    refine XS.iloadN X0.here hx rfl (hb hby d18_0) rfl ?_
    show Steps p.tables e below (s₁.setTop (mkF m 1 #[.val (.int c0)] [(.int c0)])) _
    refine XS.bipush X0.here hx rfl (hb hby d18_1) ?_
    exact kk_)
  by_cases hc137 : c0 = (13 : Int32)
  · have _ := N0
    have S138 : own_Go p e below s₁ G s₁ (mkF m 21 #[.val (.int c0)] [(.int (1 : Int32))]) := fun tg_ kk_ => S136 tg_ (by
      refine XS.icmpYes X0.here hx rfl (pc0 := 3) (pc' := 16) rfl (hb hby d18_3) rfl (XT.ii_eq_t hc137) (by decide) (by decide) ?_
      show Steps p.tables e below (s₁.setTop (mkF m 16 #[.val (.int c0)] [])) _
      refine XS.iconst X0.here hx rfl (hb hby d18_16) ?_
      show Steps p.tables e below (s₁.setTop (mkF m 17 #[.val (.int c0)] [(.int (1 : Int32))])) _
      refine XS.goto X0.here hx rfl (pc0 := 17) (pc' := 21) rfl (hb hby d18_17) (by decide) (by decide) ?_
      exact kk_)
    obtain ⟨fs, hr, hrun, hended, hW, hsame⟩ := X0.leave (v := some (.int (1 : Int32))) (fun h => by rw [Bd.returns] at h; cases h)
    refine ⟨_, _, ?_, hrun, hended, _, _, rfl, ?_, ⟨_, rfl⟩, hW, hsame.mono (by decide) (by decide)⟩
    · rw [← hG]; exact S138 _ (retN X0 hx (t := .boolean) Bd.returns (by simp) (hb hby d18_21) hr)
    · show Q18 Z c0 h0 n0 _ s₁.heap _
      rw [e0]
      exact ⟨Or.inl ⟨by simp [own_bad, hc137], rfl⟩, N0, rfl⟩
  · have _ := N0
    have S139 : own_Go p e below s₁ G s₁ (mkF m 9 #[.val (.int c0)] [(.int (10 : Int32)), (.int c0)]) := fun tg_ kk_ => S136 tg_ (by
      refine XS.icmpNo X0.here hx rfl (hb hby d18_3) rfl (XT.ii_eq_f hc137) ?_
      show Steps p.tables e below (s₁.setTop (mkF m 6 #[.val (.int c0)] [])) _
      refine XS.iloadN X0.here hx rfl (hb hby d18_6) rfl ?_
      show Steps p.tables e below (s₁.setTop (mkF m 7 #[.val (.int c0)] [(.int c0)])) _
      refine XS.bipush X0.here hx rfl (hb hby d18_7) ?_
      exact kk_)
    by_cases hc140 : c0 = (10 : Int32)
    · have _ := N0
      have S141 : own_Go p e below s₁ G s₁ (mkF m 21 #[.val (.int c0)] [(.int (1 : Int32))]) := fun tg_ kk_ => S139 tg_ (by
        refine XS.icmpYes X0.here hx rfl (pc0 := 9) (pc' := 16) rfl (hb hby d18_9) rfl (XT.ii_eq_t hc140) (by decide) (by decide) ?_
        show Steps p.tables e below (s₁.setTop (mkF m 16 #[.val (.int c0)] [])) _
        refine XS.iconst X0.here hx rfl (hb hby d18_16) ?_
        show Steps p.tables e below (s₁.setTop (mkF m 17 #[.val (.int c0)] [(.int (1 : Int32))])) _
        refine XS.goto X0.here hx rfl (pc0 := 17) (pc' := 21) rfl (hb hby d18_17) (by decide) (by decide) ?_
        exact kk_)
      obtain ⟨fs, hr, hrun, hended, hW, hsame⟩ := X0.leave (v := some (.int (1 : Int32))) (fun h => by rw [Bd.returns] at h; cases h)
      refine ⟨_, _, ?_, hrun, hended, _, _, rfl, ?_, ⟨_, rfl⟩, hW, hsame.mono (by decide) (by decide)⟩
      · rw [← hG]; exact S141 _ (retN X0 hx (t := .boolean) Bd.returns (by simp) (hb hby d18_21) hr)
      · show Q18 Z c0 h0 n0 _ s₁.heap _
        rw [e0]
        exact ⟨Or.inl ⟨by simp [own_bad, hc137, hc140], rfl⟩, N0, rfl⟩
    · have _ := N0
      have S142 : own_Go p e below s₁ G s₁ (mkF m 13 #[.val (.int c0)] [(.int c0)]) := fun tg_ kk_ => S139 tg_ (by
        refine XS.icmpNo X0.here hx rfl (hb hby d18_9) rfl (XT.ii_eq_f hc140) ?_
        show Steps p.tables e below (s₁.setTop (mkF m 12 #[.val (.int c0)] [])) _
        refine XS.iloadN X0.here hx rfl (hb hby d18_12) rfl ?_
        exact kk_)
      by_cases hc143 : c0 = 0
      · have _ := N0
        have S144 : own_Go p e below s₁ G s₁ (mkF m 21 #[.val (.int c0)] [(.int (1 : Int32))]) := fun tg_ kk_ => S142 tg_ (by
          refine XS.ifNo X0.here hx rfl (hb hby d18_13) rfl (XT.i0_ne_f hc143) ?_
          show Steps p.tables e below (s₁.setTop (mkF m 16 #[.val (.int c0)] [])) _
          refine XS.iconst X0.here hx rfl (hb hby d18_16) ?_
          show Steps p.tables e below (s₁.setTop (mkF m 17 #[.val (.int c0)] [(.int (1 : Int32))])) _
          refine XS.goto X0.here hx rfl (pc0 := 17) (pc' := 21) rfl (hb hby d18_17) (by decide) (by decide) ?_
          exact kk_)
        obtain ⟨fs, hr, hrun, hended, hW, hsame⟩ := X0.leave (v := some (.int (1 : Int32))) (fun h => by rw [Bd.returns] at h; cases h)
        refine ⟨_, _, ?_, hrun, hended, _, _, rfl, ?_, ⟨_, rfl⟩, hW, hsame.mono (by decide) (by decide)⟩
        · rw [← hG]; exact S144 _ (retN X0 hx (t := .boolean) Bd.returns (by simp) (hb hby d18_21) hr)
        · show Q18 Z c0 h0 n0 _ s₁.heap _
          rw [e0]
          exact ⟨Or.inl ⟨by simp [own_bad, hc137, hc140, hc143], rfl⟩, N0, rfl⟩
      · have _ := N0
        have S145 : own_Go p e below s₁ G s₁ (mkF m 21 #[.val (.int c0)] [(.int (0 : Int32))]) := fun tg_ kk_ => S142 tg_ (by
          refine XS.ifYes X0.here hx rfl (pc0 := 13) (pc' := 20) rfl (hb hby d18_13) rfl (XT.i0_ne_t hc143) (by decide) (by decide) ?_
          show Steps p.tables e below (s₁.setTop (mkF m 20 #[.val (.int c0)] [])) _
          refine XS.iconst X0.here hx rfl (hb hby d18_20) ?_
          exact kk_)
        obtain ⟨fs, hr, hrun, hended, hW, hsame⟩ := X0.leave (v := some (.int (0 : Int32))) (fun h => by rw [Bd.returns] at h; cases h)
        refine ⟨_, _, ?_, hrun, hended, _, _, rfl, ?_, ⟨_, rfl⟩, hW, hsame.mono (by decide) (by decide)⟩
        · rw [← hG]; exact S145 _ (retN X0 hx (t := .boolean) Bd.returns (by simp) (hb hby d18_21) hr)
        · show Q18 Z c0 h0 n0 _ s₁.heap _
          rw [e0]
          exact ⟨Or.inr ⟨by simp [own_bad, hc137, hc140, hc143], rfl⟩, N0, rfl⟩
theorem pn4 : plainName "java/lang/StringLatin1" = true := by first | (simp [plainName, overriddenIn]; done) | decide +kernel
def Q12 (Z : State) (c0 : Int32) (h0 : Heap) (n0 : Nat) (v : Option Value) (h : Heap) (L : List Loc) : Prop := v = some (.int 1) ∧ Fr n0 L ∧ h0 = h
set_option maxRecDepth 65536 in
set_option maxHeartbeats 40000000 in
theorem rm12 (l : Launch) (Z : State) (a0 : Array Value) (hw : ∀ d ∈ tables_1, d.before a0 Z = true) (ws : List Jvm.Cond) (c0 : Int32) (h0 : Heap) (n0 : Nat) (Z0 : n0 ≤ h0.size) (h1 : ¬ c0 < 0) (h2 : ¬ (255 : Int32) < c0) :
    MetFree l (⟨"java/lang/StringLatin1", "canEncode", "(I)Z"⟩ : MethodName) (head1 (Jvm.Cond.code (⟨"java/lang/StringLatin1", "canEncode", "(I)Z"⟩ : MethodName) jdk_43_method_4_code 1 (some .boolean) :: ws) ({ frames := 0, cells := 0, slots := 0, locals := 0 } : Room)) (fun aa_ U => aa_ = #[(.int c0)] ∧ Z.Warmed39 U.vm ∧ U.heap = h0) (fun _ _ _ _ _ => True) (fun _ U o U' => ∃ v L, o = .returned v ∧ Q12 Z c0 h0 n0 v U'.heap L ∧ FrameEnd U o U' L ({ frames := 0, cells := 0, slots := 0, locals := 0 } : Room).cells ({ frames := 0, cells := 0, slots := 0, locals := 0 } : Room).slots) := by
  refine MetFree.of_bodySF (plainFor_of_name pn4) hisR ?_
  intro p e s m args below meth c s₁ Bd hml0 hP hK
  obtain ⟨rfl, hZ, hh⟩ := hP
  have hx := Bd.exec
  have hby := Bd.bytes
  have hml : c.maxLocals = 1 := hml0
  have hown : s.vm.findClass "java/lang/StringLatin1" = some m.cls := findClass_of_methodNamed Bd.named
  have hnm := (name_of_methodNamed Bd.named Bd.method).1
  have X0 : Stand p l e ({ frames := 0, cells := 0, slots := 0, locals := 0 } : Room) s m #[(.int c0)] below meth c s₁ [] 0 0 := Stand.of_body Bd
  have e0 : s₁.heap = h0 := by rw [← hh, Bd.state]; rfl
  have N0 := Fr.nil n0
  obtain ⟨G, hG⟩ : ∃ G, G = entryFrame m #[(.int c0)] 1 := ⟨_, rfl⟩
  have S0 : own_Go p e below s₁ G s₁ (mkF m 0 #[.val (.int c0)] []) := fun tg_ kk_ => castTop (by rw [hG]; first | rfl | simp [entryFrame, mkF, argsToLocals, Value.category, maxLocals]) kk_
  have S146 : own_Go p e below s₁ G s₁ (mkF m 16 #[.val (.int c0)] [(.int (1 : Int32))]) := fun tg_ kk_ => S0 tg_ (by
    refine XS.iloadN X0.here hx rfl (hb hby d12_0) rfl ?_
    show Steps p.tables e below (s₁.setTop (mkF m 1 #[.val (.int c0)] [(.int c0)])) _
    refine XS.ifNo X0.here hx rfl (hb hby d12_1) rfl (XT.i0_lt_f h1) ?_
    show Steps p.tables e below (s₁.setTop (mkF m 4 #[.val (.int c0)] [])) _
    refine XS.iloadN X0.here hx rfl (hb hby d12_4) rfl ?_
    show Steps p.tables e below (s₁.setTop (mkF m 5 #[.val (.int c0)] [(.int c0)])) _
    refine XS.sipush X0.here hx rfl (hb hby d12_5) ?_
    show Steps p.tables e below (s₁.setTop (mkF m 8 #[.val (.int c0)] [(.int (255 : Int32)), (.int c0)])) _
    refine XS.icmpNo X0.here hx rfl (hb hby d12_8) rfl (XT.ii_gt_f h2) ?_
    show Steps p.tables e below (s₁.setTop (mkF m 11 #[.val (.int c0)] [])) _
    refine XS.iconst X0.here hx rfl (hb hby d12_11) ?_
    show Steps p.tables e below (s₁.setTop (mkF m 12 #[.val (.int c0)] [(.int (1 : Int32))])) _
    refine XS.goto X0.here hx rfl (pc0 := 12) (pc' := 16) rfl (hb hby d12_12) (by decide) (by decide) ?_
    exact kk_)
  obtain ⟨fs, hr, hrun, hended, hW, hsame⟩ := X0.leave (v := some (.int (1 : Int32))) (fun h => by rw [Bd.returns] at h; cases h)
  refine ⟨_, _, ?_, hrun, hended, _, _, rfl, ?_, ⟨_, rfl⟩, hW, hsame.mono (by decide) (by decide)⟩
  · rw [← hG]; exact S146 _ (retN X0 hx (t := .boolean) Bd.returns (by simp) (hb hby d12_16) hr)
  · show Q12 Z c0 h0 n0 _ s₁.heap _
    rw [e0]
    exact ⟨rfl, N0, rfl⟩
def Q13 (Z : State)  (h0 : Heap) (n0 : Nat) (v : Option Value) (h : Heap) (L : List Loc) : Prop := v = some (.int 0) ∧ Fr n0 L ∧ h0 = h
set_option maxRecDepth 65536 in
set_option maxHeartbeats 40000000 in
theorem rm13 (l : Launch) (Z : State) (a0 : Array Value) (hw : ∀ d ∈ tables_1, d.before a0 Z = true) (ws : List Jvm.Cond)  (h0 : Heap) (n0 : Nat) (Z0 : n0 ≤ h0.size)  :
    MetFree l (⟨"java/lang/Math", "max", "(II)I"⟩ : MethodName) (head1 (Jvm.Cond.code (⟨"java/lang/Math", "max", "(II)I"⟩ : MethodName) jdk_29_method_65_code 2 (some .int) :: ws) ({ frames := 0, cells := 0, slots := 0, locals := 0 } : Room)) (fun aa_ U => aa_ = #[(.int (0 : Int32)), (.int (0 : Int32))] ∧ Z.Warmed39 U.vm ∧ U.heap = h0) (fun _ _ _ _ _ => True) (fun _ U o U' => ∃ v L, o = .returned v ∧ Q13 Z h0 n0 v U'.heap L ∧ FrameEnd U o U' L ({ frames := 0, cells := 0, slots := 0, locals := 0 } : Room).cells ({ frames := 0, cells := 0, slots := 0, locals := 0 } : Room).slots) := by
  refine MetFree.of_bodySF (Jvm.Free.JP.mathPlain rfl (by decide +kernel)) hisR ?_
  intro p e s m args below meth c s₁ Bd hml0 hP hK
  obtain ⟨rfl, hZ, hh⟩ := hP
  have hx := Bd.exec
  have hby := Bd.bytes
  have hml : c.maxLocals = 2 := hml0
  have hown : s.vm.findClass "java/lang/Math" = some m.cls := findClass_of_methodNamed Bd.named
  have hnm := (name_of_methodNamed Bd.named Bd.method).1
  have X0 : Stand p l e ({ frames := 0, cells := 0, slots := 0, locals := 0 } : Room) s m #[(.int (0 : Int32)), (.int (0 : Int32))] below meth c s₁ [] 0 0 := Stand.of_body Bd
  have e0 : s₁.heap = h0 := by rw [← hh, Bd.state]; rfl
  have N0 := Fr.nil n0
  obtain ⟨G, hG⟩ : ∃ G, G = entryFrame m #[(.int (0 : Int32)), (.int (0 : Int32))] 2 := ⟨_, rfl⟩
  have S0 : own_Go p e below s₁ G s₁ (mkF m 0 #[.val (.int (0 : Int32)), .val (.int (0 : Int32))] []) := fun tg_ kk_ => castTop (by rw [hG]; first | rfl | simp [entryFrame, mkF, argsToLocals, Value.category, maxLocals]) kk_
  have S147 : own_Go p e below s₁ G s₁ (mkF m 10 #[.val (.int (0 : Int32)), .val (.int (0 : Int32))] [(.int (0 : Int32))]) := fun tg_ kk_ => S0 tg_ (by
    refine XS.iloadN X0.here hx rfl (hb hby d13_0) rfl ?_
    show Steps p.tables e below (s₁.setTop (mkF m 1 #[.val (.int (0 : Int32)), .val (.int (0 : Int32))] [(.int (0 : Int32))])) _
    refine XS.iloadN X0.here hx rfl (hb hby d13_1) rfl ?_
    show Steps p.tables e below (s₁.setTop (mkF m 2 #[.val (.int (0 : Int32)), .val (.int (0 : Int32))] [(.int (0 : Int32)), (.int (0 : Int32))])) _
    refine XS.icmpNo X0.here hx rfl (hb hby d13_2) rfl (XT.ii_lt_f (by decide)) ?_
    show Steps p.tables e below (s₁.setTop (mkF m 5 #[.val (.int (0 : Int32)), .val (.int (0 : Int32))] [])) _
    refine XS.iloadN X0.here hx rfl (hb hby d13_5) rfl ?_
    show Steps p.tables e below (s₁.setTop (mkF m 6 #[.val (.int (0 : Int32)), .val (.int (0 : Int32))] [(.int (0 : Int32))])) _
    refine XS.goto X0.here hx rfl (pc0 := 6) (pc' := 10) rfl (hb hby d13_6) (by decide) (by decide) ?_
    exact kk_)
  obtain ⟨fs, hr, hrun, hended, hW, hsame⟩ := X0.leave (v := some (.int (0 : Int32))) (fun h => by rw [Bd.returns] at h; cases h)
  refine ⟨_, _, ?_, hrun, hended, _, _, rfl, ?_, ⟨_, rfl⟩, hW, hsame.mono (by decide) (by decide)⟩
  · rw [← hG]; exact S147 _ (retI X0 hx Bd.returns (hb hby d13_10) hr)
  · show Q13 Z h0 n0 _ s₁.heap _
    rw [e0]
    exact ⟨rfl, N0, rfl⟩
def Q14 (Z : State) (n : Int32) (h0 : Heap) (n0 : Nat) (v : Option Value) (h : Heap) (L : List Loc) : Prop := v = some (.int n) ∧ Fr n0 L ∧ h0 = h
set_option maxRecDepth 65536 in
set_option maxHeartbeats 40000000 in
theorem rm14 (l : Launch) (Z : State) (a0 : Array Value) (hw : ∀ d ∈ tables_1, d.before a0 Z = true) (ws : List Jvm.Cond) (n : Int32) (h0 : Heap) (n0 : Nat) (Z0 : n0 ≤ h0.size)  :
    MetFree l (⟨"java/lang/Math", "min", "(II)I"⟩ : MethodName) (head1 (Jvm.Cond.code (⟨"java/lang/Math", "min", "(II)I"⟩ : MethodName) jdk_29_method_69_code 2 (some .int) :: ws) ({ frames := 0, cells := 0, slots := 0, locals := 0 } : Room)) (fun aa_ U => aa_ = #[(.int n), (.int n)] ∧ Z.Warmed39 U.vm ∧ U.heap = h0) (fun _ _ _ _ _ => True) (fun _ U o U' => ∃ v L, o = .returned v ∧ Q14 Z n h0 n0 v U'.heap L ∧ FrameEnd U o U' L ({ frames := 0, cells := 0, slots := 0, locals := 0 } : Room).cells ({ frames := 0, cells := 0, slots := 0, locals := 0 } : Room).slots) := by
  refine MetFree.of_bodySF (Jvm.Free.JP.mathPlain rfl (by decide +kernel)) hisR ?_
  intro p e s m args below meth c s₁ Bd hml0 hP hK
  obtain ⟨rfl, hZ, hh⟩ := hP
  have hx := Bd.exec
  have hby := Bd.bytes
  have hml : c.maxLocals = 2 := hml0
  have hown : s.vm.findClass "java/lang/Math" = some m.cls := findClass_of_methodNamed Bd.named
  have hnm := (name_of_methodNamed Bd.named Bd.method).1
  have X0 : Stand p l e ({ frames := 0, cells := 0, slots := 0, locals := 0 } : Room) s m #[(.int n), (.int n)] below meth c s₁ [] 0 0 := Stand.of_body Bd
  have e0 : s₁.heap = h0 := by rw [← hh, Bd.state]; rfl
  have N0 := Fr.nil n0
  obtain ⟨G, hG⟩ : ∃ G, G = entryFrame m #[(.int n), (.int n)] 2 := ⟨_, rfl⟩
  have S0 : own_Go p e below s₁ G s₁ (mkF m 0 #[.val (.int n), .val (.int n)] []) := fun tg_ kk_ => castTop (by rw [hG]; first | rfl | simp [entryFrame, mkF, argsToLocals, Value.category, maxLocals]) kk_
  have S148 : own_Go p e below s₁ G s₁ (mkF m 10 #[.val (.int n), .val (.int n)] [(.int n)]) := fun tg_ kk_ => S0 tg_ (by
    refine XS.iloadN X0.here hx rfl (hb hby d14_0) rfl ?_
    show Steps p.tables e below (s₁.setTop (mkF m 1 #[.val (.int n), .val (.int n)] [(.int n)])) _
    refine XS.iloadN X0.here hx rfl (hb hby d14_1) rfl ?_
    show Steps p.tables e below (s₁.setTop (mkF m 2 #[.val (.int n), .val (.int n)] [(.int n), (.int n)])) _
    refine XS.icmpNo X0.here hx rfl (hb hby d14_2) rfl (XT.ii_gt_f Int32.lt_irrefl) ?_
    show Steps p.tables e below (s₁.setTop (mkF m 5 #[.val (.int n), .val (.int n)] [])) _
    refine XS.iloadN X0.here hx rfl (hb hby d14_5) rfl ?_
    show Steps p.tables e below (s₁.setTop (mkF m 6 #[.val (.int n), .val (.int n)] [(.int n)])) _
    refine XS.goto X0.here hx rfl (pc0 := 6) (pc' := 10) rfl (hb hby d14_6) (by decide) (by decide) ?_
    exact kk_)
  obtain ⟨fs, hr, hrun, hended, hW, hsame⟩ := X0.leave (v := some (.int n)) (fun h => by rw [Bd.returns] at h; cases h)
  refine ⟨_, _, ?_, hrun, hended, _, _, rfl, ?_, ⟨_, rfl⟩, hW, hsame.mono (by decide) (by decide)⟩
  · rw [← hG]; exact S148 _ (retI X0 hx Bd.returns (hb hby d14_10) hr)
  · show Q14 Z n h0 n0 _ s₁.heap _
    rw [e0]
    exact ⟨rfl, N0, rfl⟩
set_option maxRecDepth 65536 in
set_option maxHeartbeats 40000000 in
theorem own_lic {p : Program} {l : Launch} {e : Env} {R : Room} {s : State} {m : MethodId} {args : Array Value} {below : List Frame} {meth : Method} {c : Code} {locs : List Loc} {cells slots : Nat} {Z : State} {h0 : Heap} {T0 : State} (t : Addr) (cs : List Int32) (c0 : Int32) (clt : Cell) (hn : cs.length ≤ 1000) (hch : ∀ j, j < cs.length → own_Ch (cs.getD j 0)) (hc0 : own_Ch c0 ∧ ¬ (255 : Int32) < c0) (hlat : ∀ j, j < cs.length → ¬ (255 : Int32) < cs.getD j 0) (X0 : Stand p l e R s m args below meth c T0 locs cells slots) (hx : p.tables.exec = Jvm.exec) (hZ : Z.Warmed39 s.vm) (hby : c.code = jdk_43_method_23_code) (e0 : T0.heap = h0) (Ar : Arr Z h0 t clt .byte) (Sz : clt.slots.size = (Int32.ofNat cs.length).toNatClampNeg) (H : Has clt (cs.map own_vb) (.int 0)) :
    ∀ (k i : Nat), i + k = cs.length → (∀ j, j < i → ¬ cs.getD j 0 = c0) → (∃ i', i' < cs.length ∧ cs.getD i' 0 = c0 ∧ own_Go p e below T0 (mkF m 7 #[.val (.ref t), .val (.int c0), .val (.int (0 : Int32)), .val (.int (Int32.ofNat cs.length)), .val (.int (own_lo c0)), .val (.int (Int32.ofNat i))] []) T0 (mkF m 24 #[.val (.ref t), .val (.int c0), .val (.int (0 : Int32)), .val (.int (Int32.ofNat cs.length)), .val (.int (own_lo c0)), .val (.int (Int32.ofNat i'))] [(.int (Int32.ofNat i'))])) ∨ ((∀ j, j < cs.length → ¬ cs.getD j 0 = c0) ∧ ∃ i', own_Go p e below T0 (mkF m 7 #[.val (.ref t), .val (.int c0), .val (.int (0 : Int32)), .val (.int (Int32.ofNat cs.length)), .val (.int (own_lo c0)), .val (.int (Int32.ofNat i))] []) T0 (mkF m 32 #[.val (.ref t), .val (.int c0), .val (.int (0 : Int32)), .val (.int (Int32.ofNat cs.length)), .val (.int (own_lo c0)), .val (.int (Int32.ofNat i'))] [(.int (-1 : Int32))])) := by
  intro k
  induction k with
  | zero =>
    intro i hik hp
    have hi : i = cs.length := by omega
    have S149 : own_Go p e below T0 (mkF m 7 #[.val (.ref t), .val (.int c0), .val (.int (0 : Int32)), .val (.int (Int32.ofNat cs.length)), .val (.int (own_lo c0)), .val (.int (Int32.ofNat i))] []) T0 (mkF m 32 #[.val (.ref t), .val (.int c0), .val (.int (0 : Int32)), .val (.int (Int32.ofNat cs.length)), .val (.int (own_lo c0)), .val (.int (Int32.ofNat i))] [(.int (-1 : Int32))]) := fun tg_ kk_ => (own_Go.refl T0 _) tg_ (by
      refine XS.iload X0.here hx rfl (hb hby d19_7) rfl ?_
      show Steps p.tables e below (T0.setTop (mkF m 9 #[.val (.ref t), .val (.int c0), .val (.int (0 : Int32)), .val (.int (Int32.ofNat cs.length)), .val (.int (own_lo c0)), .val (.int (Int32.ofNat i))] [(.int (Int32.ofNat i))])) _
      refine XS.iloadN X0.here hx rfl (hb hby d19_9) rfl ?_
      show Steps p.tables e below (T0.setTop (mkF m 10 #[.val (.ref t), .val (.int c0), .val (.int (0 : Int32)), .val (.int (Int32.ofNat cs.length)), .val (.int (own_lo c0)), .val (.int (Int32.ofNat i))] [(.int (Int32.ofNat cs.length)), (.int (Int32.ofNat i))])) _
      refine XS.icmpYes X0.here hx rfl (pc0 := 10) (pc' := 31) rfl (hb hby d19_10) rfl (XT.ii_ge_t (by rw [hi]; exact Int32.lt_irrefl)) (by decide) (by decide) ?_
      show Steps p.tables e below (T0.setTop (mkF m 31 #[.val (.ref t), .val (.int c0), .val (.int (0 : Int32)), .val (.int (Int32.ofNat cs.length)), .val (.int (own_lo c0)), .val (.int (Int32.ofNat i))] [])) _
      refine XS.iconst X0.here hx rfl (hb hby d19_31) ?_
      exact kk_)
    exact Or.inr ⟨fun j hj => hp j (by omega), i, S149⟩
  | succ k ih =>
    intro i hik hp
    have hi : i < cs.length := by omega
    have hat : clt.slots[(Int32.ofNat i).toNatClampNeg]? = some (.int (own_lo (cs.getD i 0))) := H.at (own_in32 Sz hi (by omega)) (by rw [own_n32 (by omega)]; exact own_getB cs i hi _)
    have S150 : own_Go p e below T0 (mkF m 7 #[.val (.ref t), .val (.int c0), .val (.int (0 : Int32)), .val (.int (Int32.ofNat cs.length)), .val (.int (own_lo c0)), .val (.int (Int32.ofNat i))] []) T0 (mkF m 19 #[.val (.ref t), .val (.int c0), .val (.int (0 : Int32)), .val (.int (Int32.ofNat cs.length)), .val (.int (own_lo c0)), .val (.int (Int32.ofNat i))] [(.int (own_lo c0)), (.int (own_lo (cs.getD i 0)))]) := fun tg_ kk_ => (own_Go.refl T0 _) tg_ (by
      refine XS.iload X0.here hx rfl (hb hby d19_7) rfl ?_
      show Steps p.tables e below (T0.setTop (mkF m 9 #[.val (.ref t), .val (.int c0), .val (.int (0 : Int32)), .val (.int (Int32.ofNat cs.length)), .val (.int (own_lo c0)), .val (.int (Int32.ofNat i))] [(.int (Int32.ofNat i))])) _
      refine XS.iloadN X0.here hx rfl (hb hby d19_9) rfl ?_
      show Steps p.tables e below (T0.setTop (mkF m 10 #[.val (.ref t), .val (.int c0), .val (.int (0 : Int32)), .val (.int (Int32.ofNat cs.length)), .val (.int (own_lo c0)), .val (.int (Int32.ofNat i))] [(.int (Int32.ofNat cs.length)), (.int (Int32.ofNat i))])) _
      refine XS.icmpNo X0.here hx rfl (hb hby d19_10) rfl (XT.ii_ge_f (own_lt32 hi (by omega))) ?_
      show Steps p.tables e below (T0.setTop (mkF m 13 #[.val (.ref t), .val (.int c0), .val (.int (0 : Int32)), .val (.int (Int32.ofNat cs.length)), .val (.int (own_lo c0)), .val (.int (Int32.ofNat i))] [])) _
      refine XS.aloadN X0.here hx rfl (hb hby d19_13) rfl rfl ?_
      show Steps p.tables e below (T0.setTop (mkF m 14 #[.val (.ref t), .val (.int c0), .val (.int (0 : Int32)), .val (.int (Int32.ofNat cs.length)), .val (.int (own_lo c0)), .val (.int (Int32.ofNat i))] [(.ref t)])) _
      refine XS.iload X0.here hx rfl (hb hby d19_14) rfl ?_
      show Steps p.tables e below (T0.setTop (mkF m 16 #[.val (.ref t), .val (.int c0), .val (.int (0 : Int32)), .val (.int (Int32.ofNat cs.length)), .val (.int (own_lo c0)), .val (.int (Int32.ofNat i))] [(.int (Int32.ofNat i)), (.ref t)])) _
      refine X0.baloadBytes hx (j := (Int32.ofNat i)) (v := (.int (own_lo (cs.getD i 0)))) (cell := clt) (by rw [e0]; exact Ar.1) (State.isArrayOf_alike hZ.alike Ar.2.1) Ar.2.2 (own_in32 Sz hi (by omega)) hat (g := (mkF m 16 #[.val (.ref t), .val (.int c0), .val (.int (0 : Int32)), .val (.int (Int32.ofNat cs.length)), .val (.int (own_lo c0)), .val (.int (Int32.ofNat i))] [(.int (Int32.ofNat i)), (.ref t)])) rfl rfl (hb hby d19_16) _ ?_
      show Steps p.tables e below (T0.setTop (mkF m 17 #[.val (.ref t), .val (.int c0), .val (.int (0 : Int32)), .val (.int (Int32.ofNat cs.length)), .val (.int (own_lo c0)), .val (.int (Int32.ofNat i))] [(.int (own_lo (cs.getD i 0)))])) _
      refine XS.iload X0.here hx rfl (hb hby d19_17) rfl ?_
      exact kk_)
    by_cases hq : cs.getD i 0 = c0
    · have hlq : own_lo (cs.getD i 0) = own_lo c0 := congrArg own_lo hq
      have S151 : own_Go p e below T0 (mkF m 7 #[.val (.ref t), .val (.int c0), .val (.int (0 : Int32)), .val (.int (Int32.ofNat cs.length)), .val (.int (own_lo c0)), .val (.int (Int32.ofNat i))] []) T0 (mkF m 24 #[.val (.ref t), .val (.int c0), .val (.int (0 : Int32)), .val (.int (Int32.ofNat cs.length)), .val (.int (own_lo c0)), .val (.int (Int32.ofNat i))] [(.int (Int32.ofNat i))]) := fun tg_ kk_ => S150 tg_ (by
        refine XS.icmpNo X0.here hx rfl (hb hby d19_19) rfl (XT.ii_ne_f hlq) ?_
        show Steps p.tables e below (T0.setTop (mkF m 22 #[.val (.ref t), .val (.int c0), .val (.int (0 : Int32)), .val (.int (Int32.ofNat cs.length)), .val (.int (own_lo c0)), .val (.int (Int32.ofNat i))] [])) _
        refine XS.iload X0.here hx rfl (hb hby d19_22) rfl ?_
        exact kk_)
      exact Or.inl ⟨i, hi, hq, S151⟩
    · have hlq : ¬ own_lo (cs.getD i 0) = own_lo c0 := fun z => hq (own_lo_inj (hch i hi) (hlat i hi) hc0.1 hc0.2 z)
      have S152 : own_Go p e below T0 (mkF m 7 #[.val (.ref t), .val (.int c0), .val (.int (0 : Int32)), .val (.int (Int32.ofNat cs.length)), .val (.int (own_lo c0)), .val (.int (Int32.ofNat i))] []) T0 (mkF m 7 #[.val (.ref t), .val (.int c0), .val (.int (0 : Int32)), .val (.int (Int32.ofNat cs.length)), .val (.int (own_lo c0)), .val (.int ((Int32.ofNat i) + (1 : Int32)))] []) := fun tg_ kk_ => S150 tg_ (by
        refine XS.icmpYes X0.here hx rfl (pc0 := 19) (pc' := 25) rfl (hb hby d19_19) rfl (XT.ii_ne_t hlq) (by decide) (by decide) ?_
        show Steps p.tables e below (T0.setTop (mkF m 25 #[.val (.ref t), .val (.int c0), .val (.int (0 : Int32)), .val (.int (Int32.ofNat cs.length)), .val (.int (own_lo c0)), .val (.int (Int32.ofNat i))] [])) _
        refine XS.iinc X0.here hx rfl (hb hby d19_25) rfl (l' := #[.val (.ref t), .val (.int c0), .val (.int (0 : Int32)), .val (.int (Int32.ofNat cs.length)), .val (.int (own_lo c0)), .val (.int ((Int32.ofNat i) + (1 : Int32)))]) rfl ?_
        show Steps p.tables e below (T0.setTop (mkF m 28 #[.val (.ref t), .val (.int c0), .val (.int (0 : Int32)), .val (.int (Int32.ofNat cs.length)), .val (.int (own_lo c0)), .val (.int ((Int32.ofNat i) + (1 : Int32)))] [])) _
        refine XS.goto X0.here hx rfl (pc0 := 28) (pc' := 7) rfl (hb hby d19_28) (by decide) (by decide) ?_
        exact kk_)
      rw [own_suc] at S152
      have hp2 : ∀ j, j < i + 1 → ¬ cs.getD j 0 = c0 := fun j hj => by
        by_cases z : j < i
        · exact hp j z
        · have : j = i := by omega
          subst this; exact hq
      rcases ih (i + 1) (by omega) hp2 with ⟨i9, h9, q9, g9⟩ | ⟨h9, i9, g9⟩
      · exact Or.inl ⟨i9, h9, q9, own_Go.trans S152 g9⟩
      · exact Or.inr ⟨h9, i9, own_Go.trans S152 g9⟩
def Q19 (Z : State) (t : Addr) (cs : List Int32) (c0 : Int32) (h0 : Heap) (n0 : Nat) (v : Option Value) (h : Heap) (L : List Loc) : Prop := ((∃ i, i < cs.length ∧ cs.getD i 0 = c0 ∧ v = some (.int (Int32.ofNat i))) ∨ ((∀ j, j < cs.length → ¬ cs.getD j 0 = c0) ∧ v = some (.int (-1)))) ∧ Fr n0 L ∧ h0 = h
set_option maxRecDepth 65536 in
set_option maxHeartbeats 40000000 in
theorem rm19 (l : Launch) (Z : State) (a0 : Array Value) (hw : ∀ d ∈ tables_1, d.before a0 Z = true) (ws : List Jvm.Cond) (t : Addr) (cs : List Int32) (c0 : Int32) (h0 : Heap) (n0 : Nat) (Z0 : n0 ≤ h0.size) (kt : ClassId) (V : Arv Z h0 t kt .byte (Int32.ofNat cs.length) (cs.map own_vb) (.int 0)) (hn : cs.length ≤ 1000) (hch : ∀ j, j < cs.length → own_Ch (cs.getD j 0)) (hc0 : own_Ch c0 ∧ ¬ (255 : Int32) < c0) (hlat : ∀ j, j < cs.length → ¬ (255 : Int32) < cs.getD j 0) :
    MetFree l (⟨"java/lang/StringLatin1", "indexOfChar", "([BIII)I"⟩ : MethodName) (head1 (Jvm.Cond.code (⟨"java/lang/StringLatin1", "indexOfChar", "([BIII)I"⟩ : MethodName) jdk_43_method_23_code 6 (some .int) :: ws) ({ frames := 0, cells := 0, slots := 0, locals := 0 } : Room)) (fun aa_ U => aa_ = #[(.ref t), (.int c0), (.int (0 : Int32)), (.int (Int32.ofNat cs.length))] ∧ Z.Warmed39 U.vm ∧ U.heap = h0) (fun _ _ _ _ _ => True) (fun _ U o U' => ∃ v L, o = .returned v ∧ Q19 Z t cs c0 h0 n0 v U'.heap L ∧ FrameEnd U o U' L ({ frames := 0, cells := 0, slots := 0, locals := 0 } : Room).cells ({ frames := 0, cells := 0, slots := 0, locals := 0 } : Room).slots) := by
  refine MetFree.of_bodySF (plainFor_of_name pn4) hisR ?_
  intro p e s m args below meth c s₁ Bd hml0 hP hK
  obtain ⟨rfl, hZ, hh⟩ := hP
  have hx := Bd.exec
  have hby := Bd.bytes
  have hml : c.maxLocals = 6 := hml0
  have hown : s.vm.findClass "java/lang/StringLatin1" = some m.cls := findClass_of_methodNamed Bd.named
  have hnm := (name_of_methodNamed Bd.named Bd.method).1
  have X0 : Stand p l e ({ frames := 0, cells := 0, slots := 0, locals := 0 } : Room) s m #[(.ref t), (.int c0), (.int (0 : Int32)), (.int (Int32.ofNat cs.length))] below meth c s₁ [] 0 0 := Stand.of_body Bd
  have e0 : s₁.heap = h0 := by rw [← hh, Bd.state]; rfl
  have N0 := Fr.nil n0
  obtain ⟨G, hG⟩ : ∃ G, G = entryFrame m #[(.ref t), (.int c0), (.int (0 : Int32)), (.int (Int32.ofNat cs.length))] 6 := ⟨_, rfl⟩
  have S0 : own_Go p e below s₁ G s₁ (mkF m 0 #[.val (.ref t), .val (.int c0), .val (.int (0 : Int32)), .val (.int (Int32.ofNat cs.length)), .unset, .unset] []) := fun tg_ kk_ => castTop (by rw [hG]; first | rfl | simp [entryFrame, mkF, argsToLocals, Value.category, maxLocals]) kk_
  have S153 : own_Go p e below s₁ G s₁ (mkF m 7 #[.val (.ref t), .val (.int c0), .val (.int (0 : Int32)), .val (.int (Int32.ofNat cs.length)), .val (.int ((c0).toInt8.toInt32)), .val (.int (0 : Int32))] []) := fun tg_ kk_ => S0 tg_ (by
    refine XS.iloadN X0.here hx rfl (hb hby d19_0) rfl ?_
    show Steps p.tables e below (s₁.setTop (mkF m 1 #[.val (.ref t), .val (.int c0), .val (.int (0 : Int32)), .val (.int (Int32.ofNat cs.length)), .unset, .unset] [(.int c0)])) _
    refine XT.i2b X0.here hx rfl (hb hby d19_1) rfl ?_
    show Steps p.tables e below (s₁.setTop (mkF m 2 #[.val (.ref t), .val (.int c0), .val (.int (0 : Int32)), .val (.int (Int32.ofNat cs.length)), .unset, .unset] [(.int ((c0).toInt8.toInt32))])) _
    refine XS.istore X0.here hx rfl (hb hby d19_2) rfl (l' := #[.val (.ref t), .val (.int c0), .val (.int (0 : Int32)), .val (.int (Int32.ofNat cs.length)), .val (.int ((c0).toInt8.toInt32)), .unset]) rfl ?_
    show Steps p.tables e below (s₁.setTop (mkF m 4 #[.val (.ref t), .val (.int c0), .val (.int (0 : Int32)), .val (.int (Int32.ofNat cs.length)), .val (.int ((c0).toInt8.toInt32)), .unset] [])) _
    refine XS.iloadN X0.here hx rfl (hb hby d19_4) rfl ?_
    show Steps p.tables e below (s₁.setTop (mkF m 5 #[.val (.ref t), .val (.int c0), .val (.int (0 : Int32)), .val (.int (Int32.ofNat cs.length)), .val (.int ((c0).toInt8.toInt32)), .unset] [(.int (0 : Int32))])) _
    refine XS.istore X0.here hx rfl (hb hby d19_5) rfl (l' := #[.val (.ref t), .val (.int c0), .val (.int (0 : Int32)), .val (.int (Int32.ofNat cs.length)), .val (.int ((c0).toInt8.toInt32)), .val (.int (0 : Int32))]) rfl ?_
    exact kk_)
  obtain ⟨cl, Ar, -, Sz, Mn, H, -⟩ := V
  rcases own_lic (Z := Z) (h0 := h0) t cs c0 cl hn hch hc0 hlat X0 hx hZ hby e0 Ar Sz H cs.length 0 (by omega) (fun j hj => absurd hj (Nat.not_lt_zero j)) with ⟨i, hi, hci, g9⟩ | ⟨hno, i, g9⟩
  · have SL := own_Go.trans S153 g9
    obtain ⟨fs, hr, hrun, hended, hW, hsame⟩ := X0.leave (v := some (.int (Int32.ofNat i))) (fun h => by rw [Bd.returns] at h; cases h)
    refine ⟨_, _, ?_, hrun, hended, _, _, rfl, ?_, ⟨_, rfl⟩, hW, hsame.mono (by decide) (by decide)⟩
    · rw [← hG]; exact SL _ (retI X0 hx Bd.returns (hb hby d19_24) hr)
    · show Q19 Z t cs c0 h0 n0 _ s₁.heap _
      rw [e0]
      exact ⟨Or.inl ⟨i, hi, hci, rfl⟩, N0, rfl⟩
  · have SL := own_Go.trans S153 g9
    obtain ⟨fs, hr, hrun, hended, hW, hsame⟩ := X0.leave (v := some (.int (-1 : Int32))) (fun h => by rw [Bd.returns] at h; cases h)
    refine ⟨_, _, ?_, hrun, hended, _, _, rfl, ?_, ⟨_, rfl⟩, hW, hsame.mono (by decide) (by decide)⟩
    · rw [← hG]; exact SL _ (retI X0 hx Bd.returns (hb hby d19_32) hr)
    · show Q19 Z t cs c0 h0 n0 _ s₁.heap _
      rw [e0]
      exact ⟨Or.inr ⟨hno, rfl⟩, N0, rfl⟩
def Q11 (Z : State) (t : Addr) (cs : List Int32) (c0 : Int32) (h0 : Heap) (n0 : Nat) (v : Option Value) (h : Heap) (L : List Loc) : Prop := ((∃ i, i < cs.length ∧ cs.getD i 0 = c0 ∧ v = some (.int (Int32.ofNat i))) ∨ ((∀ j, j < cs.length → ¬ cs.getD j 0 = c0) ∧ v = some (.int (-1)))) ∧ Fr n0 L ∧ h0 = h
set_option maxRecDepth 65536 in
set_option maxHeartbeats 40000000 in
theorem rm11 (l : Launch) (Z : State) (a0 : Array Value) (hw : ∀ d ∈ tables_1, d.before a0 Z = true) (ws : List Jvm.Cond) (t : Addr) (cs : List Int32) (c0 : Int32) (h0 : Heap) (n0 : Nat) (Z0 : n0 ≤ h0.size) (kt : ClassId) (V : Arv Z h0 t kt .byte (Int32.ofNat cs.length) (cs.map own_vb) (.int 0)) (hn : cs.length ≤ 1000) (hch : ∀ j, j < cs.length → own_Ch (cs.getD j 0)) (hc0 : own_Ch c0 ∧ ¬ (255 : Int32) < c0) (hlat : ∀ j, j < cs.length → ¬ (255 : Int32) < cs.getD j 0) :
    MetFree l (⟨"java/lang/StringLatin1", "indexOf", "([BIII)I"⟩ : MethodName) (head1 (Jvm.Cond.code (⟨"java/lang/StringLatin1", "indexOf", "([BIII)I"⟩ : MethodName) jdk_43_method_22_code 4 (some .int) :: ws) ({ frames := 1, cells := 0, slots := 0, locals := 18 } : Room)) (fun aa_ U => aa_ = #[(.ref t), (.int c0), (.int (0 : Int32)), (.int (Int32.ofNat cs.length))] ∧ Z.Warmed39 U.vm ∧ U.heap = h0) (fun _ _ _ _ _ => True) (fun _ U o U' => ∃ v L, o = .returned v ∧ Q11 Z t cs c0 h0 n0 v U'.heap L ∧ FrameEnd U o U' L ({ frames := 1, cells := 0, slots := 0, locals := 18 } : Room).cells ({ frames := 1, cells := 0, slots := 0, locals := 18 } : Room).slots) := by
  refine MetFree.of_bodySF (plainFor_of_name pn4) hisR ?_
  intro p e s m args below meth c s₁ Bd hml0 hP hK
  obtain ⟨rfl, hZ, hh⟩ := hP
  have hx := Bd.exec
  have hby := Bd.bytes
  have hml : c.maxLocals = 4 := hml0
  have hown : s.vm.findClass "java/lang/StringLatin1" = some m.cls := findClass_of_methodNamed Bd.named
  have hnm := (name_of_methodNamed Bd.named Bd.method).1
  have X0 : Stand p l e ({ frames := 1, cells := 0, slots := 0, locals := 18 } : Room) s m #[(.ref t), (.int c0), (.int (0 : Int32)), (.int (Int32.ofNat cs.length))] below meth c s₁ [] 0 0 := Stand.of_body Bd
  have e0 : s₁.heap = h0 := by rw [← hh, Bd.state]; rfl
  have N0 := Fr.nil n0
  obtain ⟨G, hG⟩ : ∃ G, G = entryFrame m #[(.ref t), (.int c0), (.int (0 : Int32)), (.int (Int32.ofNat cs.length))] 4 := ⟨_, rfl⟩
  have S0 : own_Go p e below s₁ G s₁ (mkF m 0 #[.val (.ref t), .val (.int c0), .val (.int (0 : Int32)), .val (.int (Int32.ofNat cs.length))] []) := fun tg_ kk_ => castTop (by rw [hG]; first | rfl | simp [entryFrame, mkF, argsToLocals, Value.category, maxLocals]) kk_
  obtain ⟨cl, Ar, -, Sz, Mn, H, -⟩ := id V
  have S154 : own_Go p e below s₁ G s₁ (mkF m 1 #[.val (.ref t), .val (.int c0), .val (.int (0 : Int32)), .val (.int (Int32.ofNat cs.length))] [(.int c0)]) := fun tg_ kk_ => S0 tg_ (by
    refine XS.iloadN X0.here hx rfl (hb hby d11_0) rfl ?_
    exact kk_)
  obtain ⟨_, T155, h155, L155, X155, e155, hQ155, st155⟩ := own_callS X0 hx hZ (y := (⟨"java/lang/StringLatin1", "canEncode", "(I)Z"⟩ : MethodName)) hown (hw _ (List.mem_of_getElem? (i := 60) rfl)) (hw _ (List.mem_of_getElem? (i := 61) rfl)) (hw _ (List.mem_of_getElem? (i := 58) rfl)) (hw _ (List.mem_of_getElem? (i := 62) rfl)) (by decide) 0 (g := (mkF m 1 #[.val (.ref t), .val (.int c0), .val (.int (0 : Int32)), .val (.int (Int32.ofNat cs.length))] [(.int c0)])) rfl (by rw [hml]; rfl) [(.int c0)] [] (rm12 l Z a0 hw [] c0 h0 n0 Z0 hc0.1.1 hc0.2) (lenOf pd13 rfl) rfl (by show 2 * 0 + _ ≤ _; exact Nat.le_of_eq rfl) (hb hby d11_1) (by decide) (by decide) e0 (by decide) (by decide)
  obtain ⟨rfl, N155, rfl⟩ := hQ155
  have S156 : own_Go p e below s₁ G T155 (mkF m 4 #[.val (.ref t), .val (.int c0), .val (.int (0 : Int32)), .val (.int (Int32.ofNat cs.length))] [(.int (1 : Int32))]) := fun tg_ kk_ => S154 tg_ (st155 tg_ kk_)
  have M155 := Fr.app N0 N155
  have S157 : own_Go p e below s₁ G T155 (mkF m 11 #[.val (.ref t), .val (.int c0), .val (.int (0 : Int32)), .val (.int (Int32.ofNat cs.length))] [(.int (0 : Int32)), (.int (0 : Int32))]) := fun tg_ kk_ => S156 tg_ (by
    refine XS.ifYes X155.here hx rfl (pc0 := 4) (pc' := 9) rfl (hb hby d11_4) rfl (XT.i0_ne_t (by decide)) (by decide) (by decide) ?_
    show Steps p.tables e below (T155.setTop (mkF m 9 #[.val (.ref t), .val (.int c0), .val (.int (0 : Int32)), .val (.int (Int32.ofNat cs.length))] [])) _
    refine XS.iloadN X155.here hx rfl (hb hby d11_9) rfl ?_
    show Steps p.tables e below (T155.setTop (mkF m 10 #[.val (.ref t), .val (.int c0), .val (.int (0 : Int32)), .val (.int (Int32.ofNat cs.length))] [(.int (0 : Int32))])) _
    refine XS.iconst X155.here hx rfl (hb hby d11_10) ?_
    exact kk_)
  obtain ⟨_, T158, h158, L158, X158, e158, hQ158, st158⟩ := own_callS X155 hx hZ (y := (⟨"java/lang/Math", "max", "(II)I"⟩ : MethodName)) hown (hw _ (List.mem_of_getElem? (i := 63) rfl)) (hw _ (List.mem_of_getElem? (i := 64) rfl)) (hw _ (List.mem_of_getElem? (i := 65) rfl)) (hw _ (List.mem_of_getElem? (i := 66) rfl)) (by decide) 0 (g := (mkF m 11 #[.val (.ref t), .val (.int c0), .val (.int (0 : Int32)), .val (.int (Int32.ofNat cs.length))] [(.int (0 : Int32)), (.int (0 : Int32))])) rfl (by rw [hml]; rfl) [(.int (0 : Int32)), (.int (0 : Int32))] [] (rm13 l Z a0 hw [] h0 n0 Z0) (lenOf pd8 rfl) rfl (by show 2 * 0 + _ ≤ _; exact Nat.le_of_eq rfl) (hb hby d11_11) (by decide) (by decide) e155 (by decide) (by decide)
  obtain ⟨rfl, N158, rfl⟩ := hQ158
  have S159 : own_Go p e below s₁ G T158 (mkF m 14 #[.val (.ref t), .val (.int c0), .val (.int (0 : Int32)), .val (.int (Int32.ofNat cs.length))] [(.int (0 : Int32))]) := fun tg_ kk_ => S157 tg_ (st158 tg_ kk_)
  have M158 := Fr.app M155 N158
  have S160 : own_Go p e below s₁ G T158 (mkF m 18 #[.val (.ref t), .val (.int c0), .val (.int (0 : Int32)), .val (.int (Int32.ofNat cs.length))] [(.int (Int32.ofNat cs.length)), (.int (Int32.ofNat cs.length))]) := fun tg_ kk_ => S159 tg_ (by
    refine XS.istoreN X158.here hx rfl (hb hby d11_14) rfl (l' := #[.val (.ref t), .val (.int c0), .val (.int (0 : Int32)), .val (.int (Int32.ofNat cs.length))]) rfl ?_
    show Steps p.tables e below (T158.setTop (mkF m 15 #[.val (.ref t), .val (.int c0), .val (.int (0 : Int32)), .val (.int (Int32.ofNat cs.length))] [])) _
    refine XS.iloadN X158.here hx rfl (hb hby d11_15) rfl ?_
    show Steps p.tables e below (T158.setTop (mkF m 16 #[.val (.ref t), .val (.int c0), .val (.int (0 : Int32)), .val (.int (Int32.ofNat cs.length))] [(.int (Int32.ofNat cs.length))])) _
    refine XS.aloadN X158.here hx rfl (hb hby d11_16) rfl rfl ?_
    show Steps p.tables e below (T158.setTop (mkF m 17 #[.val (.ref t), .val (.int c0), .val (.int (0 : Int32)), .val (.int (Int32.ofNat cs.length))] [(.ref t), (.int (Int32.ofNat cs.length))])) _
    refine X158.arraylength hx (cell := cl) (by rw [e158]; exact Ar.1) (State.isArrayOf_alike hZ.alike Ar.2.1) (g := (mkF m 17 #[.val (.ref t), .val (.int c0), .val (.int (0 : Int32)), .val (.int (Int32.ofNat cs.length))] [(.ref t), (.int (Int32.ofNat cs.length))])) rfl (rest := [(.int (Int32.ofNat cs.length))]) rfl (hb hby d11_17) _ ?_
    rw [len_of Sz Mn]
    exact kk_)
  obtain ⟨_, T161, h161, L161, X161, e161, hQ161, st161⟩ := own_callS X158 hx hZ (y := (⟨"java/lang/Math", "min", "(II)I"⟩ : MethodName)) hown (hw _ (List.mem_of_getElem? (i := 67) rfl)) (hw _ (List.mem_of_getElem? (i := 68) rfl)) (hw _ (List.mem_of_getElem? (i := 65) rfl)) (hw _ (List.mem_of_getElem? (i := 69) rfl)) (by decide) 0 (g := (mkF m 18 #[.val (.ref t), .val (.int c0), .val (.int (0 : Int32)), .val (.int (Int32.ofNat cs.length))] [(.int (Int32.ofNat cs.length)), (.int (Int32.ofNat cs.length))])) rfl (by rw [hml]; rfl) [(.int (Int32.ofNat cs.length)), (.int (Int32.ofNat cs.length))] [] (rm14 l Z a0 hw [] (Int32.ofNat cs.length) h0 n0 Z0) (lenOf pd8 rfl) rfl (by show 2 * 0 + _ ≤ _; exact Nat.le_of_eq rfl) (hb hby d11_18) (by decide) (by decide) e158 (by decide) (by decide)
  obtain ⟨rfl, N161, rfl⟩ := hQ161
  have S162 : own_Go p e below s₁ G T161 (mkF m 21 #[.val (.ref t), .val (.int c0), .val (.int (0 : Int32)), .val (.int (Int32.ofNat cs.length))] [(.int (Int32.ofNat cs.length))]) := fun tg_ kk_ => S160 tg_ (st161 tg_ kk_)
  have M161 := Fr.app M158 N161
  have S163 : own_Go p e below s₁ G T161 (mkF m 24 #[.val (.ref t), .val (.int c0), .val (.int (0 : Int32)), .val (.int (Int32.ofNat cs.length))] [(.int (Int32.ofNat cs.length)), (.int (0 : Int32))]) := fun tg_ kk_ => S162 tg_ (by
    refine XS.istoreN X161.here hx rfl (hb hby d11_21) rfl (l' := #[.val (.ref t), .val (.int c0), .val (.int (0 : Int32)), .val (.int (Int32.ofNat cs.length))]) rfl ?_
    show Steps p.tables e below (T161.setTop (mkF m 22 #[.val (.ref t), .val (.int c0), .val (.int (0 : Int32)), .val (.int (Int32.ofNat cs.length))] [])) _
    refine XS.iloadN X161.here hx rfl (hb hby d11_22) rfl ?_
    show Steps p.tables e below (T161.setTop (mkF m 23 #[.val (.ref t), .val (.int c0), .val (.int (0 : Int32)), .val (.int (Int32.ofNat cs.length))] [(.int (0 : Int32))])) _
    refine XS.iloadN X161.here hx rfl (hb hby d11_23) rfl ?_
    exact kk_)
  by_cases hl : 0 < cs.length
  · have hl2 : (0 : Int32) < Int32.ofNat cs.length := own_lt32 (i := 0) hl (by omega)
    have S164 : own_Go p e below s₁ G T161 (mkF m 33 #[.val (.ref t), .val (.int c0), .val (.int (0 : Int32)), .val (.int (Int32.ofNat cs.length))] [(.int (Int32.ofNat cs.length)), (.int (0 : Int32)), (.int c0), (.ref t)]) := fun tg_ kk_ => S163 tg_ (by
      refine XS.icmpYes X161.here hx rfl (pc0 := 24) (pc' := 29) rfl (hb hby d11_24) rfl (XT.ii_lt_t hl2) (by decide) (by decide) ?_
      show Steps p.tables e below (T161.setTop (mkF m 29 #[.val (.ref t), .val (.int c0), .val (.int (0 : Int32)), .val (.int (Int32.ofNat cs.length))] [])) _
      refine XS.aloadN X161.here hx rfl (hb hby d11_29) rfl rfl ?_
      show Steps p.tables e below (T161.setTop (mkF m 30 #[.val (.ref t), .val (.int c0), .val (.int (0 : Int32)), .val (.int (Int32.ofNat cs.length))] [(.ref t)])) _
      refine XS.iloadN X161.here hx rfl (hb hby d11_30) rfl ?_
      show Steps p.tables e below (T161.setTop (mkF m 31 #[.val (.ref t), .val (.int c0), .val (.int (0 : Int32)), .val (.int (Int32.ofNat cs.length))] [(.int c0), (.ref t)])) _
      refine XS.iloadN X161.here hx rfl (hb hby d11_31) rfl ?_
      show Steps p.tables e below (T161.setTop (mkF m 32 #[.val (.ref t), .val (.int c0), .val (.int (0 : Int32)), .val (.int (Int32.ofNat cs.length))] [(.int (0 : Int32)), (.int c0), (.ref t)])) _
      refine XS.iloadN X161.here hx rfl (hb hby d11_32) rfl ?_
      exact kk_)
    obtain ⟨_, T165, h165, L165, X165, e165, hQ165, st165⟩ := own_callS X161 hx hZ (y := (⟨"java/lang/StringLatin1", "indexOfChar", "([BIII)I"⟩ : MethodName)) hown (hw _ (List.mem_of_getElem? (i := 83) rfl)) (hw _ (List.mem_of_getElem? (i := 84) rfl)) (hw _ (List.mem_of_getElem? (i := 58) rfl)) (hw _ (List.mem_of_getElem? (i := 85) rfl)) (by decide) 0 (g := (mkF m 33 #[.val (.ref t), .val (.int c0), .val (.int (0 : Int32)), .val (.int (Int32.ofNat cs.length))] [(.int (Int32.ofNat cs.length)), (.int (0 : Int32)), (.int c0), (.ref t)])) rfl (by rw [hml]; rfl) [(.ref t), (.int c0), (.int (0 : Int32)), (.int (Int32.ofNat cs.length))] [] (rm19 l Z a0 hw [] t cs c0 h0 n0 Z0 kt V hn hch hc0 hlat) (lenOf pd12 rfl) rfl (by show 2 * 0 + _ ≤ _; exact Nat.le_of_eq rfl) (hb hby d11_33) (by decide) (by decide) e161 (by decide) (by decide)
    rcases hQ165 with ⟨⟨i, hi, hci, rfl⟩ | ⟨hno, rfl⟩, N165, rfl⟩
    · have _ := e165
      have S166 : own_Go p e below s₁ G T165 (mkF m 36 #[.val (.ref t), .val (.int c0), .val (.int (0 : Int32)), .val (.int (Int32.ofNat cs.length))] [(.int (Int32.ofNat i))]) := fun tg_ kk_ => S164 tg_ (st165 tg_ kk_)
      have M165 := Fr.app M161 N165
      obtain ⟨fs, hr, hrun, hended, hW, hsame⟩ := X165.leave (v := some (.int (Int32.ofNat i))) (fun h => by rw [Bd.returns] at h; cases h)
      refine ⟨_, _, ?_, hrun, hended, _, _, rfl, ?_, ⟨_, rfl⟩, hW, hsame.mono (by decide) (by decide)⟩
      · rw [← hG]; exact S166 _ (retI X165 hx Bd.returns (hb hby d11_36) hr)
      · show Q11 Z t cs c0 h0 n0 _ T165.heap _
        rw [e165]
        exact ⟨Or.inl ⟨i, hi, hci, rfl⟩, M165, rfl⟩
    · have _ := e165
      have S167 : own_Go p e below s₁ G T165 (mkF m 36 #[.val (.ref t), .val (.int c0), .val (.int (0 : Int32)), .val (.int (Int32.ofNat cs.length))] [(.int (-1 : Int32))]) := fun tg_ kk_ => S164 tg_ (st165 tg_ kk_)
      have M165 := Fr.app M161 N165
      obtain ⟨fs, hr, hrun, hended, hW, hsame⟩ := X165.leave (v := some (.int (-1 : Int32))) (fun h => by rw [Bd.returns] at h; cases h)
      refine ⟨_, _, ?_, hrun, hended, _, _, rfl, ?_, ⟨_, rfl⟩, hW, hsame.mono (by decide) (by decide)⟩
      · rw [← hG]; exact S167 _ (retI X165 hx Bd.returns (hb hby d11_36) hr)
      · show Q11 Z t cs c0 h0 n0 _ T165.heap _
        rw [e165]
        exact ⟨Or.inr ⟨hno, rfl⟩, M165, rfl⟩
  · have hl2 : ¬ (0 : Int32) < Int32.ofNat cs.length := by
      have hz : cs.length = 0 := by omega
      rw [hz]; decide
    have S168 : own_Go p e below s₁ G T161 (mkF m 28 #[.val (.ref t), .val (.int c0), .val (.int (0 : Int32)), .val (.int (Int32.ofNat cs.length))] [(.int (-1 : Int32))]) := fun tg_ kk_ => S163 tg_ (by
      refine XS.icmpNo X161.here hx rfl (hb hby d11_24) rfl (XT.ii_lt_f hl2) ?_
      show Steps p.tables e below (T161.setTop (mkF m 27 #[.val (.ref t), .val (.int c0), .val (.int (0 : Int32)), .val (.int (Int32.ofNat cs.length))] [])) _
      refine XS.iconst X161.here hx rfl (hb hby d11_27) ?_
      exact kk_)
    obtain ⟨fs, hr, hrun, hended, hW, hsame⟩ := X161.leave (v := some (.int (-1 : Int32))) (fun h => by rw [Bd.returns] at h; cases h)
    refine ⟨_, _, ?_, hrun, hended, _, _, rfl, ?_, ⟨_, rfl⟩, hW, hsame.mono (by decide) (by decide)⟩
    · rw [← hG]; exact S168 _ (retI X161 hx Bd.returns (hb hby d11_28) hr)
    · show Q11 Z t cs c0 h0 n0 _ T161.heap _
      rw [e161]
      exact ⟨Or.inr ⟨fun j hj => absurd hj (by omega), rfl⟩, M161, rfl⟩
def Q28 (Z : State) (t : Addr) (cs : List Int32) (h0 : Heap) (n0 : Nat) (v : Option Value) (h : Heap) (L : List Loc) : Prop := v = some (.int (Int32.ofNat cs.length)) ∧ Fr n0 L ∧ h0 = h
set_option maxRecDepth 65536 in
set_option maxHeartbeats 40000000 in
theorem rm28 (l : Launch) (Z : State) (a0 : Array Value) (hw : ∀ d ∈ tables_1, d.before a0 Z = true) (ws : List Jvm.Cond) (t : Addr) (cs : List Int32) (h0 : Heap) (n0 : Nat) (Z0 : n0 ≤ h0.size) (kt : ClassId) (V : Arv Z h0 t kt .byte (Int32.ofNat (2 * cs.length)) (own_wide cs) (.int 0)) (hn : cs.length ≤ 1000) :
    MetFree l (⟨"java/lang/StringUTF16", "length", "([B)I"⟩ : MethodName) (head1 (Jvm.Cond.code (⟨"java/lang/StringUTF16", "length", "([B)I"⟩ : MethodName) jdk_52_method_6_code 1 (some .int) :: ws) ({ frames := 0, cells := 0, slots := 0, locals := 0 } : Room)) (fun aa_ U => aa_ = #[(.ref t)] ∧ Z.Warmed39 U.vm ∧ U.heap = h0) (fun _ _ _ _ _ => True) (fun _ U o U' => ∃ v L, o = .returned v ∧ Q28 Z t cs h0 n0 v U'.heap L ∧ FrameEnd U o U' L ({ frames := 0, cells := 0, slots := 0, locals := 0 } : Room).cells ({ frames := 0, cells := 0, slots := 0, locals := 0 } : Room).slots) := by
  refine MetFree.of_bodySF (plainFor_of_name pn1) hisR ?_
  intro p e s m args below meth c s₁ Bd hml0 hP hK
  obtain ⟨rfl, hZ, hh⟩ := hP
  have hx := Bd.exec
  have hby := Bd.bytes
  have hml : c.maxLocals = 1 := hml0
  have hown : s.vm.findClass "java/lang/StringUTF16" = some m.cls := findClass_of_methodNamed Bd.named
  have hnm := (name_of_methodNamed Bd.named Bd.method).1
  have X0 : Stand p l e ({ frames := 0, cells := 0, slots := 0, locals := 0 } : Room) s m #[(.ref t)] below meth c s₁ [] 0 0 := Stand.of_body Bd
  have e0 : s₁.heap = h0 := by rw [← hh, Bd.state]; rfl
  have N0 := Fr.nil n0
  obtain ⟨G, hG⟩ : ∃ G, G = entryFrame m #[(.ref t)] 1 := ⟨_, rfl⟩
  have S0 : own_Go p e below s₁ G s₁ (mkF m 0 #[.val (.ref t)] []) := fun tg_ kk_ => castTop (by rw [hG]; first | rfl | simp [entryFrame, mkF, argsToLocals, Value.category, maxLocals]) kk_
  obtain ⟨cl, Ar, -, Sz, Mn, H, -⟩ := id V
  have S169 : own_Go p e below s₁ G s₁ (mkF m 4 #[.val (.ref t)] [(.int ((Int32.ofNat (2 * cs.length)) >>> ((1 : Int32) &&& 31)))]) := fun tg_ kk_ => S0 tg_ (by
    refine XS.aloadN X0.here hx rfl (hb hby d28_0) rfl rfl ?_
    show Steps p.tables e below (s₁.setTop (mkF m 1 #[.val (.ref t)] [(.ref t)])) _
    refine X0.arraylength hx (cell := cl) (by rw [e0]; exact Ar.1) (State.isArrayOf_alike hZ.alike Ar.2.1) (g := (mkF m 1 #[.val (.ref t)] [(.ref t)])) rfl (rest := []) rfl (hb hby d28_1) _ ?_
    rw [len_of Sz Mn]
    show Steps p.tables e below (s₁.setTop (mkF m 2 #[.val (.ref t)] [(.int (Int32.ofNat (2 * cs.length)))])) _
    refine XS.iconst X0.here hx rfl (hb hby d28_2) ?_
    show Steps p.tables e below (s₁.setTop (mkF m 3 #[.val (.ref t)] [(.int (1 : Int32)), (.int (Int32.ofNat (2 * cs.length)))])) _
    refine XT.ishr X0.here hx rfl (hb hby d28_3) rfl ?_
    exact kk_)
  rw [own_shr1 (by omega)] at S169
  obtain ⟨fs, hr, hrun, hended, hW, hsame⟩ := X0.leave (v := some (.int (Int32.ofNat cs.length))) (fun h => by rw [Bd.returns] at h; cases h)
  refine ⟨_, _, ?_, hrun, hended, _, _, rfl, ?_, ⟨_, rfl⟩, hW, hsame.mono (by decide) (by decide)⟩
  · rw [← hG]; exact S169 _ (retI X0 hx Bd.returns (hb hby d28_4) hr)
  · show Q28 Z t cs h0 n0 _ s₁.heap _
    rw [e0]
    exact ⟨rfl, N0, rfl⟩
theorem pn5 : plainName "jdk/internal/util/Preconditions" = true := by first | (simp [plainName, overriddenIn]; done) | decide +kernel
def Q30n (Z : State) (n : Int32) (h0 : Heap) (n0 : Nat) (v : Option Value) (h : Heap) (L : List Loc) : Prop := v = some (.int 0) ∧ Fr n0 L ∧ h0 = h
set_option maxRecDepth 65536 in
set_option maxHeartbeats 40000000 in
theorem rm30n (l : Launch) (Z : State) (a0 : Array Value) (hw : ∀ d ∈ tables_1, d.before a0 Z = true) (ws : List Jvm.Cond) (n : Int32) (h0 : Heap) (n0 : Nat) (Z0 : n0 ≤ h0.size) (h1 : ¬ n < 0) :
    MetFree l (⟨"jdk/internal/util/Preconditions", "checkFromToIndex", "(IIILjava/util/function/BiFunction;)I"⟩ : MethodName) (head1 (Jvm.Cond.code (⟨"jdk/internal/util/Preconditions", "checkFromToIndex", "(IIILjava/util/function/BiFunction;)I"⟩ : MethodName) jdk_41_method_12_code 4 (some .int) :: ws) ({ frames := 0, cells := 0, slots := 0, locals := 0 } : Room)) (fun aa_ U => aa_ = #[(.int (0 : Int32)), (.int n), (.int n), .null] ∧ Z.Warmed39 U.vm ∧ U.heap = h0) (fun _ _ _ _ _ => True) (fun _ U o U' => ∃ v L, o = .returned v ∧ Q30n Z n h0 n0 v U'.heap L ∧ FrameEnd U o U' L ({ frames := 0, cells := 0, slots := 0, locals := 0 } : Room).cells ({ frames := 0, cells := 0, slots := 0, locals := 0 } : Room).slots) := by
  refine MetFree.of_bodySF (plainFor_of_name pn5) hisR ?_
  intro p e s m args below meth c s₁ Bd hml0 hP hK
  obtain ⟨rfl, hZ, hh⟩ := hP
  have hx := Bd.exec
  have hby := Bd.bytes
  have hml : c.maxLocals = 4 := hml0
  have hown : s.vm.findClass "jdk/internal/util/Preconditions" = some m.cls := findClass_of_methodNamed Bd.named
  have hnm := (name_of_methodNamed Bd.named Bd.method).1
  have X0 : Stand p l e ({ frames := 0, cells := 0, slots := 0, locals := 0 } : Room) s m #[(.int (0 : Int32)), (.int n), (.int n), .null] below meth c s₁ [] 0 0 := Stand.of_body Bd
  have e0 : s₁.heap = h0 := by rw [← hh, Bd.state]; rfl
  have N0 := Fr.nil n0
  obtain ⟨G, hG⟩ : ∃ G, G = entryFrame m #[(.int (0 : Int32)), (.int n), (.int n), .null] 4 := ⟨_, rfl⟩
  have S0 : own_Go p e below s₁ G s₁ (mkF m 0 #[.val (.int (0 : Int32)), .val (.int n), .val (.int n), .val .null] []) := fun tg_ kk_ => castTop (by rw [hG]; first | rfl | simp [entryFrame, mkF, argsToLocals, Value.category, maxLocals]) kk_
  have S170 : own_Go p e below s₁ G s₁ (mkF m 23 #[.val (.int (0 : Int32)), .val (.int n), .val (.int n), .val .null] [(.int (0 : Int32))]) := fun tg_ kk_ => S0 tg_ (by
    refine XS.iloadN X0.here hx rfl (hb hby d30_0) rfl ?_
    show Steps p.tables e below (s₁.setTop (mkF m 1 #[.val (.int (0 : Int32)), .val (.int n), .val (.int n), .val .null] [(.int (0 : Int32))])) _
    refine XS.ifNo X0.here hx rfl (hb hby d30_1) rfl (XT.i0_lt_f (by decide)) ?_
    show Steps p.tables e below (s₁.setTop (mkF m 4 #[.val (.int (0 : Int32)), .val (.int n), .val (.int n), .val .null] [])) _
    refine XS.iloadN X0.here hx rfl (hb hby d30_4) rfl ?_
    show Steps p.tables e below (s₁.setTop (mkF m 5 #[.val (.int (0 : Int32)), .val (.int n), .val (.int n), .val .null] [(.int (0 : Int32))])) _
    refine XS.iloadN X0.here hx rfl (hb hby d30_5) rfl ?_
    show Steps p.tables e below (s₁.setTop (mkF m 6 #[.val (.int (0 : Int32)), .val (.int n), .val (.int n), .val .null] [(.int n), (.int (0 : Int32))])) _
    refine XS.icmpNo X0.here hx rfl (hb hby d30_6) rfl (XT.ii_gt_f h1) ?_
    show Steps p.tables e below (s₁.setTop (mkF m 9 #[.val (.int (0 : Int32)), .val (.int n), .val (.int n), .val .null] [])) _
    refine XS.iloadN X0.here hx rfl (hb hby d30_9) rfl ?_
    show Steps p.tables e below (s₁.setTop (mkF m 10 #[.val (.int (0 : Int32)), .val (.int n), .val (.int n), .val .null] [(.int n)])) _
    refine XS.iloadN X0.here hx rfl (hb hby d30_10) rfl ?_
    show Steps p.tables e below (s₁.setTop (mkF m 11 #[.val (.int (0 : Int32)), .val (.int n), .val (.int n), .val .null] [(.int n), (.int n)])) _
    refine XS.icmpYes X0.here hx rfl (pc0 := 11) (pc' := 22) rfl (hb hby d30_11) rfl (XT.ii_le_t Int32.lt_irrefl) (by decide) (by decide) ?_
    show Steps p.tables e below (s₁.setTop (mkF m 22 #[.val (.int (0 : Int32)), .val (.int n), .val (.int n), .val .null] [])) _
    refine XS.iloadN X0.here hx rfl (hb hby d30_22) rfl ?_
    exact kk_)
  obtain ⟨fs, hr, hrun, hended, hW, hsame⟩ := X0.leave (v := some (.int (0 : Int32))) (fun h => by rw [Bd.returns] at h; cases h)
  refine ⟨_, _, ?_, hrun, hended, _, _, rfl, ?_, ⟨_, rfl⟩, hW, hsame.mono (by decide) (by decide)⟩
  · rw [← hG]; exact S170 _ (retI X0 hx Bd.returns (hb hby d30_23) hr)
  · show Q30n Z n h0 n0 _ s₁.heap _
    rw [e0]
    exact ⟨rfl, N0, rfl⟩
def Q30r (Z : State) (n : Int32) (f : Addr) (h0 : Heap) (n0 : Nat) (v : Option Value) (h : Heap) (L : List Loc) : Prop := v = some (.int 0) ∧ Fr n0 L ∧ h0 = h
set_option maxRecDepth 65536 in
set_option maxHeartbeats 40000000 in
theorem rm30r (l : Launch) (Z : State) (a0 : Array Value) (hw : ∀ d ∈ tables_1, d.before a0 Z = true) (ws : List Jvm.Cond) (n : Int32) (f : Addr) (h0 : Heap) (n0 : Nat) (Z0 : n0 ≤ h0.size) (h1 : ¬ n < 0) :
    MetFree l (⟨"jdk/internal/util/Preconditions", "checkFromToIndex", "(IIILjava/util/function/BiFunction;)I"⟩ : MethodName) (head1 (Jvm.Cond.code (⟨"jdk/internal/util/Preconditions", "checkFromToIndex", "(IIILjava/util/function/BiFunction;)I"⟩ : MethodName) jdk_41_method_12_code 4 (some .int) :: ws) ({ frames := 0, cells := 0, slots := 0, locals := 0 } : Room)) (fun aa_ U => aa_ = #[(.int (0 : Int32)), (.int n), (.int n), (.ref f)] ∧ Z.Warmed39 U.vm ∧ U.heap = h0) (fun _ _ _ _ _ => True) (fun _ U o U' => ∃ v L, o = .returned v ∧ Q30r Z n f h0 n0 v U'.heap L ∧ FrameEnd U o U' L ({ frames := 0, cells := 0, slots := 0, locals := 0 } : Room).cells ({ frames := 0, cells := 0, slots := 0, locals := 0 } : Room).slots) := by
  refine MetFree.of_bodySF (plainFor_of_name pn5) hisR ?_
  intro p e s m args below meth c s₁ Bd hml0 hP hK
  obtain ⟨rfl, hZ, hh⟩ := hP
  have hx := Bd.exec
  have hby := Bd.bytes
  have hml : c.maxLocals = 4 := hml0
  have hown : s.vm.findClass "jdk/internal/util/Preconditions" = some m.cls := findClass_of_methodNamed Bd.named
  have hnm := (name_of_methodNamed Bd.named Bd.method).1
  have X0 : Stand p l e ({ frames := 0, cells := 0, slots := 0, locals := 0 } : Room) s m #[(.int (0 : Int32)), (.int n), (.int n), (.ref f)] below meth c s₁ [] 0 0 := Stand.of_body Bd
  have e0 : s₁.heap = h0 := by rw [← hh, Bd.state]; rfl
  have N0 := Fr.nil n0
  obtain ⟨G, hG⟩ : ∃ G, G = entryFrame m #[(.int (0 : Int32)), (.int n), (.int n), (.ref f)] 4 := ⟨_, rfl⟩
  have S0 : own_Go p e below s₁ G s₁ (mkF m 0 #[.val (.int (0 : Int32)), .val (.int n), .val (.int n), .val (.ref f)] []) := fun tg_ kk_ => castTop (by rw [hG]; first | rfl | simp [entryFrame, mkF, argsToLocals, Value.category, maxLocals]) kk_
  have S171 : own_Go p e below s₁ G s₁ (mkF m 23 #[.val (.int (0 : Int32)), .val (.int n), .val (.int n), .val (.ref f)] [(.int (0 : Int32))]) := fun tg_ kk_ => S0 tg_ (by
    refine XS.iloadN X0.here hx rfl (hb hby d30_0) rfl ?_
    show Steps p.tables e below (s₁.setTop (mkF m 1 #[.val (.int (0 : Int32)), .val (.int n), .val (.int n), .val (.ref f)] [(.int (0 : Int32))])) _
    refine XS.ifNo X0.here hx rfl (hb hby d30_1) rfl (XT.i0_lt_f (by decide)) ?_
    show Steps p.tables e below (s₁.setTop (mkF m 4 #[.val (.int (0 : Int32)), .val (.int n), .val (.int n), .val (.ref f)] [])) _
    refine XS.iloadN X0.here hx rfl (hb hby d30_4) rfl ?_
    show Steps p.tables e below (s₁.setTop (mkF m 5 #[.val (.int (0 : Int32)), .val (.int n), .val (.int n), .val (.ref f)] [(.int (0 : Int32))])) _
    refine XS.iloadN X0.here hx rfl (hb hby d30_5) rfl ?_
    show Steps p.tables e below (s₁.setTop (mkF m 6 #[.val (.int (0 : Int32)), .val (.int n), .val (.int n), .val (.ref f)] [(.int n), (.int (0 : Int32))])) _
    refine XS.icmpNo X0.here hx rfl (hb hby d30_6) rfl (XT.ii_gt_f h1) ?_
    show Steps p.tables e below (s₁.setTop (mkF m 9 #[.val (.int (0 : Int32)), .val (.int n), .val (.int n), .val (.ref f)] [])) _
    refine XS.iloadN X0.here hx rfl (hb hby d30_9) rfl ?_
    show Steps p.tables e below (s₁.setTop (mkF m 10 #[.val (.int (0 : Int32)), .val (.int n), .val (.int n), .val (.ref f)] [(.int n)])) _
    refine XS.iloadN X0.here hx rfl (hb hby d30_10) rfl ?_
    show Steps p.tables e below (s₁.setTop (mkF m 11 #[.val (.int (0 : Int32)), .val (.int n), .val (.int n), .val (.ref f)] [(.int n), (.int n)])) _
    refine XS.icmpYes X0.here hx rfl (pc0 := 11) (pc' := 22) rfl (hb hby d30_11) rfl (XT.ii_le_t Int32.lt_irrefl) (by decide) (by decide) ?_
    show Steps p.tables e below (s₁.setTop (mkF m 22 #[.val (.int (0 : Int32)), .val (.int n), .val (.int n), .val (.ref f)] [])) _
    refine XS.iloadN X0.here hx rfl (hb hby d30_22) rfl ?_
    exact kk_)
  obtain ⟨fs, hr, hrun, hended, hW, hsame⟩ := X0.leave (v := some (.int (0 : Int32))) (fun h => by rw [Bd.returns] at h; cases h)
  refine ⟨_, _, ?_, hrun, hended, _, _, rfl, ?_, ⟨_, rfl⟩, hW, hsame.mono (by decide) (by decide)⟩
  · rw [← hG]; exact S171 _ (retI X0 hx Bd.returns (hb hby d30_23) hr)
  · show Q30r Z n f h0 n0 _ s₁.heap _
    rw [e0]
    exact ⟨rfl, N0, rfl⟩
def Q29 (Z : State) (n : Int32) (h0 : Heap) (n0 : Nat) (v : Option Value) (h : Heap) (L : List Loc) : Prop := v = none ∧ Fr n0 L ∧ h0 = h
set_option maxRecDepth 65536 in
set_option maxHeartbeats 40000000 in
theorem rm29 (l : Launch) (Z : State) (a0 : Array Value) (hw : ∀ d ∈ tables_1, d.before a0 Z = true) (ws : List Jvm.Cond) (n : Int32) (h0 : Heap) (n0 : Nat) (Z0 : n0 ≤ h0.size) (h1 : ¬ n < 0) (fm : Value) (hfm : fm.isRef = true) (O : Old Z n0 h0) (SF : Sta Z Z.heap "jdk/internal/util/Preconditions" "SIOOBE_FORMATTER" "Ljava/util/function/BiFunction;" fm) :
    MetFree l (⟨"java/lang/String", "checkBoundsBeginEnd", "(III)V"⟩ : MethodName) (head1 (Jvm.Cond.code (⟨"java/lang/String", "checkBoundsBeginEnd", "(III)V"⟩ : MethodName) jdk_42_method_158_code 3 none :: ws) ({ frames := 1, cells := 0, slots := 0, locals := 15 } : Room)) (fun aa_ U => aa_ = #[(.int (0 : Int32)), (.int n), (.int n)] ∧ Z.Warmed39 U.vm ∧ U.heap = h0) (fun _ _ _ _ _ => True) (fun _ U o U' => ∃ v L, o = .returned v ∧ Q29 Z n h0 n0 v U'.heap L ∧ FrameEnd U o U' L ({ frames := 1, cells := 0, slots := 0, locals := 15 } : Room).cells ({ frames := 1, cells := 0, slots := 0, locals := 15 } : Room).slots) := by
  refine MetFree.of_bodySF (plainFor_of_name pn2) hisR ?_
  intro p e s m args below meth c s₁ Bd hml0 hP hK
  obtain ⟨rfl, hZ, hh⟩ := hP
  have hx := Bd.exec
  have hby := Bd.bytes
  have hml : c.maxLocals = 3 := hml0
  have hown : s.vm.findClass "java/lang/String" = some m.cls := findClass_of_methodNamed Bd.named
  have hnm := (name_of_methodNamed Bd.named Bd.method).1
  have X0 : Stand p l e ({ frames := 1, cells := 0, slots := 0, locals := 15 } : Room) s m #[(.int (0 : Int32)), (.int n), (.int n)] below meth c s₁ [] 0 0 := Stand.of_body Bd
  have e0 : s₁.heap = h0 := by rw [← hh, Bd.state]; rfl
  have N0 := Fr.nil n0
  obtain ⟨G, hG⟩ : ∃ G, G = entryFrame m #[(.int (0 : Int32)), (.int n), (.int n)] 3 := ⟨_, rfl⟩
  have S0 : own_Go p e below s₁ G s₁ (mkF m 0 #[.val (.int (0 : Int32)), .val (.int n), .val (.int n)] []) := fun tg_ kk_ => castTop (by rw [hG]; first | rfl | simp [entryFrame, mkF, argsToLocals, Value.category, maxLocals]) kk_
  rcases ref_cases hfm with rfl | ⟨f, rfl⟩
  · have _ := N0
    have S172 : own_Go p e below s₁ G s₁ (mkF m 3 #[.val (.int (0 : Int32)), .val (.int n), .val (.int n)] [(.int n), (.int n), (.int (0 : Int32))]) := fun tg_ kk_ => S0 tg_ (by
      refine XS.iloadN X0.here hx rfl (hb hby d29_0) rfl ?_
      show Steps p.tables e below (s₁.setTop (mkF m 1 #[.val (.int (0 : Int32)), .val (.int n), .val (.int n)] [(.int (0 : Int32))])) _
      refine XS.iloadN X0.here hx rfl (hb hby d29_1) rfl ?_
      show Steps p.tables e below (s₁.setTop (mkF m 2 #[.val (.int (0 : Int32)), .val (.int n), .val (.int n)] [(.int n), (.int (0 : Int32))])) _
      refine XS.iloadN X0.here hx rfl (hb hby d29_2) rfl ?_
      exact kk_)
    obtain ⟨T173, X173, e173, st173⟩ := getS X0 hx hZ (host := "") hown (hw _ (List.mem_of_getElem? (i := 123) rfl)) Via.refl e0 (SF.ext O.2) (g := (mkF m 3 #[.val (.int (0 : Int32)), .val (.int n), .val (.int n)] [(.int n), (.int n), (.int (0 : Int32))])) rfl (hb hby d29_3)
    have S174 : own_Go p e below s₁ G T173 (mkF m 6 #[.val (.int (0 : Int32)), .val (.int n), .val (.int n)] [.null, (.int n), (.int n), (.int (0 : Int32))]) := fun tg_ kk_ => S172 tg_ (st173 tg_ kk_)
    obtain ⟨_, T175, h175, L175, X175, e175, hQ175, st175⟩ := own_callS X173 hx hZ (y := (⟨"jdk/internal/util/Preconditions", "checkFromToIndex", "(IIILjava/util/function/BiFunction;)I"⟩ : MethodName)) hown (hw _ (List.mem_of_getElem? (i := 125) rfl)) (hw _ (List.mem_of_getElem? (i := 126) rfl)) (hw _ (List.mem_of_getElem? (i := 124) rfl)) (hw _ (List.mem_of_getElem? (i := 127) rfl)) (by decide) 0 (g := (mkF m 6 #[.val (.int (0 : Int32)), .val (.int n), .val (.int n)] [.null, (.int n), (.int n), (.int (0 : Int32))])) rfl (by rw [hml]; rfl) [(.int (0 : Int32)), (.int n), (.int n), .null] [] (rm30n l Z a0 hw [] n h0 n0 Z0 h1) (lenOf pd24 rfl) rfl (by show 2 * 0 + _ ≤ _; exact Nat.le_of_eq rfl) (hb hby d29_6) (by decide) (by decide) e173 (by decide) (by decide)
    obtain ⟨rfl, N175, rfl⟩ := hQ175
    have S176 : own_Go p e below s₁ G T175 (mkF m 9 #[.val (.int (0 : Int32)), .val (.int n), .val (.int n)] [(.int (0 : Int32))]) := fun tg_ kk_ => S174 tg_ (st175 tg_ kk_)
    have M175 := Fr.app N0 N175
    have S177 : own_Go p e below s₁ G T175 (mkF m 10 #[.val (.int (0 : Int32)), .val (.int n), .val (.int n)] []) := fun tg_ kk_ => S176 tg_ (by
      refine XT.pop X175.here hx rfl (hb hby d29_9) rfl rfl ?_
      exact kk_)
    obtain ⟨fs, hr, hrun, hended, hW, hsame⟩ := X175.leave (v := none) (fun _ => rfl)
    refine ⟨_, _, ?_, hrun, hended, _, _, rfl, ?_, ⟨_, rfl⟩, hW, hsame.mono (by decide) (by decide)⟩
    · rw [← hG]; exact S177 _ (X175.returnOut hx Bd.returns (hb hby d29_10) hr)
    · show Q29 Z n h0 n0 _ T175.heap _
      rw [e175]
      exact ⟨rfl, M175, rfl⟩
  · have _ := N0
    have S178 : own_Go p e below s₁ G s₁ (mkF m 3 #[.val (.int (0 : Int32)), .val (.int n), .val (.int n)] [(.int n), (.int n), (.int (0 : Int32))]) := fun tg_ kk_ => S0 tg_ (by
      refine XS.iloadN X0.here hx rfl (hb hby d29_0) rfl ?_
      show Steps p.tables e below (s₁.setTop (mkF m 1 #[.val (.int (0 : Int32)), .val (.int n), .val (.int n)] [(.int (0 : Int32))])) _
      refine XS.iloadN X0.here hx rfl (hb hby d29_1) rfl ?_
      show Steps p.tables e below (s₁.setTop (mkF m 2 #[.val (.int (0 : Int32)), .val (.int n), .val (.int n)] [(.int n), (.int (0 : Int32))])) _
      refine XS.iloadN X0.here hx rfl (hb hby d29_2) rfl ?_
      exact kk_)
    obtain ⟨T179, X179, e179, st179⟩ := getS X0 hx hZ (host := "") hown (hw _ (List.mem_of_getElem? (i := 123) rfl)) Via.refl e0 (SF.ext O.2) (g := (mkF m 3 #[.val (.int (0 : Int32)), .val (.int n), .val (.int n)] [(.int n), (.int n), (.int (0 : Int32))])) rfl (hb hby d29_3)
    have S180 : own_Go p e below s₁ G T179 (mkF m 6 #[.val (.int (0 : Int32)), .val (.int n), .val (.int n)] [(.ref f), (.int n), (.int n), (.int (0 : Int32))]) := fun tg_ kk_ => S178 tg_ (st179 tg_ kk_)
    obtain ⟨_, T181, h181, L181, X181, e181, hQ181, st181⟩ := own_callS X179 hx hZ (y := (⟨"jdk/internal/util/Preconditions", "checkFromToIndex", "(IIILjava/util/function/BiFunction;)I"⟩ : MethodName)) hown (hw _ (List.mem_of_getElem? (i := 125) rfl)) (hw _ (List.mem_of_getElem? (i := 126) rfl)) (hw _ (List.mem_of_getElem? (i := 124) rfl)) (hw _ (List.mem_of_getElem? (i := 127) rfl)) (by decide) 0 (g := (mkF m 6 #[.val (.int (0 : Int32)), .val (.int n), .val (.int n)] [(.ref f), (.int n), (.int n), (.int (0 : Int32))])) rfl (by rw [hml]; rfl) [(.int (0 : Int32)), (.int n), (.int n), (.ref f)] [] (rm30r l Z a0 hw [] n f h0 n0 Z0 h1) (lenOf pd24 rfl) rfl (by show 2 * 0 + _ ≤ _; exact Nat.le_of_eq rfl) (hb hby d29_6) (by decide) (by decide) e179 (by decide) (by decide)
    obtain ⟨rfl, N181, rfl⟩ := hQ181
    have S182 : own_Go p e below s₁ G T181 (mkF m 9 #[.val (.int (0 : Int32)), .val (.int n), .val (.int n)] [(.int (0 : Int32))]) := fun tg_ kk_ => S180 tg_ (st181 tg_ kk_)
    have M181 := Fr.app N0 N181
    have S183 : own_Go p e below s₁ G T181 (mkF m 10 #[.val (.int (0 : Int32)), .val (.int n), .val (.int n)] []) := fun tg_ kk_ => S182 tg_ (by
      refine XT.pop X181.here hx rfl (hb hby d29_9) rfl rfl ?_
      exact kk_)
    obtain ⟨fs, hr, hrun, hended, hW, hsame⟩ := X181.leave (v := none) (fun _ => rfl)
    refine ⟨_, _, ?_, hrun, hended, _, _, rfl, ?_, ⟨_, rfl⟩, hW, hsame.mono (by decide) (by decide)⟩
    · rw [← hG]; exact S183 _ (X181.returnOut hx Bd.returns (hb hby d29_10) hr)
    · show Q29 Z n h0 n0 _ T181.heap _
      rw [e181]
      exact ⟨rfl, M181, rfl⟩
def Q27 (Z : State) (t : Addr) (cs : List Int32) (h0 : Heap) (n0 : Nat) (v : Option Value) (h : Heap) (L : List Loc) : Prop := v = none ∧ Fr n0 L ∧ h0 = h
set_option maxRecDepth 65536 in
set_option maxHeartbeats 40000000 in
theorem rm27 (l : Launch) (Z : State) (a0 : Array Value) (hw : ∀ d ∈ tables_1, d.before a0 Z = true) (ws : List Jvm.Cond) (t : Addr) (cs : List Int32) (h0 : Heap) (n0 : Nat) (Z0 : n0 ≤ h0.size) (kt : ClassId) (V : Arv Z h0 t kt .byte (Int32.ofNat (2 * cs.length)) (own_wide cs) (.int 0)) (hn : cs.length ≤ 1000) (fm : Value) (hfm : fm.isRef = true) (O : Old Z n0 h0) (SF : Sta Z Z.heap "jdk/internal/util/Preconditions" "SIOOBE_FORMATTER" "Ljava/util/function/BiFunction;" fm) :
    MetFree l (⟨"java/lang/StringUTF16", "checkBoundsBeginEnd", "(II[B)V"⟩ : MethodName) (head1 (Jvm.Cond.code (⟨"java/lang/StringUTF16", "checkBoundsBeginEnd", "(II[B)V"⟩ : MethodName) jdk_52_method_93_code 3 none :: ws) ({ frames := 2, cells := 0, slots := 0, locals := 29 } : Room)) (fun aa_ U => aa_ = #[(.int (0 : Int32)), (.int (Int32.ofNat cs.length)), (.ref t)] ∧ Z.Warmed39 U.vm ∧ U.heap = h0) (fun _ _ _ _ _ => True) (fun _ U o U' => ∃ v L, o = .returned v ∧ Q27 Z t cs h0 n0 v U'.heap L ∧ FrameEnd U o U' L ({ frames := 2, cells := 0, slots := 0, locals := 29 } : Room).cells ({ frames := 2, cells := 0, slots := 0, locals := 29 } : Room).slots) := by
  refine MetFree.of_bodySF (plainFor_of_name pn1) hisR ?_
  intro p e s m args below meth c s₁ Bd hml0 hP hK
  obtain ⟨rfl, hZ, hh⟩ := hP
  have hx := Bd.exec
  have hby := Bd.bytes
  have hml : c.maxLocals = 3 := hml0
  have hown : s.vm.findClass "java/lang/StringUTF16" = some m.cls := findClass_of_methodNamed Bd.named
  have hnm := (name_of_methodNamed Bd.named Bd.method).1
  have X0 : Stand p l e ({ frames := 2, cells := 0, slots := 0, locals := 29 } : Room) s m #[(.int (0 : Int32)), (.int (Int32.ofNat cs.length)), (.ref t)] below meth c s₁ [] 0 0 := Stand.of_body Bd
  have e0 : s₁.heap = h0 := by rw [← hh, Bd.state]; rfl
  have N0 := Fr.nil n0
  obtain ⟨G, hG⟩ : ∃ G, G = entryFrame m #[(.int (0 : Int32)), (.int (Int32.ofNat cs.length)), (.ref t)] 3 := ⟨_, rfl⟩
  have S0 : own_Go p e below s₁ G s₁ (mkF m 0 #[.val (.int (0 : Int32)), .val (.int (Int32.ofNat cs.length)), .val (.ref t)] []) := fun tg_ kk_ => castTop (by rw [hG]; first | rfl | simp [entryFrame, mkF, argsToLocals, Value.category, maxLocals]) kk_
  have S184 : own_Go p e below s₁ G s₁ (mkF m 3 #[.val (.int (0 : Int32)), .val (.int (Int32.ofNat cs.length)), .val (.ref t)] [(.ref t), (.int (Int32.ofNat cs.length)), (.int (0 : Int32))]) := fun tg_ kk_ => S0 tg_ (by
    refine XS.iloadN X0.here hx rfl (hb hby d27_0) rfl ?_
    show Steps p.tables e below (s₁.setTop (mkF m 1 #[.val (.int (0 : Int32)), .val (.int (Int32.ofNat cs.length)), .val (.ref t)] [(.int (0 : Int32))])) _
    refine XS.iloadN X0.here hx rfl (hb hby d27_1) rfl ?_
    show Steps p.tables e below (s₁.setTop (mkF m 2 #[.val (.int (0 : Int32)), .val (.int (Int32.ofNat cs.length)), .val (.ref t)] [(.int (Int32.ofNat cs.length)), (.int (0 : Int32))])) _
    refine XS.aloadN X0.here hx rfl (hb hby d27_2) rfl rfl ?_
    exact kk_)
  obtain ⟨_, T185, h185, L185, X185, e185, hQ185, st185⟩ := own_callS X0 hx hZ (y := (⟨"java/lang/StringUTF16", "length", "([B)I"⟩ : MethodName)) hown (hw _ (List.mem_of_getElem? (i := 117) rfl)) (hw _ (List.mem_of_getElem? (i := 118) rfl)) (hw _ (List.mem_of_getElem? (i := 72) rfl)) (hw _ (List.mem_of_getElem? (i := 119) rfl)) (by decide) 2 (g := (mkF m 3 #[.val (.int (0 : Int32)), .val (.int (Int32.ofNat cs.length)), .val (.ref t)] [(.ref t), (.int (Int32.ofNat cs.length)), (.int (0 : Int32))])) rfl (by rw [hml]; rfl) [(.ref t)] [(.int (Int32.ofNat cs.length)), (.int (0 : Int32))] (rm28 l Z a0 hw [] t cs h0 n0 Z0 kt V hn) (lenOf pd22 rfl) rfl (by show 2 * 0 + _ ≤ _; exact Nat.le_of_eq rfl) (hb hby d27_3) (by decide) (by decide) e0 (by decide) (by decide)
  obtain ⟨rfl, N185, rfl⟩ := hQ185
  have S186 : own_Go p e below s₁ G T185 (mkF m 6 #[.val (.int (0 : Int32)), .val (.int (Int32.ofNat cs.length)), .val (.ref t)] [(.int (Int32.ofNat cs.length)), (.int (Int32.ofNat cs.length)), (.int (0 : Int32))]) := fun tg_ kk_ => S184 tg_ (st185 tg_ kk_)
  have M185 := Fr.app N0 N185
  obtain ⟨_, T187, h187, L187, X187, e187, hQ187, st187⟩ := own_callS X185 hx hZ (y := (⟨"java/lang/String", "checkBoundsBeginEnd", "(III)V"⟩ : MethodName)) hown (hw _ (List.mem_of_getElem? (i := 120) rfl)) (hw _ (List.mem_of_getElem? (i := 121) rfl)) (hw _ (List.mem_of_getElem? (i := 7) rfl)) (hw _ (List.mem_of_getElem? (i := 122) rfl)) (by decide) 0 (g := (mkF m 6 #[.val (.int (0 : Int32)), .val (.int (Int32.ofNat cs.length)), .val (.ref t)] [(.int (Int32.ofNat cs.length)), (.int (Int32.ofNat cs.length)), (.int (0 : Int32))])) rfl (by rw [hml]; rfl) [(.int (0 : Int32)), (.int (Int32.ofNat cs.length)), (.int (Int32.ofNat cs.length))] [] (rm29 l Z a0 hw [] (Int32.ofNat cs.length) h0 n0 Z0 (own_nn32 (by omega)) fm hfm O SF) (lenOf pd23 rfl) rfl (by show 2 * 0 + _ ≤ _; exact Nat.le_of_eq rfl) (hb hby d27_6) (by decide) (by decide) e185 (by decide) (by decide)
  obtain ⟨rfl, N187, rfl⟩ := hQ187
  have S188 : own_Go p e below s₁ G T187 (mkF m 9 #[.val (.int (0 : Int32)), .val (.int (Int32.ofNat cs.length)), .val (.ref t)] []) := fun tg_ kk_ => S186 tg_ (st187 tg_ kk_)
  have M187 := Fr.app M185 N187
  obtain ⟨fs, hr, hrun, hended, hW, hsame⟩ := X187.leave (v := none) (fun _ => rfl)
  refine ⟨_, _, ?_, hrun, hended, _, _, rfl, ?_, ⟨_, rfl⟩, hW, hsame.mono (by decide) (by decide)⟩
  · rw [← hG]; exact S188 _ (X187.returnOut hx Bd.returns (hb hby d27_9) hr)
  · show Q27 Z t cs h0 n0 _ T187.heap _
    rw [e187]
    exact ⟨rfl, M187, rfl⟩
set_option maxRecDepth 65536 in
set_option maxHeartbeats 40000000 in
theorem own_uiu {p : Program} {l : Launch} {e : Env} {s : State} {m : MethodId} {args : Array Value} {below : List Frame} {meth : Method} {c : Code} {Z : State} {a0 : Array Value} {h0 : Heap} {n0 : Nat} (Z0 : n0 ≤ h0.size) (t : Addr) (cs : List Int32) (c0 : Int32) (kt : ClassId) (V : Arv Z h0 t kt .byte (Int32.ofNat (2 * cs.length)) (own_wide cs) (.int 0)) (hn : cs.length ≤ 1000) (hch : ∀ j, j < cs.length → own_Ch (cs.getD j 0)) (O : Old Z n0 h0) (A16 : own_A16 Z) (hx : p.tables.exec = Jvm.exec) (hZ : Z.Warmed39 s.vm) (hw : ∀ q ∈ tables_1, q.before a0 Z = true) (hby : c.code = jdk_52_method_48_code) (hml : c.maxLocals = 5) (hown : s.vm.findClass "java/lang/StringUTF16" = some m.cls) :
    ∀ (k i : Nat) (T0 : State) (locs : List Loc), i + k = cs.length → (∀ j, j < i → ¬ cs.getD j 0 = c0) → Stand p l e ({ frames := 1, cells := 0, slots := 0, locals := 20 } : Room) s m args below meth c T0 locs 0 0 → T0.heap = h0 → Fr n0 locs → ∃ (T' : State) (locs' : List Loc), Stand p l e ({ frames := 1, cells := 0, slots := 0, locals := 20 } : Room) s m args below meth c T' locs' 0 0 ∧ T'.heap = h0 ∧ Fr n0 locs' ∧ ((∃ i', i' < cs.length ∧ cs.getD i' 0 = c0 ∧ own_Go p e below T0 (mkF m 3 #[.val (.ref t), .val (.int c0), .val (.int (0 : Int32)), .val (.int (Int32.ofNat cs.length)), .val (.int (Int32.ofNat i))] []) T' (mkF m 21 #[.val (.ref t), .val (.int c0), .val (.int (0 : Int32)), .val (.int (Int32.ofNat cs.length)), .val (.int (Int32.ofNat i'))] [(.int (Int32.ofNat i'))])) ∨ ((∀ j, j < cs.length → ¬ cs.getD j 0 = c0) ∧ ∃ i', own_Go p e below T0 (mkF m 3 #[.val (.ref t), .val (.int c0), .val (.int (0 : Int32)), .val (.int (Int32.ofNat cs.length)), .val (.int (Int32.ofNat i))] []) T' (mkF m 29 #[.val (.ref t), .val (.int c0), .val (.int (0 : Int32)), .val (.int (Int32.ofNat cs.length)), .val (.int (Int32.ofNat i'))] [(.int (-1 : Int32))]))) := by
  intro k
  induction k with
  | zero =>
    intro i T0 locs hik hp X0 e0 N
    have hi : i = cs.length := by omega
    have S189 : own_Go p e below T0 (mkF m 3 #[.val (.ref t), .val (.int c0), .val (.int (0 : Int32)), .val (.int (Int32.ofNat cs.length)), .val (.int (Int32.ofNat i))] []) T0 (mkF m 29 #[.val (.ref t), .val (.int c0), .val (.int (0 : Int32)), .val (.int (Int32.ofNat cs.length)), .val (.int (Int32.ofNat i))] [(.int (-1 : Int32))]) := fun tg_ kk_ => (own_Go.refl T0 _) tg_ (by
      refine XS.iload X0.here hx rfl (hb hby d31_3) rfl ?_
      show Steps p.tables e below (T0.setTop (mkF m 5 #[.val (.ref t), .val (.int c0), .val (.int (0 : Int32)), .val (.int (Int32.ofNat cs.length)), .val (.int (Int32.ofNat i))] [(.int (Int32.ofNat i))])) _
      refine XS.iloadN X0.here hx rfl (hb hby d31_5) rfl ?_
      show Steps p.tables e below (T0.setTop (mkF m 6 #[.val (.ref t), .val (.int c0), .val (.int (0 : Int32)), .val (.int (Int32.ofNat cs.length)), .val (.int (Int32.ofNat i))] [(.int (Int32.ofNat cs.length)), (.int (Int32.ofNat i))])) _
      refine XS.icmpYes X0.here hx rfl (pc0 := 6) (pc' := 28) rfl (hb hby d31_6) rfl (XT.ii_ge_t (by rw [hi]; exact Int32.lt_irrefl)) (by decide) (by decide) ?_
      show Steps p.tables e below (T0.setTop (mkF m 28 #[.val (.ref t), .val (.int c0), .val (.int (0 : Int32)), .val (.int (Int32.ofNat cs.length)), .val (.int (Int32.ofNat i))] [])) _
      refine XS.iconst X0.here hx rfl (hb hby d31_28) ?_
      exact kk_)
    exact ⟨T0, locs, X0, e0, N, Or.inr ⟨fun j hj => hp j (by omega), i, S189⟩⟩
  | succ k ih =>
    intro i T0 locs hik hp X0 e0 N
    have hi : i < cs.length := by omega
    have S190 : own_Go p e below T0 (mkF m 3 #[.val (.ref t), .val (.int c0), .val (.int (0 : Int32)), .val (.int (Int32.ofNat cs.length)), .val (.int (Int32.ofNat i))] []) T0 (mkF m 12 #[.val (.ref t), .val (.int c0), .val (.int (0 : Int32)), .val (.int (Int32.ofNat cs.length)), .val (.int (Int32.ofNat i))] [(.int (Int32.ofNat i)), (.ref t)]) := fun tg_ kk_ => (own_Go.refl T0 _) tg_ (by
      refine XS.iload X0.here hx rfl (hb hby d31_3) rfl ?_
      show Steps p.tables e below (T0.setTop (mkF m 5 #[.val (.ref t), .val (.int c0), .val (.int (0 : Int32)), .val (.int (Int32.ofNat cs.length)), .val (.int (Int32.ofNat i))] [(.int (Int32.ofNat i))])) _
      refine XS.iloadN X0.here hx rfl (hb hby d31_5) rfl ?_
      show Steps p.tables e below (T0.setTop (mkF m 6 #[.val (.ref t), .val (.int c0), .val (.int (0 : Int32)), .val (.int (Int32.ofNat cs.length)), .val (.int (Int32.ofNat i))] [(.int (Int32.ofNat cs.length)), (.int (Int32.ofNat i))])) _
      refine XS.icmpNo X0.here hx rfl (hb hby d31_6) rfl (XT.ii_ge_f (own_lt32 hi (by omega))) ?_
      show Steps p.tables e below (T0.setTop (mkF m 9 #[.val (.ref t), .val (.int c0), .val (.int (0 : Int32)), .val (.int (Int32.ofNat cs.length)), .val (.int (Int32.ofNat i))] [])) _
      refine XS.aloadN X0.here hx rfl (hb hby d31_9) rfl rfl ?_
      show Steps p.tables e below (T0.setTop (mkF m 10 #[.val (.ref t), .val (.int c0), .val (.int (0 : Int32)), .val (.int (Int32.ofNat cs.length)), .val (.int (Int32.ofNat i))] [(.ref t)])) _
      refine XS.iload X0.here hx rfl (hb hby d31_10) rfl ?_
      exact kk_)
    obtain ⟨_, T191, h191, L191, X191, e191, hQ191, st191⟩ := own_callS X0 hx hZ (y := (⟨"java/lang/StringUTF16", "getChar", "([BI)C"⟩ : MethodName)) hown (hw _ (List.mem_of_getElem? (i := 102) rfl)) (hw _ (List.mem_of_getElem? (i := 103) rfl)) (hw _ (List.mem_of_getElem? (i := 72) rfl)) (hw _ (List.mem_of_getElem? (i := 104) rfl)) (by decide) 0 (g := (mkF m 12 #[.val (.ref t), .val (.int c0), .val (.int (0 : Int32)), .val (.int (Int32.ofNat cs.length)), .val (.int (Int32.ofNat i))] [(.int (Int32.ofNat i)), (.ref t)])) rfl (by rw [hml]; rfl) [(.ref t), (.int (Int32.ofNat i))] [] (rm24 l Z a0 hw [] t i cs h0 n0 Z0 kt V hi hn (hch i hi) O A16) (lenOf pd20 rfl) rfl (by show 2 * 0 + _ ≤ _; exact Nat.le_of_eq rfl) (hb hby d31_12) (by decide) (by decide) e0 (by decide) (by decide)
    obtain ⟨rfl, N191, rfl⟩ := hQ191
    have S192 : own_Go p e below T0 (mkF m 3 #[.val (.ref t), .val (.int c0), .val (.int (0 : Int32)), .val (.int (Int32.ofNat cs.length)), .val (.int (Int32.ofNat i))] []) T191 (mkF m 15 #[.val (.ref t), .val (.int c0), .val (.int (0 : Int32)), .val (.int (Int32.ofNat cs.length)), .val (.int (Int32.ofNat i))] [(.int (cs.getD i 0))]) := fun tg_ kk_ => S190 tg_ (st191 tg_ kk_)
    have M191 := Fr.app N N191
    have S193 : own_Go p e below T0 (mkF m 3 #[.val (.ref t), .val (.int c0), .val (.int (0 : Int32)), .val (.int (Int32.ofNat cs.length)), .val (.int (Int32.ofNat i))] []) T191 (mkF m 16 #[.val (.ref t), .val (.int c0), .val (.int (0 : Int32)), .val (.int (Int32.ofNat cs.length)), .val (.int (Int32.ofNat i))] [(.int c0), (.int (cs.getD i 0))]) := fun tg_ kk_ => S192 tg_ (by
      refine XS.iloadN X191.here hx rfl (hb hby d31_15) rfl ?_
      exact kk_)
    by_cases hq : cs.getD i 0 = c0
    · have _ := e0
      have S194 : own_Go p e below T0 (mkF m 3 #[.val (.ref t), .val (.int c0), .val (.int (0 : Int32)), .val (.int (Int32.ofNat cs.length)), .val (.int (Int32.ofNat i))] []) T191 (mkF m 21 #[.val (.ref t), .val (.int c0), .val (.int (0 : Int32)), .val (.int (Int32.ofNat cs.length)), .val (.int (Int32.ofNat i))] [(.int (Int32.ofNat i))]) := fun tg_ kk_ => S193 tg_ (by
        refine XS.icmpNo X191.here hx rfl (hb hby d31_16) rfl (XT.ii_ne_f hq) ?_
        show Steps p.tables e below (T191.setTop (mkF m 19 #[.val (.ref t), .val (.int c0), .val (.int (0 : Int32)), .val (.int (Int32.ofNat cs.length)), .val (.int (Int32.ofNat i))] [])) _
        refine XS.iload X191.here hx rfl (hb hby d31_19) rfl ?_
        exact kk_)
      exact ⟨T191, _, X191, e191, M191, Or.inl ⟨i, hi, hq, S194⟩⟩
    · have _ := e0
      have S195 : own_Go p e below T0 (mkF m 3 #[.val (.ref t), .val (.int c0), .val (.int (0 : Int32)), .val (.int (Int32.ofNat cs.length)), .val (.int (Int32.ofNat i))] []) T191 (mkF m 3 #[.val (.ref t), .val (.int c0), .val (.int (0 : Int32)), .val (.int (Int32.ofNat cs.length)), .val (.int ((Int32.ofNat i) + (1 : Int32)))] []) := fun tg_ kk_ => S193 tg_ (by
        refine XS.icmpYes X191.here hx rfl (pc0 := 16) (pc' := 22) rfl (hb hby d31_16) rfl (XT.ii_ne_t hq) (by decide) (by decide) ?_
        show Steps p.tables e below (T191.setTop (mkF m 22 #[.val (.ref t), .val (.int c0), .val (.int (0 : Int32)), .val (.int (Int32.ofNat cs.length)), .val (.int (Int32.ofNat i))] [])) _
        refine XS.iinc X191.here hx rfl (hb hby d31_22) rfl (l' := #[.val (.ref t), .val (.int c0), .val (.int (0 : Int32)), .val (.int (Int32.ofNat cs.length)), .val (.int ((Int32.ofNat i) + (1 : Int32)))]) rfl ?_
        show Steps p.tables e below (T191.setTop (mkF m 25 #[.val (.ref t), .val (.int c0), .val (.int (0 : Int32)), .val (.int (Int32.ofNat cs.length)), .val (.int ((Int32.ofNat i) + (1 : Int32)))] [])) _
        refine XS.goto X191.here hx rfl (pc0 := 25) (pc' := 3) rfl (hb hby d31_25) (by decide) (by decide) ?_
        exact kk_)
      rw [own_suc] at S195
      have hp2 : ∀ j, j < i + 1 → ¬ cs.getD j 0 = c0 := fun j hj => by
        by_cases z : j < i
        · exact hp j z
        · have : j = i := by omega
          subst this; exact hq
      obtain ⟨T9, L9, X9, e9, N9, hh⟩ := ih (i + 1) T191 _ (by omega) hp2 X191 e191 M191
      refine ⟨T9, L9, X9, e9, N9, ?_⟩
      rcases hh with ⟨i9, h9, q9, g9⟩ | ⟨h9, i9, g9⟩
      · exact Or.inl ⟨i9, h9, q9, own_Go.trans S195 g9⟩
      · exact Or.inr ⟨h9, i9, own_Go.trans S195 g9⟩
def Q31 (Z : State) (t : Addr) (cs : List Int32) (c0 : Int32) (h0 : Heap) (n0 : Nat) (v : Option Value) (h : Heap) (L : List Loc) : Prop := ((∃ i, i < cs.length ∧ cs.getD i 0 = c0 ∧ v = some (.int (Int32.ofNat i))) ∨ ((∀ j, j < cs.length → ¬ cs.getD j 0 = c0) ∧ v = some (.int (-1)))) ∧ Fr n0 L ∧ h0 = h
set_option maxRecDepth 65536 in
set_option maxHeartbeats 40000000 in
theorem rm31 (l : Launch) (Z : State) (a0 : Array Value) (hw : ∀ d ∈ tables_1, d.before a0 Z = true) (ws : List Jvm.Cond) (t : Addr) (cs : List Int32) (c0 : Int32) (h0 : Heap) (n0 : Nat) (Z0 : n0 ≤ h0.size) (kt : ClassId) (V : Arv Z h0 t kt .byte (Int32.ofNat (2 * cs.length)) (own_wide cs) (.int 0)) (hn : cs.length ≤ 1000) (hch : ∀ j, j < cs.length → own_Ch (cs.getD j 0)) (O : Old Z n0 h0) (A16 : own_A16 Z) :
    MetFree l (⟨"java/lang/StringUTF16", "indexOfCharUnsafe", "([BIII)I"⟩ : MethodName) (head1 (Jvm.Cond.code (⟨"java/lang/StringUTF16", "indexOfCharUnsafe", "([BIII)I"⟩ : MethodName) jdk_52_method_48_code 5 (some .int) :: ws) ({ frames := 1, cells := 0, slots := 0, locals := 20 } : Room)) (fun aa_ U => aa_ = #[(.ref t), (.int c0), (.int (0 : Int32)), (.int (Int32.ofNat cs.length))] ∧ Z.Warmed39 U.vm ∧ U.heap = h0) (fun _ _ _ _ _ => True) (fun _ U o U' => ∃ v L, o = .returned v ∧ Q31 Z t cs c0 h0 n0 v U'.heap L ∧ FrameEnd U o U' L ({ frames := 1, cells := 0, slots := 0, locals := 20 } : Room).cells ({ frames := 1, cells := 0, slots := 0, locals := 20 } : Room).slots) := by
  refine MetFree.of_bodySF (plainFor_of_name pn1) hisR ?_
  intro p e s m args below meth c s₁ Bd hml0 hP hK
  obtain ⟨rfl, hZ, hh⟩ := hP
  have hx := Bd.exec
  have hby := Bd.bytes
  have hml : c.maxLocals = 5 := hml0
  have hown : s.vm.findClass "java/lang/StringUTF16" = some m.cls := findClass_of_methodNamed Bd.named
  have hnm := (name_of_methodNamed Bd.named Bd.method).1
  have X0 : Stand p l e ({ frames := 1, cells := 0, slots := 0, locals := 20 } : Room) s m #[(.ref t), (.int c0), (.int (0 : Int32)), (.int (Int32.ofNat cs.length))] below meth c s₁ [] 0 0 := Stand.of_body Bd
  have e0 : s₁.heap = h0 := by rw [← hh, Bd.state]; rfl
  have N0 := Fr.nil n0
  obtain ⟨G, hG⟩ : ∃ G, G = entryFrame m #[(.ref t), (.int c0), (.int (0 : Int32)), (.int (Int32.ofNat cs.length))] 5 := ⟨_, rfl⟩
  have S0 : own_Go p e below s₁ G s₁ (mkF m 0 #[.val (.ref t), .val (.int c0), .val (.int (0 : Int32)), .val (.int (Int32.ofNat cs.length)), .unset] []) := fun tg_ kk_ => castTop (by rw [hG]; first | rfl | simp [entryFrame, mkF, argsToLocals, Value.category, maxLocals]) kk_
  have S196 : own_Go p e below s₁ G s₁ (mkF m 3 #[.val (.ref t), .val (.int c0), .val (.int (0 : Int32)), .val (.int (Int32.ofNat cs.length)), .val (.int (0 : Int32))] []) := fun tg_ kk_ => S0 tg_ (by
    refine XS.iloadN X0.here hx rfl (hb hby d31_0) rfl ?_
    show Steps p.tables e below (s₁.setTop (mkF m 1 #[.val (.ref t), .val (.int c0), .val (.int (0 : Int32)), .val (.int (Int32.ofNat cs.length)), .unset] [(.int (0 : Int32))])) _
    refine XS.istore X0.here hx rfl (hb hby d31_1) rfl (l' := #[.val (.ref t), .val (.int c0), .val (.int (0 : Int32)), .val (.int (Int32.ofNat cs.length)), .val (.int (0 : Int32))]) rfl ?_
    exact kk_)
  obtain ⟨T9, L9, X9, e9, N9, hh⟩ := own_uiu Z0 t cs c0 kt V hn hch O A16 hx hZ hw hby hml hown cs.length 0 s₁ _ (by omega) (fun j hj => absurd hj (Nat.not_lt_zero j)) X0 e0 N0
  rcases hh with ⟨i, hi, hci, g9⟩ | ⟨hno, i, g9⟩
  · have SL := own_Go.trans S196 g9
    obtain ⟨fs, hr, hrun, hended, hW, hsame⟩ := X9.leave (v := some (.int (Int32.ofNat i))) (fun h => by rw [Bd.returns] at h; cases h)
    refine ⟨_, _, ?_, hrun, hended, _, _, rfl, ?_, ⟨_, rfl⟩, hW, hsame.mono (by decide) (by decide)⟩
    · rw [← hG]; exact SL _ (retI X9 hx Bd.returns (hb hby d31_21) hr)
    · show Q31 Z t cs c0 h0 n0 _ T9.heap _
      rw [e9]
      exact ⟨Or.inl ⟨i, hi, hci, rfl⟩, N9, rfl⟩
  · have SL := own_Go.trans S196 g9
    obtain ⟨fs, hr, hrun, hended, hW, hsame⟩ := X9.leave (v := some (.int (-1 : Int32))) (fun h => by rw [Bd.returns] at h; cases h)
    refine ⟨_, _, ?_, hrun, hended, _, _, rfl, ?_, ⟨_, rfl⟩, hW, hsame.mono (by decide) (by decide)⟩
    · rw [← hG]; exact SL _ (retI X9 hx Bd.returns (hb hby d31_29) hr)
    · show Q31 Z t cs c0 h0 n0 _ T9.heap _
      rw [e9]
      exact ⟨Or.inr ⟨hno, rfl⟩, N9, rfl⟩
def Q26 (Z : State) (t : Addr) (cs : List Int32) (c0 : Int32) (h0 : Heap) (n0 : Nat) (v : Option Value) (h : Heap) (L : List Loc) : Prop := ((∃ i, i < cs.length ∧ cs.getD i 0 = c0 ∧ v = some (.int (Int32.ofNat i))) ∨ ((∀ j, j < cs.length → ¬ cs.getD j 0 = c0) ∧ v = some (.int (-1)))) ∧ Fr n0 L ∧ h0 = h
set_option maxRecDepth 65536 in
set_option maxHeartbeats 40000000 in
theorem rm26 (l : Launch) (Z : State) (a0 : Array Value) (hw : ∀ d ∈ tables_1, d.before a0 Z = true) (ws : List Jvm.Cond) (t : Addr) (cs : List Int32) (c0 : Int32) (h0 : Heap) (n0 : Nat) (Z0 : n0 ≤ h0.size) (kt : ClassId) (V : Arv Z h0 t kt .byte (Int32.ofNat (2 * cs.length)) (own_wide cs) (.int 0)) (hn : cs.length ≤ 1000) (hch : ∀ j, j < cs.length → own_Ch (cs.getD j 0)) (O : Old Z n0 h0) (A16 : own_A16 Z) (fm : Value) (hfm : fm.isRef = true) (SF : Sta Z Z.heap "jdk/internal/util/Preconditions" "SIOOBE_FORMATTER" "Ljava/util/function/BiFunction;" fm) :
    MetFree l (⟨"java/lang/StringUTF16", "indexOfChar", "([BIII)I"⟩ : MethodName) (head1 (Jvm.Cond.code (⟨"java/lang/StringUTF16", "indexOfChar", "([BIII)I"⟩ : MethodName) jdk_52_method_47_code 4 (some .int) :: ws) ({ frames := 3, cells := 0, slots := 0, locals := 45 } : Room)) (fun aa_ U => aa_ = #[(.ref t), (.int c0), (.int (0 : Int32)), (.int (Int32.ofNat cs.length))] ∧ Z.Warmed39 U.vm ∧ U.heap = h0) (fun _ _ _ _ _ => True) (fun _ U o U' => ∃ v L, o = .returned v ∧ Q26 Z t cs c0 h0 n0 v U'.heap L ∧ FrameEnd U o U' L ({ frames := 3, cells := 0, slots := 0, locals := 45 } : Room).cells ({ frames := 3, cells := 0, slots := 0, locals := 45 } : Room).slots) := by
  refine MetFree.of_bodySF (plainFor_of_name pn1) hisR ?_
  intro p e s m args below meth c s₁ Bd hml0 hP hK
  obtain ⟨rfl, hZ, hh⟩ := hP
  have hx := Bd.exec
  have hby := Bd.bytes
  have hml : c.maxLocals = 4 := hml0
  have hown : s.vm.findClass "java/lang/StringUTF16" = some m.cls := findClass_of_methodNamed Bd.named
  have hnm := (name_of_methodNamed Bd.named Bd.method).1
  have X0 : Stand p l e ({ frames := 3, cells := 0, slots := 0, locals := 45 } : Room) s m #[(.ref t), (.int c0), (.int (0 : Int32)), (.int (Int32.ofNat cs.length))] below meth c s₁ [] 0 0 := Stand.of_body Bd
  have e0 : s₁.heap = h0 := by rw [← hh, Bd.state]; rfl
  have N0 := Fr.nil n0
  obtain ⟨G, hG⟩ : ∃ G, G = entryFrame m #[(.ref t), (.int c0), (.int (0 : Int32)), (.int (Int32.ofNat cs.length))] 4 := ⟨_, rfl⟩
  have S0 : own_Go p e below s₁ G s₁ (mkF m 0 #[.val (.ref t), .val (.int c0), .val (.int (0 : Int32)), .val (.int (Int32.ofNat cs.length))] []) := fun tg_ kk_ => castTop (by rw [hG]; first | rfl | simp [entryFrame, mkF, argsToLocals, Value.category, maxLocals]) kk_
  have S197 : own_Go p e below s₁ G s₁ (mkF m 3 #[.val (.ref t), .val (.int c0), .val (.int (0 : Int32)), .val (.int (Int32.ofNat cs.length))] [(.ref t), (.int (Int32.ofNat cs.length)), (.int (0 : Int32))]) := fun tg_ kk_ => S0 tg_ (by
    refine XS.iloadN X0.here hx rfl (hb hby d26_0) rfl ?_
    show Steps p.tables e below (s₁.setTop (mkF m 1 #[.val (.ref t), .val (.int c0), .val (.int (0 : Int32)), .val (.int (Int32.ofNat cs.length))] [(.int (0 : Int32))])) _
    refine XS.iloadN X0.here hx rfl (hb hby d26_1) rfl ?_
    show Steps p.tables e below (s₁.setTop (mkF m 2 #[.val (.ref t), .val (.int c0), .val (.int (0 : Int32)), .val (.int (Int32.ofNat cs.length))] [(.int (Int32.ofNat cs.length)), (.int (0 : Int32))])) _
    refine XS.aloadN X0.here hx rfl (hb hby d26_2) rfl rfl ?_
    exact kk_)
  obtain ⟨_, T198, h198, L198, X198, e198, hQ198, st198⟩ := own_callS X0 hx hZ (y := (⟨"java/lang/StringUTF16", "checkBoundsBeginEnd", "(II[B)V"⟩ : MethodName)) hown (hw _ (List.mem_of_getElem? (i := 114) rfl)) (hw _ (List.mem_of_getElem? (i := 115) rfl)) (hw _ (List.mem_of_getElem? (i := 72) rfl)) (hw _ (List.mem_of_getElem? (i := 116) rfl)) (by decide) 0 (g := (mkF m 3 #[.val (.ref t), .val (.int c0), .val (.int (0 : Int32)), .val (.int (Int32.ofNat cs.length))] [(.ref t), (.int (Int32.ofNat cs.length)), (.int (0 : Int32))])) rfl (by rw [hml]; rfl) [(.int (0 : Int32)), (.int (Int32.ofNat cs.length)), (.ref t)] [] (rm27 l Z a0 hw [] t cs h0 n0 Z0 kt V hn fm hfm O SF) (lenOf pd21 rfl) rfl (by show 2 * 0 + _ ≤ _; exact Nat.le_of_eq rfl) (hb hby d26_3) (by decide) (by decide) e0 (by decide) (by decide)
  obtain ⟨rfl, N198, rfl⟩ := hQ198
  have S199 : own_Go p e below s₁ G T198 (mkF m 6 #[.val (.ref t), .val (.int c0), .val (.int (0 : Int32)), .val (.int (Int32.ofNat cs.length))] []) := fun tg_ kk_ => S197 tg_ (st198 tg_ kk_)
  have M198 := Fr.app N0 N198
  have S200 : own_Go p e below s₁ G T198 (mkF m 10 #[.val (.ref t), .val (.int c0), .val (.int (0 : Int32)), .val (.int (Int32.ofNat cs.length))] [(.int (Int32.ofNat cs.length)), (.int (0 : Int32)), (.int c0), (.ref t)]) := fun tg_ kk_ => S199 tg_ (by
    refine XS.aloadN X198.here hx rfl (hb hby d26_6) rfl rfl ?_
    show Steps p.tables e below (T198.setTop (mkF m 7 #[.val (.ref t), .val (.int c0), .val (.int (0 : Int32)), .val (.int (Int32.ofNat cs.length))] [(.ref t)])) _
    refine XS.iloadN X198.here hx rfl (hb hby d26_7) rfl ?_
    show Steps p.tables e below (T198.setTop (mkF m 8 #[.val (.ref t), .val (.int c0), .val (.int (0 : Int32)), .val (.int (Int32.ofNat cs.length))] [(.int c0), (.ref t)])) _
    refine XS.iloadN X198.here hx rfl (hb hby d26_8) rfl ?_
    show Steps p.tables e below (T198.setTop (mkF m 9 #[.val (.ref t), .val (.int c0), .val (.int (0 : Int32)), .val (.int (Int32.ofNat cs.length))] [(.int (0 : Int32)), (.int c0), (.ref t)])) _
    refine XS.iloadN X198.here hx rfl (hb hby d26_9) rfl ?_
    exact kk_)
  obtain ⟨_, T201, h201, L201, X201, e201, hQ201, st201⟩ := own_callS X198 hx hZ (y := (⟨"java/lang/StringUTF16", "indexOfCharUnsafe", "([BIII)I"⟩ : MethodName)) hown (hw _ (List.mem_of_getElem? (i := 128) rfl)) (hw _ (List.mem_of_getElem? (i := 129) rfl)) (hw _ (List.mem_of_getElem? (i := 72) rfl)) (hw _ (List.mem_of_getElem? (i := 130) rfl)) (by decide) 0 (g := (mkF m 10 #[.val (.ref t), .val (.int c0), .val (.int (0 : Int32)), .val (.int (Int32.ofNat cs.length))] [(.int (Int32.ofNat cs.length)), (.int (0 : Int32)), (.int c0), (.ref t)])) rfl (by rw [hml]; rfl) [(.ref t), (.int c0), (.int (0 : Int32)), (.int (Int32.ofNat cs.length))] [] (rm31 l Z a0 hw [] t cs c0 h0 n0 Z0 kt V hn hch O A16) (lenOf pd12 rfl) rfl (by show 2 * 0 + _ ≤ _; exact Nat.le_of_eq rfl) (hb hby d26_10) (by decide) (by decide) e198 (by decide) (by decide)
  rcases hQ201 with ⟨⟨i, hi, hci, rfl⟩ | ⟨hno, rfl⟩, N201, rfl⟩
  · have _ := e201
    have S202 : own_Go p e below s₁ G T201 (mkF m 13 #[.val (.ref t), .val (.int c0), .val (.int (0 : Int32)), .val (.int (Int32.ofNat cs.length))] [(.int (Int32.ofNat i))]) := fun tg_ kk_ => S200 tg_ (st201 tg_ kk_)
    have M201 := Fr.app M198 N201
    obtain ⟨fs, hr, hrun, hended, hW, hsame⟩ := X201.leave (v := some (.int (Int32.ofNat i))) (fun h => by rw [Bd.returns] at h; cases h)
    refine ⟨_, _, ?_, hrun, hended, _, _, rfl, ?_, ⟨_, rfl⟩, hW, hsame.mono (by decide) (by decide)⟩
    · rw [← hG]; exact S202 _ (retI X201 hx Bd.returns (hb hby d26_13) hr)
    · show Q26 Z t cs c0 h0 n0 _ T201.heap _
      rw [e201]
      exact ⟨Or.inl ⟨i, hi, hci, rfl⟩, M201, rfl⟩
  · have _ := e201
    have S203 : own_Go p e below s₁ G T201 (mkF m 13 #[.val (.ref t), .val (.int c0), .val (.int (0 : Int32)), .val (.int (Int32.ofNat cs.length))] [(.int (-1 : Int32))]) := fun tg_ kk_ => S200 tg_ (st201 tg_ kk_)
    have M201 := Fr.app M198 N201
    obtain ⟨fs, hr, hrun, hended, hW, hsame⟩ := X201.leave (v := some (.int (-1 : Int32))) (fun h => by rw [Bd.returns] at h; cases h)
    refine ⟨_, _, ?_, hrun, hended, _, _, rfl, ?_, ⟨_, rfl⟩, hW, hsame.mono (by decide) (by decide)⟩
    · rw [← hG]; exact S203 _ (retI X201 hx Bd.returns (hb hby d26_13) hr)
    · show Q26 Z t cs c0 h0 n0 _ T201.heap _
      rw [e201]
      exact ⟨Or.inr ⟨hno, rfl⟩, M201, rfl⟩
def Q25 (Z : State) (t : Addr) (cs : List Int32) (c0 : Int32) (h0 : Heap) (n0 : Nat) (v : Option Value) (h : Heap) (L : List Loc) : Prop := ((∃ i, i < cs.length ∧ cs.getD i 0 = c0 ∧ v = some (.int (Int32.ofNat i))) ∨ ((∀ j, j < cs.length → ¬ cs.getD j 0 = c0) ∧ v = some (.int (-1)))) ∧ Fr n0 L ∧ h0 = h
set_option maxRecDepth 65536 in
set_option maxHeartbeats 40000000 in
theorem rm25 (l : Launch) (Z : State) (a0 : Array Value) (hw : ∀ d ∈ tables_1, d.before a0 Z = true) (ws : List Jvm.Cond) (t : Addr) (cs : List Int32) (c0 : Int32) (h0 : Heap) (n0 : Nat) (Z0 : n0 ≤ h0.size) (kt : ClassId) (V : Arv Z h0 t kt .byte (Int32.ofNat (2 * cs.length)) (own_wide cs) (.int 0)) (hn : cs.length ≤ 1000) (hch : ∀ j, j < cs.length → own_Ch (cs.getD j 0)) (O : Old Z n0 h0) (A16 : own_A16 Z) (fm : Value) (hfm : fm.isRef = true) (SF : Sta Z Z.heap "jdk/internal/util/Preconditions" "SIOOBE_FORMATTER" "Ljava/util/function/BiFunction;" fm) (hl : 0 < cs.length) (hc0 : own_Ch c0) :
    MetFree l (⟨"java/lang/StringUTF16", "indexOf", "([BIII)I"⟩ : MethodName) (head1 (Jvm.Cond.code (⟨"java/lang/StringUTF16", "indexOf", "([BIII)I"⟩ : MethodName) jdk_52_method_40_code 4 (some .int) :: ws) ({ frames := 4, cells := 0, slots := 0, locals := 61 } : Room)) (fun aa_ U => aa_ = #[(.ref t), (.int c0), (.int (0 : Int32)), (.int (Int32.ofNat cs.length))] ∧ Z.Warmed39 U.vm ∧ U.heap = h0) (fun _ _ _ _ _ => True) (fun _ U o U' => ∃ v L, o = .returned v ∧ Q25 Z t cs c0 h0 n0 v U'.heap L ∧ FrameEnd U o U' L ({ frames := 4, cells := 0, slots := 0, locals := 61 } : Room).cells ({ frames := 4, cells := 0, slots := 0, locals := 61 } : Room).slots) := by
  refine MetFree.of_bodySF (plainFor_of_name pn1) hisR ?_
  intro p e s m args below meth c s₁ Bd hml0 hP hK
  obtain ⟨rfl, hZ, hh⟩ := hP
  have hx := Bd.exec
  have hby := Bd.bytes
  have hml : c.maxLocals = 4 := hml0
  have hown : s.vm.findClass "java/lang/StringUTF16" = some m.cls := findClass_of_methodNamed Bd.named
  have hnm := (name_of_methodNamed Bd.named Bd.method).1
  have X0 : Stand p l e ({ frames := 4, cells := 0, slots := 0, locals := 61 } : Room) s m #[(.ref t), (.int c0), (.int (0 : Int32)), (.int (Int32.ofNat cs.length))] below meth c s₁ [] 0 0 := Stand.of_body Bd
  have e0 : s₁.heap = h0 := by rw [← hh, Bd.state]; rfl
  have N0 := Fr.nil n0
  obtain ⟨G, hG⟩ : ∃ G, G = entryFrame m #[(.ref t), (.int c0), (.int (0 : Int32)), (.int (Int32.ofNat cs.length))] 4 := ⟨_, rfl⟩
  have S0 : own_Go p e below s₁ G s₁ (mkF m 0 #[.val (.ref t), .val (.int c0), .val (.int (0 : Int32)), .val (.int (Int32.ofNat cs.length))] []) := fun tg_ kk_ => castTop (by rw [hG]; first | rfl | simp [entryFrame, mkF, argsToLocals, Value.category, maxLocals]) kk_
  obtain ⟨cl, Ar, -, Sz, Mn, H, -⟩ := id V
  have S204 : own_Go p e below s₁ G s₁ (mkF m 2 #[.val (.ref t), .val (.int c0), .val (.int (0 : Int32)), .val (.int (Int32.ofNat cs.length))] [(.int (0 : Int32)), (.int (0 : Int32))]) := fun tg_ kk_ => S0 tg_ (by
    refine XS.iloadN X0.here hx rfl (hb hby d25_0) rfl ?_
    show Steps p.tables e below (s₁.setTop (mkF m 1 #[.val (.ref t), .val (.int c0), .val (.int (0 : Int32)), .val (.int (Int32.ofNat cs.length))] [(.int (0 : Int32))])) _
    refine XS.iconst X0.here hx rfl (hb hby d25_1) ?_
    exact kk_)
  obtain ⟨_, T205, h205, L205, X205, e205, hQ205, st205⟩ := own_callS X0 hx hZ (y := (⟨"java/lang/Math", "max", "(II)I"⟩ : MethodName)) hown (hw _ (List.mem_of_getElem? (i := 108) rfl)) (hw _ (List.mem_of_getElem? (i := 64) rfl)) (hw _ (List.mem_of_getElem? (i := 65) rfl)) (hw _ (List.mem_of_getElem? (i := 66) rfl)) (by decide) 0 (g := (mkF m 2 #[.val (.ref t), .val (.int c0), .val (.int (0 : Int32)), .val (.int (Int32.ofNat cs.length))] [(.int (0 : Int32)), (.int (0 : Int32))])) rfl (by rw [hml]; rfl) [(.int (0 : Int32)), (.int (0 : Int32))] [] (rm13 l Z a0 hw [] h0 n0 Z0) (lenOf pd8 rfl) rfl (by show 2 * 0 + _ ≤ _; exact Nat.le_of_eq rfl) (hb hby d25_2) (by decide) (by decide) e0 (by decide) (by decide)
  obtain ⟨rfl, N205, rfl⟩ := hQ205
  have S206 : own_Go p e below s₁ G T205 (mkF m 5 #[.val (.ref t), .val (.int c0), .val (.int (0 : Int32)), .val (.int (Int32.ofNat cs.length))] [(.int (0 : Int32))]) := fun tg_ kk_ => S204 tg_ (st205 tg_ kk_)
  have M205 := Fr.app N0 N205
  have S207 : own_Go p e below s₁ G T205 (mkF m 11 #[.val (.ref t), .val (.int c0), .val (.int (0 : Int32)), .val (.int (Int32.ofNat cs.length))] [(.int ((Int32.ofNat (2 * cs.length)) >>> ((1 : Int32) &&& 31))), (.int (Int32.ofNat cs.length))]) := fun tg_ kk_ => S206 tg_ (by
    refine XS.istoreN X205.here hx rfl (hb hby d25_5) rfl (l' := #[.val (.ref t), .val (.int c0), .val (.int (0 : Int32)), .val (.int (Int32.ofNat cs.length))]) rfl ?_
    show Steps p.tables e below (T205.setTop (mkF m 6 #[.val (.ref t), .val (.int c0), .val (.int (0 : Int32)), .val (.int (Int32.ofNat cs.length))] [])) _
    refine XS.iloadN X205.here hx rfl (hb hby d25_6) rfl ?_
    show Steps p.tables e below (T205.setTop (mkF m 7 #[.val (.ref t), .val (.int c0), .val (.int (0 : Int32)), .val (.int (Int32.ofNat cs.length))] [(.int (Int32.ofNat cs.length))])) _
    refine XS.aloadN X205.here hx rfl (hb hby d25_7) rfl rfl ?_
    show Steps p.tables e below (T205.setTop (mkF m 8 #[.val (.ref t), .val (.int c0), .val (.int (0 : Int32)), .val (.int (Int32.ofNat cs.length))] [(.ref t), (.int (Int32.ofNat cs.length))])) _
    refine X205.arraylength hx (cell := cl) (by rw [e205]; exact Ar.1) (State.isArrayOf_alike hZ.alike Ar.2.1) (g := (mkF m 8 #[.val (.ref t), .val (.int c0), .val (.int (0 : Int32)), .val (.int (Int32.ofNat cs.length))] [(.ref t), (.int (Int32.ofNat cs.length))])) rfl (rest := [(.int (Int32.ofNat cs.length))]) rfl (hb hby d25_8) _ ?_
    rw [len_of Sz Mn]
    show Steps p.tables e below (T205.setTop (mkF m 9 #[.val (.ref t), .val (.int c0), .val (.int (0 : Int32)), .val (.int (Int32.ofNat cs.length))] [(.int (Int32.ofNat (2 * cs.length))), (.int (Int32.ofNat cs.length))])) _
    refine XS.iconst X205.here hx rfl (hb hby d25_9) ?_
    show Steps p.tables e below (T205.setTop (mkF m 10 #[.val (.ref t), .val (.int c0), .val (.int (0 : Int32)), .val (.int (Int32.ofNat cs.length))] [(.int (1 : Int32)), (.int (Int32.ofNat (2 * cs.length))), (.int (Int32.ofNat cs.length))])) _
    refine XT.ishr X205.here hx rfl (hb hby d25_10) rfl ?_
    exact kk_)
  rw [own_shr1 (by omega)] at S207
  obtain ⟨_, T208, h208, L208, X208, e208, hQ208, st208⟩ := own_callS X205 hx hZ (y := (⟨"java/lang/Math", "min", "(II)I"⟩ : MethodName)) hown (hw _ (List.mem_of_getElem? (i := 109) rfl)) (hw _ (List.mem_of_getElem? (i := 68) rfl)) (hw _ (List.mem_of_getElem? (i := 65) rfl)) (hw _ (List.mem_of_getElem? (i := 69) rfl)) (by decide) 0 (g := (mkF m 11 #[.val (.ref t), .val (.int c0), .val (.int (0 : Int32)), .val (.int (Int32.ofNat cs.length))] [(.int (Int32.ofNat cs.length)), (.int (Int32.ofNat cs.length))])) rfl (by rw [hml]; rfl) [(.int (Int32.ofNat cs.length)), (.int (Int32.ofNat cs.length))] [] (rm14 l Z a0 hw [] (Int32.ofNat cs.length) h0 n0 Z0) (lenOf pd8 rfl) rfl (by show 2 * 0 + _ ≤ _; exact Nat.le_of_eq rfl) (hb hby d25_11) (by decide) (by decide) e205 (by decide) (by decide)
  obtain ⟨rfl, N208, rfl⟩ := hQ208
  have S209 : own_Go p e below s₁ G T208 (mkF m 14 #[.val (.ref t), .val (.int c0), .val (.int (0 : Int32)), .val (.int (Int32.ofNat cs.length))] [(.int (Int32.ofNat cs.length))]) := fun tg_ kk_ => S207 tg_ (st208 tg_ kk_)
  have M208 := Fr.app M205 N208
  have S210 : own_Go p e below s₁ G T208 (mkF m 25 #[.val (.ref t), .val (.int c0), .val (.int (0 : Int32)), .val (.int (Int32.ofNat cs.length))] [(.int (65536 : Int32)), (.int c0)]) := fun tg_ kk_ => S209 tg_ (by
    refine XS.istoreN X208.here hx rfl (hb hby d25_14) rfl (l' := #[.val (.ref t), .val (.int c0), .val (.int (0 : Int32)), .val (.int (Int32.ofNat cs.length))]) rfl ?_
    show Steps p.tables e below (T208.setTop (mkF m 15 #[.val (.ref t), .val (.int c0), .val (.int (0 : Int32)), .val (.int (Int32.ofNat cs.length))] [])) _
    refine XS.iloadN X208.here hx rfl (hb hby d25_15) rfl ?_
    show Steps p.tables e below (T208.setTop (mkF m 16 #[.val (.ref t), .val (.int c0), .val (.int (0 : Int32)), .val (.int (Int32.ofNat cs.length))] [(.int (0 : Int32))])) _
    refine XS.iloadN X208.here hx rfl (hb hby d25_16) rfl ?_
    show Steps p.tables e below (T208.setTop (mkF m 17 #[.val (.ref t), .val (.int c0), .val (.int (0 : Int32)), .val (.int (Int32.ofNat cs.length))] [(.int (Int32.ofNat cs.length)), (.int (0 : Int32))])) _
    refine XS.icmpYes X208.here hx rfl (pc0 := 17) (pc' := 22) rfl (hb hby d25_17) rfl (XT.ii_lt_t (own_lt32 (i := 0) hl (by omega))) (by decide) (by decide) ?_
    show Steps p.tables e below (T208.setTop (mkF m 22 #[.val (.ref t), .val (.int c0), .val (.int (0 : Int32)), .val (.int (Int32.ofNat cs.length))] [])) _
    refine XS.iloadN X208.here hx rfl (hb hby d25_22) rfl ?_
    show Steps p.tables e below (T208.setTop (mkF m 23 #[.val (.ref t), .val (.int c0), .val (.int (0 : Int32)), .val (.int (Int32.ofNat cs.length))] [(.int c0)])) _
    refine X208.ldcInt hx hown (mvT hZ (hw _ (List.mem_of_getElem? (i := 110) rfl))) (g := (mkF m 23 #[.val (.ref t), .val (.int c0), .val (.int (0 : Int32)), .val (.int (Int32.ofNat cs.length))] [(.int c0)])) rfl (hb hby d25_23) _ ?_
    exact kk_)
  have h65 : c0 < (65536 : Int32) := by
    have z := own_ch_int hc0; rw [Int32.lt_iff_toInt_lt]; have z2 : (65536 : Int32).toInt = 65536 := rfl; omega
  have S211 : own_Go p e below s₁ G T208 (mkF m 32 #[.val (.ref t), .val (.int c0), .val (.int (0 : Int32)), .val (.int (Int32.ofNat cs.length))] [(.int (Int32.ofNat cs.length)), (.int (0 : Int32)), (.int c0), (.ref t)]) := fun tg_ kk_ => S210 tg_ (by
    refine XS.icmpNo X208.here hx rfl (hb hby d25_25) rfl (XT.ii_ge_f h65) ?_
    show Steps p.tables e below (T208.setTop (mkF m 28 #[.val (.ref t), .val (.int c0), .val (.int (0 : Int32)), .val (.int (Int32.ofNat cs.length))] [])) _
    refine XS.aloadN X208.here hx rfl (hb hby d25_28) rfl rfl ?_
    show Steps p.tables e below (T208.setTop (mkF m 29 #[.val (.ref t), .val (.int c0), .val (.int (0 : Int32)), .val (.int (Int32.ofNat cs.length))] [(.ref t)])) _
    refine XS.iloadN X208.here hx rfl (hb hby d25_29) rfl ?_
    show Steps p.tables e below (T208.setTop (mkF m 30 #[.val (.ref t), .val (.int c0), .val (.int (0 : Int32)), .val (.int (Int32.ofNat cs.length))] [(.int c0), (.ref t)])) _
    refine XS.iloadN X208.here hx rfl (hb hby d25_30) rfl ?_
    show Steps p.tables e below (T208.setTop (mkF m 31 #[.val (.ref t), .val (.int c0), .val (.int (0 : Int32)), .val (.int (Int32.ofNat cs.length))] [(.int (0 : Int32)), (.int c0), (.ref t)])) _
    refine XS.iloadN X208.here hx rfl (hb hby d25_31) rfl ?_
    exact kk_)
  obtain ⟨_, T212, h212, L212, X212, e212, hQ212, st212⟩ := own_callS X208 hx hZ (y := (⟨"java/lang/StringUTF16", "indexOfChar", "([BIII)I"⟩ : MethodName)) hown (hw _ (List.mem_of_getElem? (i := 111) rfl)) (hw _ (List.mem_of_getElem? (i := 112) rfl)) (hw _ (List.mem_of_getElem? (i := 72) rfl)) (hw _ (List.mem_of_getElem? (i := 113) rfl)) (by decide) 0 (g := (mkF m 32 #[.val (.ref t), .val (.int c0), .val (.int (0 : Int32)), .val (.int (Int32.ofNat cs.length))] [(.int (Int32.ofNat cs.length)), (.int (0 : Int32)), (.int c0), (.ref t)])) rfl (by rw [hml]; rfl) [(.ref t), (.int c0), (.int (0 : Int32)), (.int (Int32.ofNat cs.length))] [] (rm26 l Z a0 hw [] t cs c0 h0 n0 Z0 kt V hn hch O A16 fm hfm SF) (lenOf pd12 rfl) rfl (by show 2 * 0 + _ ≤ _; exact Nat.le_of_eq rfl) (hb hby d25_32) (by decide) (by decide) e208 (by decide) (by decide)
  rcases hQ212 with ⟨⟨i, hi, hci, rfl⟩ | ⟨hno, rfl⟩, N212, rfl⟩
  · have _ := e212
    have S213 : own_Go p e below s₁ G T212 (mkF m 35 #[.val (.ref t), .val (.int c0), .val (.int (0 : Int32)), .val (.int (Int32.ofNat cs.length))] [(.int (Int32.ofNat i))]) := fun tg_ kk_ => S211 tg_ (st212 tg_ kk_)
    have M212 := Fr.app M208 N212
    obtain ⟨fs, hr, hrun, hended, hW, hsame⟩ := X212.leave (v := some (.int (Int32.ofNat i))) (fun h => by rw [Bd.returns] at h; cases h)
    refine ⟨_, _, ?_, hrun, hended, _, _, rfl, ?_, ⟨_, rfl⟩, hW, hsame.mono (by decide) (by decide)⟩
    · rw [← hG]; exact S213 _ (retI X212 hx Bd.returns (hb hby d25_35) hr)
    · show Q25 Z t cs c0 h0 n0 _ T212.heap _
      rw [e212]
      exact ⟨Or.inl ⟨i, hi, hci, rfl⟩, M212, rfl⟩
  · have _ := e212
    have S214 : own_Go p e below s₁ G T212 (mkF m 35 #[.val (.ref t), .val (.int c0), .val (.int (0 : Int32)), .val (.int (Int32.ofNat cs.length))] [(.int (-1 : Int32))]) := fun tg_ kk_ => S211 tg_ (st212 tg_ kk_)
    have M212 := Fr.app M208 N212
    obtain ⟨fs, hr, hrun, hended, hW, hsame⟩ := X212.leave (v := some (.int (-1 : Int32))) (fun h => by rw [Bd.returns] at h; cases h)
    refine ⟨_, _, ?_, hrun, hended, _, _, rfl, ?_, ⟨_, rfl⟩, hW, hsame.mono (by decide) (by decide)⟩
    · rw [← hG]; exact S214 _ (retI X212 hx Bd.returns (hb hby d25_35) hr)
    · show Q25 Z t cs c0 h0 n0 _ T212.heap _
      rw [e212]
      exact ⟨Or.inr ⟨hno, rfl⟩, M212, rfl⟩
def Q7 (Z : State) (x : Addr) (t : Addr) (cs : List Int32) (c0 : Int32) (h0 : Heap) (n0 : Nat) (v : Option Value) (h : Heap) (L : List Loc) : Prop := ((∃ i, i < cs.length ∧ cs.getD i 0 = c0 ∧ v = some (.int (Int32.ofNat i))) ∨ ((∀ j, j < cs.length → ¬ cs.getD j 0 = c0) ∧ v = some (.int (-1)))) ∧ Fr n0 L ∧ h0 = h
set_option maxRecDepth 65536 in
set_option maxHeartbeats 40000000 in
theorem rm7 (l : Launch) (Z : State) (a0 : Array Value) (hw : ∀ d ∈ tables_1, d.before a0 Z = true) (ws : List Jvm.Cond) (x : Addr) (t : Addr) (cs : List Int32) (c0 : Int32) (h0 : Heap) (n0 : Nat) (Z0 : n0 ≤ h0.size) (z : Int32) (O : Old Z n0 h0) (O2 : Sta Z Z.heap "java/lang/String" "COMPACT_STRINGS" "Z" (.int z)) (P5 : ¬ z = 0) (S : own_Str Z h0 x t cs) (hn : cs.length ≤ 1000) (hch : ∀ j, j < cs.length → own_Ch (cs.getD j 0)) (hc0 : own_Ch c0 ∧ ¬ (255 : Int32) < c0) (A16 : own_A16 Z) (fm : Value) (hfm : fm.isRef = true) (SF : Sta Z Z.heap "jdk/internal/util/Preconditions" "SIOOBE_FORMATTER" "Ljava/util/function/BiFunction;" fm) :
    MetFree l (⟨"java/lang/String", "indexOf", "(II)I"⟩ : MethodName) (head1 (Jvm.Cond.code (⟨"java/lang/String", "indexOf", "(II)I"⟩ : MethodName) jdk_42_method_80_code 3 (some .int) :: ws) ({ frames := 5, cells := 0, slots := 0, locals := 78 } : Room)) (fun aa_ U => aa_ = #[(.ref x), (.int c0), (.int (0 : Int32))] ∧ Z.Warmed39 U.vm ∧ U.heap = h0) (fun _ _ _ _ _ => True) (fun _ U o U' => ∃ v L, o = .returned v ∧ Q7 Z x t cs c0 h0 n0 v U'.heap L ∧ FrameEnd U o U' L ({ frames := 5, cells := 0, slots := 0, locals := 78 } : Room).cells ({ frames := 5, cells := 0, slots := 0, locals := 78 } : Room).slots) := by
  refine MetFree.of_bodySF (plainFor_of_name pn2) hisR ?_
  intro p e s m args below meth c s₁ Bd hml0 hP hK
  obtain ⟨rfl, hZ, hh⟩ := hP
  have hx := Bd.exec
  have hby := Bd.bytes
  have hml : c.maxLocals = 3 := hml0
  have hown : s.vm.findClass "java/lang/String" = some m.cls := findClass_of_methodNamed Bd.named
  have hnm := (name_of_methodNamed Bd.named Bd.method).1
  have X0 : Stand p l e ({ frames := 5, cells := 0, slots := 0, locals := 78 } : Room) s m #[(.ref x), (.int c0), (.int (0 : Int32))] below meth c s₁ [] 0 0 := Stand.of_body Bd
  have e0 : s₁.heap = h0 := by rw [← hh, Bd.state]; rfl
  have N0 := Fr.nil n0
  obtain ⟨G, hG⟩ : ∃ G, G = entryFrame m #[(.ref x), (.int c0), (.int (0 : Int32))] 3 := ⟨_, rfl⟩
  have S0 : own_Go p e below s₁ G s₁ (mkF m 0 #[.val (.ref x), .val (.int c0), .val (.int (0 : Int32))] []) := fun tg_ kk_ => castTop (by rw [hG]; first | rfl | simp [entryFrame, mkF, argsToLocals, Value.category, maxLocals]) kk_
  rcases S.2.2 with ⟨Fc, ⟨kt, V⟩, hlat⟩ | ⟨Fc, ⟨kt, V⟩, hlat⟩
  · have _ := N0
    have S215 : own_Go p e below s₁ G s₁ (mkF m 1 #[.val (.ref x), .val (.int c0), .val (.int (0 : Int32))] [(.ref x)]) := fun tg_ kk_ => S0 tg_ (by
      refine XS.aloadN X0.here hx rfl (hb hby d7_0) rfl rfl ?_
      exact kk_)
    obtain ⟨_, T216, h216, L216, X216, e216, hQ216, st216⟩ := own_callV X0 hx hZ (y := (⟨"java/lang/String", "isLatin1", "()Z"⟩ : MethodName)) hown (hw _ (List.mem_of_getElem? (i := 40) rfl)) (hw _ (List.mem_of_getElem? (i := 41) rfl)) (hw _ (List.mem_of_getElem? (i := 43) rfl)) (hw _ (List.mem_of_getElem? (i := 42) rfl)) (hw _ (List.mem_of_getElem? (i := 7) rfl)) (hw _ (List.mem_of_getElem? (i := 44) rfl)) (by decide) 0 (g := (mkF m 1 #[.val (.ref x), .val (.int c0), .val (.int (0 : Int32))] [(.ref x)])) rfl (by rw [hml]; rfl) x S.1 [] [] (rm8 l Z a0 hw [] x (0 : Int32) h0 n0 Z0 z O O2 P5 Fc (Or.inl rfl)) (lenOf pd9 rfl) rfl (by show 2 * 0 + _ ≤ _; exact Nat.le_of_eq rfl) (hb hby d7_1) (by decide) (by decide) e0 (by decide) (by decide)
    obtain ⟨rfl, N216, rfl⟩ := hQ216
    have S217 : own_Go p e below s₁ G T216 (mkF m 4 #[.val (.ref x), .val (.int c0), .val (.int (0 : Int32))] [(.int (1 : Int32))]) := fun tg_ kk_ => S215 tg_ (st216 tg_ kk_)
    have M216 := Fr.app N0 N216
    have S218 : own_Go p e below s₁ G T216 (mkF m 8 #[.val (.ref x), .val (.int c0), .val (.int (0 : Int32))] [(.ref x)]) := fun tg_ kk_ => S217 tg_ (by
      refine XS.ifNo X216.here hx rfl (hb hby d7_4) rfl (XT.i0_eq_f (by decide)) ?_
      show Steps p.tables e below (T216.setTop (mkF m 7 #[.val (.ref x), .val (.int c0), .val (.int (0 : Int32))] [])) _
      refine XS.aloadN X216.here hx rfl (hb hby d7_7) rfl rfl ?_
      exact kk_)
    obtain ⟨T219, X219, e219, st219⟩ := getF X216 hx hZ hown (host := "") (Or.inl (hw _ (List.mem_of_getElem? (i := 24) rfl))) Via.refl e216 S.2.1 (g := (mkF m 8 #[.val (.ref x), .val (.int c0), .val (.int (0 : Int32))] [(.ref x)])) rfl rfl (hb hby d7_8)
    have S220 : own_Go p e below s₁ G T219 (mkF m 11 #[.val (.ref x), .val (.int c0), .val (.int (0 : Int32))] [(.ref t)]) := fun tg_ kk_ => S218 tg_ (st219 tg_ kk_)
    have S221 : own_Go p e below s₁ G T219 (mkF m 14 #[.val (.ref x), .val (.int c0), .val (.int (0 : Int32))] [(.ref x), (.int (0 : Int32)), (.int c0), (.ref t)]) := fun tg_ kk_ => S220 tg_ (by
      refine XS.iloadN X219.here hx rfl (hb hby d7_11) rfl ?_
      show Steps p.tables e below (T219.setTop (mkF m 12 #[.val (.ref x), .val (.int c0), .val (.int (0 : Int32))] [(.int c0), (.ref t)])) _
      refine XS.iloadN X219.here hx rfl (hb hby d7_12) rfl ?_
      show Steps p.tables e below (T219.setTop (mkF m 13 #[.val (.ref x), .val (.int c0), .val (.int (0 : Int32))] [(.int (0 : Int32)), (.int c0), (.ref t)])) _
      refine XS.aloadN X219.here hx rfl (hb hby d7_13) rfl rfl ?_
      exact kk_)
    obtain ⟨_, T222, h222, L222, X222, e222, hQ222, st222⟩ := own_callV X219 hx hZ (y := (⟨"java/lang/String", "length", "()I"⟩ : MethodName)) hown (hw _ (List.mem_of_getElem? (i := 46) rfl)) (hw _ (List.mem_of_getElem? (i := 47) rfl)) (hw _ (List.mem_of_getElem? (i := 49) rfl)) (hw _ (List.mem_of_getElem? (i := 48) rfl)) (hw _ (List.mem_of_getElem? (i := 7) rfl)) (hw _ (List.mem_of_getElem? (i := 50) rfl)) (by decide) 3 (g := (mkF m 14 #[.val (.ref x), .val (.int c0), .val (.int (0 : Int32))] [(.ref x), (.int (0 : Int32)), (.int c0), (.ref t)])) rfl (by rw [hml]; rfl) x S.1 [] [(.int (0 : Int32)), (.int c0), (.ref t)] (rm9 l Z a0 hw [] x t cs h0 n0 Z0 z O O2 P5 S hn) (lenOf pd10 rfl) rfl (by show 2 * 0 + _ ≤ _; exact Nat.le_of_eq rfl) (hb hby d7_14) (by decide) (by decide) e219 (by decide) (by decide)
    obtain ⟨rfl, N222, rfl⟩ := hQ222
    have S223 : own_Go p e below s₁ G T222 (mkF m 17 #[.val (.ref x), .val (.int c0), .val (.int (0 : Int32))] [(.int (Int32.ofNat cs.length)), (.int (0 : Int32)), (.int c0), (.ref t)]) := fun tg_ kk_ => S221 tg_ (st222 tg_ kk_)
    have M222 := Fr.app M216 N222
    obtain ⟨_, T224, h224, L224, X224, e224, hQ224, st224⟩ := own_callS X222 hx hZ (y := (⟨"java/lang/StringLatin1", "indexOf", "([BIII)I"⟩ : MethodName)) hown (hw _ (List.mem_of_getElem? (i := 56) rfl)) (hw _ (List.mem_of_getElem? (i := 57) rfl)) (hw _ (List.mem_of_getElem? (i := 58) rfl)) (hw _ (List.mem_of_getElem? (i := 59) rfl)) (by decide) 0 (g := (mkF m 17 #[.val (.ref x), .val (.int c0), .val (.int (0 : Int32))] [(.int (Int32.ofNat cs.length)), (.int (0 : Int32)), (.int c0), (.ref t)])) rfl (by rw [hml]; rfl) [(.ref t), (.int c0), (.int (0 : Int32)), (.int (Int32.ofNat cs.length))] [] (rm11 l Z a0 hw [] t cs c0 h0 n0 Z0 kt V hn hch hc0 hlat) (lenOf pd12 rfl) rfl (by show 2 * 0 + _ ≤ _; exact Nat.le_of_eq rfl) (hb hby d7_17) (by decide) (by decide) e222 (by decide) (by decide)
    rcases hQ224 with ⟨⟨i, hi, hci, rfl⟩ | ⟨hno, rfl⟩, N224, rfl⟩
    · have _ := e224
      have S225 : own_Go p e below s₁ G T224 (mkF m 20 #[.val (.ref x), .val (.int c0), .val (.int (0 : Int32))] [(.int (Int32.ofNat i))]) := fun tg_ kk_ => S223 tg_ (st224 tg_ kk_)
      have M224 := Fr.app M222 N224
      have S226 : own_Go p e below s₁ G T224 (mkF m 36 #[.val (.ref x), .val (.int c0), .val (.int (0 : Int32))] [(.int (Int32.ofNat i))]) := fun tg_ kk_ => S225 tg_ (by
        refine XS.goto X224.here hx rfl (pc0 := 20) (pc' := 36) rfl (hb hby d7_20) (by decide) (by decide) ?_
        exact kk_)
      obtain ⟨fs, hr, hrun, hended, hW, hsame⟩ := X224.leave (v := some (.int (Int32.ofNat i))) (fun h => by rw [Bd.returns] at h; cases h)
      refine ⟨_, _, ?_, hrun, hended, _, _, rfl, ?_, ⟨_, rfl⟩, hW, hsame.mono (by decide) (by decide)⟩
      · rw [← hG]; exact S226 _ (retI X224 hx Bd.returns (hb hby d7_36) hr)
      · show Q7 Z x t cs c0 h0 n0 _ T224.heap _
        rw [e224]
        exact ⟨Or.inl ⟨i, hi, hci, rfl⟩, M224, rfl⟩
    · have _ := e224
      have S227 : own_Go p e below s₁ G T224 (mkF m 20 #[.val (.ref x), .val (.int c0), .val (.int (0 : Int32))] [(.int (-1 : Int32))]) := fun tg_ kk_ => S223 tg_ (st224 tg_ kk_)
      have M224 := Fr.app M222 N224
      have S228 : own_Go p e below s₁ G T224 (mkF m 36 #[.val (.ref x), .val (.int c0), .val (.int (0 : Int32))] [(.int (-1 : Int32))]) := fun tg_ kk_ => S227 tg_ (by
        refine XS.goto X224.here hx rfl (pc0 := 20) (pc' := 36) rfl (hb hby d7_20) (by decide) (by decide) ?_
        exact kk_)
      obtain ⟨fs, hr, hrun, hended, hW, hsame⟩ := X224.leave (v := some (.int (-1 : Int32))) (fun h => by rw [Bd.returns] at h; cases h)
      refine ⟨_, _, ?_, hrun, hended, _, _, rfl, ?_, ⟨_, rfl⟩, hW, hsame.mono (by decide) (by decide)⟩
      · rw [← hG]; exact S228 _ (retI X224 hx Bd.returns (hb hby d7_36) hr)
      · show Q7 Z x t cs c0 h0 n0 _ T224.heap _
        rw [e224]
        exact ⟨Or.inr ⟨hno, rfl⟩, M224, rfl⟩
  · have _ := N0
    have S229 : own_Go p e below s₁ G s₁ (mkF m 1 #[.val (.ref x), .val (.int c0), .val (.int (0 : Int32))] [(.ref x)]) := fun tg_ kk_ => S0 tg_ (by
      refine XS.aloadN X0.here hx rfl (hb hby d7_0) rfl rfl ?_
      exact kk_)
    obtain ⟨_, T230, h230, L230, X230, e230, hQ230, st230⟩ := own_callV X0 hx hZ (y := (⟨"java/lang/String", "isLatin1", "()Z"⟩ : MethodName)) hown (hw _ (List.mem_of_getElem? (i := 40) rfl)) (hw _ (List.mem_of_getElem? (i := 41) rfl)) (hw _ (List.mem_of_getElem? (i := 43) rfl)) (hw _ (List.mem_of_getElem? (i := 42) rfl)) (hw _ (List.mem_of_getElem? (i := 7) rfl)) (hw _ (List.mem_of_getElem? (i := 44) rfl)) (by decide) 0 (g := (mkF m 1 #[.val (.ref x), .val (.int c0), .val (.int (0 : Int32))] [(.ref x)])) rfl (by rw [hml]; rfl) x S.1 [] [] (rm8 l Z a0 hw [] x (1 : Int32) h0 n0 Z0 z O O2 P5 Fc (Or.inr rfl)) (lenOf pd9 rfl) rfl (by show 2 * 0 + _ ≤ _; exact Nat.le_of_eq rfl) (hb hby d7_1) (by decide) (by decide) e0 (by decide) (by decide)
    obtain ⟨rfl, N230, rfl⟩ := hQ230
    have S231 : own_Go p e below s₁ G T230 (mkF m 4 #[.val (.ref x), .val (.int c0), .val (.int (0 : Int32))] [(.int (0 : Int32))]) := fun tg_ kk_ => S229 tg_ (st230 tg_ kk_)
    have M230 := Fr.app N0 N230
    have S232 : own_Go p e below s₁ G T230 (mkF m 24 #[.val (.ref x), .val (.int c0), .val (.int (0 : Int32))] [(.ref x)]) := fun tg_ kk_ => S231 tg_ (by
      refine XS.ifYes X230.here hx rfl (pc0 := 4) (pc' := 23) rfl (hb hby d7_4) rfl (XT.i0_eq_t (by decide)) (by decide) (by decide) ?_
      show Steps p.tables e below (T230.setTop (mkF m 23 #[.val (.ref x), .val (.int c0), .val (.int (0 : Int32))] [])) _
      refine XS.aloadN X230.here hx rfl (hb hby d7_23) rfl rfl ?_
      exact kk_)
    obtain ⟨T233, X233, e233, st233⟩ := getF X230 hx hZ hown (host := "") (Or.inl (hw _ (List.mem_of_getElem? (i := 24) rfl))) Via.refl e230 S.2.1 (g := (mkF m 24 #[.val (.ref x), .val (.int c0), .val (.int (0 : Int32))] [(.ref x)])) rfl rfl (hb hby d7_24)
    have S234 : own_Go p e below s₁ G T233 (mkF m 27 #[.val (.ref x), .val (.int c0), .val (.int (0 : Int32))] [(.ref t)]) := fun tg_ kk_ => S232 tg_ (st233 tg_ kk_)
    have S235 : own_Go p e below s₁ G T233 (mkF m 30 #[.val (.ref x), .val (.int c0), .val (.int (0 : Int32))] [(.ref x), (.int (0 : Int32)), (.int c0), (.ref t)]) := fun tg_ kk_ => S234 tg_ (by
      refine XS.iloadN X233.here hx rfl (hb hby d7_27) rfl ?_
      show Steps p.tables e below (T233.setTop (mkF m 28 #[.val (.ref x), .val (.int c0), .val (.int (0 : Int32))] [(.int c0), (.ref t)])) _
      refine XS.iloadN X233.here hx rfl (hb hby d7_28) rfl ?_
      show Steps p.tables e below (T233.setTop (mkF m 29 #[.val (.ref x), .val (.int c0), .val (.int (0 : Int32))] [(.int (0 : Int32)), (.int c0), (.ref t)])) _
      refine XS.aloadN X233.here hx rfl (hb hby d7_29) rfl rfl ?_
      exact kk_)
    obtain ⟨_, T236, h236, L236, X236, e236, hQ236, st236⟩ := own_callV X233 hx hZ (y := (⟨"java/lang/String", "length", "()I"⟩ : MethodName)) hown (hw _ (List.mem_of_getElem? (i := 46) rfl)) (hw _ (List.mem_of_getElem? (i := 47) rfl)) (hw _ (List.mem_of_getElem? (i := 49) rfl)) (hw _ (List.mem_of_getElem? (i := 48) rfl)) (hw _ (List.mem_of_getElem? (i := 7) rfl)) (hw _ (List.mem_of_getElem? (i := 50) rfl)) (by decide) 3 (g := (mkF m 30 #[.val (.ref x), .val (.int c0), .val (.int (0 : Int32))] [(.ref x), (.int (0 : Int32)), (.int c0), (.ref t)])) rfl (by rw [hml]; rfl) x S.1 [] [(.int (0 : Int32)), (.int c0), (.ref t)] (rm9 l Z a0 hw [] x t cs h0 n0 Z0 z O O2 P5 S hn) (lenOf pd10 rfl) rfl (by show 2 * 0 + _ ≤ _; exact Nat.le_of_eq rfl) (hb hby d7_30) (by decide) (by decide) e233 (by decide) (by decide)
    obtain ⟨rfl, N236, rfl⟩ := hQ236
    have S237 : own_Go p e below s₁ G T236 (mkF m 33 #[.val (.ref x), .val (.int c0), .val (.int (0 : Int32))] [(.int (Int32.ofNat cs.length)), (.int (0 : Int32)), (.int c0), (.ref t)]) := fun tg_ kk_ => S235 tg_ (st236 tg_ kk_)
    have M236 := Fr.app M230 N236
    have hl : 0 < cs.length := by obtain ⟨j, hj, -⟩ := hlat; omega
    obtain ⟨_, T238, h238, L238, X238, e238, hQ238, st238⟩ := own_callS X236 hx hZ (y := (⟨"java/lang/StringUTF16", "indexOf", "([BIII)I"⟩ : MethodName)) hown (hw _ (List.mem_of_getElem? (i := 105) rfl)) (hw _ (List.mem_of_getElem? (i := 106) rfl)) (hw _ (List.mem_of_getElem? (i := 72) rfl)) (hw _ (List.mem_of_getElem? (i := 107) rfl)) (by decide) 0 (g := (mkF m 33 #[.val (.ref x), .val (.int c0), .val (.int (0 : Int32))] [(.int (Int32.ofNat cs.length)), (.int (0 : Int32)), (.int c0), (.ref t)])) rfl (by rw [hml]; rfl) [(.ref t), (.int c0), (.int (0 : Int32)), (.int (Int32.ofNat cs.length))] [] (rm25 l Z a0 hw [] t cs c0 h0 n0 Z0 kt V hn hch O A16 fm hfm SF hl hc0.1) (lenOf pd12 rfl) rfl (by show 2 * 0 + _ ≤ _; exact Nat.le_of_eq rfl) (hb hby d7_33) (by decide) (by decide) e236 (by decide) (by decide)
    rcases hQ238 with ⟨⟨i, hi, hci, rfl⟩ | ⟨hno, rfl⟩, N238, rfl⟩
    · have _ := e238
      have S239 : own_Go p e below s₁ G T238 (mkF m 36 #[.val (.ref x), .val (.int c0), .val (.int (0 : Int32))] [(.int (Int32.ofNat i))]) := fun tg_ kk_ => S237 tg_ (st238 tg_ kk_)
      have M238 := Fr.app M236 N238
      obtain ⟨fs, hr, hrun, hended, hW, hsame⟩ := X238.leave (v := some (.int (Int32.ofNat i))) (fun h => by rw [Bd.returns] at h; cases h)
      refine ⟨_, _, ?_, hrun, hended, _, _, rfl, ?_, ⟨_, rfl⟩, hW, hsame.mono (by decide) (by decide)⟩
      · rw [← hG]; exact S239 _ (retI X238 hx Bd.returns (hb hby d7_36) hr)
      · show Q7 Z x t cs c0 h0 n0 _ T238.heap _
        rw [e238]
        exact ⟨Or.inl ⟨i, hi, hci, rfl⟩, M238, rfl⟩
    · have _ := e238
      have S240 : own_Go p e below s₁ G T238 (mkF m 36 #[.val (.ref x), .val (.int c0), .val (.int (0 : Int32))] [(.int (-1 : Int32))]) := fun tg_ kk_ => S237 tg_ (st238 tg_ kk_)
      have M238 := Fr.app M236 N238
      obtain ⟨fs, hr, hrun, hended, hW, hsame⟩ := X238.leave (v := some (.int (-1 : Int32))) (fun h => by rw [Bd.returns] at h; cases h)
      refine ⟨_, _, ?_, hrun, hended, _, _, rfl, ?_, ⟨_, rfl⟩, hW, hsame.mono (by decide) (by decide)⟩
      · rw [← hG]; exact S240 _ (retI X238 hx Bd.returns (hb hby d7_36) hr)
      · show Q7 Z x t cs c0 h0 n0 _ T238.heap _
        rw [e238]
        exact ⟨Or.inr ⟨hno, rfl⟩, M238, rfl⟩
def Q6 (Z : State) (x : Addr) (t : Addr) (cs : List Int32) (c0 : Int32) (h0 : Heap) (n0 : Nat) (v : Option Value) (h : Heap) (L : List Loc) : Prop := ((∃ i, i < cs.length ∧ cs.getD i 0 = c0 ∧ v = some (.int (Int32.ofNat i))) ∨ ((∀ j, j < cs.length → ¬ cs.getD j 0 = c0) ∧ v = some (.int (-1)))) ∧ Fr n0 L ∧ h0 = h
set_option maxRecDepth 65536 in
set_option maxHeartbeats 40000000 in
theorem rm6 (l : Launch) (Z : State) (a0 : Array Value) (hw : ∀ d ∈ tables_1, d.before a0 Z = true) (ws : List Jvm.Cond) (x : Addr) (t : Addr) (cs : List Int32) (c0 : Int32) (h0 : Heap) (n0 : Nat) (Z0 : n0 ≤ h0.size) (z : Int32) (O : Old Z n0 h0) (O2 : Sta Z Z.heap "java/lang/String" "COMPACT_STRINGS" "Z" (.int z)) (P5 : ¬ z = 0) (S : own_Str Z h0 x t cs) (hn : cs.length ≤ 1000) (hch : ∀ j, j < cs.length → own_Ch (cs.getD j 0)) (hc0 : own_Ch c0 ∧ ¬ (255 : Int32) < c0) (A16 : own_A16 Z) (fm : Value) (hfm : fm.isRef = true) (SF : Sta Z Z.heap "jdk/internal/util/Preconditions" "SIOOBE_FORMATTER" "Ljava/util/function/BiFunction;" fm) :
    MetFree l (⟨"java/lang/String", "indexOf", "(I)I"⟩ : MethodName) (head1 (Jvm.Cond.code (⟨"java/lang/String", "indexOf", "(I)I"⟩ : MethodName) jdk_42_method_79_code 2 (some .int) :: ws) ({ frames := 6, cells := 0, slots := 0, locals := 93 } : Room)) (fun aa_ U => aa_ = #[(.ref x), (.int c0)] ∧ Z.Warmed39 U.vm ∧ U.heap = h0) (fun _ _ _ _ _ => True) (fun _ U o U' => ∃ v L, o = .returned v ∧ Q6 Z x t cs c0 h0 n0 v U'.heap L ∧ FrameEnd U o U' L ({ frames := 6, cells := 0, slots := 0, locals := 93 } : Room).cells ({ frames := 6, cells := 0, slots := 0, locals := 93 } : Room).slots) := by
  refine MetFree.of_bodySF (plainFor_of_name pn2) hisR ?_
  intro p e s m args below meth c s₁ Bd hml0 hP hK
  obtain ⟨rfl, hZ, hh⟩ := hP
  have hx := Bd.exec
  have hby := Bd.bytes
  have hml : c.maxLocals = 2 := hml0
  have hown : s.vm.findClass "java/lang/String" = some m.cls := findClass_of_methodNamed Bd.named
  have hnm := (name_of_methodNamed Bd.named Bd.method).1
  have X0 : Stand p l e ({ frames := 6, cells := 0, slots := 0, locals := 93 } : Room) s m #[(.ref x), (.int c0)] below meth c s₁ [] 0 0 := Stand.of_body Bd
  have e0 : s₁.heap = h0 := by rw [← hh, Bd.state]; rfl
  have N0 := Fr.nil n0
  obtain ⟨G, hG⟩ : ∃ G, G = entryFrame m #[(.ref x), (.int c0)] 2 := ⟨_, rfl⟩
  have S0 : own_Go p e below s₁ G s₁ (mkF m 0 #[.val (.ref x), .val (.int c0)] []) := fun tg_ kk_ => castTop (by rw [hG]; first | rfl | simp [entryFrame, mkF, argsToLocals, Value.category, maxLocals]) kk_
  have S241 : own_Go p e below s₁ G s₁ (mkF m 3 #[.val (.ref x), .val (.int c0)] [(.int (0 : Int32)), (.int c0), (.ref x)]) := fun tg_ kk_ => S0 tg_ (by
    refine XS.aloadN X0.here hx rfl (hb hby d6_0) rfl rfl ?_
    show Steps p.tables e below (s₁.setTop (mkF m 1 #[.val (.ref x), .val (.int c0)] [(.ref x)])) _
    refine XS.iloadN X0.here hx rfl (hb hby d6_1) rfl ?_
    show Steps p.tables e below (s₁.setTop (mkF m 2 #[.val (.ref x), .val (.int c0)] [(.int c0), (.ref x)])) _
    refine XS.iconst X0.here hx rfl (hb hby d6_2) ?_
    exact kk_)
  obtain ⟨_, T242, h242, L242, X242, e242, hQ242, st242⟩ := own_callV X0 hx hZ (y := (⟨"java/lang/String", "indexOf", "(II)I"⟩ : MethodName)) hown (hw _ (List.mem_of_getElem? (i := 35) rfl)) (hw _ (List.mem_of_getElem? (i := 36) rfl)) (hw _ (List.mem_of_getElem? (i := 38) rfl)) (hw _ (List.mem_of_getElem? (i := 37) rfl)) (hw _ (List.mem_of_getElem? (i := 7) rfl)) (hw _ (List.mem_of_getElem? (i := 39) rfl)) (by decide) 0 (g := (mkF m 3 #[.val (.ref x), .val (.int c0)] [(.int (0 : Int32)), (.int c0), (.ref x)])) rfl (by rw [hml]; rfl) x S.1 [(.int c0), (.int (0 : Int32))] [] (rm7 l Z a0 hw [] x t cs c0 h0 n0 Z0 z O O2 P5 S hn hch hc0 A16 fm hfm SF) (lenOf pd8 rfl) rfl (by show 2 * 0 + _ ≤ _; exact Nat.le_of_eq rfl) (hb hby d6_3) (by decide) (by decide) e0 (by decide) (by decide)
  rcases hQ242 with ⟨⟨i, hi, hci, rfl⟩ | ⟨hno, rfl⟩, N242, rfl⟩
  · have _ := e242
    have S243 : own_Go p e below s₁ G T242 (mkF m 6 #[.val (.ref x), .val (.int c0)] [(.int (Int32.ofNat i))]) := fun tg_ kk_ => S241 tg_ (st242 tg_ kk_)
    have M242 := Fr.app N0 N242
    obtain ⟨fs, hr, hrun, hended, hW, hsame⟩ := X242.leave (v := some (.int (Int32.ofNat i))) (fun h => by rw [Bd.returns] at h; cases h)
    refine ⟨_, _, ?_, hrun, hended, _, _, rfl, ?_, ⟨_, rfl⟩, hW, hsame.mono (by decide) (by decide)⟩
    · rw [← hG]; exact S243 _ (retI X242 hx Bd.returns (hb hby d6_6) hr)
    · show Q6 Z x t cs c0 h0 n0 _ T242.heap _
      rw [e242]
      exact ⟨Or.inl ⟨i, hi, hci, rfl⟩, M242, rfl⟩
  · have _ := e242
    have S244 : own_Go p e below s₁ G T242 (mkF m 6 #[.val (.ref x), .val (.int c0)] [(.int (-1 : Int32))]) := fun tg_ kk_ => S241 tg_ (st242 tg_ kk_)
    have M242 := Fr.app N0 N242
    obtain ⟨fs, hr, hrun, hended, hW, hsame⟩ := X242.leave (v := some (.int (-1 : Int32))) (fun h => by rw [Bd.returns] at h; cases h)
    refine ⟨_, _, ?_, hrun, hended, _, _, rfl, ?_, ⟨_, rfl⟩, hW, hsame.mono (by decide) (by decide)⟩
    · rw [← hG]; exact S244 _ (retI X242 hx Bd.returns (hb hby d6_6) hr)
    · show Q6 Z x t cs c0 h0 n0 _ T242.heap _
      rw [e242]
      exact ⟨Or.inr ⟨hno, rfl⟩, M242, rfl⟩
theorem pn6 : plainName "com/example/caddis/caddis/ManifestWriter" = true := by first | (simp [plainName, overriddenIn]; done) | decide +kernel
def Q5 (Z : State) (x : Addr) (t : Addr) (cs : List Int32) (h0 : Heap) (n0 : Nat) (v : Option Value) (h : Heap) (L : List Loc) : Prop := (((∀ j, j < cs.length → own_bad (cs.getD j 0) = false) ∧ v = some (.int 1)) ∨ ((∃ j, j < cs.length ∧ own_bad (cs.getD j 0) = true) ∧ v = some (.int 0))) ∧ Fr n0 L ∧ h0 = h
set_option maxRecDepth 65536 in
set_option maxHeartbeats 40000000 in
theorem rm5 (l : Launch) (Z : State) (a0 : Array Value) (hw : ∀ d ∈ tables_1, d.before a0 Z = true) (ws : List Jvm.Cond) (x : Addr) (t : Addr) (cs : List Int32) (h0 : Heap) (n0 : Nat) (Z0 : n0 ≤ h0.size) (z : Int32) (O : Old Z n0 h0) (O2 : Sta Z Z.heap "java/lang/String" "COMPACT_STRINGS" "Z" (.int z)) (P5 : ¬ z = 0) (S : own_Str Z h0 x t cs) (hn : cs.length ≤ 1000) (hch : ∀ j, j < cs.length → own_Ch (cs.getD j 0)) (A16 : own_A16 Z) (fm : Value) (hfm : fm.isRef = true) (SF : Sta Z Z.heap "jdk/internal/util/Preconditions" "SIOOBE_FORMATTER" "Ljava/util/function/BiFunction;" fm) :
    MetFree l (⟨"com/example/caddis/caddis/ManifestWriter", "canHold", "(Ljava/lang/String;)Z"⟩ : MethodName) (head1 (Jvm.Cond.code (⟨"com/example/caddis/caddis/ManifestWriter", "canHold", "(Ljava/lang/String;)Z"⟩ : MethodName) prog_9_method_2_code 1 (some .boolean) :: ws) ({ frames := 7, cells := 0, slots := 0, locals := 107 } : Room)) (fun aa_ U => aa_ = #[(.ref x)] ∧ Z.Warmed39 U.vm ∧ U.heap = h0) (fun _ _ _ _ _ => True) (fun _ U o U' => ∃ v L, o = .returned v ∧ Q5 Z x t cs h0 n0 v U'.heap L ∧ FrameEnd U o U' L ({ frames := 7, cells := 0, slots := 0, locals := 107 } : Room).cells ({ frames := 7, cells := 0, slots := 0, locals := 107 } : Room).slots) := by
  refine MetFree.of_bodySF (plainFor_of_name pn6) hisR ?_
  intro p e s m args below meth c s₁ Bd hml0 hP hK
  obtain ⟨rfl, hZ, hh⟩ := hP
  have hx := Bd.exec
  have hby := Bd.bytes
  have hml : c.maxLocals = 1 := hml0
  have hown : s.vm.findClass "com/example/caddis/caddis/ManifestWriter" = some m.cls := findClass_of_methodNamed Bd.named
  have hnm := (name_of_methodNamed Bd.named Bd.method).1
  have X0 : Stand p l e ({ frames := 7, cells := 0, slots := 0, locals := 107 } : Room) s m #[(.ref x)] below meth c s₁ [] 0 0 := Stand.of_body Bd
  have e0 : s₁.heap = h0 := by rw [← hh, Bd.state]; rfl
  have N0 := Fr.nil n0
  obtain ⟨G, hG⟩ : ∃ G, G = entryFrame m #[(.ref x)] 1 := ⟨_, rfl⟩
  have S0 : own_Go p e below s₁ G s₁ (mkF m 0 #[.val (.ref x)] []) := fun tg_ kk_ => castTop (by rw [hG]; first | rfl | simp [entryFrame, mkF, argsToLocals, Value.category, maxLocals]) kk_
  have S245 : own_Go p e below s₁ G s₁ (mkF m 3 #[.val (.ref x)] [(.int (13 : Int32)), (.ref x)]) := fun tg_ kk_ => S0 tg_ (by
    refine XS.aloadN X0.here hx rfl (hb hby d5_0) rfl rfl ?_
    show Steps p.tables e below (s₁.setTop (mkF m 1 #[.val (.ref x)] [(.ref x)])) _
    refine XS.bipush X0.here hx rfl (hb hby d5_1) ?_
    exact kk_)
  obtain ⟨_, T246, h246, L246, X246, e246, hQ246, st246⟩ := own_callV X0 hx hZ (y := (⟨"java/lang/String", "indexOf", "(I)I"⟩ : MethodName)) hown (hw _ (List.mem_of_getElem? (i := 30) rfl)) (hw _ (List.mem_of_getElem? (i := 31) rfl)) (hw _ (List.mem_of_getElem? (i := 33) rfl)) (hw _ (List.mem_of_getElem? (i := 32) rfl)) (hw _ (List.mem_of_getElem? (i := 7) rfl)) (hw _ (List.mem_of_getElem? (i := 34) rfl)) (by decide) 0 (g := (mkF m 3 #[.val (.ref x)] [(.int (13 : Int32)), (.ref x)])) rfl (by rw [hml]; rfl) x S.1 [(.int (13 : Int32))] [] (rm6 l Z a0 hw [] x t cs (13 : Int32) h0 n0 Z0 z O O2 P5 S hn hch ⟨⟨by decide, by decide⟩, by decide⟩ A16 fm hfm SF) (lenOf pd7 rfl) rfl (by show 2 * 0 + _ ≤ _; exact Nat.le_of_eq rfl) (hb hby d5_3) (by decide) (by decide) e0 (by decide) (by decide)
  rcases hQ246 with ⟨⟨i, hi, hci, rfl⟩ | ⟨hno, rfl⟩, N246, rfl⟩
  · have _ := e246
    have S247 : own_Go p e below s₁ G T246 (mkF m 6 #[.val (.ref x)] [(.int (Int32.ofNat i))]) := fun tg_ kk_ => S245 tg_ (st246 tg_ kk_)
    have M246 := Fr.app N0 N246
    have S248 : own_Go p e below s₁ G T246 (mkF m 31 #[.val (.ref x)] [(.int (0 : Int32))]) := fun tg_ kk_ => S247 tg_ (by
      refine XS.ifYes X246.here hx rfl (pc0 := 6) (pc' := 30) rfl (hb hby d5_6) rfl (XT.i0_ge_t (own_nn32 (by omega))) (by decide) (by decide) ?_
      show Steps p.tables e below (T246.setTop (mkF m 30 #[.val (.ref x)] [])) _
      refine XS.iconst X246.here hx rfl (hb hby d5_30) ?_
      exact kk_)
    obtain ⟨fs, hr, hrun, hended, hW, hsame⟩ := X246.leave (v := some (.int (0 : Int32))) (fun h => by rw [Bd.returns] at h; cases h)
    refine ⟨_, _, ?_, hrun, hended, _, _, rfl, ?_, ⟨_, rfl⟩, hW, hsame.mono (by decide) (by decide)⟩
    · rw [← hG]; exact S248 _ (retN X246 hx (t := .boolean) Bd.returns (by simp) (hb hby d5_31) hr)
    · show Q5 Z x t cs h0 n0 _ T246.heap _
      rw [e246]
      exact ⟨Or.inr ⟨⟨i, hi, by rw [hci]; decide⟩, rfl⟩, M246, rfl⟩
  · have _ := e246
    have S249 : own_Go p e below s₁ G T246 (mkF m 6 #[.val (.ref x)] [(.int (-1 : Int32))]) := fun tg_ kk_ => S245 tg_ (st246 tg_ kk_)
    have M246 := Fr.app N0 N246
    have hno0 := hno
    have S250 : own_Go p e below s₁ G T246 (mkF m 12 #[.val (.ref x)] [(.int (10 : Int32)), (.ref x)]) := fun tg_ kk_ => S249 tg_ (by
      refine XS.ifNo X246.here hx rfl (hb hby d5_6) rfl (XT.i0_ge_f (by decide)) ?_
      show Steps p.tables e below (T246.setTop (mkF m 9 #[.val (.ref x)] [])) _
      refine XS.aloadN X246.here hx rfl (hb hby d5_9) rfl rfl ?_
      show Steps p.tables e below (T246.setTop (mkF m 10 #[.val (.ref x)] [(.ref x)])) _
      refine XS.bipush X246.here hx rfl (hb hby d5_10) ?_
      exact kk_)
    obtain ⟨_, T251, h251, L251, X251, e251, hQ251, st251⟩ := own_callV X246 hx hZ (y := (⟨"java/lang/String", "indexOf", "(I)I"⟩ : MethodName)) hown (hw _ (List.mem_of_getElem? (i := 30) rfl)) (hw _ (List.mem_of_getElem? (i := 31) rfl)) (hw _ (List.mem_of_getElem? (i := 33) rfl)) (hw _ (List.mem_of_getElem? (i := 32) rfl)) (hw _ (List.mem_of_getElem? (i := 7) rfl)) (hw _ (List.mem_of_getElem? (i := 34) rfl)) (by decide) 0 (g := (mkF m 12 #[.val (.ref x)] [(.int (10 : Int32)), (.ref x)])) rfl (by rw [hml]; rfl) x S.1 [(.int (10 : Int32))] [] (rm6 l Z a0 hw [] x t cs (10 : Int32) h0 n0 Z0 z O O2 P5 S hn hch ⟨⟨by decide, by decide⟩, by decide⟩ A16 fm hfm SF) (lenOf pd7 rfl) rfl (by show 2 * 0 + _ ≤ _; exact Nat.le_of_eq rfl) (hb hby d5_12) (by decide) (by decide) e246 (by decide) (by decide)
    rcases hQ251 with ⟨⟨i, hi, hci, rfl⟩ | ⟨hno, rfl⟩, N251, rfl⟩
    · have _ := e251
      have S252 : own_Go p e below s₁ G T251 (mkF m 15 #[.val (.ref x)] [(.int (Int32.ofNat i))]) := fun tg_ kk_ => S250 tg_ (st251 tg_ kk_)
      have M251 := Fr.app M246 N251
      have S253 : own_Go p e below s₁ G T251 (mkF m 31 #[.val (.ref x)] [(.int (0 : Int32))]) := fun tg_ kk_ => S252 tg_ (by
        refine XS.ifYes X251.here hx rfl (pc0 := 15) (pc' := 30) rfl (hb hby d5_15) rfl (XT.i0_ge_t (own_nn32 (by omega))) (by decide) (by decide) ?_
        show Steps p.tables e below (T251.setTop (mkF m 30 #[.val (.ref x)] [])) _
        refine XS.iconst X251.here hx rfl (hb hby d5_30) ?_
        exact kk_)
      obtain ⟨fs, hr, hrun, hended, hW, hsame⟩ := X251.leave (v := some (.int (0 : Int32))) (fun h => by rw [Bd.returns] at h; cases h)
      refine ⟨_, _, ?_, hrun, hended, _, _, rfl, ?_, ⟨_, rfl⟩, hW, hsame.mono (by decide) (by decide)⟩
      · rw [← hG]; exact S253 _ (retN X251 hx (t := .boolean) Bd.returns (by simp) (hb hby d5_31) hr)
      · show Q5 Z x t cs h0 n0 _ T251.heap _
        rw [e251]
        exact ⟨Or.inr ⟨⟨i, hi, by rw [hci]; decide⟩, rfl⟩, M251, rfl⟩
    · have _ := e251
      have S254 : own_Go p e below s₁ G T251 (mkF m 15 #[.val (.ref x)] [(.int (-1 : Int32))]) := fun tg_ kk_ => S250 tg_ (st251 tg_ kk_)
      have M251 := Fr.app M246 N251
      have hno1 := hno
      have S255 : own_Go p e below s₁ G T251 (mkF m 20 #[.val (.ref x)] [(.int (0 : Int32)), (.ref x)]) := fun tg_ kk_ => S254 tg_ (by
        refine XS.ifNo X251.here hx rfl (hb hby d5_15) rfl (XT.i0_ge_f (by decide)) ?_
        show Steps p.tables e below (T251.setTop (mkF m 18 #[.val (.ref x)] [])) _
        refine XS.aloadN X251.here hx rfl (hb hby d5_18) rfl rfl ?_
        show Steps p.tables e below (T251.setTop (mkF m 19 #[.val (.ref x)] [(.ref x)])) _
        refine XS.iconst X251.here hx rfl (hb hby d5_19) ?_
        exact kk_)
      obtain ⟨_, T256, h256, L256, X256, e256, hQ256, st256⟩ := own_callV X251 hx hZ (y := (⟨"java/lang/String", "indexOf", "(I)I"⟩ : MethodName)) hown (hw _ (List.mem_of_getElem? (i := 30) rfl)) (hw _ (List.mem_of_getElem? (i := 31) rfl)) (hw _ (List.mem_of_getElem? (i := 33) rfl)) (hw _ (List.mem_of_getElem? (i := 32) rfl)) (hw _ (List.mem_of_getElem? (i := 7) rfl)) (hw _ (List.mem_of_getElem? (i := 34) rfl)) (by decide) 0 (g := (mkF m 20 #[.val (.ref x)] [(.int (0 : Int32)), (.ref x)])) rfl (by rw [hml]; rfl) x S.1 [(.int (0 : Int32))] [] (rm6 l Z a0 hw [] x t cs (0 : Int32) h0 n0 Z0 z O O2 P5 S hn hch ⟨⟨by decide, by decide⟩, by decide⟩ A16 fm hfm SF) (lenOf pd7 rfl) rfl (by show 2 * 0 + _ ≤ _; exact Nat.le_of_eq rfl) (hb hby d5_20) (by decide) (by decide) e251 (by decide) (by decide)
      rcases hQ256 with ⟨⟨i, hi, hci, rfl⟩ | ⟨hno, rfl⟩, N256, rfl⟩
      · have _ := e256
        have S257 : own_Go p e below s₁ G T256 (mkF m 23 #[.val (.ref x)] [(.int (Int32.ofNat i))]) := fun tg_ kk_ => S255 tg_ (st256 tg_ kk_)
        have M256 := Fr.app M251 N256
        have S258 : own_Go p e below s₁ G T256 (mkF m 31 #[.val (.ref x)] [(.int (0 : Int32))]) := fun tg_ kk_ => S257 tg_ (by
          refine XS.ifYes X256.here hx rfl (pc0 := 23) (pc' := 30) rfl (hb hby d5_23) rfl (XT.i0_ge_t (own_nn32 (by omega))) (by decide) (by decide) ?_
          show Steps p.tables e below (T256.setTop (mkF m 30 #[.val (.ref x)] [])) _
          refine XS.iconst X256.here hx rfl (hb hby d5_30) ?_
          exact kk_)
        obtain ⟨fs, hr, hrun, hended, hW, hsame⟩ := X256.leave (v := some (.int (0 : Int32))) (fun h => by rw [Bd.returns] at h; cases h)
        refine ⟨_, _, ?_, hrun, hended, _, _, rfl, ?_, ⟨_, rfl⟩, hW, hsame.mono (by decide) (by decide)⟩
        · rw [← hG]; exact S258 _ (retN X256 hx (t := .boolean) Bd.returns (by simp) (hb hby d5_31) hr)
        · show Q5 Z x t cs h0 n0 _ T256.heap _
          rw [e256]
          exact ⟨Or.inr ⟨⟨i, hi, by rw [hci]; decide⟩, rfl⟩, M256, rfl⟩
      · have _ := e256
        have S259 : own_Go p e below s₁ G T256 (mkF m 23 #[.val (.ref x)] [(.int (-1 : Int32))]) := fun tg_ kk_ => S255 tg_ (st256 tg_ kk_)
        have M256 := Fr.app M251 N256
        have hno2 := hno
        have S260 : own_Go p e below s₁ G T256 (mkF m 31 #[.val (.ref x)] [(.int (1 : Int32))]) := fun tg_ kk_ => S259 tg_ (by
          refine XS.ifNo X256.here hx rfl (hb hby d5_23) rfl (XT.i0_ge_f (by decide)) ?_
          show Steps p.tables e below (T256.setTop (mkF m 26 #[.val (.ref x)] [])) _
          refine XS.iconst X256.here hx rfl (hb hby d5_26) ?_
          show Steps p.tables e below (T256.setTop (mkF m 27 #[.val (.ref x)] [(.int (1 : Int32))])) _
          refine XS.goto X256.here hx rfl (pc0 := 27) (pc' := 31) rfl (hb hby d5_27) (by decide) (by decide) ?_
          exact kk_)
        obtain ⟨fs, hr, hrun, hended, hW, hsame⟩ := X256.leave (v := some (.int (1 : Int32))) (fun h => by rw [Bd.returns] at h; cases h)
        refine ⟨_, _, ?_, hrun, hended, _, _, rfl, ?_, ⟨_, rfl⟩, hW, hsame.mono (by decide) (by decide)⟩
        · rw [← hG]; exact S260 _ (retN X256 hx (t := .boolean) Bd.returns (by simp) (hb hby d5_31) hr)
        · show Q5 Z x t cs h0 n0 _ T256.heap _
          rw [e256]
          exact ⟨Or.inl ⟨fun j hj => by rw [own_bad, decide_eq_false (hno0 j hj), decide_eq_false (hno1 j hj), decide_eq_false (hno2 j hj)]; rfl, rfl⟩, M256, rfl⟩
theorem own_fit_ch {c : Int32} (h : own_Ch c) : fits .char (.int c) = true := by rw [← own_nar_char h]; exact fits_nar_char c
theorem own_and3 (x : Int32) : x &&& 3 = 0 ∨ x &&& 3 = 1 ∨ x &&& 3 = 2 ∨ x &&& 3 = 3 := by
  have h := c_mask x 3 2 (by decide) (by decide)
  have q : (x &&& 3).toInt = 0 ∨ (x &&& 3).toInt = 1 ∨ (x &&& 3).toInt = 2 ∨ (x &&& 3).toInt = 3 := by omega
  rcases q with q | q | q | q
  · exact Or.inl (Int32.toInt_inj.mp q)
  · exact Or.inr (Or.inl (Int32.toInt_inj.mp q))
  · exact Or.inr (Or.inr (Or.inl (Int32.toInt_inj.mp q)))
  · exact Or.inr (Or.inr (Or.inr (Int32.toInt_inj.mp q)))
def Q0 (Z : State) (p0 : Int32) (p1 : Int32) (p2 : Int32) (p3 : Int32) (h0 : Heap) (n0 : Nat) (v : Option Value) (h : Heap) (L : List Loc) : Prop := v = some (.int 1) ∧ Fr n0 L
set_option maxRecDepth 65536 in
set_option maxHeartbeats 40000000 in
theorem rm0 (l : Launch) (Z : State) (a0 : Array Value) (hw : ∀ d ∈ tables_1, d.before a0 Z = true) (ws : List Jvm.Cond) (p0 : Int32) (p1 : Int32) (p2 : Int32) (p3 : Int32) (h0 : Heap) (n0 : Nat) (Z0 : n0 ≤ h0.size) (z : Int32) (O : Old Z n0 h0) (O2 : Sta Z Z.heap "java/lang/String" "COMPACT_STRINGS" "Z" (.int z)) (P5 : ¬ z = 0) (A16 : own_A16 Z) (fm : Value) (hfm : fm.isRef = true) (SF : Sta Z Z.heap "jdk/internal/util/Preconditions" "SIOOBE_FORMATTER" "Ljava/util/function/BiFunction;" fm) :
    MetFree l x (head1 (Jvm.Cond.code x code maxLocals ret :: ws) room_1) (fun aa_ U => aa_ = #[(.int p0), (.int p1), (.int p2), (.int p3)] ∧ Z.Warmed39 U.vm ∧ U.heap = h0 ∧ CHv Z own_EL U.vm h0) (fun _ _ _ _ _ => True) (fun _ U o U' => ∃ v L, o = .returned v ∧ Q0 Z p0 p1 p2 p3 h0 n0 v U'.heap L ∧ ReturnedEndW U o U' L 24 1152) := by
  refine MetFree.of_bodySF (plainFor_of_name pn3) hisR ?_
  intro p e s m args below meth c s₁ Bd hml0 hP hK
  obtain ⟨rfl, hZ, hh, hCH⟩ := hP
  have hx := Bd.exec
  have hby := Bd.bytes
  have hml : c.maxLocals = 11 := hml0
  have hown : s.vm.findClass "com/example/caddis/caddis/ManifestWriterCanHoldPinLaw" = some m.cls := findClass_of_methodNamed Bd.named
  have hnm := (name_of_methodNamed Bd.named Bd.method).1
  have X0 : Stand p l e room_1 s m #[(.int p0), (.int p1), (.int p2), (.int p3)] below meth c s₁ [] 0 0 := Stand.of_body Bd
  have e0 : s₁.heap = h0 := by rw [← hh, Bd.state]; rfl
  have N0 := Fr.nil n0
  obtain ⟨G, hG⟩ : ∃ G, G = entryFrame m #[(.int p0), (.int p1), (.int p2), (.int p3)] maxLocals := ⟨_, rfl⟩
  have S0 : own_Go p e below s₁ G s₁ (mkF m 0 #[.val (.int p0), .val (.int p1), .val (.int p2), .val (.int p3), .unset, .unset, .unset, .unset, .unset, .unset, .unset] []) := fun tg_ kk_ => castTop (by rw [hG]; first | rfl | simp [entryFrame, mkF, argsToLocals, Value.category, maxLocals]) kk_
  have hEL := own_EW hw
  have S261 : own_Go p e below s₁ G s₁ (mkF m 3 #[.val (.int p0), .val (.int p1), .val (.int p2), .val (.int p3), .unset, .unset, .unset, .unset, .unset, .unset, .unset] [(.int (p0 &&& (3 : Int32)))]) := fun tg_ kk_ => S0 tg_ (by
    refine XS.iloadN X0.here hx rfl (hb hby at_0) rfl ?_
    show Steps p.tables e below (s₁.setTop (mkF m 1 #[.val (.int p0), .val (.int p1), .val (.int p2), .val (.int p3), .unset, .unset, .unset, .unset, .unset, .unset, .unset] [(.int p0)])) _
    refine XS.iconst X0.here hx rfl (hb hby at_1) ?_
    show Steps p.tables e below (s₁.setTop (mkF m 2 #[.val (.int p0), .val (.int p1), .val (.int p2), .val (.int p3), .unset, .unset, .unset, .unset, .unset, .unset, .unset] [(.int (3 : Int32)), (.int p0)])) _
    refine XS.iand X0.here hx rfl (hb hby at_2) rfl ?_
    exact kk_)
  have S262 : own_Go p e below s₁ G s₁ (mkF m 6 #[.val (.int p0), .val (.int p1), .val (.int p2), .val (.int p3), .val (.int (p0 &&& (3 : Int32))), .unset, .unset, .unset, .unset, .unset, .unset] [(.int p1)]) := fun tg_ kk_ => S261 tg_ (by
    refine XS.istore X0.here hx rfl (hb hby at_3) rfl (l' := #[.val (.int p0), .val (.int p1), .val (.int p2), .val (.int p3), .val (.int (p0 &&& (3 : Int32))), .unset, .unset, .unset, .unset, .unset, .unset]) rfl ?_
    show Steps p.tables e below (s₁.setTop (mkF m 5 #[.val (.int p0), .val (.int p1), .val (.int p2), .val (.int p3), .val (.int (p0 &&& (3 : Int32))), .unset, .unset, .unset, .unset, .unset, .unset] [])) _
    refine XS.iloadN X0.here hx rfl (hb hby at_5) rfl ?_
    exact kk_)
  obtain ⟨_, T263, h263, L263, X263, e263, hQ263, st263⟩ := own_callS X0 hx hZ (y := (⟨"com/example/caddis/caddis/ManifestWriterCanHoldPinLaw", "draw", "(I)C"⟩ : MethodName)) hown (hw _ (List.mem_of_getElem? (i := 0) rfl)) (hw _ (List.mem_of_getElem? (i := 1) rfl)) (hw _ (List.mem_of_getElem? (i := 2) rfl)) (hw _ (List.mem_of_getElem? (i := 3) rfl)) (by decide) 0 (g := (mkF m 6 #[.val (.int p0), .val (.int p1), .val (.int p2), .val (.int p3), .val (.int (p0 &&& (3 : Int32))), .unset, .unset, .unset, .unset, .unset, .unset] [(.int p1)])) rfl (by rw [hml]; rfl) [(.int p1)] [] (rm1 l Z a0 hw [] p1 h0 n0 Z0) (lenOf pd2 rfl) rfl (by show 2 * 0 + _ ≤ _; exact Nat.le_of_eq rfl) (hb hby at_6) (by decide) (by decide) e0 (by decide) (by decide)
  obtain ⟨c0, hc0, rfl, N263, rfl⟩ := hQ263
  have S264 : own_Go p e below s₁ G T263 (mkF m 9 #[.val (.int p0), .val (.int p1), .val (.int p2), .val (.int p3), .val (.int (p0 &&& (3 : Int32))), .unset, .unset, .unset, .unset, .unset, .unset] [(.int c0)]) := fun tg_ kk_ => S262 tg_ (st263 tg_ kk_)
  have M263 := Fr.app N0 N263
  have S265 : own_Go p e below s₁ G T263 (mkF m 12 #[.val (.int p0), .val (.int p1), .val (.int p2), .val (.int p3), .val (.int (p0 &&& (3 : Int32))), .val (.int c0), .unset, .unset, .unset, .unset, .unset] [(.int p2)]) := fun tg_ kk_ => S264 tg_ (by
    refine XS.istore X263.here hx rfl (hb hby at_9) rfl (l' := #[.val (.int p0), .val (.int p1), .val (.int p2), .val (.int p3), .val (.int (p0 &&& (3 : Int32))), .val (.int c0), .unset, .unset, .unset, .unset, .unset]) rfl ?_
    show Steps p.tables e below (T263.setTop (mkF m 11 #[.val (.int p0), .val (.int p1), .val (.int p2), .val (.int p3), .val (.int (p0 &&& (3 : Int32))), .val (.int c0), .unset, .unset, .unset, .unset, .unset] [])) _
    refine XS.iloadN X263.here hx rfl (hb hby at_11) rfl ?_
    exact kk_)
  obtain ⟨_, T266, h266, L266, X266, e266, hQ266, st266⟩ := own_callS X263 hx hZ (y := (⟨"com/example/caddis/caddis/ManifestWriterCanHoldPinLaw", "draw", "(I)C"⟩ : MethodName)) hown (hw _ (List.mem_of_getElem? (i := 0) rfl)) (hw _ (List.mem_of_getElem? (i := 1) rfl)) (hw _ (List.mem_of_getElem? (i := 2) rfl)) (hw _ (List.mem_of_getElem? (i := 3) rfl)) (by decide) 0 (g := (mkF m 12 #[.val (.int p0), .val (.int p1), .val (.int p2), .val (.int p3), .val (.int (p0 &&& (3 : Int32))), .val (.int c0), .unset, .unset, .unset, .unset, .unset] [(.int p2)])) rfl (by rw [hml]; rfl) [(.int p2)] [] (rm1 l Z a0 hw [] p2 h0 n0 Z0) (lenOf pd2 rfl) rfl (by show 2 * 0 + _ ≤ _; exact Nat.le_of_eq rfl) (hb hby at_12) (by decide) (by decide) e263 (by decide) (by decide)
  obtain ⟨c1, hc1, rfl, N266, rfl⟩ := hQ266
  have S267 : own_Go p e below s₁ G T266 (mkF m 15 #[.val (.int p0), .val (.int p1), .val (.int p2), .val (.int p3), .val (.int (p0 &&& (3 : Int32))), .val (.int c0), .unset, .unset, .unset, .unset, .unset] [(.int c1)]) := fun tg_ kk_ => S265 tg_ (st266 tg_ kk_)
  have M266 := Fr.app M263 N266
  have S268 : own_Go p e below s₁ G T266 (mkF m 18 #[.val (.int p0), .val (.int p1), .val (.int p2), .val (.int p3), .val (.int (p0 &&& (3 : Int32))), .val (.int c0), .val (.int c1), .unset, .unset, .unset, .unset] [(.int p3)]) := fun tg_ kk_ => S267 tg_ (by
    refine XS.istore X266.here hx rfl (hb hby at_15) rfl (l' := #[.val (.int p0), .val (.int p1), .val (.int p2), .val (.int p3), .val (.int (p0 &&& (3 : Int32))), .val (.int c0), .val (.int c1), .unset, .unset, .unset, .unset]) rfl ?_
    show Steps p.tables e below (T266.setTop (mkF m 17 #[.val (.int p0), .val (.int p1), .val (.int p2), .val (.int p3), .val (.int (p0 &&& (3 : Int32))), .val (.int c0), .val (.int c1), .unset, .unset, .unset, .unset] [])) _
    refine XS.iloadN X266.here hx rfl (hb hby at_17) rfl ?_
    exact kk_)
  obtain ⟨_, T269, h269, L269, X269, e269, hQ269, st269⟩ := own_callS X266 hx hZ (y := (⟨"com/example/caddis/caddis/ManifestWriterCanHoldPinLaw", "draw", "(I)C"⟩ : MethodName)) hown (hw _ (List.mem_of_getElem? (i := 0) rfl)) (hw _ (List.mem_of_getElem? (i := 1) rfl)) (hw _ (List.mem_of_getElem? (i := 2) rfl)) (hw _ (List.mem_of_getElem? (i := 3) rfl)) (by decide) 0 (g := (mkF m 18 #[.val (.int p0), .val (.int p1), .val (.int p2), .val (.int p3), .val (.int (p0 &&& (3 : Int32))), .val (.int c0), .val (.int c1), .unset, .unset, .unset, .unset] [(.int p3)])) rfl (by rw [hml]; rfl) [(.int p3)] [] (rm1 l Z a0 hw [] p3 h0 n0 Z0) (lenOf pd2 rfl) rfl (by show 2 * 0 + _ ≤ _; exact Nat.le_of_eq rfl) (hb hby at_18) (by decide) (by decide) e266 (by decide) (by decide)
  obtain ⟨c2, hc2, rfl, N269, rfl⟩ := hQ269
  have S270 : own_Go p e below s₁ G T269 (mkF m 21 #[.val (.int p0), .val (.int p1), .val (.int p2), .val (.int p3), .val (.int (p0 &&& (3 : Int32))), .val (.int c0), .val (.int c1), .unset, .unset, .unset, .unset] [(.int c2)]) := fun tg_ kk_ => S268 tg_ (st269 tg_ kk_)
  have M269 := Fr.app M266 N269
  have S271 : own_Go p e below s₁ G T269 (mkF m 25 #[.val (.int p0), .val (.int p1), .val (.int p2), .val (.int p3), .val (.int (p0 &&& (3 : Int32))), .val (.int c0), .val (.int c1), .val (.int c2), .unset, .unset, .unset] [(.int (p0 &&& (3 : Int32)))]) := fun tg_ kk_ => S270 tg_ (by
    refine XS.istore X269.here hx rfl (hb hby at_21) rfl (l' := #[.val (.int p0), .val (.int p1), .val (.int p2), .val (.int p3), .val (.int (p0 &&& (3 : Int32))), .val (.int c0), .val (.int c1), .val (.int c2), .unset, .unset, .unset]) rfl ?_
    show Steps p.tables e below (T269.setTop (mkF m 23 #[.val (.int p0), .val (.int p1), .val (.int p2), .val (.int p3), .val (.int (p0 &&& (3 : Int32))), .val (.int c0), .val (.int c1), .val (.int c2), .unset, .unset, .unset] [])) _
    refine XS.iload X269.here hx rfl (hb hby at_23) rfl ?_
    exact kk_)
  rcases own_and3 p0 with hk | hk | hk | hk
  · have _ := N0
    rw [hk] at S271
    have S272 : own_Go p e below s₁ G T269 (mkF m 29 #[.val (.int p0), .val (.int p1), .val (.int p2), .val (.int p3), .val (.int (0 : Int32)), .val (.int c0), .val (.int c1), .val (.int c2), .unset, .unset, .unset] [(.int (0 : Int32))]) := fun tg_ kk_ => S271 tg_ (by
      refine XS.ifNo X269.here hx rfl (hb hby at_25) rfl (XT.i0_ne_f (by decide)) ?_
      show Steps p.tables e below (T269.setTop (mkF m 28 #[.val (.int p0), .val (.int p1), .val (.int p2), .val (.int p3), .val (.int (0 : Int32)), .val (.int c0), .val (.int c1), .val (.int c2), .unset, .unset, .unset] [])) _
      refine XS.iconst X269.here hx rfl (hb hby at_28) ?_
      exact kk_)
    obtain ⟨Tp1, hp1, kp1, Xp1, ep1, Ep1, Ap1, stp1⟩ := newP X269 hx hZ (hw _ (List.mem_of_getElem? (i := 4) rfl)) e269 (g := (mkF m 29 #[.val (.int p0), .val (.int p1), .val (.int p2), .val (.int p3), .val (.int (0 : Int32)), .val (.int c0), .val (.int c1), .val (.int c2), .unset, .unset, .unset] [(.int (0 : Int32))])) rfl (hb hby at_29) rfl (by decide) (cap := 3) (by decide) (by decide) (by decide) (by decide)
    have S273 : own_Go p e below s₁ G Tp1 (mkF m 31 #[.val (.int p0), .val (.int p1), .val (.int p2), .val (.int p3), .val (.int (0 : Int32)), .val (.int c0), .val (.int c1), .val (.int c2), .unset, .unset, .unset] [(.ref h0.size)]) := fun tg_ kk_ => S272 tg_ (stp1 tg_ kk_)
    obtain ⟨b, gb⟩ : ∃ z, z = h0.size := ⟨_, rfl⟩
    rw [← gb] at S273
    rw [← gb] at Ap1
    have hb0 : n0 ≤ b := Nat.le_trans Z0 (Nat.le_of_eq gb.symm)
    have V0 : Arv Z hp1 b kp1 .char (0 : Int32) [] (.int 0) := Arv.new Ap1 (by decide)
    have Oq := O.ext Ep1
    have Zq := own_sub Z0 Ep1
    have S274 : own_Go p e below s₁ G Tp1 (mkF m 99 #[.val (.int p0), .val (.int p1), .val (.int p2), .val (.int p3), .val (.int (0 : Int32)), .val (.int c0), .val (.int c1), .val (.int c2), .val (.ref b), .unset, .unset] []) := fun tg_ kk_ => S273 tg_ (by
      refine XS.astore Xp1.here hx rfl (hb hby at_31) rfl rfl (l' := #[.val (.int p0), .val (.int p1), .val (.int p2), .val (.int p3), .val (.int (0 : Int32)), .val (.int c0), .val (.int c1), .val (.int c2), .val (.ref b), .unset, .unset]) rfl ?_
      show Steps p.tables e below (Tp1.setTop (mkF m 33 #[.val (.int p0), .val (.int p1), .val (.int p2), .val (.int p3), .val (.int (0 : Int32)), .val (.int c0), .val (.int c1), .val (.int c2), .val (.ref b), .unset, .unset] [])) _
      refine XS.goto Xp1.here hx rfl (pc0 := 33) (pc' := 99) rfl (hb hby at_33) (by decide) (by decide) ?_
      exact kk_)
    obtain ⟨T275, h275, X275, e275, E275, A275, D275, -, st275⟩ := newO Xp1 hx hZ hown (hw _ (List.mem_of_getElem? (i := 5) rfl)) (hw _ (List.mem_of_getElem? (i := 6) rfl)) (hw _ (List.mem_of_getElem? (i := 7) rfl)) ep1 (g := (mkF m 99 #[.val (.int p0), .val (.int p1), .val (.int p2), .val (.int p3), .val (.int (0 : Int32)), .val (.int c0), .val (.int c1), .val (.int c2), .val (.ref b), .unset, .unset] [])) rfl (hb hby at_99) (by decide) (by decide)
    obtain ⟨a275, g275⟩ : ∃ z, z = hp1.size := ⟨_, rfl⟩
    rw [← g275] at A275 D275 st275
    have S276 : own_Go p e below s₁ G T275 (mkF m 102 #[.val (.int p0), .val (.int p1), .val (.int p2), .val (.int p3), .val (.int (0 : Int32)), .val (.int c0), .val (.int c1), .val (.int c2), .val (.ref b), .unset, .unset] [(.ref a275)]) := fun tg_ kk_ => S274 tg_ (st275 tg_ kk_)
    have Vb := V0.ext E275
    have Ob := Oq.ext E275
    have Zb := own_sub Zq E275
    have Fv : Fld Z h275 a275 "java/lang/String" "value" "[B" .null := D275 (Or.inr (hw _ (List.mem_of_getElem? (i := 20) rfl))) (ty := .array .byte) (by decide)
    have Fc : Fld Z h275 a275 "java/lang/String" "coder" "B" (.int 0) := D275 (Or.inr (hw _ (List.mem_of_getElem? (i := 21) rfl))) (ty := .byte) (by decide)
    have hx0 : n0 ≤ a275 := Nat.le_trans Zq (Nat.le_of_eq g275.symm)
    have S277 : own_Go p e below s₁ G T275 (mkF m 105 #[.val (.int p0), .val (.int p1), .val (.int p2), .val (.int p3), .val (.int (0 : Int32)), .val (.int c0), .val (.int c1), .val (.int c2), .val (.ref b), .unset, .unset] [(.ref b), (.ref a275), (.ref a275)]) := fun tg_ kk_ => S276 tg_ (by
      refine XS.dup X275.here hx rfl (hb hby at_102) rfl rfl ?_
      show Steps p.tables e below (T275.setTop (mkF m 103 #[.val (.int p0), .val (.int p1), .val (.int p2), .val (.int p3), .val (.int (0 : Int32)), .val (.int c0), .val (.int c1), .val (.int c2), .val (.ref b), .unset, .unset] [(.ref a275), (.ref a275)])) _
      refine XS.aload X275.here hx rfl (hb hby at_103) rfl rfl ?_
      exact kk_)
    have XW : Stand p l e room_1 (s.setVm s.vm) m #[(.int p0), (.int p1), (.int p2), (.int p3)] below meth c T275 _ _ _ := X275
    have hSW := (State.WarmedH.refl s).since 0
    have hch : ∀ j, j < ([] : List Int32).length → own_Ch (([] : List Int32).getD j 0) := fun j hj => absurd hj (Nat.not_lt_zero j)
    obtain ⟨_, T278, h278, L278, X278, e278, hS278, hZ278, hown278, hQ278, st278⟩ := own_callISH XW hx hZ (y := (⟨"java/lang/String", "<init>", "([C)V"⟩ : MethodName)) rfl hown (hw _ (List.mem_of_getElem? (i := 8) rfl)) (hw _ (List.mem_of_getElem? (i := 9) rfl)) (hw _ (List.mem_of_getElem? (i := 7) rfl)) (hw _ (List.mem_of_getElem? (i := 10) rfl)) (by decide) 1 (g := (mkF m 105 #[.val (.int p0), .val (.int p1), .val (.int p2), .val (.int p3), .val (.int (0 : Int32)), .val (.int c0), .val (.int c1), .val (.int c2), .val (.ref b), .unset, .unset] [(.ref b), (.ref a275), (.ref a275)])) rfl (by rw [hml]; rfl) a275 [(.ref b)] [(.ref a275)] (rm2e l Z a0 hw [] a275 b h275 n0 Zb kp1 Vb A275 Fv Fc hx0) (lenOf pd3 rfl) rfl (by show 2 * 0 + _ ≤ _; exact Nat.le_of_eq rfl) (hb hby at_105) (by decide) (by decide) e275 (by decide) (by decide) hSW (Nat.zero_le _) hEL ((hCH.ext Ep1).ext E275)
    obtain ⟨rfl, N278, K278, t, SS⟩ := hQ278
    have S279 : own_Go p e below s₁ G T278 (mkF m 108 #[.val (.int p0), .val (.int p1), .val (.int p2), .val (.int p3), .val (.int (0 : Int32)), .val (.int c0), .val (.int c1), .val (.int c2), .val (.ref b), .unset, .unset] [(.ref a275)]) := fun tg_ kk_ => S277 tg_ (st278 tg_ kk_)
    have NC := Fr.app M269 N278
    have Oc := Ob.keep K278 (allS hx0 all0)
    have Zc := Nat.le_trans Zb K278.1
    have S280 : own_Go p e below s₁ G T278 (mkF m 166 #[.val (.int p0), .val (.int p1), .val (.int p2), .val (.int p3), .val (.int (0 : Int32)), .val (.int c0), .val (.int c1), .val (.int c2), .val (.ref b), .val (.ref a275), .val (.int (1 : Int32))] [(.ref a275)]) := fun tg_ kk_ => S279 tg_ (by
      refine XS.astore X278.here hx rfl (hb hby at_108) rfl rfl (l' := #[.val (.int p0), .val (.int p1), .val (.int p2), .val (.int p3), .val (.int (0 : Int32)), .val (.int c0), .val (.int c1), .val (.int c2), .val (.ref b), .val (.ref a275), .unset]) rfl ?_
      show Steps p.tables e below (T278.setTop (mkF m 110 #[.val (.int p0), .val (.int p1), .val (.int p2), .val (.int p3), .val (.int (0 : Int32)), .val (.int c0), .val (.int c1), .val (.int c2), .val (.ref b), .val (.ref a275), .unset] [])) _
      refine XS.iconst X278.here hx rfl (hb hby at_110) ?_
      show Steps p.tables e below (T278.setTop (mkF m 111 #[.val (.int p0), .val (.int p1), .val (.int p2), .val (.int p3), .val (.int (0 : Int32)), .val (.int c0), .val (.int c1), .val (.int c2), .val (.ref b), .val (.ref a275), .unset] [(.int (1 : Int32))])) _
      refine XS.istore X278.here hx rfl (hb hby at_111) rfl (l' := #[.val (.int p0), .val (.int p1), .val (.int p2), .val (.int p3), .val (.int (0 : Int32)), .val (.int c0), .val (.int c1), .val (.int c2), .val (.ref b), .val (.ref a275), .val (.int (1 : Int32))]) rfl ?_
      show Steps p.tables e below (T278.setTop (mkF m 113 #[.val (.int p0), .val (.int p1), .val (.int p2), .val (.int p3), .val (.int (0 : Int32)), .val (.int c0), .val (.int c1), .val (.int c2), .val (.ref b), .val (.ref a275), .val (.int (1 : Int32))] [])) _
      refine XS.iload X278.here hx rfl (hb hby at_113) rfl ?_
      show Steps p.tables e below (T278.setTop (mkF m 115 #[.val (.int p0), .val (.int p1), .val (.int p2), .val (.int p3), .val (.int (0 : Int32)), .val (.int c0), .val (.int c1), .val (.int c2), .val (.ref b), .val (.ref a275), .val (.int (1 : Int32))] [(.int (0 : Int32))])) _
      refine XS.iconst X278.here hx rfl (hb hby at_115) ?_
      show Steps p.tables e below (T278.setTop (mkF m 116 #[.val (.int p0), .val (.int p1), .val (.int p2), .val (.int p3), .val (.int (0 : Int32)), .val (.int c0), .val (.int c1), .val (.int c2), .val (.ref b), .val (.ref a275), .val (.int (1 : Int32))] [(.int (1 : Int32)), (.int (0 : Int32))])) _
      refine XS.icmpYes X278.here hx rfl (pc0 := 116) (pc' := 130) rfl (hb hby at_116) rfl (XT.ii_lt_t (by decide)) (by decide) (by decide) ?_
      show Steps p.tables e below (T278.setTop (mkF m 130 #[.val (.int p0), .val (.int p1), .val (.int p2), .val (.int p3), .val (.int (0 : Int32)), .val (.int c0), .val (.int c1), .val (.int c2), .val (.ref b), .val (.ref a275), .val (.int (1 : Int32))] [])) _
      refine XS.iload X278.here hx rfl (hb hby at_130) rfl ?_
      show Steps p.tables e below (T278.setTop (mkF m 132 #[.val (.int p0), .val (.int p1), .val (.int p2), .val (.int p3), .val (.int (0 : Int32)), .val (.int c0), .val (.int c1), .val (.int c2), .val (.ref b), .val (.ref a275), .val (.int (1 : Int32))] [(.int (0 : Int32))])) _
      refine XS.iconst X278.here hx rfl (hb hby at_132) ?_
      show Steps p.tables e below (T278.setTop (mkF m 133 #[.val (.int p0), .val (.int p1), .val (.int p2), .val (.int p3), .val (.int (0 : Int32)), .val (.int c0), .val (.int c1), .val (.int c2), .val (.ref b), .val (.ref a275), .val (.int (1 : Int32))] [(.int (2 : Int32)), (.int (0 : Int32))])) _
      refine XS.icmpYes X278.here hx rfl (pc0 := 133) (pc' := 147) rfl (hb hby at_133) rfl (XT.ii_lt_t (by decide)) (by decide) (by decide) ?_
      show Steps p.tables e below (T278.setTop (mkF m 147 #[.val (.int p0), .val (.int p1), .val (.int p2), .val (.int p3), .val (.int (0 : Int32)), .val (.int c0), .val (.int c1), .val (.int c2), .val (.ref b), .val (.ref a275), .val (.int (1 : Int32))] [])) _
      refine XS.iload X278.here hx rfl (hb hby at_147) rfl ?_
      show Steps p.tables e below (T278.setTop (mkF m 149 #[.val (.int p0), .val (.int p1), .val (.int p2), .val (.int p3), .val (.int (0 : Int32)), .val (.int c0), .val (.int c1), .val (.int c2), .val (.ref b), .val (.ref a275), .val (.int (1 : Int32))] [(.int (0 : Int32))])) _
      refine XS.iconst X278.here hx rfl (hb hby at_149) ?_
      show Steps p.tables e below (T278.setTop (mkF m 150 #[.val (.int p0), .val (.int p1), .val (.int p2), .val (.int p3), .val (.int (0 : Int32)), .val (.int c0), .val (.int c1), .val (.int c2), .val (.ref b), .val (.ref a275), .val (.int (1 : Int32))] [(.int (3 : Int32)), (.int (0 : Int32))])) _
      refine XS.icmpYes X278.here hx rfl (pc0 := 150) (pc' := 164) rfl (hb hby at_150) rfl (XT.ii_lt_t (by decide)) (by decide) (by decide) ?_
      show Steps p.tables e below (T278.setTop (mkF m 164 #[.val (.int p0), .val (.int p1), .val (.int p2), .val (.int p3), .val (.int (0 : Int32)), .val (.int c0), .val (.int c1), .val (.int c2), .val (.ref b), .val (.ref a275), .val (.int (1 : Int32))] [])) _
      refine XS.aload X278.here hx rfl (hb hby at_164) rfl rfl ?_
      exact kk_)
    obtain ⟨_, T281, h281, L281, X281, e281, hQ281, st281⟩ := own_callS X278 hx hZ278 (y := (⟨"com/example/caddis/caddis/ManifestWriter", "canHold", "(Ljava/lang/String;)Z"⟩ : MethodName)) hown278 (hw _ (List.mem_of_getElem? (i := 26) rfl)) (hw _ (List.mem_of_getElem? (i := 27) rfl)) (hw _ (List.mem_of_getElem? (i := 28) rfl)) (hw _ (List.mem_of_getElem? (i := 29) rfl)) (by decide) 0 (g := (mkF m 166 #[.val (.int p0), .val (.int p1), .val (.int p2), .val (.int p3), .val (.int (0 : Int32)), .val (.int c0), .val (.int c1), .val (.int c2), .val (.ref b), .val (.ref a275), .val (.int (1 : Int32))] [(.ref a275)])) rfl (by rw [hml]; rfl) [(.ref a275)] [] (rm5 l Z a0 hw [] a275 t [] h278 n0 Zc z Oc O2 P5 SS (by simp) hch A16 fm hfm SF) (lenOf pd6 rfl) rfl (by show 2 * 0 + _ ≤ _; exact Nat.le_of_eq rfl) (hb hby at_166) (by decide) (by decide) e278 (by decide) (by decide)
    rcases hQ281 with ⟨⟨hall, rfl⟩ | ⟨⟨j, hj, hbj⟩, rfl⟩, N281, rfl⟩
    · have _ := e281
      have S282 : own_Go p e below s₁ G T281 (mkF m 169 #[.val (.int p0), .val (.int p1), .val (.int p2), .val (.int p3), .val (.int (0 : Int32)), .val (.int c0), .val (.int c1), .val (.int c2), .val (.ref b), .val (.ref a275), .val (.int (1 : Int32))] [(.int (1 : Int32))]) := fun tg_ kk_ => S280 tg_ (st281 tg_ kk_)
      have M281 := Fr.app NC N281
      have S283 : own_Go p e below s₁ G T281 (mkF m 179 #[.val (.int p0), .val (.int p1), .val (.int p2), .val (.int p3), .val (.int (0 : Int32)), .val (.int c0), .val (.int c1), .val (.int c2), .val (.ref b), .val (.ref a275), .val (.int (1 : Int32))] [(.int (1 : Int32))]) := fun tg_ kk_ => S282 tg_ (by
        refine XS.iload X281.here hx rfl (hb hby at_169) rfl ?_
        show Steps p.tables e below (T281.setTop (mkF m 171 #[.val (.int p0), .val (.int p1), .val (.int p2), .val (.int p3), .val (.int (0 : Int32)), .val (.int c0), .val (.int c1), .val (.int c2), .val (.ref b), .val (.ref a275), .val (.int (1 : Int32))] [(.int (1 : Int32)), (.int (1 : Int32))])) _
        refine XS.icmpNo X281.here hx rfl (hb hby at_171) rfl (XT.ii_ne_f (by decide)) ?_
        show Steps p.tables e below (T281.setTop (mkF m 174 #[.val (.int p0), .val (.int p1), .val (.int p2), .val (.int p3), .val (.int (0 : Int32)), .val (.int c0), .val (.int c1), .val (.int c2), .val (.ref b), .val (.ref a275), .val (.int (1 : Int32))] [])) _
        refine XS.iconst X281.here hx rfl (hb hby at_174) ?_
        show Steps p.tables e below (T281.setTop (mkF m 175 #[.val (.int p0), .val (.int p1), .val (.int p2), .val (.int p3), .val (.int (0 : Int32)), .val (.int c0), .val (.int c1), .val (.int c2), .val (.ref b), .val (.ref a275), .val (.int (1 : Int32))] [(.int (1 : Int32))])) _
        refine XS.goto X281.here hx rfl (pc0 := 175) (pc' := 179) rfl (hb hby at_175) (by decide) (by decide) ?_
        exact kk_)
      obtain ⟨fs, hr, hrun, hended, hend⟩ := X281.leaveW hS278 (by rw [e281]; exact (Nat.le_refl _)) (v := some (.int (1 : Int32))) (fun h => by rw [Bd.returns] at h; cases h)
      refine ⟨_, _, ?_, hrun, hended, _, _, rfl, ?_, hend.1, hend.2.1, hend.2.2.1, hend.2.2.2.mono (by decide) (by decide)⟩
      · rw [← hG]; exact S283 _ (retN X281 hx (t := .boolean) Bd.returns (by simp) (hb hby at_179) hr)
      · show Q0 Z p0 p1 p2 p3 h0 n0 _ T281.heap _
        rw [e281]
        exact ⟨rfl, M281⟩
    · have _ := e281
      have S284 : own_Go p e below s₁ G T281 (mkF m 169 #[.val (.int p0), .val (.int p1), .val (.int p2), .val (.int p3), .val (.int (0 : Int32)), .val (.int c0), .val (.int c1), .val (.int c2), .val (.ref b), .val (.ref a275), .val (.int (1 : Int32))] [(.int (0 : Int32))]) := fun tg_ kk_ => S280 tg_ (st281 tg_ kk_)
      have M281 := Fr.app NC N281
      exact absurd hj (Nat.not_lt_zero j)
  · have _ := N0
    rw [hk] at S271
    have S285 : own_Go p e below s₁ G T269 (mkF m 43 #[.val (.int p0), .val (.int p1), .val (.int p2), .val (.int p3), .val (.int (1 : Int32)), .val (.int c0), .val (.int c1), .val (.int c2), .unset, .unset, .unset] [(.int (1 : Int32))]) := fun tg_ kk_ => S271 tg_ (by
      refine XS.ifYes X269.here hx rfl (pc0 := 25) (pc' := 36) rfl (hb hby at_25) rfl (XT.i0_ne_t (by decide)) (by decide) (by decide) ?_
      show Steps p.tables e below (T269.setTop (mkF m 36 #[.val (.int p0), .val (.int p1), .val (.int p2), .val (.int p3), .val (.int (1 : Int32)), .val (.int c0), .val (.int c1), .val (.int c2), .unset, .unset, .unset] [])) _
      refine XS.iload X269.here hx rfl (hb hby at_36) rfl ?_
      show Steps p.tables e below (T269.setTop (mkF m 38 #[.val (.int p0), .val (.int p1), .val (.int p2), .val (.int p3), .val (.int (1 : Int32)), .val (.int c0), .val (.int c1), .val (.int c2), .unset, .unset, .unset] [(.int (1 : Int32))])) _
      refine XS.iconst X269.here hx rfl (hb hby at_38) ?_
      show Steps p.tables e below (T269.setTop (mkF m 39 #[.val (.int p0), .val (.int p1), .val (.int p2), .val (.int p3), .val (.int (1 : Int32)), .val (.int c0), .val (.int c1), .val (.int c2), .unset, .unset, .unset] [(.int (1 : Int32)), (.int (1 : Int32))])) _
      refine XS.icmpNo X269.here hx rfl (hb hby at_39) rfl (XT.ii_ne_f (by decide)) ?_
      show Steps p.tables e below (T269.setTop (mkF m 42 #[.val (.int p0), .val (.int p1), .val (.int p2), .val (.int p3), .val (.int (1 : Int32)), .val (.int c0), .val (.int c1), .val (.int c2), .unset, .unset, .unset] [])) _
      refine XS.iconst X269.here hx rfl (hb hby at_42) ?_
      exact kk_)
    obtain ⟨Tp1, hp1, kp1, Xp1, ep1, Ep1, Ap1, stp1⟩ := newP X269 hx hZ (hw _ (List.mem_of_getElem? (i := 4) rfl)) e269 (g := (mkF m 43 #[.val (.int p0), .val (.int p1), .val (.int p2), .val (.int p3), .val (.int (1 : Int32)), .val (.int c0), .val (.int c1), .val (.int c2), .unset, .unset, .unset] [(.int (1 : Int32))])) rfl (hb hby at_43) rfl (by decide) (cap := 3) (by decide) (by decide) (by decide) (by decide)
    have S286 : own_Go p e below s₁ G Tp1 (mkF m 45 #[.val (.int p0), .val (.int p1), .val (.int p2), .val (.int p3), .val (.int (1 : Int32)), .val (.int c0), .val (.int c1), .val (.int c2), .unset, .unset, .unset] [(.ref h0.size)]) := fun tg_ kk_ => S285 tg_ (stp1 tg_ kk_)
    obtain ⟨b, gb⟩ : ∃ z, z = h0.size := ⟨_, rfl⟩
    rw [← gb] at S286
    rw [← gb] at Ap1
    have hb0 : n0 ≤ b := Nat.le_trans Z0 (Nat.le_of_eq gb.symm)
    have V0 : Arv Z hp1 b kp1 .char (1 : Int32) [] (.int 0) := Arv.new Ap1 (by decide)
    have Oq := O.ext Ep1
    have Zq := own_sub Z0 Ep1
    have S287 : own_Go p e below s₁ G Tp1 (mkF m 49 #[.val (.int p0), .val (.int p1), .val (.int p2), .val (.int p3), .val (.int (1 : Int32)), .val (.int c0), .val (.int c1), .val (.int c2), .unset, .unset, .unset] [(.int c0), (.int (0 : Int32)), (.ref b), (.ref b)]) := fun tg_ kk_ => S286 tg_ (by
      refine XS.dup Xp1.here hx rfl (hb hby at_45) rfl rfl ?_
      show Steps p.tables e below (Tp1.setTop (mkF m 46 #[.val (.int p0), .val (.int p1), .val (.int p2), .val (.int p3), .val (.int (1 : Int32)), .val (.int c0), .val (.int c1), .val (.int c2), .unset, .unset, .unset] [(.ref b), (.ref b)])) _
      refine XS.iconst Xp1.here hx rfl (hb hby at_46) ?_
      show Steps p.tables e below (Tp1.setTop (mkF m 47 #[.val (.int p0), .val (.int p1), .val (.int p2), .val (.int p3), .val (.int (1 : Int32)), .val (.int c0), .val (.int c1), .val (.int c2), .unset, .unset, .unset] [(.int (0 : Int32)), (.ref b), (.ref b)])) _
      refine XS.iload Xp1.here hx rfl (hb hby at_47) rfl ?_
      exact kk_)
    obtain ⟨cl0, B0, b0, z0, y0, H0, F0⟩ := id V0
    obtain ⟨U0, u0, Y0, f0, W0, su0⟩ := stC Xp1 hx hZ ep1 B0 (j := (0 : Int32)) (inb_of z0 (by decide)) (g := (mkF m 49 #[.val (.int p0), .val (.int p1), .val (.int p2), .val (.int p3), .val (.int (1 : Int32)), .val (.int c0), .val (.int c1), .val (.int c2), .unset, .unset, .unset] [(.int c0), (.int (0 : Int32)), (.ref b), (.ref b)])) rfl rfl (hb hby at_49)
    have S288 : own_Go p e below s₁ G U0 (mkF m 50 #[.val (.int p0), .val (.int p1), .val (.int p2), .val (.int p3), .val (.int (1 : Int32)), .val (.int c0), .val (.int c1), .val (.int c2), .unset, .unset, .unset] [(.ref b)]) := fun tg_ kk_ => S287 tg_ (su0 tg_ kk_)
    rw [own_nar_char hc0] at W0
    have V1 : Arv Z u0 b kp1 .char (1 : Int32) [.int c0] (.int 0) := own_push V0 (own_fit_ch hc0) W0 rfl
    have NB0 := Fr.snoc Y0 M269 hb0
    have O0a := Oq.wr W0 hb0
    have Z0a : n0 ≤ u0.size := by rw [W0.size]; exact Zq
    have S289 : own_Go p e below s₁ G U0 (mkF m 99 #[.val (.int p0), .val (.int p1), .val (.int p2), .val (.int p3), .val (.int (1 : Int32)), .val (.int c0), .val (.int c1), .val (.int c2), .val (.ref b), .unset, .unset] []) := fun tg_ kk_ => S288 tg_ (by
      refine XS.astore Y0.here hx rfl (hb hby at_50) rfl rfl (l' := #[.val (.int p0), .val (.int p1), .val (.int p2), .val (.int p3), .val (.int (1 : Int32)), .val (.int c0), .val (.int c1), .val (.int c2), .val (.ref b), .unset, .unset]) rfl ?_
      show Steps p.tables e below (U0.setTop (mkF m 52 #[.val (.int p0), .val (.int p1), .val (.int p2), .val (.int p3), .val (.int (1 : Int32)), .val (.int c0), .val (.int c1), .val (.int c2), .val (.ref b), .unset, .unset] [])) _
      refine XS.goto Y0.here hx rfl (pc0 := 52) (pc' := 99) rfl (hb hby at_52) (by decide) (by decide) ?_
      exact kk_)
    obtain ⟨T290, h290, X290, e290, E290, A290, D290, -, st290⟩ := newO Y0 hx hZ hown (hw _ (List.mem_of_getElem? (i := 5) rfl)) (hw _ (List.mem_of_getElem? (i := 6) rfl)) (hw _ (List.mem_of_getElem? (i := 7) rfl)) f0 (g := (mkF m 99 #[.val (.int p0), .val (.int p1), .val (.int p2), .val (.int p3), .val (.int (1 : Int32)), .val (.int c0), .val (.int c1), .val (.int c2), .val (.ref b), .unset, .unset] [])) rfl (hb hby at_99) (by decide) (by decide)
    obtain ⟨a290, g290⟩ : ∃ z, z = u0.size := ⟨_, rfl⟩
    rw [← g290] at A290 D290 st290
    have S291 : own_Go p e below s₁ G T290 (mkF m 102 #[.val (.int p0), .val (.int p1), .val (.int p2), .val (.int p3), .val (.int (1 : Int32)), .val (.int c0), .val (.int c1), .val (.int c2), .val (.ref b), .unset, .unset] [(.ref a290)]) := fun tg_ kk_ => S289 tg_ (st290 tg_ kk_)
    have Vb := V1.ext E290
    have Ob := O0a.ext E290
    have Zb := own_sub Z0a E290
    have Fv : Fld Z h290 a290 "java/lang/String" "value" "[B" .null := D290 (Or.inr (hw _ (List.mem_of_getElem? (i := 20) rfl))) (ty := .array .byte) (by decide)
    have Fc : Fld Z h290 a290 "java/lang/String" "coder" "B" (.int 0) := D290 (Or.inr (hw _ (List.mem_of_getElem? (i := 21) rfl))) (ty := .byte) (by decide)
    have hx0 : n0 ≤ a290 := Nat.le_trans Z0a (Nat.le_of_eq g290.symm)
    have hch : ∀ j, j < [c0].length → own_Ch ([c0].getD j 0) := fun j hj => by match j, hj with | 0, _ => exact hc0
    have S292 : own_Go p e below s₁ G T290 (mkF m 105 #[.val (.int p0), .val (.int p1), .val (.int p2), .val (.int p3), .val (.int (1 : Int32)), .val (.int c0), .val (.int c1), .val (.int c2), .val (.ref b), .unset, .unset] [(.ref b), (.ref a290), (.ref a290)]) := fun tg_ kk_ => S291 tg_ (by
      refine XS.dup X290.here hx rfl (hb hby at_102) rfl rfl ?_
      show Steps p.tables e below (T290.setTop (mkF m 103 #[.val (.int p0), .val (.int p1), .val (.int p2), .val (.int p3), .val (.int (1 : Int32)), .val (.int c0), .val (.int c1), .val (.int c2), .val (.ref b), .unset, .unset] [(.ref a290), (.ref a290)])) _
      refine XS.aload X290.here hx rfl (hb hby at_103) rfl rfl ?_
      exact kk_)
    obtain ⟨_, T293, h293, L293, X293, e293, hQ293, st293⟩ := own_callI X290 hx hZ (y := (⟨"java/lang/String", "<init>", "([C)V"⟩ : MethodName)) rfl hown (hw _ (List.mem_of_getElem? (i := 8) rfl)) (hw _ (List.mem_of_getElem? (i := 9) rfl)) (hw _ (List.mem_of_getElem? (i := 7) rfl)) (hw _ (List.mem_of_getElem? (i := 10) rfl)) (by decide) 1 (g := (mkF m 105 #[.val (.int p0), .val (.int p1), .val (.int p2), .val (.int p3), .val (.int (1 : Int32)), .val (.int c0), .val (.int c1), .val (.int c2), .val (.ref b), .unset, .unset] [(.ref b), (.ref a290), (.ref a290)])) rfl (by rw [hml]; rfl) a290 [(.ref b)] [(.ref a290)] (rm2 l Z a0 hw [] a290 b [c0] h290 n0 Zb z kp1 (by simp) A290 Fv Fc hx0 Vb Ob O2 P5 A16 hch) (lenOf pd3 rfl) rfl (by show 2 * 0 + _ ≤ _; exact Nat.le_of_eq rfl) (hb hby at_105) (by decide) (by decide) e290 (by decide) (by decide)
    obtain ⟨rfl, N293, K293, t, ht, SS⟩ := hQ293
    have S294 : own_Go p e below s₁ G T293 (mkF m 108 #[.val (.int p0), .val (.int p1), .val (.int p2), .val (.int p3), .val (.int (1 : Int32)), .val (.int c0), .val (.int c1), .val (.int c2), .val (.ref b), .unset, .unset] [(.ref a290)]) := fun tg_ kk_ => S292 tg_ (st293 tg_ kk_)
    have NC := Fr.app NB0 N293
    have Oc := Ob.keep K293 (allS hx0 all0)
    have Zc := Nat.le_trans Zb K293.1
    have S295 : own_Go p e below s₁ G T293 (mkF m 121 #[.val (.int p0), .val (.int p1), .val (.int p2), .val (.int p3), .val (.int (1 : Int32)), .val (.int c0), .val (.int c1), .val (.int c2), .val (.ref b), .val (.ref a290), .val (.int (1 : Int32))] [(.int c0)]) := fun tg_ kk_ => S294 tg_ (by
      refine XS.astore X293.here hx rfl (hb hby at_108) rfl rfl (l' := #[.val (.int p0), .val (.int p1), .val (.int p2), .val (.int p3), .val (.int (1 : Int32)), .val (.int c0), .val (.int c1), .val (.int c2), .val (.ref b), .val (.ref a290), .unset]) rfl ?_
      show Steps p.tables e below (T293.setTop (mkF m 110 #[.val (.int p0), .val (.int p1), .val (.int p2), .val (.int p3), .val (.int (1 : Int32)), .val (.int c0), .val (.int c1), .val (.int c2), .val (.ref b), .val (.ref a290), .unset] [])) _
      refine XS.iconst X293.here hx rfl (hb hby at_110) ?_
      show Steps p.tables e below (T293.setTop (mkF m 111 #[.val (.int p0), .val (.int p1), .val (.int p2), .val (.int p3), .val (.int (1 : Int32)), .val (.int c0), .val (.int c1), .val (.int c2), .val (.ref b), .val (.ref a290), .unset] [(.int (1 : Int32))])) _
      refine XS.istore X293.here hx rfl (hb hby at_111) rfl (l' := #[.val (.int p0), .val (.int p1), .val (.int p2), .val (.int p3), .val (.int (1 : Int32)), .val (.int c0), .val (.int c1), .val (.int c2), .val (.ref b), .val (.ref a290), .val (.int (1 : Int32))]) rfl ?_
      show Steps p.tables e below (T293.setTop (mkF m 113 #[.val (.int p0), .val (.int p1), .val (.int p2), .val (.int p3), .val (.int (1 : Int32)), .val (.int c0), .val (.int c1), .val (.int c2), .val (.ref b), .val (.ref a290), .val (.int (1 : Int32))] [])) _
      refine XS.iload X293.here hx rfl (hb hby at_113) rfl ?_
      show Steps p.tables e below (T293.setTop (mkF m 115 #[.val (.int p0), .val (.int p1), .val (.int p2), .val (.int p3), .val (.int (1 : Int32)), .val (.int c0), .val (.int c1), .val (.int c2), .val (.ref b), .val (.ref a290), .val (.int (1 : Int32))] [(.int (1 : Int32))])) _
      refine XS.iconst X293.here hx rfl (hb hby at_115) ?_
      show Steps p.tables e below (T293.setTop (mkF m 116 #[.val (.int p0), .val (.int p1), .val (.int p2), .val (.int p3), .val (.int (1 : Int32)), .val (.int c0), .val (.int c1), .val (.int c2), .val (.ref b), .val (.ref a290), .val (.int (1 : Int32))] [(.int (1 : Int32)), (.int (1 : Int32))])) _
      refine XS.icmpNo X293.here hx rfl (hb hby at_116) rfl (XT.ii_lt_f (by decide)) ?_
      show Steps p.tables e below (T293.setTop (mkF m 119 #[.val (.int p0), .val (.int p1), .val (.int p2), .val (.int p3), .val (.int (1 : Int32)), .val (.int c0), .val (.int c1), .val (.int c2), .val (.ref b), .val (.ref a290), .val (.int (1 : Int32))] [])) _
      refine XS.iload X293.here hx rfl (hb hby at_119) rfl ?_
      exact kk_)
    obtain ⟨_, T296, h296, L296, X296, e296, hQ296, st296⟩ := own_callS X293 hx hZ (y := (⟨"com/example/caddis/caddis/ManifestWriterCanHoldPinLaw", "bad", "(C)Z"⟩ : MethodName)) hown (hw _ (List.mem_of_getElem? (i := 80) rfl)) (hw _ (List.mem_of_getElem? (i := 81) rfl)) (hw _ (List.mem_of_getElem? (i := 2) rfl)) (hw _ (List.mem_of_getElem? (i := 82) rfl)) (by decide) 0 (g := (mkF m 121 #[.val (.int p0), .val (.int p1), .val (.int p2), .val (.int p3), .val (.int (1 : Int32)), .val (.int c0), .val (.int c1), .val (.int c2), .val (.ref b), .val (.ref a290), .val (.int (1 : Int32))] [(.int c0)])) rfl (by rw [hml]; rfl) [(.int c0)] [] (rm18 l Z a0 hw [] c0 h293 n0 Zc) (lenOf pd17 rfl) rfl (by show 2 * 0 + _ ≤ _; exact Nat.le_of_eq rfl) (hb hby at_121) (by decide) (by decide) e293 (by decide) (by decide)
    rcases hQ296 with ⟨⟨hb0, rfl⟩ | ⟨hb0, rfl⟩, N296, rfl⟩
    · have _ := e296
      have S297 : own_Go p e below s₁ G T296 (mkF m 124 #[.val (.int p0), .val (.int p1), .val (.int p2), .val (.int p3), .val (.int (1 : Int32)), .val (.int c0), .val (.int c1), .val (.int c2), .val (.ref b), .val (.ref a290), .val (.int (1 : Int32))] [(.int (1 : Int32))]) := fun tg_ kk_ => S295 tg_ (st296 tg_ kk_)
      have M296 := Fr.app NC N296
      have S298 : own_Go p e below s₁ G T296 (mkF m 166 #[.val (.int p0), .val (.int p1), .val (.int p2), .val (.int p3), .val (.int (1 : Int32)), .val (.int c0), .val (.int c1), .val (.int c2), .val (.ref b), .val (.ref a290), .val (.int (0 : Int32))] [(.ref a290)]) := fun tg_ kk_ => S297 tg_ (by
        refine XS.ifNo X296.here hx rfl (hb hby at_124) rfl (XT.i0_eq_f (by decide)) ?_
        show Steps p.tables e below (T296.setTop (mkF m 127 #[.val (.int p0), .val (.int p1), .val (.int p2), .val (.int p3), .val (.int (1 : Int32)), .val (.int c0), .val (.int c1), .val (.int c2), .val (.ref b), .val (.ref a290), .val (.int (1 : Int32))] [])) _
        refine XS.iconst X296.here hx rfl (hb hby at_127) ?_
        show Steps p.tables e below (T296.setTop (mkF m 128 #[.val (.int p0), .val (.int p1), .val (.int p2), .val (.int p3), .val (.int (1 : Int32)), .val (.int c0), .val (.int c1), .val (.int c2), .val (.ref b), .val (.ref a290), .val (.int (1 : Int32))] [(.int (0 : Int32))])) _
        refine XS.istore X296.here hx rfl (hb hby at_128) rfl (l' := #[.val (.int p0), .val (.int p1), .val (.int p2), .val (.int p3), .val (.int (1 : Int32)), .val (.int c0), .val (.int c1), .val (.int c2), .val (.ref b), .val (.ref a290), .val (.int (0 : Int32))]) rfl ?_
        show Steps p.tables e below (T296.setTop (mkF m 130 #[.val (.int p0), .val (.int p1), .val (.int p2), .val (.int p3), .val (.int (1 : Int32)), .val (.int c0), .val (.int c1), .val (.int c2), .val (.ref b), .val (.ref a290), .val (.int (0 : Int32))] [])) _
        refine XS.iload X296.here hx rfl (hb hby at_130) rfl ?_
        show Steps p.tables e below (T296.setTop (mkF m 132 #[.val (.int p0), .val (.int p1), .val (.int p2), .val (.int p3), .val (.int (1 : Int32)), .val (.int c0), .val (.int c1), .val (.int c2), .val (.ref b), .val (.ref a290), .val (.int (0 : Int32))] [(.int (1 : Int32))])) _
        refine XS.iconst X296.here hx rfl (hb hby at_132) ?_
        show Steps p.tables e below (T296.setTop (mkF m 133 #[.val (.int p0), .val (.int p1), .val (.int p2), .val (.int p3), .val (.int (1 : Int32)), .val (.int c0), .val (.int c1), .val (.int c2), .val (.ref b), .val (.ref a290), .val (.int (0 : Int32))] [(.int (2 : Int32)), (.int (1 : Int32))])) _
        refine XS.icmpYes X296.here hx rfl (pc0 := 133) (pc' := 147) rfl (hb hby at_133) rfl (XT.ii_lt_t (by decide)) (by decide) (by decide) ?_
        show Steps p.tables e below (T296.setTop (mkF m 147 #[.val (.int p0), .val (.int p1), .val (.int p2), .val (.int p3), .val (.int (1 : Int32)), .val (.int c0), .val (.int c1), .val (.int c2), .val (.ref b), .val (.ref a290), .val (.int (0 : Int32))] [])) _
        refine XS.iload X296.here hx rfl (hb hby at_147) rfl ?_
        show Steps p.tables e below (T296.setTop (mkF m 149 #[.val (.int p0), .val (.int p1), .val (.int p2), .val (.int p3), .val (.int (1 : Int32)), .val (.int c0), .val (.int c1), .val (.int c2), .val (.ref b), .val (.ref a290), .val (.int (0 : Int32))] [(.int (1 : Int32))])) _
        refine XS.iconst X296.here hx rfl (hb hby at_149) ?_
        show Steps p.tables e below (T296.setTop (mkF m 150 #[.val (.int p0), .val (.int p1), .val (.int p2), .val (.int p3), .val (.int (1 : Int32)), .val (.int c0), .val (.int c1), .val (.int c2), .val (.ref b), .val (.ref a290), .val (.int (0 : Int32))] [(.int (3 : Int32)), (.int (1 : Int32))])) _
        refine XS.icmpYes X296.here hx rfl (pc0 := 150) (pc' := 164) rfl (hb hby at_150) rfl (XT.ii_lt_t (by decide)) (by decide) (by decide) ?_
        show Steps p.tables e below (T296.setTop (mkF m 164 #[.val (.int p0), .val (.int p1), .val (.int p2), .val (.int p3), .val (.int (1 : Int32)), .val (.int c0), .val (.int c1), .val (.int c2), .val (.ref b), .val (.ref a290), .val (.int (0 : Int32))] [])) _
        refine XS.aload X296.here hx rfl (hb hby at_164) rfl rfl ?_
        exact kk_)
      obtain ⟨_, T299, h299, L299, X299, e299, hQ299, st299⟩ := own_callS X296 hx hZ (y := (⟨"com/example/caddis/caddis/ManifestWriter", "canHold", "(Ljava/lang/String;)Z"⟩ : MethodName)) hown (hw _ (List.mem_of_getElem? (i := 26) rfl)) (hw _ (List.mem_of_getElem? (i := 27) rfl)) (hw _ (List.mem_of_getElem? (i := 28) rfl)) (hw _ (List.mem_of_getElem? (i := 29) rfl)) (by decide) 0 (g := (mkF m 166 #[.val (.int p0), .val (.int p1), .val (.int p2), .val (.int p3), .val (.int (1 : Int32)), .val (.int c0), .val (.int c1), .val (.int c2), .val (.ref b), .val (.ref a290), .val (.int (0 : Int32))] [(.ref a290)])) rfl (by rw [hml]; rfl) [(.ref a290)] [] (rm5 l Z a0 hw [] a290 t [c0] h293 n0 Zc z Oc O2 P5 SS (by simp) hch A16 fm hfm SF) (lenOf pd6 rfl) rfl (by show 2 * 0 + _ ≤ _; exact Nat.le_of_eq rfl) (hb hby at_166) (by decide) (by decide) e296 (by decide) (by decide)
      rcases hQ299 with ⟨⟨hall, rfl⟩ | ⟨⟨j, hj, hbj⟩, rfl⟩, N299, rfl⟩
      · have _ := e299
        have S300 : own_Go p e below s₁ G T299 (mkF m 169 #[.val (.int p0), .val (.int p1), .val (.int p2), .val (.int p3), .val (.int (1 : Int32)), .val (.int c0), .val (.int c1), .val (.int c2), .val (.ref b), .val (.ref a290), .val (.int (0 : Int32))] [(.int (1 : Int32))]) := fun tg_ kk_ => S298 tg_ (st299 tg_ kk_)
        have M299 := Fr.app M296 N299
        exact absurd (hall 0 (by simp)) (by simp [hb0])
      · have _ := e299
        have S301 : own_Go p e below s₁ G T299 (mkF m 169 #[.val (.int p0), .val (.int p1), .val (.int p2), .val (.int p3), .val (.int (1 : Int32)), .val (.int c0), .val (.int c1), .val (.int c2), .val (.ref b), .val (.ref a290), .val (.int (0 : Int32))] [(.int (0 : Int32))]) := fun tg_ kk_ => S298 tg_ (st299 tg_ kk_)
        have M299 := Fr.app M296 N299
        have S302 : own_Go p e below s₁ G T299 (mkF m 179 #[.val (.int p0), .val (.int p1), .val (.int p2), .val (.int p3), .val (.int (1 : Int32)), .val (.int c0), .val (.int c1), .val (.int c2), .val (.ref b), .val (.ref a290), .val (.int (0 : Int32))] [(.int (1 : Int32))]) := fun tg_ kk_ => S301 tg_ (by
          refine XS.iload X299.here hx rfl (hb hby at_169) rfl ?_
          show Steps p.tables e below (T299.setTop (mkF m 171 #[.val (.int p0), .val (.int p1), .val (.int p2), .val (.int p3), .val (.int (1 : Int32)), .val (.int c0), .val (.int c1), .val (.int c2), .val (.ref b), .val (.ref a290), .val (.int (0 : Int32))] [(.int (0 : Int32)), (.int (0 : Int32))])) _
          refine XS.icmpNo X299.here hx rfl (hb hby at_171) rfl (XT.ii_ne_f (by decide)) ?_
          show Steps p.tables e below (T299.setTop (mkF m 174 #[.val (.int p0), .val (.int p1), .val (.int p2), .val (.int p3), .val (.int (1 : Int32)), .val (.int c0), .val (.int c1), .val (.int c2), .val (.ref b), .val (.ref a290), .val (.int (0 : Int32))] [])) _
          refine XS.iconst X299.here hx rfl (hb hby at_174) ?_
          show Steps p.tables e below (T299.setTop (mkF m 175 #[.val (.int p0), .val (.int p1), .val (.int p2), .val (.int p3), .val (.int (1 : Int32)), .val (.int c0), .val (.int c1), .val (.int c2), .val (.ref b), .val (.ref a290), .val (.int (0 : Int32))] [(.int (1 : Int32))])) _
          refine XS.goto X299.here hx rfl (pc0 := 175) (pc' := 179) rfl (hb hby at_175) (by decide) (by decide) ?_
          exact kk_)
        obtain ⟨fs, hr, hrun, hended, hW, hsame⟩ := X299.leave (v := some (.int (1 : Int32))) (fun h => by rw [Bd.returns] at h; cases h)
        refine ⟨_, _, ?_, hrun, hended, _, _, rfl, ?_, ReturnedEndW.of_narrow ⟨_, rfl⟩ hW (hsame.mono (by decide) (by decide))⟩
        · rw [← hG]; exact S302 _ (retN X299 hx (t := .boolean) Bd.returns (by simp) (hb hby at_179) hr)
        · show Q0 Z p0 p1 p2 p3 h0 n0 _ T299.heap _
          rw [e299]
          exact ⟨rfl, M299⟩
    · have _ := e296
      have S303 : own_Go p e below s₁ G T296 (mkF m 124 #[.val (.int p0), .val (.int p1), .val (.int p2), .val (.int p3), .val (.int (1 : Int32)), .val (.int c0), .val (.int c1), .val (.int c2), .val (.ref b), .val (.ref a290), .val (.int (1 : Int32))] [(.int (0 : Int32))]) := fun tg_ kk_ => S295 tg_ (st296 tg_ kk_)
      have M296 := Fr.app NC N296
      have S304 : own_Go p e below s₁ G T296 (mkF m 166 #[.val (.int p0), .val (.int p1), .val (.int p2), .val (.int p3), .val (.int (1 : Int32)), .val (.int c0), .val (.int c1), .val (.int c2), .val (.ref b), .val (.ref a290), .val (.int (1 : Int32))] [(.ref a290)]) := fun tg_ kk_ => S303 tg_ (by
        refine XS.ifYes X296.here hx rfl (pc0 := 124) (pc' := 130) rfl (hb hby at_124) rfl (XT.i0_eq_t (by decide)) (by decide) (by decide) ?_
        show Steps p.tables e below (T296.setTop (mkF m 130 #[.val (.int p0), .val (.int p1), .val (.int p2), .val (.int p3), .val (.int (1 : Int32)), .val (.int c0), .val (.int c1), .val (.int c2), .val (.ref b), .val (.ref a290), .val (.int (1 : Int32))] [])) _
        refine XS.iload X296.here hx rfl (hb hby at_130) rfl ?_
        show Steps p.tables e below (T296.setTop (mkF m 132 #[.val (.int p0), .val (.int p1), .val (.int p2), .val (.int p3), .val (.int (1 : Int32)), .val (.int c0), .val (.int c1), .val (.int c2), .val (.ref b), .val (.ref a290), .val (.int (1 : Int32))] [(.int (1 : Int32))])) _
        refine XS.iconst X296.here hx rfl (hb hby at_132) ?_
        show Steps p.tables e below (T296.setTop (mkF m 133 #[.val (.int p0), .val (.int p1), .val (.int p2), .val (.int p3), .val (.int (1 : Int32)), .val (.int c0), .val (.int c1), .val (.int c2), .val (.ref b), .val (.ref a290), .val (.int (1 : Int32))] [(.int (2 : Int32)), (.int (1 : Int32))])) _
        refine XS.icmpYes X296.here hx rfl (pc0 := 133) (pc' := 147) rfl (hb hby at_133) rfl (XT.ii_lt_t (by decide)) (by decide) (by decide) ?_
        show Steps p.tables e below (T296.setTop (mkF m 147 #[.val (.int p0), .val (.int p1), .val (.int p2), .val (.int p3), .val (.int (1 : Int32)), .val (.int c0), .val (.int c1), .val (.int c2), .val (.ref b), .val (.ref a290), .val (.int (1 : Int32))] [])) _
        refine XS.iload X296.here hx rfl (hb hby at_147) rfl ?_
        show Steps p.tables e below (T296.setTop (mkF m 149 #[.val (.int p0), .val (.int p1), .val (.int p2), .val (.int p3), .val (.int (1 : Int32)), .val (.int c0), .val (.int c1), .val (.int c2), .val (.ref b), .val (.ref a290), .val (.int (1 : Int32))] [(.int (1 : Int32))])) _
        refine XS.iconst X296.here hx rfl (hb hby at_149) ?_
        show Steps p.tables e below (T296.setTop (mkF m 150 #[.val (.int p0), .val (.int p1), .val (.int p2), .val (.int p3), .val (.int (1 : Int32)), .val (.int c0), .val (.int c1), .val (.int c2), .val (.ref b), .val (.ref a290), .val (.int (1 : Int32))] [(.int (3 : Int32)), (.int (1 : Int32))])) _
        refine XS.icmpYes X296.here hx rfl (pc0 := 150) (pc' := 164) rfl (hb hby at_150) rfl (XT.ii_lt_t (by decide)) (by decide) (by decide) ?_
        show Steps p.tables e below (T296.setTop (mkF m 164 #[.val (.int p0), .val (.int p1), .val (.int p2), .val (.int p3), .val (.int (1 : Int32)), .val (.int c0), .val (.int c1), .val (.int c2), .val (.ref b), .val (.ref a290), .val (.int (1 : Int32))] [])) _
        refine XS.aload X296.here hx rfl (hb hby at_164) rfl rfl ?_
        exact kk_)
      obtain ⟨_, T305, h305, L305, X305, e305, hQ305, st305⟩ := own_callS X296 hx hZ (y := (⟨"com/example/caddis/caddis/ManifestWriter", "canHold", "(Ljava/lang/String;)Z"⟩ : MethodName)) hown (hw _ (List.mem_of_getElem? (i := 26) rfl)) (hw _ (List.mem_of_getElem? (i := 27) rfl)) (hw _ (List.mem_of_getElem? (i := 28) rfl)) (hw _ (List.mem_of_getElem? (i := 29) rfl)) (by decide) 0 (g := (mkF m 166 #[.val (.int p0), .val (.int p1), .val (.int p2), .val (.int p3), .val (.int (1 : Int32)), .val (.int c0), .val (.int c1), .val (.int c2), .val (.ref b), .val (.ref a290), .val (.int (1 : Int32))] [(.ref a290)])) rfl (by rw [hml]; rfl) [(.ref a290)] [] (rm5 l Z a0 hw [] a290 t [c0] h293 n0 Zc z Oc O2 P5 SS (by simp) hch A16 fm hfm SF) (lenOf pd6 rfl) rfl (by show 2 * 0 + _ ≤ _; exact Nat.le_of_eq rfl) (hb hby at_166) (by decide) (by decide) e296 (by decide) (by decide)
      rcases hQ305 with ⟨⟨hall, rfl⟩ | ⟨⟨j, hj, hbj⟩, rfl⟩, N305, rfl⟩
      · have _ := e305
        have S306 : own_Go p e below s₁ G T305 (mkF m 169 #[.val (.int p0), .val (.int p1), .val (.int p2), .val (.int p3), .val (.int (1 : Int32)), .val (.int c0), .val (.int c1), .val (.int c2), .val (.ref b), .val (.ref a290), .val (.int (1 : Int32))] [(.int (1 : Int32))]) := fun tg_ kk_ => S304 tg_ (st305 tg_ kk_)
        have M305 := Fr.app M296 N305
        have S307 : own_Go p e below s₁ G T305 (mkF m 179 #[.val (.int p0), .val (.int p1), .val (.int p2), .val (.int p3), .val (.int (1 : Int32)), .val (.int c0), .val (.int c1), .val (.int c2), .val (.ref b), .val (.ref a290), .val (.int (1 : Int32))] [(.int (1 : Int32))]) := fun tg_ kk_ => S306 tg_ (by
          refine XS.iload X305.here hx rfl (hb hby at_169) rfl ?_
          show Steps p.tables e below (T305.setTop (mkF m 171 #[.val (.int p0), .val (.int p1), .val (.int p2), .val (.int p3), .val (.int (1 : Int32)), .val (.int c0), .val (.int c1), .val (.int c2), .val (.ref b), .val (.ref a290), .val (.int (1 : Int32))] [(.int (1 : Int32)), (.int (1 : Int32))])) _
          refine XS.icmpNo X305.here hx rfl (hb hby at_171) rfl (XT.ii_ne_f (by decide)) ?_
          show Steps p.tables e below (T305.setTop (mkF m 174 #[.val (.int p0), .val (.int p1), .val (.int p2), .val (.int p3), .val (.int (1 : Int32)), .val (.int c0), .val (.int c1), .val (.int c2), .val (.ref b), .val (.ref a290), .val (.int (1 : Int32))] [])) _
          refine XS.iconst X305.here hx rfl (hb hby at_174) ?_
          show Steps p.tables e below (T305.setTop (mkF m 175 #[.val (.int p0), .val (.int p1), .val (.int p2), .val (.int p3), .val (.int (1 : Int32)), .val (.int c0), .val (.int c1), .val (.int c2), .val (.ref b), .val (.ref a290), .val (.int (1 : Int32))] [(.int (1 : Int32))])) _
          refine XS.goto X305.here hx rfl (pc0 := 175) (pc' := 179) rfl (hb hby at_175) (by decide) (by decide) ?_
          exact kk_)
        obtain ⟨fs, hr, hrun, hended, hW, hsame⟩ := X305.leave (v := some (.int (1 : Int32))) (fun h => by rw [Bd.returns] at h; cases h)
        refine ⟨_, _, ?_, hrun, hended, _, _, rfl, ?_, ReturnedEndW.of_narrow ⟨_, rfl⟩ hW (hsame.mono (by decide) (by decide))⟩
        · rw [← hG]; exact S307 _ (retN X305 hx (t := .boolean) Bd.returns (by simp) (hb hby at_179) hr)
        · show Q0 Z p0 p1 p2 p3 h0 n0 _ T305.heap _
          rw [e305]
          exact ⟨rfl, M305⟩
      · have _ := e305
        have S308 : own_Go p e below s₁ G T305 (mkF m 169 #[.val (.int p0), .val (.int p1), .val (.int p2), .val (.int p3), .val (.int (1 : Int32)), .val (.int c0), .val (.int c1), .val (.int c2), .val (.ref b), .val (.ref a290), .val (.int (1 : Int32))] [(.int (0 : Int32))]) := fun tg_ kk_ => S304 tg_ (st305 tg_ kk_)
        have M305 := Fr.app M296 N305
        match j, hj with
        | 0, _ => exact absurd hbj (by simp [hb0])
  · have _ := N0
    rw [hk] at S271
    have S309 : own_Go p e below s₁ G T269 (mkF m 62 #[.val (.int p0), .val (.int p1), .val (.int p2), .val (.int p3), .val (.int (2 : Int32)), .val (.int c0), .val (.int c1), .val (.int c2), .unset, .unset, .unset] [(.int (2 : Int32))]) := fun tg_ kk_ => S271 tg_ (by
      refine XS.ifYes X269.here hx rfl (pc0 := 25) (pc' := 36) rfl (hb hby at_25) rfl (XT.i0_ne_t (by decide)) (by decide) (by decide) ?_
      show Steps p.tables e below (T269.setTop (mkF m 36 #[.val (.int p0), .val (.int p1), .val (.int p2), .val (.int p3), .val (.int (2 : Int32)), .val (.int c0), .val (.int c1), .val (.int c2), .unset, .unset, .unset] [])) _
      refine XS.iload X269.here hx rfl (hb hby at_36) rfl ?_
      show Steps p.tables e below (T269.setTop (mkF m 38 #[.val (.int p0), .val (.int p1), .val (.int p2), .val (.int p3), .val (.int (2 : Int32)), .val (.int c0), .val (.int c1), .val (.int c2), .unset, .unset, .unset] [(.int (2 : Int32))])) _
      refine XS.iconst X269.here hx rfl (hb hby at_38) ?_
      show Steps p.tables e below (T269.setTop (mkF m 39 #[.val (.int p0), .val (.int p1), .val (.int p2), .val (.int p3), .val (.int (2 : Int32)), .val (.int c0), .val (.int c1), .val (.int c2), .unset, .unset, .unset] [(.int (1 : Int32)), (.int (2 : Int32))])) _
      refine XS.icmpYes X269.here hx rfl (pc0 := 39) (pc' := 55) rfl (hb hby at_39) rfl (XT.ii_ne_t (by decide)) (by decide) (by decide) ?_
      show Steps p.tables e below (T269.setTop (mkF m 55 #[.val (.int p0), .val (.int p1), .val (.int p2), .val (.int p3), .val (.int (2 : Int32)), .val (.int c0), .val (.int c1), .val (.int c2), .unset, .unset, .unset] [])) _
      refine XS.iload X269.here hx rfl (hb hby at_55) rfl ?_
      show Steps p.tables e below (T269.setTop (mkF m 57 #[.val (.int p0), .val (.int p1), .val (.int p2), .val (.int p3), .val (.int (2 : Int32)), .val (.int c0), .val (.int c1), .val (.int c2), .unset, .unset, .unset] [(.int (2 : Int32))])) _
      refine XS.iconst X269.here hx rfl (hb hby at_57) ?_
      show Steps p.tables e below (T269.setTop (mkF m 58 #[.val (.int p0), .val (.int p1), .val (.int p2), .val (.int p3), .val (.int (2 : Int32)), .val (.int c0), .val (.int c1), .val (.int c2), .unset, .unset, .unset] [(.int (2 : Int32)), (.int (2 : Int32))])) _
      refine XS.icmpNo X269.here hx rfl (hb hby at_58) rfl (XT.ii_ne_f (by decide)) ?_
      show Steps p.tables e below (T269.setTop (mkF m 61 #[.val (.int p0), .val (.int p1), .val (.int p2), .val (.int p3), .val (.int (2 : Int32)), .val (.int c0), .val (.int c1), .val (.int c2), .unset, .unset, .unset] [])) _
      refine XS.iconst X269.here hx rfl (hb hby at_61) ?_
      exact kk_)
    obtain ⟨Tp1, hp1, kp1, Xp1, ep1, Ep1, Ap1, stp1⟩ := newP X269 hx hZ (hw _ (List.mem_of_getElem? (i := 4) rfl)) e269 (g := (mkF m 62 #[.val (.int p0), .val (.int p1), .val (.int p2), .val (.int p3), .val (.int (2 : Int32)), .val (.int c0), .val (.int c1), .val (.int c2), .unset, .unset, .unset] [(.int (2 : Int32))])) rfl (hb hby at_62) rfl (by decide) (cap := 3) (by decide) (by decide) (by decide) (by decide)
    have S310 : own_Go p e below s₁ G Tp1 (mkF m 64 #[.val (.int p0), .val (.int p1), .val (.int p2), .val (.int p3), .val (.int (2 : Int32)), .val (.int c0), .val (.int c1), .val (.int c2), .unset, .unset, .unset] [(.ref h0.size)]) := fun tg_ kk_ => S309 tg_ (stp1 tg_ kk_)
    obtain ⟨b, gb⟩ : ∃ z, z = h0.size := ⟨_, rfl⟩
    rw [← gb] at S310
    rw [← gb] at Ap1
    have hb0 : n0 ≤ b := Nat.le_trans Z0 (Nat.le_of_eq gb.symm)
    have V0 : Arv Z hp1 b kp1 .char (2 : Int32) [] (.int 0) := Arv.new Ap1 (by decide)
    have Oq := O.ext Ep1
    have Zq := own_sub Z0 Ep1
    have S311 : own_Go p e below s₁ G Tp1 (mkF m 68 #[.val (.int p0), .val (.int p1), .val (.int p2), .val (.int p3), .val (.int (2 : Int32)), .val (.int c0), .val (.int c1), .val (.int c2), .unset, .unset, .unset] [(.int c0), (.int (0 : Int32)), (.ref b), (.ref b)]) := fun tg_ kk_ => S310 tg_ (by
      refine XS.dup Xp1.here hx rfl (hb hby at_64) rfl rfl ?_
      show Steps p.tables e below (Tp1.setTop (mkF m 65 #[.val (.int p0), .val (.int p1), .val (.int p2), .val (.int p3), .val (.int (2 : Int32)), .val (.int c0), .val (.int c1), .val (.int c2), .unset, .unset, .unset] [(.ref b), (.ref b)])) _
      refine XS.iconst Xp1.here hx rfl (hb hby at_65) ?_
      show Steps p.tables e below (Tp1.setTop (mkF m 66 #[.val (.int p0), .val (.int p1), .val (.int p2), .val (.int p3), .val (.int (2 : Int32)), .val (.int c0), .val (.int c1), .val (.int c2), .unset, .unset, .unset] [(.int (0 : Int32)), (.ref b), (.ref b)])) _
      refine XS.iload Xp1.here hx rfl (hb hby at_66) rfl ?_
      exact kk_)
    obtain ⟨cl0, B0, b0, z0, y0, H0, F0⟩ := id V0
    obtain ⟨U0, u0, Y0, f0, W0, su0⟩ := stC Xp1 hx hZ ep1 B0 (j := (0 : Int32)) (inb_of z0 (by decide)) (g := (mkF m 68 #[.val (.int p0), .val (.int p1), .val (.int p2), .val (.int p3), .val (.int (2 : Int32)), .val (.int c0), .val (.int c1), .val (.int c2), .unset, .unset, .unset] [(.int c0), (.int (0 : Int32)), (.ref b), (.ref b)])) rfl rfl (hb hby at_68)
    have S312 : own_Go p e below s₁ G U0 (mkF m 69 #[.val (.int p0), .val (.int p1), .val (.int p2), .val (.int p3), .val (.int (2 : Int32)), .val (.int c0), .val (.int c1), .val (.int c2), .unset, .unset, .unset] [(.ref b)]) := fun tg_ kk_ => S311 tg_ (su0 tg_ kk_)
    rw [own_nar_char hc0] at W0
    have V1 : Arv Z u0 b kp1 .char (2 : Int32) [.int c0] (.int 0) := own_push V0 (own_fit_ch hc0) W0 rfl
    have NB0 := Fr.snoc Y0 M269 hb0
    have O0a := Oq.wr W0 hb0
    have Z0a : n0 ≤ u0.size := by rw [W0.size]; exact Zq
    have S313 : own_Go p e below s₁ G U0 (mkF m 73 #[.val (.int p0), .val (.int p1), .val (.int p2), .val (.int p3), .val (.int (2 : Int32)), .val (.int c0), .val (.int c1), .val (.int c2), .unset, .unset, .unset] [(.int c1), (.int (1 : Int32)), (.ref b), (.ref b)]) := fun tg_ kk_ => S312 tg_ (by
      refine XS.dup Y0.here hx rfl (hb hby at_69) rfl rfl ?_
      show Steps p.tables e below (U0.setTop (mkF m 70 #[.val (.int p0), .val (.int p1), .val (.int p2), .val (.int p3), .val (.int (2 : Int32)), .val (.int c0), .val (.int c1), .val (.int c2), .unset, .unset, .unset] [(.ref b), (.ref b)])) _
      refine XS.iconst Y0.here hx rfl (hb hby at_70) ?_
      show Steps p.tables e below (U0.setTop (mkF m 71 #[.val (.int p0), .val (.int p1), .val (.int p2), .val (.int p3), .val (.int (2 : Int32)), .val (.int c0), .val (.int c1), .val (.int c2), .unset, .unset, .unset] [(.int (1 : Int32)), (.ref b), (.ref b)])) _
      refine XS.iload Y0.here hx rfl (hb hby at_71) rfl ?_
      exact kk_)
    obtain ⟨cl1, B1, b1, z1, y1, H1, F1⟩ := id V1
    obtain ⟨U1, u1, Y1, f1, W1, su1⟩ := stC Y0 hx hZ f0 B1 (j := (1 : Int32)) (inb_of z1 (by decide)) (g := (mkF m 73 #[.val (.int p0), .val (.int p1), .val (.int p2), .val (.int p3), .val (.int (2 : Int32)), .val (.int c0), .val (.int c1), .val (.int c2), .unset, .unset, .unset] [(.int c1), (.int (1 : Int32)), (.ref b), (.ref b)])) rfl rfl (hb hby at_73)
    have S314 : own_Go p e below s₁ G U1 (mkF m 74 #[.val (.int p0), .val (.int p1), .val (.int p2), .val (.int p3), .val (.int (2 : Int32)), .val (.int c0), .val (.int c1), .val (.int c2), .unset, .unset, .unset] [(.ref b)]) := fun tg_ kk_ => S313 tg_ (su1 tg_ kk_)
    rw [own_nar_char hc1] at W1
    have V2 : Arv Z u1 b kp1 .char (2 : Int32) [.int c0, .int c1] (.int 0) := own_push V1 (own_fit_ch hc1) W1 rfl
    have NB1 := Fr.snoc Y1 NB0 hb0
    have O1a := O0a.wr W1 hb0
    have Z1a : n0 ≤ u1.size := by rw [W1.size]; exact Z0a
    have S315 : own_Go p e below s₁ G U1 (mkF m 99 #[.val (.int p0), .val (.int p1), .val (.int p2), .val (.int p3), .val (.int (2 : Int32)), .val (.int c0), .val (.int c1), .val (.int c2), .val (.ref b), .unset, .unset] []) := fun tg_ kk_ => S314 tg_ (by
      refine XS.astore Y1.here hx rfl (hb hby at_74) rfl rfl (l' := #[.val (.int p0), .val (.int p1), .val (.int p2), .val (.int p3), .val (.int (2 : Int32)), .val (.int c0), .val (.int c1), .val (.int c2), .val (.ref b), .unset, .unset]) rfl ?_
      show Steps p.tables e below (U1.setTop (mkF m 76 #[.val (.int p0), .val (.int p1), .val (.int p2), .val (.int p3), .val (.int (2 : Int32)), .val (.int c0), .val (.int c1), .val (.int c2), .val (.ref b), .unset, .unset] [])) _
      refine XS.goto Y1.here hx rfl (pc0 := 76) (pc' := 99) rfl (hb hby at_76) (by decide) (by decide) ?_
      exact kk_)
    obtain ⟨T316, h316, X316, e316, E316, A316, D316, -, st316⟩ := newO Y1 hx hZ hown (hw _ (List.mem_of_getElem? (i := 5) rfl)) (hw _ (List.mem_of_getElem? (i := 6) rfl)) (hw _ (List.mem_of_getElem? (i := 7) rfl)) f1 (g := (mkF m 99 #[.val (.int p0), .val (.int p1), .val (.int p2), .val (.int p3), .val (.int (2 : Int32)), .val (.int c0), .val (.int c1), .val (.int c2), .val (.ref b), .unset, .unset] [])) rfl (hb hby at_99) (by decide) (by decide)
    obtain ⟨a316, g316⟩ : ∃ z, z = u1.size := ⟨_, rfl⟩
    rw [← g316] at A316 D316 st316
    have S317 : own_Go p e below s₁ G T316 (mkF m 102 #[.val (.int p0), .val (.int p1), .val (.int p2), .val (.int p3), .val (.int (2 : Int32)), .val (.int c0), .val (.int c1), .val (.int c2), .val (.ref b), .unset, .unset] [(.ref a316)]) := fun tg_ kk_ => S315 tg_ (st316 tg_ kk_)
    have Vb := V2.ext E316
    have Ob := O1a.ext E316
    have Zb := own_sub Z1a E316
    have Fv : Fld Z h316 a316 "java/lang/String" "value" "[B" .null := D316 (Or.inr (hw _ (List.mem_of_getElem? (i := 20) rfl))) (ty := .array .byte) (by decide)
    have Fc : Fld Z h316 a316 "java/lang/String" "coder" "B" (.int 0) := D316 (Or.inr (hw _ (List.mem_of_getElem? (i := 21) rfl))) (ty := .byte) (by decide)
    have hx0 : n0 ≤ a316 := Nat.le_trans Z1a (Nat.le_of_eq g316.symm)
    have hch : ∀ j, j < [c0, c1].length → own_Ch ([c0, c1].getD j 0) := fun j hj => by match j, hj with | 0, _ => exact hc0 | 1, _ => exact hc1
    have S318 : own_Go p e below s₁ G T316 (mkF m 105 #[.val (.int p0), .val (.int p1), .val (.int p2), .val (.int p3), .val (.int (2 : Int32)), .val (.int c0), .val (.int c1), .val (.int c2), .val (.ref b), .unset, .unset] [(.ref b), (.ref a316), (.ref a316)]) := fun tg_ kk_ => S317 tg_ (by
      refine XS.dup X316.here hx rfl (hb hby at_102) rfl rfl ?_
      show Steps p.tables e below (T316.setTop (mkF m 103 #[.val (.int p0), .val (.int p1), .val (.int p2), .val (.int p3), .val (.int (2 : Int32)), .val (.int c0), .val (.int c1), .val (.int c2), .val (.ref b), .unset, .unset] [(.ref a316), (.ref a316)])) _
      refine XS.aload X316.here hx rfl (hb hby at_103) rfl rfl ?_
      exact kk_)
    obtain ⟨_, T319, h319, L319, X319, e319, hQ319, st319⟩ := own_callI X316 hx hZ (y := (⟨"java/lang/String", "<init>", "([C)V"⟩ : MethodName)) rfl hown (hw _ (List.mem_of_getElem? (i := 8) rfl)) (hw _ (List.mem_of_getElem? (i := 9) rfl)) (hw _ (List.mem_of_getElem? (i := 7) rfl)) (hw _ (List.mem_of_getElem? (i := 10) rfl)) (by decide) 1 (g := (mkF m 105 #[.val (.int p0), .val (.int p1), .val (.int p2), .val (.int p3), .val (.int (2 : Int32)), .val (.int c0), .val (.int c1), .val (.int c2), .val (.ref b), .unset, .unset] [(.ref b), (.ref a316), (.ref a316)])) rfl (by rw [hml]; rfl) a316 [(.ref b)] [(.ref a316)] (rm2 l Z a0 hw [] a316 b [c0, c1] h316 n0 Zb z kp1 (by simp) A316 Fv Fc hx0 Vb Ob O2 P5 A16 hch) (lenOf pd3 rfl) rfl (by show 2 * 0 + _ ≤ _; exact Nat.le_of_eq rfl) (hb hby at_105) (by decide) (by decide) e316 (by decide) (by decide)
    obtain ⟨rfl, N319, K319, t, ht, SS⟩ := hQ319
    have S320 : own_Go p e below s₁ G T319 (mkF m 108 #[.val (.int p0), .val (.int p1), .val (.int p2), .val (.int p3), .val (.int (2 : Int32)), .val (.int c0), .val (.int c1), .val (.int c2), .val (.ref b), .unset, .unset] [(.ref a316)]) := fun tg_ kk_ => S318 tg_ (st319 tg_ kk_)
    have NC := Fr.app NB1 N319
    have Oc := Ob.keep K319 (allS hx0 all0)
    have Zc := Nat.le_trans Zb K319.1
    have S321 : own_Go p e below s₁ G T319 (mkF m 121 #[.val (.int p0), .val (.int p1), .val (.int p2), .val (.int p3), .val (.int (2 : Int32)), .val (.int c0), .val (.int c1), .val (.int c2), .val (.ref b), .val (.ref a316), .val (.int (1 : Int32))] [(.int c0)]) := fun tg_ kk_ => S320 tg_ (by
      refine XS.astore X319.here hx rfl (hb hby at_108) rfl rfl (l' := #[.val (.int p0), .val (.int p1), .val (.int p2), .val (.int p3), .val (.int (2 : Int32)), .val (.int c0), .val (.int c1), .val (.int c2), .val (.ref b), .val (.ref a316), .unset]) rfl ?_
      show Steps p.tables e below (T319.setTop (mkF m 110 #[.val (.int p0), .val (.int p1), .val (.int p2), .val (.int p3), .val (.int (2 : Int32)), .val (.int c0), .val (.int c1), .val (.int c2), .val (.ref b), .val (.ref a316), .unset] [])) _
      refine XS.iconst X319.here hx rfl (hb hby at_110) ?_
      show Steps p.tables e below (T319.setTop (mkF m 111 #[.val (.int p0), .val (.int p1), .val (.int p2), .val (.int p3), .val (.int (2 : Int32)), .val (.int c0), .val (.int c1), .val (.int c2), .val (.ref b), .val (.ref a316), .unset] [(.int (1 : Int32))])) _
      refine XS.istore X319.here hx rfl (hb hby at_111) rfl (l' := #[.val (.int p0), .val (.int p1), .val (.int p2), .val (.int p3), .val (.int (2 : Int32)), .val (.int c0), .val (.int c1), .val (.int c2), .val (.ref b), .val (.ref a316), .val (.int (1 : Int32))]) rfl ?_
      show Steps p.tables e below (T319.setTop (mkF m 113 #[.val (.int p0), .val (.int p1), .val (.int p2), .val (.int p3), .val (.int (2 : Int32)), .val (.int c0), .val (.int c1), .val (.int c2), .val (.ref b), .val (.ref a316), .val (.int (1 : Int32))] [])) _
      refine XS.iload X319.here hx rfl (hb hby at_113) rfl ?_
      show Steps p.tables e below (T319.setTop (mkF m 115 #[.val (.int p0), .val (.int p1), .val (.int p2), .val (.int p3), .val (.int (2 : Int32)), .val (.int c0), .val (.int c1), .val (.int c2), .val (.ref b), .val (.ref a316), .val (.int (1 : Int32))] [(.int (2 : Int32))])) _
      refine XS.iconst X319.here hx rfl (hb hby at_115) ?_
      show Steps p.tables e below (T319.setTop (mkF m 116 #[.val (.int p0), .val (.int p1), .val (.int p2), .val (.int p3), .val (.int (2 : Int32)), .val (.int c0), .val (.int c1), .val (.int c2), .val (.ref b), .val (.ref a316), .val (.int (1 : Int32))] [(.int (1 : Int32)), (.int (2 : Int32))])) _
      refine XS.icmpNo X319.here hx rfl (hb hby at_116) rfl (XT.ii_lt_f (by decide)) ?_
      show Steps p.tables e below (T319.setTop (mkF m 119 #[.val (.int p0), .val (.int p1), .val (.int p2), .val (.int p3), .val (.int (2 : Int32)), .val (.int c0), .val (.int c1), .val (.int c2), .val (.ref b), .val (.ref a316), .val (.int (1 : Int32))] [])) _
      refine XS.iload X319.here hx rfl (hb hby at_119) rfl ?_
      exact kk_)
    obtain ⟨_, T322, h322, L322, X322, e322, hQ322, st322⟩ := own_callS X319 hx hZ (y := (⟨"com/example/caddis/caddis/ManifestWriterCanHoldPinLaw", "bad", "(C)Z"⟩ : MethodName)) hown (hw _ (List.mem_of_getElem? (i := 80) rfl)) (hw _ (List.mem_of_getElem? (i := 81) rfl)) (hw _ (List.mem_of_getElem? (i := 2) rfl)) (hw _ (List.mem_of_getElem? (i := 82) rfl)) (by decide) 0 (g := (mkF m 121 #[.val (.int p0), .val (.int p1), .val (.int p2), .val (.int p3), .val (.int (2 : Int32)), .val (.int c0), .val (.int c1), .val (.int c2), .val (.ref b), .val (.ref a316), .val (.int (1 : Int32))] [(.int c0)])) rfl (by rw [hml]; rfl) [(.int c0)] [] (rm18 l Z a0 hw [] c0 h319 n0 Zc) (lenOf pd17 rfl) rfl (by show 2 * 0 + _ ≤ _; exact Nat.le_of_eq rfl) (hb hby at_121) (by decide) (by decide) e319 (by decide) (by decide)
    rcases hQ322 with ⟨⟨hb0, rfl⟩ | ⟨hb0, rfl⟩, N322, rfl⟩
    · have _ := e322
      have S323 : own_Go p e below s₁ G T322 (mkF m 124 #[.val (.int p0), .val (.int p1), .val (.int p2), .val (.int p3), .val (.int (2 : Int32)), .val (.int c0), .val (.int c1), .val (.int c2), .val (.ref b), .val (.ref a316), .val (.int (1 : Int32))] [(.int (1 : Int32))]) := fun tg_ kk_ => S321 tg_ (st322 tg_ kk_)
      have M322 := Fr.app NC N322
      have S324 : own_Go p e below s₁ G T322 (mkF m 138 #[.val (.int p0), .val (.int p1), .val (.int p2), .val (.int p3), .val (.int (2 : Int32)), .val (.int c0), .val (.int c1), .val (.int c2), .val (.ref b), .val (.ref a316), .val (.int (0 : Int32))] [(.int c1)]) := fun tg_ kk_ => S323 tg_ (by
        refine XS.ifNo X322.here hx rfl (hb hby at_124) rfl (XT.i0_eq_f (by decide)) ?_
        show Steps p.tables e below (T322.setTop (mkF m 127 #[.val (.int p0), .val (.int p1), .val (.int p2), .val (.int p3), .val (.int (2 : Int32)), .val (.int c0), .val (.int c1), .val (.int c2), .val (.ref b), .val (.ref a316), .val (.int (1 : Int32))] [])) _
        refine XS.iconst X322.here hx rfl (hb hby at_127) ?_
        show Steps p.tables e below (T322.setTop (mkF m 128 #[.val (.int p0), .val (.int p1), .val (.int p2), .val (.int p3), .val (.int (2 : Int32)), .val (.int c0), .val (.int c1), .val (.int c2), .val (.ref b), .val (.ref a316), .val (.int (1 : Int32))] [(.int (0 : Int32))])) _
        refine XS.istore X322.here hx rfl (hb hby at_128) rfl (l' := #[.val (.int p0), .val (.int p1), .val (.int p2), .val (.int p3), .val (.int (2 : Int32)), .val (.int c0), .val (.int c1), .val (.int c2), .val (.ref b), .val (.ref a316), .val (.int (0 : Int32))]) rfl ?_
        show Steps p.tables e below (T322.setTop (mkF m 130 #[.val (.int p0), .val (.int p1), .val (.int p2), .val (.int p3), .val (.int (2 : Int32)), .val (.int c0), .val (.int c1), .val (.int c2), .val (.ref b), .val (.ref a316), .val (.int (0 : Int32))] [])) _
        refine XS.iload X322.here hx rfl (hb hby at_130) rfl ?_
        show Steps p.tables e below (T322.setTop (mkF m 132 #[.val (.int p0), .val (.int p1), .val (.int p2), .val (.int p3), .val (.int (2 : Int32)), .val (.int c0), .val (.int c1), .val (.int c2), .val (.ref b), .val (.ref a316), .val (.int (0 : Int32))] [(.int (2 : Int32))])) _
        refine XS.iconst X322.here hx rfl (hb hby at_132) ?_
        show Steps p.tables e below (T322.setTop (mkF m 133 #[.val (.int p0), .val (.int p1), .val (.int p2), .val (.int p3), .val (.int (2 : Int32)), .val (.int c0), .val (.int c1), .val (.int c2), .val (.ref b), .val (.ref a316), .val (.int (0 : Int32))] [(.int (2 : Int32)), (.int (2 : Int32))])) _
        refine XS.icmpNo X322.here hx rfl (hb hby at_133) rfl (XT.ii_lt_f (by decide)) ?_
        show Steps p.tables e below (T322.setTop (mkF m 136 #[.val (.int p0), .val (.int p1), .val (.int p2), .val (.int p3), .val (.int (2 : Int32)), .val (.int c0), .val (.int c1), .val (.int c2), .val (.ref b), .val (.ref a316), .val (.int (0 : Int32))] [])) _
        refine XS.iload X322.here hx rfl (hb hby at_136) rfl ?_
        exact kk_)
      obtain ⟨_, T325, h325, L325, X325, e325, hQ325, st325⟩ := own_callS X322 hx hZ (y := (⟨"com/example/caddis/caddis/ManifestWriterCanHoldPinLaw", "bad", "(C)Z"⟩ : MethodName)) hown (hw _ (List.mem_of_getElem? (i := 80) rfl)) (hw _ (List.mem_of_getElem? (i := 81) rfl)) (hw _ (List.mem_of_getElem? (i := 2) rfl)) (hw _ (List.mem_of_getElem? (i := 82) rfl)) (by decide) 0 (g := (mkF m 138 #[.val (.int p0), .val (.int p1), .val (.int p2), .val (.int p3), .val (.int (2 : Int32)), .val (.int c0), .val (.int c1), .val (.int c2), .val (.ref b), .val (.ref a316), .val (.int (0 : Int32))] [(.int c1)])) rfl (by rw [hml]; rfl) [(.int c1)] [] (rm18 l Z a0 hw [] c1 h319 n0 Zc) (lenOf pd17 rfl) rfl (by show 2 * 0 + _ ≤ _; exact Nat.le_of_eq rfl) (hb hby at_138) (by decide) (by decide) e322 (by decide) (by decide)
      rcases hQ325 with ⟨⟨hb1, rfl⟩ | ⟨hb1, rfl⟩, N325, rfl⟩
      · have _ := e325
        have S326 : own_Go p e below s₁ G T325 (mkF m 141 #[.val (.int p0), .val (.int p1), .val (.int p2), .val (.int p3), .val (.int (2 : Int32)), .val (.int c0), .val (.int c1), .val (.int c2), .val (.ref b), .val (.ref a316), .val (.int (0 : Int32))] [(.int (1 : Int32))]) := fun tg_ kk_ => S324 tg_ (st325 tg_ kk_)
        have M325 := Fr.app M322 N325
        have S327 : own_Go p e below s₁ G T325 (mkF m 166 #[.val (.int p0), .val (.int p1), .val (.int p2), .val (.int p3), .val (.int (2 : Int32)), .val (.int c0), .val (.int c1), .val (.int c2), .val (.ref b), .val (.ref a316), .val (.int (0 : Int32))] [(.ref a316)]) := fun tg_ kk_ => S326 tg_ (by
          refine XS.ifNo X325.here hx rfl (hb hby at_141) rfl (XT.i0_eq_f (by decide)) ?_
          show Steps p.tables e below (T325.setTop (mkF m 144 #[.val (.int p0), .val (.int p1), .val (.int p2), .val (.int p3), .val (.int (2 : Int32)), .val (.int c0), .val (.int c1), .val (.int c2), .val (.ref b), .val (.ref a316), .val (.int (0 : Int32))] [])) _
          refine XS.iconst X325.here hx rfl (hb hby at_144) ?_
          show Steps p.tables e below (T325.setTop (mkF m 145 #[.val (.int p0), .val (.int p1), .val (.int p2), .val (.int p3), .val (.int (2 : Int32)), .val (.int c0), .val (.int c1), .val (.int c2), .val (.ref b), .val (.ref a316), .val (.int (0 : Int32))] [(.int (0 : Int32))])) _
          refine XS.istore X325.here hx rfl (hb hby at_145) rfl (l' := #[.val (.int p0), .val (.int p1), .val (.int p2), .val (.int p3), .val (.int (2 : Int32)), .val (.int c0), .val (.int c1), .val (.int c2), .val (.ref b), .val (.ref a316), .val (.int (0 : Int32))]) rfl ?_
          show Steps p.tables e below (T325.setTop (mkF m 147 #[.val (.int p0), .val (.int p1), .val (.int p2), .val (.int p3), .val (.int (2 : Int32)), .val (.int c0), .val (.int c1), .val (.int c2), .val (.ref b), .val (.ref a316), .val (.int (0 : Int32))] [])) _
          refine XS.iload X325.here hx rfl (hb hby at_147) rfl ?_
          show Steps p.tables e below (T325.setTop (mkF m 149 #[.val (.int p0), .val (.int p1), .val (.int p2), .val (.int p3), .val (.int (2 : Int32)), .val (.int c0), .val (.int c1), .val (.int c2), .val (.ref b), .val (.ref a316), .val (.int (0 : Int32))] [(.int (2 : Int32))])) _
          refine XS.iconst X325.here hx rfl (hb hby at_149) ?_
          show Steps p.tables e below (T325.setTop (mkF m 150 #[.val (.int p0), .val (.int p1), .val (.int p2), .val (.int p3), .val (.int (2 : Int32)), .val (.int c0), .val (.int c1), .val (.int c2), .val (.ref b), .val (.ref a316), .val (.int (0 : Int32))] [(.int (3 : Int32)), (.int (2 : Int32))])) _
          refine XS.icmpYes X325.here hx rfl (pc0 := 150) (pc' := 164) rfl (hb hby at_150) rfl (XT.ii_lt_t (by decide)) (by decide) (by decide) ?_
          show Steps p.tables e below (T325.setTop (mkF m 164 #[.val (.int p0), .val (.int p1), .val (.int p2), .val (.int p3), .val (.int (2 : Int32)), .val (.int c0), .val (.int c1), .val (.int c2), .val (.ref b), .val (.ref a316), .val (.int (0 : Int32))] [])) _
          refine XS.aload X325.here hx rfl (hb hby at_164) rfl rfl ?_
          exact kk_)
        obtain ⟨_, T328, h328, L328, X328, e328, hQ328, st328⟩ := own_callS X325 hx hZ (y := (⟨"com/example/caddis/caddis/ManifestWriter", "canHold", "(Ljava/lang/String;)Z"⟩ : MethodName)) hown (hw _ (List.mem_of_getElem? (i := 26) rfl)) (hw _ (List.mem_of_getElem? (i := 27) rfl)) (hw _ (List.mem_of_getElem? (i := 28) rfl)) (hw _ (List.mem_of_getElem? (i := 29) rfl)) (by decide) 0 (g := (mkF m 166 #[.val (.int p0), .val (.int p1), .val (.int p2), .val (.int p3), .val (.int (2 : Int32)), .val (.int c0), .val (.int c1), .val (.int c2), .val (.ref b), .val (.ref a316), .val (.int (0 : Int32))] [(.ref a316)])) rfl (by rw [hml]; rfl) [(.ref a316)] [] (rm5 l Z a0 hw [] a316 t [c0, c1] h319 n0 Zc z Oc O2 P5 SS (by simp) hch A16 fm hfm SF) (lenOf pd6 rfl) rfl (by show 2 * 0 + _ ≤ _; exact Nat.le_of_eq rfl) (hb hby at_166) (by decide) (by decide) e325 (by decide) (by decide)
        rcases hQ328 with ⟨⟨hall, rfl⟩ | ⟨⟨j, hj, hbj⟩, rfl⟩, N328, rfl⟩
        · have _ := e328
          have S329 : own_Go p e below s₁ G T328 (mkF m 169 #[.val (.int p0), .val (.int p1), .val (.int p2), .val (.int p3), .val (.int (2 : Int32)), .val (.int c0), .val (.int c1), .val (.int c2), .val (.ref b), .val (.ref a316), .val (.int (0 : Int32))] [(.int (1 : Int32))]) := fun tg_ kk_ => S327 tg_ (st328 tg_ kk_)
          have M328 := Fr.app M325 N328
          exact absurd (hall 0 (by simp)) (by simp [hb0])
        · have _ := e328
          have S330 : own_Go p e below s₁ G T328 (mkF m 169 #[.val (.int p0), .val (.int p1), .val (.int p2), .val (.int p3), .val (.int (2 : Int32)), .val (.int c0), .val (.int c1), .val (.int c2), .val (.ref b), .val (.ref a316), .val (.int (0 : Int32))] [(.int (0 : Int32))]) := fun tg_ kk_ => S327 tg_ (st328 tg_ kk_)
          have M328 := Fr.app M325 N328
          have S331 : own_Go p e below s₁ G T328 (mkF m 179 #[.val (.int p0), .val (.int p1), .val (.int p2), .val (.int p3), .val (.int (2 : Int32)), .val (.int c0), .val (.int c1), .val (.int c2), .val (.ref b), .val (.ref a316), .val (.int (0 : Int32))] [(.int (1 : Int32))]) := fun tg_ kk_ => S330 tg_ (by
            refine XS.iload X328.here hx rfl (hb hby at_169) rfl ?_
            show Steps p.tables e below (T328.setTop (mkF m 171 #[.val (.int p0), .val (.int p1), .val (.int p2), .val (.int p3), .val (.int (2 : Int32)), .val (.int c0), .val (.int c1), .val (.int c2), .val (.ref b), .val (.ref a316), .val (.int (0 : Int32))] [(.int (0 : Int32)), (.int (0 : Int32))])) _
            refine XS.icmpNo X328.here hx rfl (hb hby at_171) rfl (XT.ii_ne_f (by decide)) ?_
            show Steps p.tables e below (T328.setTop (mkF m 174 #[.val (.int p0), .val (.int p1), .val (.int p2), .val (.int p3), .val (.int (2 : Int32)), .val (.int c0), .val (.int c1), .val (.int c2), .val (.ref b), .val (.ref a316), .val (.int (0 : Int32))] [])) _
            refine XS.iconst X328.here hx rfl (hb hby at_174) ?_
            show Steps p.tables e below (T328.setTop (mkF m 175 #[.val (.int p0), .val (.int p1), .val (.int p2), .val (.int p3), .val (.int (2 : Int32)), .val (.int c0), .val (.int c1), .val (.int c2), .val (.ref b), .val (.ref a316), .val (.int (0 : Int32))] [(.int (1 : Int32))])) _
            refine XS.goto X328.here hx rfl (pc0 := 175) (pc' := 179) rfl (hb hby at_175) (by decide) (by decide) ?_
            exact kk_)
          obtain ⟨fs, hr, hrun, hended, hW, hsame⟩ := X328.leave (v := some (.int (1 : Int32))) (fun h => by rw [Bd.returns] at h; cases h)
          refine ⟨_, _, ?_, hrun, hended, _, _, rfl, ?_, ReturnedEndW.of_narrow ⟨_, rfl⟩ hW (hsame.mono (by decide) (by decide))⟩
          · rw [← hG]; exact S331 _ (retN X328 hx (t := .boolean) Bd.returns (by simp) (hb hby at_179) hr)
          · show Q0 Z p0 p1 p2 p3 h0 n0 _ T328.heap _
            rw [e328]
            exact ⟨rfl, M328⟩
      · have _ := e325
        have S332 : own_Go p e below s₁ G T325 (mkF m 141 #[.val (.int p0), .val (.int p1), .val (.int p2), .val (.int p3), .val (.int (2 : Int32)), .val (.int c0), .val (.int c1), .val (.int c2), .val (.ref b), .val (.ref a316), .val (.int (0 : Int32))] [(.int (0 : Int32))]) := fun tg_ kk_ => S324 tg_ (st325 tg_ kk_)
        have M325 := Fr.app M322 N325
        have S333 : own_Go p e below s₁ G T325 (mkF m 166 #[.val (.int p0), .val (.int p1), .val (.int p2), .val (.int p3), .val (.int (2 : Int32)), .val (.int c0), .val (.int c1), .val (.int c2), .val (.ref b), .val (.ref a316), .val (.int (0 : Int32))] [(.ref a316)]) := fun tg_ kk_ => S332 tg_ (by
          refine XS.ifYes X325.here hx rfl (pc0 := 141) (pc' := 147) rfl (hb hby at_141) rfl (XT.i0_eq_t (by decide)) (by decide) (by decide) ?_
          show Steps p.tables e below (T325.setTop (mkF m 147 #[.val (.int p0), .val (.int p1), .val (.int p2), .val (.int p3), .val (.int (2 : Int32)), .val (.int c0), .val (.int c1), .val (.int c2), .val (.ref b), .val (.ref a316), .val (.int (0 : Int32))] [])) _
          refine XS.iload X325.here hx rfl (hb hby at_147) rfl ?_
          show Steps p.tables e below (T325.setTop (mkF m 149 #[.val (.int p0), .val (.int p1), .val (.int p2), .val (.int p3), .val (.int (2 : Int32)), .val (.int c0), .val (.int c1), .val (.int c2), .val (.ref b), .val (.ref a316), .val (.int (0 : Int32))] [(.int (2 : Int32))])) _
          refine XS.iconst X325.here hx rfl (hb hby at_149) ?_
          show Steps p.tables e below (T325.setTop (mkF m 150 #[.val (.int p0), .val (.int p1), .val (.int p2), .val (.int p3), .val (.int (2 : Int32)), .val (.int c0), .val (.int c1), .val (.int c2), .val (.ref b), .val (.ref a316), .val (.int (0 : Int32))] [(.int (3 : Int32)), (.int (2 : Int32))])) _
          refine XS.icmpYes X325.here hx rfl (pc0 := 150) (pc' := 164) rfl (hb hby at_150) rfl (XT.ii_lt_t (by decide)) (by decide) (by decide) ?_
          show Steps p.tables e below (T325.setTop (mkF m 164 #[.val (.int p0), .val (.int p1), .val (.int p2), .val (.int p3), .val (.int (2 : Int32)), .val (.int c0), .val (.int c1), .val (.int c2), .val (.ref b), .val (.ref a316), .val (.int (0 : Int32))] [])) _
          refine XS.aload X325.here hx rfl (hb hby at_164) rfl rfl ?_
          exact kk_)
        obtain ⟨_, T334, h334, L334, X334, e334, hQ334, st334⟩ := own_callS X325 hx hZ (y := (⟨"com/example/caddis/caddis/ManifestWriter", "canHold", "(Ljava/lang/String;)Z"⟩ : MethodName)) hown (hw _ (List.mem_of_getElem? (i := 26) rfl)) (hw _ (List.mem_of_getElem? (i := 27) rfl)) (hw _ (List.mem_of_getElem? (i := 28) rfl)) (hw _ (List.mem_of_getElem? (i := 29) rfl)) (by decide) 0 (g := (mkF m 166 #[.val (.int p0), .val (.int p1), .val (.int p2), .val (.int p3), .val (.int (2 : Int32)), .val (.int c0), .val (.int c1), .val (.int c2), .val (.ref b), .val (.ref a316), .val (.int (0 : Int32))] [(.ref a316)])) rfl (by rw [hml]; rfl) [(.ref a316)] [] (rm5 l Z a0 hw [] a316 t [c0, c1] h319 n0 Zc z Oc O2 P5 SS (by simp) hch A16 fm hfm SF) (lenOf pd6 rfl) rfl (by show 2 * 0 + _ ≤ _; exact Nat.le_of_eq rfl) (hb hby at_166) (by decide) (by decide) e325 (by decide) (by decide)
        rcases hQ334 with ⟨⟨hall, rfl⟩ | ⟨⟨j, hj, hbj⟩, rfl⟩, N334, rfl⟩
        · have _ := e334
          have S335 : own_Go p e below s₁ G T334 (mkF m 169 #[.val (.int p0), .val (.int p1), .val (.int p2), .val (.int p3), .val (.int (2 : Int32)), .val (.int c0), .val (.int c1), .val (.int c2), .val (.ref b), .val (.ref a316), .val (.int (0 : Int32))] [(.int (1 : Int32))]) := fun tg_ kk_ => S333 tg_ (st334 tg_ kk_)
          have M334 := Fr.app M325 N334
          exact absurd (hall 0 (by simp)) (by simp [hb0])
        · have _ := e334
          have S336 : own_Go p e below s₁ G T334 (mkF m 169 #[.val (.int p0), .val (.int p1), .val (.int p2), .val (.int p3), .val (.int (2 : Int32)), .val (.int c0), .val (.int c1), .val (.int c2), .val (.ref b), .val (.ref a316), .val (.int (0 : Int32))] [(.int (0 : Int32))]) := fun tg_ kk_ => S333 tg_ (st334 tg_ kk_)
          have M334 := Fr.app M325 N334
          have S337 : own_Go p e below s₁ G T334 (mkF m 179 #[.val (.int p0), .val (.int p1), .val (.int p2), .val (.int p3), .val (.int (2 : Int32)), .val (.int c0), .val (.int c1), .val (.int c2), .val (.ref b), .val (.ref a316), .val (.int (0 : Int32))] [(.int (1 : Int32))]) := fun tg_ kk_ => S336 tg_ (by
            refine XS.iload X334.here hx rfl (hb hby at_169) rfl ?_
            show Steps p.tables e below (T334.setTop (mkF m 171 #[.val (.int p0), .val (.int p1), .val (.int p2), .val (.int p3), .val (.int (2 : Int32)), .val (.int c0), .val (.int c1), .val (.int c2), .val (.ref b), .val (.ref a316), .val (.int (0 : Int32))] [(.int (0 : Int32)), (.int (0 : Int32))])) _
            refine XS.icmpNo X334.here hx rfl (hb hby at_171) rfl (XT.ii_ne_f (by decide)) ?_
            show Steps p.tables e below (T334.setTop (mkF m 174 #[.val (.int p0), .val (.int p1), .val (.int p2), .val (.int p3), .val (.int (2 : Int32)), .val (.int c0), .val (.int c1), .val (.int c2), .val (.ref b), .val (.ref a316), .val (.int (0 : Int32))] [])) _
            refine XS.iconst X334.here hx rfl (hb hby at_174) ?_
            show Steps p.tables e below (T334.setTop (mkF m 175 #[.val (.int p0), .val (.int p1), .val (.int p2), .val (.int p3), .val (.int (2 : Int32)), .val (.int c0), .val (.int c1), .val (.int c2), .val (.ref b), .val (.ref a316), .val (.int (0 : Int32))] [(.int (1 : Int32))])) _
            refine XS.goto X334.here hx rfl (pc0 := 175) (pc' := 179) rfl (hb hby at_175) (by decide) (by decide) ?_
            exact kk_)
          obtain ⟨fs, hr, hrun, hended, hW, hsame⟩ := X334.leave (v := some (.int (1 : Int32))) (fun h => by rw [Bd.returns] at h; cases h)
          refine ⟨_, _, ?_, hrun, hended, _, _, rfl, ?_, ReturnedEndW.of_narrow ⟨_, rfl⟩ hW (hsame.mono (by decide) (by decide))⟩
          · rw [← hG]; exact S337 _ (retN X334 hx (t := .boolean) Bd.returns (by simp) (hb hby at_179) hr)
          · show Q0 Z p0 p1 p2 p3 h0 n0 _ T334.heap _
            rw [e334]
            exact ⟨rfl, M334⟩
    · have _ := e322
      have S338 : own_Go p e below s₁ G T322 (mkF m 124 #[.val (.int p0), .val (.int p1), .val (.int p2), .val (.int p3), .val (.int (2 : Int32)), .val (.int c0), .val (.int c1), .val (.int c2), .val (.ref b), .val (.ref a316), .val (.int (1 : Int32))] [(.int (0 : Int32))]) := fun tg_ kk_ => S321 tg_ (st322 tg_ kk_)
      have M322 := Fr.app NC N322
      have S339 : own_Go p e below s₁ G T322 (mkF m 138 #[.val (.int p0), .val (.int p1), .val (.int p2), .val (.int p3), .val (.int (2 : Int32)), .val (.int c0), .val (.int c1), .val (.int c2), .val (.ref b), .val (.ref a316), .val (.int (1 : Int32))] [(.int c1)]) := fun tg_ kk_ => S338 tg_ (by
        refine XS.ifYes X322.here hx rfl (pc0 := 124) (pc' := 130) rfl (hb hby at_124) rfl (XT.i0_eq_t (by decide)) (by decide) (by decide) ?_
        show Steps p.tables e below (T322.setTop (mkF m 130 #[.val (.int p0), .val (.int p1), .val (.int p2), .val (.int p3), .val (.int (2 : Int32)), .val (.int c0), .val (.int c1), .val (.int c2), .val (.ref b), .val (.ref a316), .val (.int (1 : Int32))] [])) _
        refine XS.iload X322.here hx rfl (hb hby at_130) rfl ?_
        show Steps p.tables e below (T322.setTop (mkF m 132 #[.val (.int p0), .val (.int p1), .val (.int p2), .val (.int p3), .val (.int (2 : Int32)), .val (.int c0), .val (.int c1), .val (.int c2), .val (.ref b), .val (.ref a316), .val (.int (1 : Int32))] [(.int (2 : Int32))])) _
        refine XS.iconst X322.here hx rfl (hb hby at_132) ?_
        show Steps p.tables e below (T322.setTop (mkF m 133 #[.val (.int p0), .val (.int p1), .val (.int p2), .val (.int p3), .val (.int (2 : Int32)), .val (.int c0), .val (.int c1), .val (.int c2), .val (.ref b), .val (.ref a316), .val (.int (1 : Int32))] [(.int (2 : Int32)), (.int (2 : Int32))])) _
        refine XS.icmpNo X322.here hx rfl (hb hby at_133) rfl (XT.ii_lt_f (by decide)) ?_
        show Steps p.tables e below (T322.setTop (mkF m 136 #[.val (.int p0), .val (.int p1), .val (.int p2), .val (.int p3), .val (.int (2 : Int32)), .val (.int c0), .val (.int c1), .val (.int c2), .val (.ref b), .val (.ref a316), .val (.int (1 : Int32))] [])) _
        refine XS.iload X322.here hx rfl (hb hby at_136) rfl ?_
        exact kk_)
      obtain ⟨_, T340, h340, L340, X340, e340, hQ340, st340⟩ := own_callS X322 hx hZ (y := (⟨"com/example/caddis/caddis/ManifestWriterCanHoldPinLaw", "bad", "(C)Z"⟩ : MethodName)) hown (hw _ (List.mem_of_getElem? (i := 80) rfl)) (hw _ (List.mem_of_getElem? (i := 81) rfl)) (hw _ (List.mem_of_getElem? (i := 2) rfl)) (hw _ (List.mem_of_getElem? (i := 82) rfl)) (by decide) 0 (g := (mkF m 138 #[.val (.int p0), .val (.int p1), .val (.int p2), .val (.int p3), .val (.int (2 : Int32)), .val (.int c0), .val (.int c1), .val (.int c2), .val (.ref b), .val (.ref a316), .val (.int (1 : Int32))] [(.int c1)])) rfl (by rw [hml]; rfl) [(.int c1)] [] (rm18 l Z a0 hw [] c1 h319 n0 Zc) (lenOf pd17 rfl) rfl (by show 2 * 0 + _ ≤ _; exact Nat.le_of_eq rfl) (hb hby at_138) (by decide) (by decide) e322 (by decide) (by decide)
      rcases hQ340 with ⟨⟨hb1, rfl⟩ | ⟨hb1, rfl⟩, N340, rfl⟩
      · have _ := e340
        have S341 : own_Go p e below s₁ G T340 (mkF m 141 #[.val (.int p0), .val (.int p1), .val (.int p2), .val (.int p3), .val (.int (2 : Int32)), .val (.int c0), .val (.int c1), .val (.int c2), .val (.ref b), .val (.ref a316), .val (.int (1 : Int32))] [(.int (1 : Int32))]) := fun tg_ kk_ => S339 tg_ (st340 tg_ kk_)
        have M340 := Fr.app M322 N340
        have S342 : own_Go p e below s₁ G T340 (mkF m 166 #[.val (.int p0), .val (.int p1), .val (.int p2), .val (.int p3), .val (.int (2 : Int32)), .val (.int c0), .val (.int c1), .val (.int c2), .val (.ref b), .val (.ref a316), .val (.int (0 : Int32))] [(.ref a316)]) := fun tg_ kk_ => S341 tg_ (by
          refine XS.ifNo X340.here hx rfl (hb hby at_141) rfl (XT.i0_eq_f (by decide)) ?_
          show Steps p.tables e below (T340.setTop (mkF m 144 #[.val (.int p0), .val (.int p1), .val (.int p2), .val (.int p3), .val (.int (2 : Int32)), .val (.int c0), .val (.int c1), .val (.int c2), .val (.ref b), .val (.ref a316), .val (.int (1 : Int32))] [])) _
          refine XS.iconst X340.here hx rfl (hb hby at_144) ?_
          show Steps p.tables e below (T340.setTop (mkF m 145 #[.val (.int p0), .val (.int p1), .val (.int p2), .val (.int p3), .val (.int (2 : Int32)), .val (.int c0), .val (.int c1), .val (.int c2), .val (.ref b), .val (.ref a316), .val (.int (1 : Int32))] [(.int (0 : Int32))])) _
          refine XS.istore X340.here hx rfl (hb hby at_145) rfl (l' := #[.val (.int p0), .val (.int p1), .val (.int p2), .val (.int p3), .val (.int (2 : Int32)), .val (.int c0), .val (.int c1), .val (.int c2), .val (.ref b), .val (.ref a316), .val (.int (0 : Int32))]) rfl ?_
          show Steps p.tables e below (T340.setTop (mkF m 147 #[.val (.int p0), .val (.int p1), .val (.int p2), .val (.int p3), .val (.int (2 : Int32)), .val (.int c0), .val (.int c1), .val (.int c2), .val (.ref b), .val (.ref a316), .val (.int (0 : Int32))] [])) _
          refine XS.iload X340.here hx rfl (hb hby at_147) rfl ?_
          show Steps p.tables e below (T340.setTop (mkF m 149 #[.val (.int p0), .val (.int p1), .val (.int p2), .val (.int p3), .val (.int (2 : Int32)), .val (.int c0), .val (.int c1), .val (.int c2), .val (.ref b), .val (.ref a316), .val (.int (0 : Int32))] [(.int (2 : Int32))])) _
          refine XS.iconst X340.here hx rfl (hb hby at_149) ?_
          show Steps p.tables e below (T340.setTop (mkF m 150 #[.val (.int p0), .val (.int p1), .val (.int p2), .val (.int p3), .val (.int (2 : Int32)), .val (.int c0), .val (.int c1), .val (.int c2), .val (.ref b), .val (.ref a316), .val (.int (0 : Int32))] [(.int (3 : Int32)), (.int (2 : Int32))])) _
          refine XS.icmpYes X340.here hx rfl (pc0 := 150) (pc' := 164) rfl (hb hby at_150) rfl (XT.ii_lt_t (by decide)) (by decide) (by decide) ?_
          show Steps p.tables e below (T340.setTop (mkF m 164 #[.val (.int p0), .val (.int p1), .val (.int p2), .val (.int p3), .val (.int (2 : Int32)), .val (.int c0), .val (.int c1), .val (.int c2), .val (.ref b), .val (.ref a316), .val (.int (0 : Int32))] [])) _
          refine XS.aload X340.here hx rfl (hb hby at_164) rfl rfl ?_
          exact kk_)
        obtain ⟨_, T343, h343, L343, X343, e343, hQ343, st343⟩ := own_callS X340 hx hZ (y := (⟨"com/example/caddis/caddis/ManifestWriter", "canHold", "(Ljava/lang/String;)Z"⟩ : MethodName)) hown (hw _ (List.mem_of_getElem? (i := 26) rfl)) (hw _ (List.mem_of_getElem? (i := 27) rfl)) (hw _ (List.mem_of_getElem? (i := 28) rfl)) (hw _ (List.mem_of_getElem? (i := 29) rfl)) (by decide) 0 (g := (mkF m 166 #[.val (.int p0), .val (.int p1), .val (.int p2), .val (.int p3), .val (.int (2 : Int32)), .val (.int c0), .val (.int c1), .val (.int c2), .val (.ref b), .val (.ref a316), .val (.int (0 : Int32))] [(.ref a316)])) rfl (by rw [hml]; rfl) [(.ref a316)] [] (rm5 l Z a0 hw [] a316 t [c0, c1] h319 n0 Zc z Oc O2 P5 SS (by simp) hch A16 fm hfm SF) (lenOf pd6 rfl) rfl (by show 2 * 0 + _ ≤ _; exact Nat.le_of_eq rfl) (hb hby at_166) (by decide) (by decide) e340 (by decide) (by decide)
        rcases hQ343 with ⟨⟨hall, rfl⟩ | ⟨⟨j, hj, hbj⟩, rfl⟩, N343, rfl⟩
        · have _ := e343
          have S344 : own_Go p e below s₁ G T343 (mkF m 169 #[.val (.int p0), .val (.int p1), .val (.int p2), .val (.int p3), .val (.int (2 : Int32)), .val (.int c0), .val (.int c1), .val (.int c2), .val (.ref b), .val (.ref a316), .val (.int (0 : Int32))] [(.int (1 : Int32))]) := fun tg_ kk_ => S342 tg_ (st343 tg_ kk_)
          have M343 := Fr.app M340 N343
          exact absurd (hall 1 (by simp)) (by simp [hb1])
        · have _ := e343
          have S345 : own_Go p e below s₁ G T343 (mkF m 169 #[.val (.int p0), .val (.int p1), .val (.int p2), .val (.int p3), .val (.int (2 : Int32)), .val (.int c0), .val (.int c1), .val (.int c2), .val (.ref b), .val (.ref a316), .val (.int (0 : Int32))] [(.int (0 : Int32))]) := fun tg_ kk_ => S342 tg_ (st343 tg_ kk_)
          have M343 := Fr.app M340 N343
          have S346 : own_Go p e below s₁ G T343 (mkF m 179 #[.val (.int p0), .val (.int p1), .val (.int p2), .val (.int p3), .val (.int (2 : Int32)), .val (.int c0), .val (.int c1), .val (.int c2), .val (.ref b), .val (.ref a316), .val (.int (0 : Int32))] [(.int (1 : Int32))]) := fun tg_ kk_ => S345 tg_ (by
            refine XS.iload X343.here hx rfl (hb hby at_169) rfl ?_
            show Steps p.tables e below (T343.setTop (mkF m 171 #[.val (.int p0), .val (.int p1), .val (.int p2), .val (.int p3), .val (.int (2 : Int32)), .val (.int c0), .val (.int c1), .val (.int c2), .val (.ref b), .val (.ref a316), .val (.int (0 : Int32))] [(.int (0 : Int32)), (.int (0 : Int32))])) _
            refine XS.icmpNo X343.here hx rfl (hb hby at_171) rfl (XT.ii_ne_f (by decide)) ?_
            show Steps p.tables e below (T343.setTop (mkF m 174 #[.val (.int p0), .val (.int p1), .val (.int p2), .val (.int p3), .val (.int (2 : Int32)), .val (.int c0), .val (.int c1), .val (.int c2), .val (.ref b), .val (.ref a316), .val (.int (0 : Int32))] [])) _
            refine XS.iconst X343.here hx rfl (hb hby at_174) ?_
            show Steps p.tables e below (T343.setTop (mkF m 175 #[.val (.int p0), .val (.int p1), .val (.int p2), .val (.int p3), .val (.int (2 : Int32)), .val (.int c0), .val (.int c1), .val (.int c2), .val (.ref b), .val (.ref a316), .val (.int (0 : Int32))] [(.int (1 : Int32))])) _
            refine XS.goto X343.here hx rfl (pc0 := 175) (pc' := 179) rfl (hb hby at_175) (by decide) (by decide) ?_
            exact kk_)
          obtain ⟨fs, hr, hrun, hended, hW, hsame⟩ := X343.leave (v := some (.int (1 : Int32))) (fun h => by rw [Bd.returns] at h; cases h)
          refine ⟨_, _, ?_, hrun, hended, _, _, rfl, ?_, ReturnedEndW.of_narrow ⟨_, rfl⟩ hW (hsame.mono (by decide) (by decide))⟩
          · rw [← hG]; exact S346 _ (retN X343 hx (t := .boolean) Bd.returns (by simp) (hb hby at_179) hr)
          · show Q0 Z p0 p1 p2 p3 h0 n0 _ T343.heap _
            rw [e343]
            exact ⟨rfl, M343⟩
      · have _ := e340
        have S347 : own_Go p e below s₁ G T340 (mkF m 141 #[.val (.int p0), .val (.int p1), .val (.int p2), .val (.int p3), .val (.int (2 : Int32)), .val (.int c0), .val (.int c1), .val (.int c2), .val (.ref b), .val (.ref a316), .val (.int (1 : Int32))] [(.int (0 : Int32))]) := fun tg_ kk_ => S339 tg_ (st340 tg_ kk_)
        have M340 := Fr.app M322 N340
        have S348 : own_Go p e below s₁ G T340 (mkF m 166 #[.val (.int p0), .val (.int p1), .val (.int p2), .val (.int p3), .val (.int (2 : Int32)), .val (.int c0), .val (.int c1), .val (.int c2), .val (.ref b), .val (.ref a316), .val (.int (1 : Int32))] [(.ref a316)]) := fun tg_ kk_ => S347 tg_ (by
          refine XS.ifYes X340.here hx rfl (pc0 := 141) (pc' := 147) rfl (hb hby at_141) rfl (XT.i0_eq_t (by decide)) (by decide) (by decide) ?_
          show Steps p.tables e below (T340.setTop (mkF m 147 #[.val (.int p0), .val (.int p1), .val (.int p2), .val (.int p3), .val (.int (2 : Int32)), .val (.int c0), .val (.int c1), .val (.int c2), .val (.ref b), .val (.ref a316), .val (.int (1 : Int32))] [])) _
          refine XS.iload X340.here hx rfl (hb hby at_147) rfl ?_
          show Steps p.tables e below (T340.setTop (mkF m 149 #[.val (.int p0), .val (.int p1), .val (.int p2), .val (.int p3), .val (.int (2 : Int32)), .val (.int c0), .val (.int c1), .val (.int c2), .val (.ref b), .val (.ref a316), .val (.int (1 : Int32))] [(.int (2 : Int32))])) _
          refine XS.iconst X340.here hx rfl (hb hby at_149) ?_
          show Steps p.tables e below (T340.setTop (mkF m 150 #[.val (.int p0), .val (.int p1), .val (.int p2), .val (.int p3), .val (.int (2 : Int32)), .val (.int c0), .val (.int c1), .val (.int c2), .val (.ref b), .val (.ref a316), .val (.int (1 : Int32))] [(.int (3 : Int32)), (.int (2 : Int32))])) _
          refine XS.icmpYes X340.here hx rfl (pc0 := 150) (pc' := 164) rfl (hb hby at_150) rfl (XT.ii_lt_t (by decide)) (by decide) (by decide) ?_
          show Steps p.tables e below (T340.setTop (mkF m 164 #[.val (.int p0), .val (.int p1), .val (.int p2), .val (.int p3), .val (.int (2 : Int32)), .val (.int c0), .val (.int c1), .val (.int c2), .val (.ref b), .val (.ref a316), .val (.int (1 : Int32))] [])) _
          refine XS.aload X340.here hx rfl (hb hby at_164) rfl rfl ?_
          exact kk_)
        obtain ⟨_, T349, h349, L349, X349, e349, hQ349, st349⟩ := own_callS X340 hx hZ (y := (⟨"com/example/caddis/caddis/ManifestWriter", "canHold", "(Ljava/lang/String;)Z"⟩ : MethodName)) hown (hw _ (List.mem_of_getElem? (i := 26) rfl)) (hw _ (List.mem_of_getElem? (i := 27) rfl)) (hw _ (List.mem_of_getElem? (i := 28) rfl)) (hw _ (List.mem_of_getElem? (i := 29) rfl)) (by decide) 0 (g := (mkF m 166 #[.val (.int p0), .val (.int p1), .val (.int p2), .val (.int p3), .val (.int (2 : Int32)), .val (.int c0), .val (.int c1), .val (.int c2), .val (.ref b), .val (.ref a316), .val (.int (1 : Int32))] [(.ref a316)])) rfl (by rw [hml]; rfl) [(.ref a316)] [] (rm5 l Z a0 hw [] a316 t [c0, c1] h319 n0 Zc z Oc O2 P5 SS (by simp) hch A16 fm hfm SF) (lenOf pd6 rfl) rfl (by show 2 * 0 + _ ≤ _; exact Nat.le_of_eq rfl) (hb hby at_166) (by decide) (by decide) e340 (by decide) (by decide)
        rcases hQ349 with ⟨⟨hall, rfl⟩ | ⟨⟨j, hj, hbj⟩, rfl⟩, N349, rfl⟩
        · have _ := e349
          have S350 : own_Go p e below s₁ G T349 (mkF m 169 #[.val (.int p0), .val (.int p1), .val (.int p2), .val (.int p3), .val (.int (2 : Int32)), .val (.int c0), .val (.int c1), .val (.int c2), .val (.ref b), .val (.ref a316), .val (.int (1 : Int32))] [(.int (1 : Int32))]) := fun tg_ kk_ => S348 tg_ (st349 tg_ kk_)
          have M349 := Fr.app M340 N349
          have S351 : own_Go p e below s₁ G T349 (mkF m 179 #[.val (.int p0), .val (.int p1), .val (.int p2), .val (.int p3), .val (.int (2 : Int32)), .val (.int c0), .val (.int c1), .val (.int c2), .val (.ref b), .val (.ref a316), .val (.int (1 : Int32))] [(.int (1 : Int32))]) := fun tg_ kk_ => S350 tg_ (by
            refine XS.iload X349.here hx rfl (hb hby at_169) rfl ?_
            show Steps p.tables e below (T349.setTop (mkF m 171 #[.val (.int p0), .val (.int p1), .val (.int p2), .val (.int p3), .val (.int (2 : Int32)), .val (.int c0), .val (.int c1), .val (.int c2), .val (.ref b), .val (.ref a316), .val (.int (1 : Int32))] [(.int (1 : Int32)), (.int (1 : Int32))])) _
            refine XS.icmpNo X349.here hx rfl (hb hby at_171) rfl (XT.ii_ne_f (by decide)) ?_
            show Steps p.tables e below (T349.setTop (mkF m 174 #[.val (.int p0), .val (.int p1), .val (.int p2), .val (.int p3), .val (.int (2 : Int32)), .val (.int c0), .val (.int c1), .val (.int c2), .val (.ref b), .val (.ref a316), .val (.int (1 : Int32))] [])) _
            refine XS.iconst X349.here hx rfl (hb hby at_174) ?_
            show Steps p.tables e below (T349.setTop (mkF m 175 #[.val (.int p0), .val (.int p1), .val (.int p2), .val (.int p3), .val (.int (2 : Int32)), .val (.int c0), .val (.int c1), .val (.int c2), .val (.ref b), .val (.ref a316), .val (.int (1 : Int32))] [(.int (1 : Int32))])) _
            refine XS.goto X349.here hx rfl (pc0 := 175) (pc' := 179) rfl (hb hby at_175) (by decide) (by decide) ?_
            exact kk_)
          obtain ⟨fs, hr, hrun, hended, hW, hsame⟩ := X349.leave (v := some (.int (1 : Int32))) (fun h => by rw [Bd.returns] at h; cases h)
          refine ⟨_, _, ?_, hrun, hended, _, _, rfl, ?_, ReturnedEndW.of_narrow ⟨_, rfl⟩ hW (hsame.mono (by decide) (by decide))⟩
          · rw [← hG]; exact S351 _ (retN X349 hx (t := .boolean) Bd.returns (by simp) (hb hby at_179) hr)
          · show Q0 Z p0 p1 p2 p3 h0 n0 _ T349.heap _
            rw [e349]
            exact ⟨rfl, M349⟩
        · have _ := e349
          have S352 : own_Go p e below s₁ G T349 (mkF m 169 #[.val (.int p0), .val (.int p1), .val (.int p2), .val (.int p3), .val (.int (2 : Int32)), .val (.int c0), .val (.int c1), .val (.int c2), .val (.ref b), .val (.ref a316), .val (.int (1 : Int32))] [(.int (0 : Int32))]) := fun tg_ kk_ => S348 tg_ (st349 tg_ kk_)
          have M349 := Fr.app M340 N349
          match j, hj with
          | 0, _ => exact absurd hbj (by simp [hb0])
          | 1, _ => exact absurd hbj (by simp [hb1])
  · have _ := N0
    rw [hk] at S271
    have S353 : own_Go p e below s₁ G T269 (mkF m 80 #[.val (.int p0), .val (.int p1), .val (.int p2), .val (.int p3), .val (.int (3 : Int32)), .val (.int c0), .val (.int c1), .val (.int c2), .unset, .unset, .unset] [(.int (3 : Int32))]) := fun tg_ kk_ => S271 tg_ (by
      refine XS.ifYes X269.here hx rfl (pc0 := 25) (pc' := 36) rfl (hb hby at_25) rfl (XT.i0_ne_t (by decide)) (by decide) (by decide) ?_
      show Steps p.tables e below (T269.setTop (mkF m 36 #[.val (.int p0), .val (.int p1), .val (.int p2), .val (.int p3), .val (.int (3 : Int32)), .val (.int c0), .val (.int c1), .val (.int c2), .unset, .unset, .unset] [])) _
      refine XS.iload X269.here hx rfl (hb hby at_36) rfl ?_
      show Steps p.tables e below (T269.setTop (mkF m 38 #[.val (.int p0), .val (.int p1), .val (.int p2), .val (.int p3), .val (.int (3 : Int32)), .val (.int c0), .val (.int c1), .val (.int c2), .unset, .unset, .unset] [(.int (3 : Int32))])) _
      refine XS.iconst X269.here hx rfl (hb hby at_38) ?_
      show Steps p.tables e below (T269.setTop (mkF m 39 #[.val (.int p0), .val (.int p1), .val (.int p2), .val (.int p3), .val (.int (3 : Int32)), .val (.int c0), .val (.int c1), .val (.int c2), .unset, .unset, .unset] [(.int (1 : Int32)), (.int (3 : Int32))])) _
      refine XS.icmpYes X269.here hx rfl (pc0 := 39) (pc' := 55) rfl (hb hby at_39) rfl (XT.ii_ne_t (by decide)) (by decide) (by decide) ?_
      show Steps p.tables e below (T269.setTop (mkF m 55 #[.val (.int p0), .val (.int p1), .val (.int p2), .val (.int p3), .val (.int (3 : Int32)), .val (.int c0), .val (.int c1), .val (.int c2), .unset, .unset, .unset] [])) _
      refine XS.iload X269.here hx rfl (hb hby at_55) rfl ?_
      show Steps p.tables e below (T269.setTop (mkF m 57 #[.val (.int p0), .val (.int p1), .val (.int p2), .val (.int p3), .val (.int (3 : Int32)), .val (.int c0), .val (.int c1), .val (.int c2), .unset, .unset, .unset] [(.int (3 : Int32))])) _
      refine XS.iconst X269.here hx rfl (hb hby at_57) ?_
      show Steps p.tables e below (T269.setTop (mkF m 58 #[.val (.int p0), .val (.int p1), .val (.int p2), .val (.int p3), .val (.int (3 : Int32)), .val (.int c0), .val (.int c1), .val (.int c2), .unset, .unset, .unset] [(.int (2 : Int32)), (.int (3 : Int32))])) _
      refine XS.icmpYes X269.here hx rfl (pc0 := 58) (pc' := 79) rfl (hb hby at_58) rfl (XT.ii_ne_t (by decide)) (by decide) (by decide) ?_
      show Steps p.tables e below (T269.setTop (mkF m 79 #[.val (.int p0), .val (.int p1), .val (.int p2), .val (.int p3), .val (.int (3 : Int32)), .val (.int c0), .val (.int c1), .val (.int c2), .unset, .unset, .unset] [])) _
      refine XS.iconst X269.here hx rfl (hb hby at_79) ?_
      exact kk_)
    obtain ⟨Tp1, hp1, kp1, Xp1, ep1, Ep1, Ap1, stp1⟩ := newP X269 hx hZ (hw _ (List.mem_of_getElem? (i := 4) rfl)) e269 (g := (mkF m 80 #[.val (.int p0), .val (.int p1), .val (.int p2), .val (.int p3), .val (.int (3 : Int32)), .val (.int c0), .val (.int c1), .val (.int c2), .unset, .unset, .unset] [(.int (3 : Int32))])) rfl (hb hby at_80) rfl (by decide) (cap := 3) (by decide) (by decide) (by decide) (by decide)
    have S354 : own_Go p e below s₁ G Tp1 (mkF m 82 #[.val (.int p0), .val (.int p1), .val (.int p2), .val (.int p3), .val (.int (3 : Int32)), .val (.int c0), .val (.int c1), .val (.int c2), .unset, .unset, .unset] [(.ref h0.size)]) := fun tg_ kk_ => S353 tg_ (stp1 tg_ kk_)
    obtain ⟨b, gb⟩ : ∃ z, z = h0.size := ⟨_, rfl⟩
    rw [← gb] at S354
    rw [← gb] at Ap1
    have hb0 : n0 ≤ b := Nat.le_trans Z0 (Nat.le_of_eq gb.symm)
    have V0 : Arv Z hp1 b kp1 .char (3 : Int32) [] (.int 0) := Arv.new Ap1 (by decide)
    have Oq := O.ext Ep1
    have Zq := own_sub Z0 Ep1
    have S355 : own_Go p e below s₁ G Tp1 (mkF m 86 #[.val (.int p0), .val (.int p1), .val (.int p2), .val (.int p3), .val (.int (3 : Int32)), .val (.int c0), .val (.int c1), .val (.int c2), .unset, .unset, .unset] [(.int c0), (.int (0 : Int32)), (.ref b), (.ref b)]) := fun tg_ kk_ => S354 tg_ (by
      refine XS.dup Xp1.here hx rfl (hb hby at_82) rfl rfl ?_
      show Steps p.tables e below (Tp1.setTop (mkF m 83 #[.val (.int p0), .val (.int p1), .val (.int p2), .val (.int p3), .val (.int (3 : Int32)), .val (.int c0), .val (.int c1), .val (.int c2), .unset, .unset, .unset] [(.ref b), (.ref b)])) _
      refine XS.iconst Xp1.here hx rfl (hb hby at_83) ?_
      show Steps p.tables e below (Tp1.setTop (mkF m 84 #[.val (.int p0), .val (.int p1), .val (.int p2), .val (.int p3), .val (.int (3 : Int32)), .val (.int c0), .val (.int c1), .val (.int c2), .unset, .unset, .unset] [(.int (0 : Int32)), (.ref b), (.ref b)])) _
      refine XS.iload Xp1.here hx rfl (hb hby at_84) rfl ?_
      exact kk_)
    obtain ⟨cl0, B0, b0, z0, y0, H0, F0⟩ := id V0
    obtain ⟨U0, u0, Y0, f0, W0, su0⟩ := stC Xp1 hx hZ ep1 B0 (j := (0 : Int32)) (inb_of z0 (by decide)) (g := (mkF m 86 #[.val (.int p0), .val (.int p1), .val (.int p2), .val (.int p3), .val (.int (3 : Int32)), .val (.int c0), .val (.int c1), .val (.int c2), .unset, .unset, .unset] [(.int c0), (.int (0 : Int32)), (.ref b), (.ref b)])) rfl rfl (hb hby at_86)
    have S356 : own_Go p e below s₁ G U0 (mkF m 87 #[.val (.int p0), .val (.int p1), .val (.int p2), .val (.int p3), .val (.int (3 : Int32)), .val (.int c0), .val (.int c1), .val (.int c2), .unset, .unset, .unset] [(.ref b)]) := fun tg_ kk_ => S355 tg_ (su0 tg_ kk_)
    rw [own_nar_char hc0] at W0
    have V1 : Arv Z u0 b kp1 .char (3 : Int32) [.int c0] (.int 0) := own_push V0 (own_fit_ch hc0) W0 rfl
    have NB0 := Fr.snoc Y0 M269 hb0
    have O0a := Oq.wr W0 hb0
    have Z0a : n0 ≤ u0.size := by rw [W0.size]; exact Zq
    have S357 : own_Go p e below s₁ G U0 (mkF m 91 #[.val (.int p0), .val (.int p1), .val (.int p2), .val (.int p3), .val (.int (3 : Int32)), .val (.int c0), .val (.int c1), .val (.int c2), .unset, .unset, .unset] [(.int c1), (.int (1 : Int32)), (.ref b), (.ref b)]) := fun tg_ kk_ => S356 tg_ (by
      refine XS.dup Y0.here hx rfl (hb hby at_87) rfl rfl ?_
      show Steps p.tables e below (U0.setTop (mkF m 88 #[.val (.int p0), .val (.int p1), .val (.int p2), .val (.int p3), .val (.int (3 : Int32)), .val (.int c0), .val (.int c1), .val (.int c2), .unset, .unset, .unset] [(.ref b), (.ref b)])) _
      refine XS.iconst Y0.here hx rfl (hb hby at_88) ?_
      show Steps p.tables e below (U0.setTop (mkF m 89 #[.val (.int p0), .val (.int p1), .val (.int p2), .val (.int p3), .val (.int (3 : Int32)), .val (.int c0), .val (.int c1), .val (.int c2), .unset, .unset, .unset] [(.int (1 : Int32)), (.ref b), (.ref b)])) _
      refine XS.iload Y0.here hx rfl (hb hby at_89) rfl ?_
      exact kk_)
    obtain ⟨cl1, B1, b1, z1, y1, H1, F1⟩ := id V1
    obtain ⟨U1, u1, Y1, f1, W1, su1⟩ := stC Y0 hx hZ f0 B1 (j := (1 : Int32)) (inb_of z1 (by decide)) (g := (mkF m 91 #[.val (.int p0), .val (.int p1), .val (.int p2), .val (.int p3), .val (.int (3 : Int32)), .val (.int c0), .val (.int c1), .val (.int c2), .unset, .unset, .unset] [(.int c1), (.int (1 : Int32)), (.ref b), (.ref b)])) rfl rfl (hb hby at_91)
    have S358 : own_Go p e below s₁ G U1 (mkF m 92 #[.val (.int p0), .val (.int p1), .val (.int p2), .val (.int p3), .val (.int (3 : Int32)), .val (.int c0), .val (.int c1), .val (.int c2), .unset, .unset, .unset] [(.ref b)]) := fun tg_ kk_ => S357 tg_ (su1 tg_ kk_)
    rw [own_nar_char hc1] at W1
    have V2 : Arv Z u1 b kp1 .char (3 : Int32) [.int c0, .int c1] (.int 0) := own_push V1 (own_fit_ch hc1) W1 rfl
    have NB1 := Fr.snoc Y1 NB0 hb0
    have O1a := O0a.wr W1 hb0
    have Z1a : n0 ≤ u1.size := by rw [W1.size]; exact Z0a
    have S359 : own_Go p e below s₁ G U1 (mkF m 96 #[.val (.int p0), .val (.int p1), .val (.int p2), .val (.int p3), .val (.int (3 : Int32)), .val (.int c0), .val (.int c1), .val (.int c2), .unset, .unset, .unset] [(.int c2), (.int (2 : Int32)), (.ref b), (.ref b)]) := fun tg_ kk_ => S358 tg_ (by
      refine XS.dup Y1.here hx rfl (hb hby at_92) rfl rfl ?_
      show Steps p.tables e below (U1.setTop (mkF m 93 #[.val (.int p0), .val (.int p1), .val (.int p2), .val (.int p3), .val (.int (3 : Int32)), .val (.int c0), .val (.int c1), .val (.int c2), .unset, .unset, .unset] [(.ref b), (.ref b)])) _
      refine XS.iconst Y1.here hx rfl (hb hby at_93) ?_
      show Steps p.tables e below (U1.setTop (mkF m 94 #[.val (.int p0), .val (.int p1), .val (.int p2), .val (.int p3), .val (.int (3 : Int32)), .val (.int c0), .val (.int c1), .val (.int c2), .unset, .unset, .unset] [(.int (2 : Int32)), (.ref b), (.ref b)])) _
      refine XS.iload Y1.here hx rfl (hb hby at_94) rfl ?_
      exact kk_)
    obtain ⟨cl2, B2, b2, z2, y2, H2, F2⟩ := id V2
    obtain ⟨U2, u2, Y2, f2, W2, su2⟩ := stC Y1 hx hZ f1 B2 (j := (2 : Int32)) (inb_of z2 (by decide)) (g := (mkF m 96 #[.val (.int p0), .val (.int p1), .val (.int p2), .val (.int p3), .val (.int (3 : Int32)), .val (.int c0), .val (.int c1), .val (.int c2), .unset, .unset, .unset] [(.int c2), (.int (2 : Int32)), (.ref b), (.ref b)])) rfl rfl (hb hby at_96)
    have S360 : own_Go p e below s₁ G U2 (mkF m 97 #[.val (.int p0), .val (.int p1), .val (.int p2), .val (.int p3), .val (.int (3 : Int32)), .val (.int c0), .val (.int c1), .val (.int c2), .unset, .unset, .unset] [(.ref b)]) := fun tg_ kk_ => S359 tg_ (su2 tg_ kk_)
    rw [own_nar_char hc2] at W2
    have V3 : Arv Z u2 b kp1 .char (3 : Int32) [.int c0, .int c1, .int c2] (.int 0) := own_push V2 (own_fit_ch hc2) W2 rfl
    have NB2 := Fr.snoc Y2 NB1 hb0
    have O2a := O1a.wr W2 hb0
    have Z2a : n0 ≤ u2.size := by rw [W2.size]; exact Z1a
    have S361 : own_Go p e below s₁ G U2 (mkF m 99 #[.val (.int p0), .val (.int p1), .val (.int p2), .val (.int p3), .val (.int (3 : Int32)), .val (.int c0), .val (.int c1), .val (.int c2), .val (.ref b), .unset, .unset] []) := fun tg_ kk_ => S360 tg_ (by
      refine XS.astore Y2.here hx rfl (hb hby at_97) rfl rfl (l' := #[.val (.int p0), .val (.int p1), .val (.int p2), .val (.int p3), .val (.int (3 : Int32)), .val (.int c0), .val (.int c1), .val (.int c2), .val (.ref b), .unset, .unset]) rfl ?_
      exact kk_)
    obtain ⟨T362, h362, X362, e362, E362, A362, D362, -, st362⟩ := newO Y2 hx hZ hown (hw _ (List.mem_of_getElem? (i := 5) rfl)) (hw _ (List.mem_of_getElem? (i := 6) rfl)) (hw _ (List.mem_of_getElem? (i := 7) rfl)) f2 (g := (mkF m 99 #[.val (.int p0), .val (.int p1), .val (.int p2), .val (.int p3), .val (.int (3 : Int32)), .val (.int c0), .val (.int c1), .val (.int c2), .val (.ref b), .unset, .unset] [])) rfl (hb hby at_99) (by decide) (by decide)
    obtain ⟨a362, g362⟩ : ∃ z, z = u2.size := ⟨_, rfl⟩
    rw [← g362] at A362 D362 st362
    have S363 : own_Go p e below s₁ G T362 (mkF m 102 #[.val (.int p0), .val (.int p1), .val (.int p2), .val (.int p3), .val (.int (3 : Int32)), .val (.int c0), .val (.int c1), .val (.int c2), .val (.ref b), .unset, .unset] [(.ref a362)]) := fun tg_ kk_ => S361 tg_ (st362 tg_ kk_)
    have Vb := V3.ext E362
    have Ob := O2a.ext E362
    have Zb := own_sub Z2a E362
    have Fv : Fld Z h362 a362 "java/lang/String" "value" "[B" .null := D362 (Or.inr (hw _ (List.mem_of_getElem? (i := 20) rfl))) (ty := .array .byte) (by decide)
    have Fc : Fld Z h362 a362 "java/lang/String" "coder" "B" (.int 0) := D362 (Or.inr (hw _ (List.mem_of_getElem? (i := 21) rfl))) (ty := .byte) (by decide)
    have hx0 : n0 ≤ a362 := Nat.le_trans Z2a (Nat.le_of_eq g362.symm)
    have hch : ∀ j, j < [c0, c1, c2].length → own_Ch ([c0, c1, c2].getD j 0) := fun j hj => by match j, hj with | 0, _ => exact hc0 | 1, _ => exact hc1 | 2, _ => exact hc2
    have S364 : own_Go p e below s₁ G T362 (mkF m 105 #[.val (.int p0), .val (.int p1), .val (.int p2), .val (.int p3), .val (.int (3 : Int32)), .val (.int c0), .val (.int c1), .val (.int c2), .val (.ref b), .unset, .unset] [(.ref b), (.ref a362), (.ref a362)]) := fun tg_ kk_ => S363 tg_ (by
      refine XS.dup X362.here hx rfl (hb hby at_102) rfl rfl ?_
      show Steps p.tables e below (T362.setTop (mkF m 103 #[.val (.int p0), .val (.int p1), .val (.int p2), .val (.int p3), .val (.int (3 : Int32)), .val (.int c0), .val (.int c1), .val (.int c2), .val (.ref b), .unset, .unset] [(.ref a362), (.ref a362)])) _
      refine XS.aload X362.here hx rfl (hb hby at_103) rfl rfl ?_
      exact kk_)
    obtain ⟨_, T365, h365, L365, X365, e365, hQ365, st365⟩ := own_callI X362 hx hZ (y := (⟨"java/lang/String", "<init>", "([C)V"⟩ : MethodName)) rfl hown (hw _ (List.mem_of_getElem? (i := 8) rfl)) (hw _ (List.mem_of_getElem? (i := 9) rfl)) (hw _ (List.mem_of_getElem? (i := 7) rfl)) (hw _ (List.mem_of_getElem? (i := 10) rfl)) (by decide) 1 (g := (mkF m 105 #[.val (.int p0), .val (.int p1), .val (.int p2), .val (.int p3), .val (.int (3 : Int32)), .val (.int c0), .val (.int c1), .val (.int c2), .val (.ref b), .unset, .unset] [(.ref b), (.ref a362), (.ref a362)])) rfl (by rw [hml]; rfl) a362 [(.ref b)] [(.ref a362)] (rm2 l Z a0 hw [] a362 b [c0, c1, c2] h362 n0 Zb z kp1 (by simp) A362 Fv Fc hx0 Vb Ob O2 P5 A16 hch) (lenOf pd3 rfl) rfl (by show 2 * 0 + _ ≤ _; exact Nat.le_of_eq rfl) (hb hby at_105) (by decide) (by decide) e362 (by decide) (by decide)
    obtain ⟨rfl, N365, K365, t, ht, SS⟩ := hQ365
    have S366 : own_Go p e below s₁ G T365 (mkF m 108 #[.val (.int p0), .val (.int p1), .val (.int p2), .val (.int p3), .val (.int (3 : Int32)), .val (.int c0), .val (.int c1), .val (.int c2), .val (.ref b), .unset, .unset] [(.ref a362)]) := fun tg_ kk_ => S364 tg_ (st365 tg_ kk_)
    have NC := Fr.app NB2 N365
    have Oc := Ob.keep K365 (allS hx0 all0)
    have Zc := Nat.le_trans Zb K365.1
    have S367 : own_Go p e below s₁ G T365 (mkF m 121 #[.val (.int p0), .val (.int p1), .val (.int p2), .val (.int p3), .val (.int (3 : Int32)), .val (.int c0), .val (.int c1), .val (.int c2), .val (.ref b), .val (.ref a362), .val (.int (1 : Int32))] [(.int c0)]) := fun tg_ kk_ => S366 tg_ (by
      refine XS.astore X365.here hx rfl (hb hby at_108) rfl rfl (l' := #[.val (.int p0), .val (.int p1), .val (.int p2), .val (.int p3), .val (.int (3 : Int32)), .val (.int c0), .val (.int c1), .val (.int c2), .val (.ref b), .val (.ref a362), .unset]) rfl ?_
      show Steps p.tables e below (T365.setTop (mkF m 110 #[.val (.int p0), .val (.int p1), .val (.int p2), .val (.int p3), .val (.int (3 : Int32)), .val (.int c0), .val (.int c1), .val (.int c2), .val (.ref b), .val (.ref a362), .unset] [])) _
      refine XS.iconst X365.here hx rfl (hb hby at_110) ?_
      show Steps p.tables e below (T365.setTop (mkF m 111 #[.val (.int p0), .val (.int p1), .val (.int p2), .val (.int p3), .val (.int (3 : Int32)), .val (.int c0), .val (.int c1), .val (.int c2), .val (.ref b), .val (.ref a362), .unset] [(.int (1 : Int32))])) _
      refine XS.istore X365.here hx rfl (hb hby at_111) rfl (l' := #[.val (.int p0), .val (.int p1), .val (.int p2), .val (.int p3), .val (.int (3 : Int32)), .val (.int c0), .val (.int c1), .val (.int c2), .val (.ref b), .val (.ref a362), .val (.int (1 : Int32))]) rfl ?_
      show Steps p.tables e below (T365.setTop (mkF m 113 #[.val (.int p0), .val (.int p1), .val (.int p2), .val (.int p3), .val (.int (3 : Int32)), .val (.int c0), .val (.int c1), .val (.int c2), .val (.ref b), .val (.ref a362), .val (.int (1 : Int32))] [])) _
      refine XS.iload X365.here hx rfl (hb hby at_113) rfl ?_
      show Steps p.tables e below (T365.setTop (mkF m 115 #[.val (.int p0), .val (.int p1), .val (.int p2), .val (.int p3), .val (.int (3 : Int32)), .val (.int c0), .val (.int c1), .val (.int c2), .val (.ref b), .val (.ref a362), .val (.int (1 : Int32))] [(.int (3 : Int32))])) _
      refine XS.iconst X365.here hx rfl (hb hby at_115) ?_
      show Steps p.tables e below (T365.setTop (mkF m 116 #[.val (.int p0), .val (.int p1), .val (.int p2), .val (.int p3), .val (.int (3 : Int32)), .val (.int c0), .val (.int c1), .val (.int c2), .val (.ref b), .val (.ref a362), .val (.int (1 : Int32))] [(.int (1 : Int32)), (.int (3 : Int32))])) _
      refine XS.icmpNo X365.here hx rfl (hb hby at_116) rfl (XT.ii_lt_f (by decide)) ?_
      show Steps p.tables e below (T365.setTop (mkF m 119 #[.val (.int p0), .val (.int p1), .val (.int p2), .val (.int p3), .val (.int (3 : Int32)), .val (.int c0), .val (.int c1), .val (.int c2), .val (.ref b), .val (.ref a362), .val (.int (1 : Int32))] [])) _
      refine XS.iload X365.here hx rfl (hb hby at_119) rfl ?_
      exact kk_)
    obtain ⟨_, T368, h368, L368, X368, e368, hQ368, st368⟩ := own_callS X365 hx hZ (y := (⟨"com/example/caddis/caddis/ManifestWriterCanHoldPinLaw", "bad", "(C)Z"⟩ : MethodName)) hown (hw _ (List.mem_of_getElem? (i := 80) rfl)) (hw _ (List.mem_of_getElem? (i := 81) rfl)) (hw _ (List.mem_of_getElem? (i := 2) rfl)) (hw _ (List.mem_of_getElem? (i := 82) rfl)) (by decide) 0 (g := (mkF m 121 #[.val (.int p0), .val (.int p1), .val (.int p2), .val (.int p3), .val (.int (3 : Int32)), .val (.int c0), .val (.int c1), .val (.int c2), .val (.ref b), .val (.ref a362), .val (.int (1 : Int32))] [(.int c0)])) rfl (by rw [hml]; rfl) [(.int c0)] [] (rm18 l Z a0 hw [] c0 h365 n0 Zc) (lenOf pd17 rfl) rfl (by show 2 * 0 + _ ≤ _; exact Nat.le_of_eq rfl) (hb hby at_121) (by decide) (by decide) e365 (by decide) (by decide)
    rcases hQ368 with ⟨⟨hb0, rfl⟩ | ⟨hb0, rfl⟩, N368, rfl⟩
    · have _ := e368
      have S369 : own_Go p e below s₁ G T368 (mkF m 124 #[.val (.int p0), .val (.int p1), .val (.int p2), .val (.int p3), .val (.int (3 : Int32)), .val (.int c0), .val (.int c1), .val (.int c2), .val (.ref b), .val (.ref a362), .val (.int (1 : Int32))] [(.int (1 : Int32))]) := fun tg_ kk_ => S367 tg_ (st368 tg_ kk_)
      have M368 := Fr.app NC N368
      have S370 : own_Go p e below s₁ G T368 (mkF m 138 #[.val (.int p0), .val (.int p1), .val (.int p2), .val (.int p3), .val (.int (3 : Int32)), .val (.int c0), .val (.int c1), .val (.int c2), .val (.ref b), .val (.ref a362), .val (.int (0 : Int32))] [(.int c1)]) := fun tg_ kk_ => S369 tg_ (by
        refine XS.ifNo X368.here hx rfl (hb hby at_124) rfl (XT.i0_eq_f (by decide)) ?_
        show Steps p.tables e below (T368.setTop (mkF m 127 #[.val (.int p0), .val (.int p1), .val (.int p2), .val (.int p3), .val (.int (3 : Int32)), .val (.int c0), .val (.int c1), .val (.int c2), .val (.ref b), .val (.ref a362), .val (.int (1 : Int32))] [])) _
        refine XS.iconst X368.here hx rfl (hb hby at_127) ?_
        show Steps p.tables e below (T368.setTop (mkF m 128 #[.val (.int p0), .val (.int p1), .val (.int p2), .val (.int p3), .val (.int (3 : Int32)), .val (.int c0), .val (.int c1), .val (.int c2), .val (.ref b), .val (.ref a362), .val (.int (1 : Int32))] [(.int (0 : Int32))])) _
        refine XS.istore X368.here hx rfl (hb hby at_128) rfl (l' := #[.val (.int p0), .val (.int p1), .val (.int p2), .val (.int p3), .val (.int (3 : Int32)), .val (.int c0), .val (.int c1), .val (.int c2), .val (.ref b), .val (.ref a362), .val (.int (0 : Int32))]) rfl ?_
        show Steps p.tables e below (T368.setTop (mkF m 130 #[.val (.int p0), .val (.int p1), .val (.int p2), .val (.int p3), .val (.int (3 : Int32)), .val (.int c0), .val (.int c1), .val (.int c2), .val (.ref b), .val (.ref a362), .val (.int (0 : Int32))] [])) _
        refine XS.iload X368.here hx rfl (hb hby at_130) rfl ?_
        show Steps p.tables e below (T368.setTop (mkF m 132 #[.val (.int p0), .val (.int p1), .val (.int p2), .val (.int p3), .val (.int (3 : Int32)), .val (.int c0), .val (.int c1), .val (.int c2), .val (.ref b), .val (.ref a362), .val (.int (0 : Int32))] [(.int (3 : Int32))])) _
        refine XS.iconst X368.here hx rfl (hb hby at_132) ?_
        show Steps p.tables e below (T368.setTop (mkF m 133 #[.val (.int p0), .val (.int p1), .val (.int p2), .val (.int p3), .val (.int (3 : Int32)), .val (.int c0), .val (.int c1), .val (.int c2), .val (.ref b), .val (.ref a362), .val (.int (0 : Int32))] [(.int (2 : Int32)), (.int (3 : Int32))])) _
        refine XS.icmpNo X368.here hx rfl (hb hby at_133) rfl (XT.ii_lt_f (by decide)) ?_
        show Steps p.tables e below (T368.setTop (mkF m 136 #[.val (.int p0), .val (.int p1), .val (.int p2), .val (.int p3), .val (.int (3 : Int32)), .val (.int c0), .val (.int c1), .val (.int c2), .val (.ref b), .val (.ref a362), .val (.int (0 : Int32))] [])) _
        refine XS.iload X368.here hx rfl (hb hby at_136) rfl ?_
        exact kk_)
      obtain ⟨_, T371, h371, L371, X371, e371, hQ371, st371⟩ := own_callS X368 hx hZ (y := (⟨"com/example/caddis/caddis/ManifestWriterCanHoldPinLaw", "bad", "(C)Z"⟩ : MethodName)) hown (hw _ (List.mem_of_getElem? (i := 80) rfl)) (hw _ (List.mem_of_getElem? (i := 81) rfl)) (hw _ (List.mem_of_getElem? (i := 2) rfl)) (hw _ (List.mem_of_getElem? (i := 82) rfl)) (by decide) 0 (g := (mkF m 138 #[.val (.int p0), .val (.int p1), .val (.int p2), .val (.int p3), .val (.int (3 : Int32)), .val (.int c0), .val (.int c1), .val (.int c2), .val (.ref b), .val (.ref a362), .val (.int (0 : Int32))] [(.int c1)])) rfl (by rw [hml]; rfl) [(.int c1)] [] (rm18 l Z a0 hw [] c1 h365 n0 Zc) (lenOf pd17 rfl) rfl (by show 2 * 0 + _ ≤ _; exact Nat.le_of_eq rfl) (hb hby at_138) (by decide) (by decide) e368 (by decide) (by decide)
      rcases hQ371 with ⟨⟨hb1, rfl⟩ | ⟨hb1, rfl⟩, N371, rfl⟩
      · have _ := e371
        have S372 : own_Go p e below s₁ G T371 (mkF m 141 #[.val (.int p0), .val (.int p1), .val (.int p2), .val (.int p3), .val (.int (3 : Int32)), .val (.int c0), .val (.int c1), .val (.int c2), .val (.ref b), .val (.ref a362), .val (.int (0 : Int32))] [(.int (1 : Int32))]) := fun tg_ kk_ => S370 tg_ (st371 tg_ kk_)
        have M371 := Fr.app M368 N371
        have S373 : own_Go p e below s₁ G T371 (mkF m 155 #[.val (.int p0), .val (.int p1), .val (.int p2), .val (.int p3), .val (.int (3 : Int32)), .val (.int c0), .val (.int c1), .val (.int c2), .val (.ref b), .val (.ref a362), .val (.int (0 : Int32))] [(.int c2)]) := fun tg_ kk_ => S372 tg_ (by
          refine XS.ifNo X371.here hx rfl (hb hby at_141) rfl (XT.i0_eq_f (by decide)) ?_
          show Steps p.tables e below (T371.setTop (mkF m 144 #[.val (.int p0), .val (.int p1), .val (.int p2), .val (.int p3), .val (.int (3 : Int32)), .val (.int c0), .val (.int c1), .val (.int c2), .val (.ref b), .val (.ref a362), .val (.int (0 : Int32))] [])) _
          refine XS.iconst X371.here hx rfl (hb hby at_144) ?_
          show Steps p.tables e below (T371.setTop (mkF m 145 #[.val (.int p0), .val (.int p1), .val (.int p2), .val (.int p3), .val (.int (3 : Int32)), .val (.int c0), .val (.int c1), .val (.int c2), .val (.ref b), .val (.ref a362), .val (.int (0 : Int32))] [(.int (0 : Int32))])) _
          refine XS.istore X371.here hx rfl (hb hby at_145) rfl (l' := #[.val (.int p0), .val (.int p1), .val (.int p2), .val (.int p3), .val (.int (3 : Int32)), .val (.int c0), .val (.int c1), .val (.int c2), .val (.ref b), .val (.ref a362), .val (.int (0 : Int32))]) rfl ?_
          show Steps p.tables e below (T371.setTop (mkF m 147 #[.val (.int p0), .val (.int p1), .val (.int p2), .val (.int p3), .val (.int (3 : Int32)), .val (.int c0), .val (.int c1), .val (.int c2), .val (.ref b), .val (.ref a362), .val (.int (0 : Int32))] [])) _
          refine XS.iload X371.here hx rfl (hb hby at_147) rfl ?_
          show Steps p.tables e below (T371.setTop (mkF m 149 #[.val (.int p0), .val (.int p1), .val (.int p2), .val (.int p3), .val (.int (3 : Int32)), .val (.int c0), .val (.int c1), .val (.int c2), .val (.ref b), .val (.ref a362), .val (.int (0 : Int32))] [(.int (3 : Int32))])) _
          refine XS.iconst X371.here hx rfl (hb hby at_149) ?_
          show Steps p.tables e below (T371.setTop (mkF m 150 #[.val (.int p0), .val (.int p1), .val (.int p2), .val (.int p3), .val (.int (3 : Int32)), .val (.int c0), .val (.int c1), .val (.int c2), .val (.ref b), .val (.ref a362), .val (.int (0 : Int32))] [(.int (3 : Int32)), (.int (3 : Int32))])) _
          refine XS.icmpNo X371.here hx rfl (hb hby at_150) rfl (XT.ii_lt_f (by decide)) ?_
          show Steps p.tables e below (T371.setTop (mkF m 153 #[.val (.int p0), .val (.int p1), .val (.int p2), .val (.int p3), .val (.int (3 : Int32)), .val (.int c0), .val (.int c1), .val (.int c2), .val (.ref b), .val (.ref a362), .val (.int (0 : Int32))] [])) _
          refine XS.iload X371.here hx rfl (hb hby at_153) rfl ?_
          exact kk_)
        obtain ⟨_, T374, h374, L374, X374, e374, hQ374, st374⟩ := own_callS X371 hx hZ (y := (⟨"com/example/caddis/caddis/ManifestWriterCanHoldPinLaw", "bad", "(C)Z"⟩ : MethodName)) hown (hw _ (List.mem_of_getElem? (i := 80) rfl)) (hw _ (List.mem_of_getElem? (i := 81) rfl)) (hw _ (List.mem_of_getElem? (i := 2) rfl)) (hw _ (List.mem_of_getElem? (i := 82) rfl)) (by decide) 0 (g := (mkF m 155 #[.val (.int p0), .val (.int p1), .val (.int p2), .val (.int p3), .val (.int (3 : Int32)), .val (.int c0), .val (.int c1), .val (.int c2), .val (.ref b), .val (.ref a362), .val (.int (0 : Int32))] [(.int c2)])) rfl (by rw [hml]; rfl) [(.int c2)] [] (rm18 l Z a0 hw [] c2 h365 n0 Zc) (lenOf pd17 rfl) rfl (by show 2 * 0 + _ ≤ _; exact Nat.le_of_eq rfl) (hb hby at_155) (by decide) (by decide) e371 (by decide) (by decide)
        rcases hQ374 with ⟨⟨hb2, rfl⟩ | ⟨hb2, rfl⟩, N374, rfl⟩
        · have _ := e374
          have S375 : own_Go p e below s₁ G T374 (mkF m 158 #[.val (.int p0), .val (.int p1), .val (.int p2), .val (.int p3), .val (.int (3 : Int32)), .val (.int c0), .val (.int c1), .val (.int c2), .val (.ref b), .val (.ref a362), .val (.int (0 : Int32))] [(.int (1 : Int32))]) := fun tg_ kk_ => S373 tg_ (st374 tg_ kk_)
          have M374 := Fr.app M371 N374
          have S376 : own_Go p e below s₁ G T374 (mkF m 166 #[.val (.int p0), .val (.int p1), .val (.int p2), .val (.int p3), .val (.int (3 : Int32)), .val (.int c0), .val (.int c1), .val (.int c2), .val (.ref b), .val (.ref a362), .val (.int (0 : Int32))] [(.ref a362)]) := fun tg_ kk_ => S375 tg_ (by
            refine XS.ifNo X374.here hx rfl (hb hby at_158) rfl (XT.i0_eq_f (by decide)) ?_
            show Steps p.tables e below (T374.setTop (mkF m 161 #[.val (.int p0), .val (.int p1), .val (.int p2), .val (.int p3), .val (.int (3 : Int32)), .val (.int c0), .val (.int c1), .val (.int c2), .val (.ref b), .val (.ref a362), .val (.int (0 : Int32))] [])) _
            refine XS.iconst X374.here hx rfl (hb hby at_161) ?_
            show Steps p.tables e below (T374.setTop (mkF m 162 #[.val (.int p0), .val (.int p1), .val (.int p2), .val (.int p3), .val (.int (3 : Int32)), .val (.int c0), .val (.int c1), .val (.int c2), .val (.ref b), .val (.ref a362), .val (.int (0 : Int32))] [(.int (0 : Int32))])) _
            refine XS.istore X374.here hx rfl (hb hby at_162) rfl (l' := #[.val (.int p0), .val (.int p1), .val (.int p2), .val (.int p3), .val (.int (3 : Int32)), .val (.int c0), .val (.int c1), .val (.int c2), .val (.ref b), .val (.ref a362), .val (.int (0 : Int32))]) rfl ?_
            show Steps p.tables e below (T374.setTop (mkF m 164 #[.val (.int p0), .val (.int p1), .val (.int p2), .val (.int p3), .val (.int (3 : Int32)), .val (.int c0), .val (.int c1), .val (.int c2), .val (.ref b), .val (.ref a362), .val (.int (0 : Int32))] [])) _
            refine XS.aload X374.here hx rfl (hb hby at_164) rfl rfl ?_
            exact kk_)
          obtain ⟨_, T377, h377, L377, X377, e377, hQ377, st377⟩ := own_callS X374 hx hZ (y := (⟨"com/example/caddis/caddis/ManifestWriter", "canHold", "(Ljava/lang/String;)Z"⟩ : MethodName)) hown (hw _ (List.mem_of_getElem? (i := 26) rfl)) (hw _ (List.mem_of_getElem? (i := 27) rfl)) (hw _ (List.mem_of_getElem? (i := 28) rfl)) (hw _ (List.mem_of_getElem? (i := 29) rfl)) (by decide) 0 (g := (mkF m 166 #[.val (.int p0), .val (.int p1), .val (.int p2), .val (.int p3), .val (.int (3 : Int32)), .val (.int c0), .val (.int c1), .val (.int c2), .val (.ref b), .val (.ref a362), .val (.int (0 : Int32))] [(.ref a362)])) rfl (by rw [hml]; rfl) [(.ref a362)] [] (rm5 l Z a0 hw [] a362 t [c0, c1, c2] h365 n0 Zc z Oc O2 P5 SS (by simp) hch A16 fm hfm SF) (lenOf pd6 rfl) rfl (by show 2 * 0 + _ ≤ _; exact Nat.le_of_eq rfl) (hb hby at_166) (by decide) (by decide) e374 (by decide) (by decide)
          rcases hQ377 with ⟨⟨hall, rfl⟩ | ⟨⟨j, hj, hbj⟩, rfl⟩, N377, rfl⟩
          · have _ := e377
            have S378 : own_Go p e below s₁ G T377 (mkF m 169 #[.val (.int p0), .val (.int p1), .val (.int p2), .val (.int p3), .val (.int (3 : Int32)), .val (.int c0), .val (.int c1), .val (.int c2), .val (.ref b), .val (.ref a362), .val (.int (0 : Int32))] [(.int (1 : Int32))]) := fun tg_ kk_ => S376 tg_ (st377 tg_ kk_)
            have M377 := Fr.app M374 N377
            exact absurd (hall 0 (by simp)) (by simp [hb0])
          · have _ := e377
            have S379 : own_Go p e below s₁ G T377 (mkF m 169 #[.val (.int p0), .val (.int p1), .val (.int p2), .val (.int p3), .val (.int (3 : Int32)), .val (.int c0), .val (.int c1), .val (.int c2), .val (.ref b), .val (.ref a362), .val (.int (0 : Int32))] [(.int (0 : Int32))]) := fun tg_ kk_ => S376 tg_ (st377 tg_ kk_)
            have M377 := Fr.app M374 N377
            have S380 : own_Go p e below s₁ G T377 (mkF m 179 #[.val (.int p0), .val (.int p1), .val (.int p2), .val (.int p3), .val (.int (3 : Int32)), .val (.int c0), .val (.int c1), .val (.int c2), .val (.ref b), .val (.ref a362), .val (.int (0 : Int32))] [(.int (1 : Int32))]) := fun tg_ kk_ => S379 tg_ (by
              refine XS.iload X377.here hx rfl (hb hby at_169) rfl ?_
              show Steps p.tables e below (T377.setTop (mkF m 171 #[.val (.int p0), .val (.int p1), .val (.int p2), .val (.int p3), .val (.int (3 : Int32)), .val (.int c0), .val (.int c1), .val (.int c2), .val (.ref b), .val (.ref a362), .val (.int (0 : Int32))] [(.int (0 : Int32)), (.int (0 : Int32))])) _
              refine XS.icmpNo X377.here hx rfl (hb hby at_171) rfl (XT.ii_ne_f (by decide)) ?_
              show Steps p.tables e below (T377.setTop (mkF m 174 #[.val (.int p0), .val (.int p1), .val (.int p2), .val (.int p3), .val (.int (3 : Int32)), .val (.int c0), .val (.int c1), .val (.int c2), .val (.ref b), .val (.ref a362), .val (.int (0 : Int32))] [])) _
              refine XS.iconst X377.here hx rfl (hb hby at_174) ?_
              show Steps p.tables e below (T377.setTop (mkF m 175 #[.val (.int p0), .val (.int p1), .val (.int p2), .val (.int p3), .val (.int (3 : Int32)), .val (.int c0), .val (.int c1), .val (.int c2), .val (.ref b), .val (.ref a362), .val (.int (0 : Int32))] [(.int (1 : Int32))])) _
              refine XS.goto X377.here hx rfl (pc0 := 175) (pc' := 179) rfl (hb hby at_175) (by decide) (by decide) ?_
              exact kk_)
            obtain ⟨fs, hr, hrun, hended, hW, hsame⟩ := X377.leave (v := some (.int (1 : Int32))) (fun h => by rw [Bd.returns] at h; cases h)
            refine ⟨_, _, ?_, hrun, hended, _, _, rfl, ?_, ReturnedEndW.of_narrow ⟨_, rfl⟩ hW (hsame.mono (by decide) (by decide))⟩
            · rw [← hG]; exact S380 _ (retN X377 hx (t := .boolean) Bd.returns (by simp) (hb hby at_179) hr)
            · show Q0 Z p0 p1 p2 p3 h0 n0 _ T377.heap _
              rw [e377]
              exact ⟨rfl, M377⟩
        · have _ := e374
          have S381 : own_Go p e below s₁ G T374 (mkF m 158 #[.val (.int p0), .val (.int p1), .val (.int p2), .val (.int p3), .val (.int (3 : Int32)), .val (.int c0), .val (.int c1), .val (.int c2), .val (.ref b), .val (.ref a362), .val (.int (0 : Int32))] [(.int (0 : Int32))]) := fun tg_ kk_ => S373 tg_ (st374 tg_ kk_)
          have M374 := Fr.app M371 N374
          have S382 : own_Go p e below s₁ G T374 (mkF m 166 #[.val (.int p0), .val (.int p1), .val (.int p2), .val (.int p3), .val (.int (3 : Int32)), .val (.int c0), .val (.int c1), .val (.int c2), .val (.ref b), .val (.ref a362), .val (.int (0 : Int32))] [(.ref a362)]) := fun tg_ kk_ => S381 tg_ (by
            refine XS.ifYes X374.here hx rfl (pc0 := 158) (pc' := 164) rfl (hb hby at_158) rfl (XT.i0_eq_t (by decide)) (by decide) (by decide) ?_
            show Steps p.tables e below (T374.setTop (mkF m 164 #[.val (.int p0), .val (.int p1), .val (.int p2), .val (.int p3), .val (.int (3 : Int32)), .val (.int c0), .val (.int c1), .val (.int c2), .val (.ref b), .val (.ref a362), .val (.int (0 : Int32))] [])) _
            refine XS.aload X374.here hx rfl (hb hby at_164) rfl rfl ?_
            exact kk_)
          obtain ⟨_, T383, h383, L383, X383, e383, hQ383, st383⟩ := own_callS X374 hx hZ (y := (⟨"com/example/caddis/caddis/ManifestWriter", "canHold", "(Ljava/lang/String;)Z"⟩ : MethodName)) hown (hw _ (List.mem_of_getElem? (i := 26) rfl)) (hw _ (List.mem_of_getElem? (i := 27) rfl)) (hw _ (List.mem_of_getElem? (i := 28) rfl)) (hw _ (List.mem_of_getElem? (i := 29) rfl)) (by decide) 0 (g := (mkF m 166 #[.val (.int p0), .val (.int p1), .val (.int p2), .val (.int p3), .val (.int (3 : Int32)), .val (.int c0), .val (.int c1), .val (.int c2), .val (.ref b), .val (.ref a362), .val (.int (0 : Int32))] [(.ref a362)])) rfl (by rw [hml]; rfl) [(.ref a362)] [] (rm5 l Z a0 hw [] a362 t [c0, c1, c2] h365 n0 Zc z Oc O2 P5 SS (by simp) hch A16 fm hfm SF) (lenOf pd6 rfl) rfl (by show 2 * 0 + _ ≤ _; exact Nat.le_of_eq rfl) (hb hby at_166) (by decide) (by decide) e374 (by decide) (by decide)
          rcases hQ383 with ⟨⟨hall, rfl⟩ | ⟨⟨j, hj, hbj⟩, rfl⟩, N383, rfl⟩
          · have _ := e383
            have S384 : own_Go p e below s₁ G T383 (mkF m 169 #[.val (.int p0), .val (.int p1), .val (.int p2), .val (.int p3), .val (.int (3 : Int32)), .val (.int c0), .val (.int c1), .val (.int c2), .val (.ref b), .val (.ref a362), .val (.int (0 : Int32))] [(.int (1 : Int32))]) := fun tg_ kk_ => S382 tg_ (st383 tg_ kk_)
            have M383 := Fr.app M374 N383
            exact absurd (hall 0 (by simp)) (by simp [hb0])
          · have _ := e383
            have S385 : own_Go p e below s₁ G T383 (mkF m 169 #[.val (.int p0), .val (.int p1), .val (.int p2), .val (.int p3), .val (.int (3 : Int32)), .val (.int c0), .val (.int c1), .val (.int c2), .val (.ref b), .val (.ref a362), .val (.int (0 : Int32))] [(.int (0 : Int32))]) := fun tg_ kk_ => S382 tg_ (st383 tg_ kk_)
            have M383 := Fr.app M374 N383
            have S386 : own_Go p e below s₁ G T383 (mkF m 179 #[.val (.int p0), .val (.int p1), .val (.int p2), .val (.int p3), .val (.int (3 : Int32)), .val (.int c0), .val (.int c1), .val (.int c2), .val (.ref b), .val (.ref a362), .val (.int (0 : Int32))] [(.int (1 : Int32))]) := fun tg_ kk_ => S385 tg_ (by
              refine XS.iload X383.here hx rfl (hb hby at_169) rfl ?_
              show Steps p.tables e below (T383.setTop (mkF m 171 #[.val (.int p0), .val (.int p1), .val (.int p2), .val (.int p3), .val (.int (3 : Int32)), .val (.int c0), .val (.int c1), .val (.int c2), .val (.ref b), .val (.ref a362), .val (.int (0 : Int32))] [(.int (0 : Int32)), (.int (0 : Int32))])) _
              refine XS.icmpNo X383.here hx rfl (hb hby at_171) rfl (XT.ii_ne_f (by decide)) ?_
              show Steps p.tables e below (T383.setTop (mkF m 174 #[.val (.int p0), .val (.int p1), .val (.int p2), .val (.int p3), .val (.int (3 : Int32)), .val (.int c0), .val (.int c1), .val (.int c2), .val (.ref b), .val (.ref a362), .val (.int (0 : Int32))] [])) _
              refine XS.iconst X383.here hx rfl (hb hby at_174) ?_
              show Steps p.tables e below (T383.setTop (mkF m 175 #[.val (.int p0), .val (.int p1), .val (.int p2), .val (.int p3), .val (.int (3 : Int32)), .val (.int c0), .val (.int c1), .val (.int c2), .val (.ref b), .val (.ref a362), .val (.int (0 : Int32))] [(.int (1 : Int32))])) _
              refine XS.goto X383.here hx rfl (pc0 := 175) (pc' := 179) rfl (hb hby at_175) (by decide) (by decide) ?_
              exact kk_)
            obtain ⟨fs, hr, hrun, hended, hW, hsame⟩ := X383.leave (v := some (.int (1 : Int32))) (fun h => by rw [Bd.returns] at h; cases h)
            refine ⟨_, _, ?_, hrun, hended, _, _, rfl, ?_, ReturnedEndW.of_narrow ⟨_, rfl⟩ hW (hsame.mono (by decide) (by decide))⟩
            · rw [← hG]; exact S386 _ (retN X383 hx (t := .boolean) Bd.returns (by simp) (hb hby at_179) hr)
            · show Q0 Z p0 p1 p2 p3 h0 n0 _ T383.heap _
              rw [e383]
              exact ⟨rfl, M383⟩
      · have _ := e371
        have S387 : own_Go p e below s₁ G T371 (mkF m 141 #[.val (.int p0), .val (.int p1), .val (.int p2), .val (.int p3), .val (.int (3 : Int32)), .val (.int c0), .val (.int c1), .val (.int c2), .val (.ref b), .val (.ref a362), .val (.int (0 : Int32))] [(.int (0 : Int32))]) := fun tg_ kk_ => S370 tg_ (st371 tg_ kk_)
        have M371 := Fr.app M368 N371
        have S388 : own_Go p e below s₁ G T371 (mkF m 155 #[.val (.int p0), .val (.int p1), .val (.int p2), .val (.int p3), .val (.int (3 : Int32)), .val (.int c0), .val (.int c1), .val (.int c2), .val (.ref b), .val (.ref a362), .val (.int (0 : Int32))] [(.int c2)]) := fun tg_ kk_ => S387 tg_ (by
          refine XS.ifYes X371.here hx rfl (pc0 := 141) (pc' := 147) rfl (hb hby at_141) rfl (XT.i0_eq_t (by decide)) (by decide) (by decide) ?_
          show Steps p.tables e below (T371.setTop (mkF m 147 #[.val (.int p0), .val (.int p1), .val (.int p2), .val (.int p3), .val (.int (3 : Int32)), .val (.int c0), .val (.int c1), .val (.int c2), .val (.ref b), .val (.ref a362), .val (.int (0 : Int32))] [])) _
          refine XS.iload X371.here hx rfl (hb hby at_147) rfl ?_
          show Steps p.tables e below (T371.setTop (mkF m 149 #[.val (.int p0), .val (.int p1), .val (.int p2), .val (.int p3), .val (.int (3 : Int32)), .val (.int c0), .val (.int c1), .val (.int c2), .val (.ref b), .val (.ref a362), .val (.int (0 : Int32))] [(.int (3 : Int32))])) _
          refine XS.iconst X371.here hx rfl (hb hby at_149) ?_
          show Steps p.tables e below (T371.setTop (mkF m 150 #[.val (.int p0), .val (.int p1), .val (.int p2), .val (.int p3), .val (.int (3 : Int32)), .val (.int c0), .val (.int c1), .val (.int c2), .val (.ref b), .val (.ref a362), .val (.int (0 : Int32))] [(.int (3 : Int32)), (.int (3 : Int32))])) _
          refine XS.icmpNo X371.here hx rfl (hb hby at_150) rfl (XT.ii_lt_f (by decide)) ?_
          show Steps p.tables e below (T371.setTop (mkF m 153 #[.val (.int p0), .val (.int p1), .val (.int p2), .val (.int p3), .val (.int (3 : Int32)), .val (.int c0), .val (.int c1), .val (.int c2), .val (.ref b), .val (.ref a362), .val (.int (0 : Int32))] [])) _
          refine XS.iload X371.here hx rfl (hb hby at_153) rfl ?_
          exact kk_)
        obtain ⟨_, T389, h389, L389, X389, e389, hQ389, st389⟩ := own_callS X371 hx hZ (y := (⟨"com/example/caddis/caddis/ManifestWriterCanHoldPinLaw", "bad", "(C)Z"⟩ : MethodName)) hown (hw _ (List.mem_of_getElem? (i := 80) rfl)) (hw _ (List.mem_of_getElem? (i := 81) rfl)) (hw _ (List.mem_of_getElem? (i := 2) rfl)) (hw _ (List.mem_of_getElem? (i := 82) rfl)) (by decide) 0 (g := (mkF m 155 #[.val (.int p0), .val (.int p1), .val (.int p2), .val (.int p3), .val (.int (3 : Int32)), .val (.int c0), .val (.int c1), .val (.int c2), .val (.ref b), .val (.ref a362), .val (.int (0 : Int32))] [(.int c2)])) rfl (by rw [hml]; rfl) [(.int c2)] [] (rm18 l Z a0 hw [] c2 h365 n0 Zc) (lenOf pd17 rfl) rfl (by show 2 * 0 + _ ≤ _; exact Nat.le_of_eq rfl) (hb hby at_155) (by decide) (by decide) e371 (by decide) (by decide)
        rcases hQ389 with ⟨⟨hb2, rfl⟩ | ⟨hb2, rfl⟩, N389, rfl⟩
        · have _ := e389
          have S390 : own_Go p e below s₁ G T389 (mkF m 158 #[.val (.int p0), .val (.int p1), .val (.int p2), .val (.int p3), .val (.int (3 : Int32)), .val (.int c0), .val (.int c1), .val (.int c2), .val (.ref b), .val (.ref a362), .val (.int (0 : Int32))] [(.int (1 : Int32))]) := fun tg_ kk_ => S388 tg_ (st389 tg_ kk_)
          have M389 := Fr.app M371 N389
          have S391 : own_Go p e below s₁ G T389 (mkF m 166 #[.val (.int p0), .val (.int p1), .val (.int p2), .val (.int p3), .val (.int (3 : Int32)), .val (.int c0), .val (.int c1), .val (.int c2), .val (.ref b), .val (.ref a362), .val (.int (0 : Int32))] [(.ref a362)]) := fun tg_ kk_ => S390 tg_ (by
            refine XS.ifNo X389.here hx rfl (hb hby at_158) rfl (XT.i0_eq_f (by decide)) ?_
            show Steps p.tables e below (T389.setTop (mkF m 161 #[.val (.int p0), .val (.int p1), .val (.int p2), .val (.int p3), .val (.int (3 : Int32)), .val (.int c0), .val (.int c1), .val (.int c2), .val (.ref b), .val (.ref a362), .val (.int (0 : Int32))] [])) _
            refine XS.iconst X389.here hx rfl (hb hby at_161) ?_
            show Steps p.tables e below (T389.setTop (mkF m 162 #[.val (.int p0), .val (.int p1), .val (.int p2), .val (.int p3), .val (.int (3 : Int32)), .val (.int c0), .val (.int c1), .val (.int c2), .val (.ref b), .val (.ref a362), .val (.int (0 : Int32))] [(.int (0 : Int32))])) _
            refine XS.istore X389.here hx rfl (hb hby at_162) rfl (l' := #[.val (.int p0), .val (.int p1), .val (.int p2), .val (.int p3), .val (.int (3 : Int32)), .val (.int c0), .val (.int c1), .val (.int c2), .val (.ref b), .val (.ref a362), .val (.int (0 : Int32))]) rfl ?_
            show Steps p.tables e below (T389.setTop (mkF m 164 #[.val (.int p0), .val (.int p1), .val (.int p2), .val (.int p3), .val (.int (3 : Int32)), .val (.int c0), .val (.int c1), .val (.int c2), .val (.ref b), .val (.ref a362), .val (.int (0 : Int32))] [])) _
            refine XS.aload X389.here hx rfl (hb hby at_164) rfl rfl ?_
            exact kk_)
          obtain ⟨_, T392, h392, L392, X392, e392, hQ392, st392⟩ := own_callS X389 hx hZ (y := (⟨"com/example/caddis/caddis/ManifestWriter", "canHold", "(Ljava/lang/String;)Z"⟩ : MethodName)) hown (hw _ (List.mem_of_getElem? (i := 26) rfl)) (hw _ (List.mem_of_getElem? (i := 27) rfl)) (hw _ (List.mem_of_getElem? (i := 28) rfl)) (hw _ (List.mem_of_getElem? (i := 29) rfl)) (by decide) 0 (g := (mkF m 166 #[.val (.int p0), .val (.int p1), .val (.int p2), .val (.int p3), .val (.int (3 : Int32)), .val (.int c0), .val (.int c1), .val (.int c2), .val (.ref b), .val (.ref a362), .val (.int (0 : Int32))] [(.ref a362)])) rfl (by rw [hml]; rfl) [(.ref a362)] [] (rm5 l Z a0 hw [] a362 t [c0, c1, c2] h365 n0 Zc z Oc O2 P5 SS (by simp) hch A16 fm hfm SF) (lenOf pd6 rfl) rfl (by show 2 * 0 + _ ≤ _; exact Nat.le_of_eq rfl) (hb hby at_166) (by decide) (by decide) e389 (by decide) (by decide)
          rcases hQ392 with ⟨⟨hall, rfl⟩ | ⟨⟨j, hj, hbj⟩, rfl⟩, N392, rfl⟩
          · have _ := e392
            have S393 : own_Go p e below s₁ G T392 (mkF m 169 #[.val (.int p0), .val (.int p1), .val (.int p2), .val (.int p3), .val (.int (3 : Int32)), .val (.int c0), .val (.int c1), .val (.int c2), .val (.ref b), .val (.ref a362), .val (.int (0 : Int32))] [(.int (1 : Int32))]) := fun tg_ kk_ => S391 tg_ (st392 tg_ kk_)
            have M392 := Fr.app M389 N392
            exact absurd (hall 0 (by simp)) (by simp [hb0])
          · have _ := e392
            have S394 : own_Go p e below s₁ G T392 (mkF m 169 #[.val (.int p0), .val (.int p1), .val (.int p2), .val (.int p3), .val (.int (3 : Int32)), .val (.int c0), .val (.int c1), .val (.int c2), .val (.ref b), .val (.ref a362), .val (.int (0 : Int32))] [(.int (0 : Int32))]) := fun tg_ kk_ => S391 tg_ (st392 tg_ kk_)
            have M392 := Fr.app M389 N392
            have S395 : own_Go p e below s₁ G T392 (mkF m 179 #[.val (.int p0), .val (.int p1), .val (.int p2), .val (.int p3), .val (.int (3 : Int32)), .val (.int c0), .val (.int c1), .val (.int c2), .val (.ref b), .val (.ref a362), .val (.int (0 : Int32))] [(.int (1 : Int32))]) := fun tg_ kk_ => S394 tg_ (by
              refine XS.iload X392.here hx rfl (hb hby at_169) rfl ?_
              show Steps p.tables e below (T392.setTop (mkF m 171 #[.val (.int p0), .val (.int p1), .val (.int p2), .val (.int p3), .val (.int (3 : Int32)), .val (.int c0), .val (.int c1), .val (.int c2), .val (.ref b), .val (.ref a362), .val (.int (0 : Int32))] [(.int (0 : Int32)), (.int (0 : Int32))])) _
              refine XS.icmpNo X392.here hx rfl (hb hby at_171) rfl (XT.ii_ne_f (by decide)) ?_
              show Steps p.tables e below (T392.setTop (mkF m 174 #[.val (.int p0), .val (.int p1), .val (.int p2), .val (.int p3), .val (.int (3 : Int32)), .val (.int c0), .val (.int c1), .val (.int c2), .val (.ref b), .val (.ref a362), .val (.int (0 : Int32))] [])) _
              refine XS.iconst X392.here hx rfl (hb hby at_174) ?_
              show Steps p.tables e below (T392.setTop (mkF m 175 #[.val (.int p0), .val (.int p1), .val (.int p2), .val (.int p3), .val (.int (3 : Int32)), .val (.int c0), .val (.int c1), .val (.int c2), .val (.ref b), .val (.ref a362), .val (.int (0 : Int32))] [(.int (1 : Int32))])) _
              refine XS.goto X392.here hx rfl (pc0 := 175) (pc' := 179) rfl (hb hby at_175) (by decide) (by decide) ?_
              exact kk_)
            obtain ⟨fs, hr, hrun, hended, hW, hsame⟩ := X392.leave (v := some (.int (1 : Int32))) (fun h => by rw [Bd.returns] at h; cases h)
            refine ⟨_, _, ?_, hrun, hended, _, _, rfl, ?_, ReturnedEndW.of_narrow ⟨_, rfl⟩ hW (hsame.mono (by decide) (by decide))⟩
            · rw [← hG]; exact S395 _ (retN X392 hx (t := .boolean) Bd.returns (by simp) (hb hby at_179) hr)
            · show Q0 Z p0 p1 p2 p3 h0 n0 _ T392.heap _
              rw [e392]
              exact ⟨rfl, M392⟩
        · have _ := e389
          have S396 : own_Go p e below s₁ G T389 (mkF m 158 #[.val (.int p0), .val (.int p1), .val (.int p2), .val (.int p3), .val (.int (3 : Int32)), .val (.int c0), .val (.int c1), .val (.int c2), .val (.ref b), .val (.ref a362), .val (.int (0 : Int32))] [(.int (0 : Int32))]) := fun tg_ kk_ => S388 tg_ (st389 tg_ kk_)
          have M389 := Fr.app M371 N389
          have S397 : own_Go p e below s₁ G T389 (mkF m 166 #[.val (.int p0), .val (.int p1), .val (.int p2), .val (.int p3), .val (.int (3 : Int32)), .val (.int c0), .val (.int c1), .val (.int c2), .val (.ref b), .val (.ref a362), .val (.int (0 : Int32))] [(.ref a362)]) := fun tg_ kk_ => S396 tg_ (by
            refine XS.ifYes X389.here hx rfl (pc0 := 158) (pc' := 164) rfl (hb hby at_158) rfl (XT.i0_eq_t (by decide)) (by decide) (by decide) ?_
            show Steps p.tables e below (T389.setTop (mkF m 164 #[.val (.int p0), .val (.int p1), .val (.int p2), .val (.int p3), .val (.int (3 : Int32)), .val (.int c0), .val (.int c1), .val (.int c2), .val (.ref b), .val (.ref a362), .val (.int (0 : Int32))] [])) _
            refine XS.aload X389.here hx rfl (hb hby at_164) rfl rfl ?_
            exact kk_)
          obtain ⟨_, T398, h398, L398, X398, e398, hQ398, st398⟩ := own_callS X389 hx hZ (y := (⟨"com/example/caddis/caddis/ManifestWriter", "canHold", "(Ljava/lang/String;)Z"⟩ : MethodName)) hown (hw _ (List.mem_of_getElem? (i := 26) rfl)) (hw _ (List.mem_of_getElem? (i := 27) rfl)) (hw _ (List.mem_of_getElem? (i := 28) rfl)) (hw _ (List.mem_of_getElem? (i := 29) rfl)) (by decide) 0 (g := (mkF m 166 #[.val (.int p0), .val (.int p1), .val (.int p2), .val (.int p3), .val (.int (3 : Int32)), .val (.int c0), .val (.int c1), .val (.int c2), .val (.ref b), .val (.ref a362), .val (.int (0 : Int32))] [(.ref a362)])) rfl (by rw [hml]; rfl) [(.ref a362)] [] (rm5 l Z a0 hw [] a362 t [c0, c1, c2] h365 n0 Zc z Oc O2 P5 SS (by simp) hch A16 fm hfm SF) (lenOf pd6 rfl) rfl (by show 2 * 0 + _ ≤ _; exact Nat.le_of_eq rfl) (hb hby at_166) (by decide) (by decide) e389 (by decide) (by decide)
          rcases hQ398 with ⟨⟨hall, rfl⟩ | ⟨⟨j, hj, hbj⟩, rfl⟩, N398, rfl⟩
          · have _ := e398
            have S399 : own_Go p e below s₁ G T398 (mkF m 169 #[.val (.int p0), .val (.int p1), .val (.int p2), .val (.int p3), .val (.int (3 : Int32)), .val (.int c0), .val (.int c1), .val (.int c2), .val (.ref b), .val (.ref a362), .val (.int (0 : Int32))] [(.int (1 : Int32))]) := fun tg_ kk_ => S397 tg_ (st398 tg_ kk_)
            have M398 := Fr.app M389 N398
            exact absurd (hall 0 (by simp)) (by simp [hb0])
          · have _ := e398
            have S400 : own_Go p e below s₁ G T398 (mkF m 169 #[.val (.int p0), .val (.int p1), .val (.int p2), .val (.int p3), .val (.int (3 : Int32)), .val (.int c0), .val (.int c1), .val (.int c2), .val (.ref b), .val (.ref a362), .val (.int (0 : Int32))] [(.int (0 : Int32))]) := fun tg_ kk_ => S397 tg_ (st398 tg_ kk_)
            have M398 := Fr.app M389 N398
            have S401 : own_Go p e below s₁ G T398 (mkF m 179 #[.val (.int p0), .val (.int p1), .val (.int p2), .val (.int p3), .val (.int (3 : Int32)), .val (.int c0), .val (.int c1), .val (.int c2), .val (.ref b), .val (.ref a362), .val (.int (0 : Int32))] [(.int (1 : Int32))]) := fun tg_ kk_ => S400 tg_ (by
              refine XS.iload X398.here hx rfl (hb hby at_169) rfl ?_
              show Steps p.tables e below (T398.setTop (mkF m 171 #[.val (.int p0), .val (.int p1), .val (.int p2), .val (.int p3), .val (.int (3 : Int32)), .val (.int c0), .val (.int c1), .val (.int c2), .val (.ref b), .val (.ref a362), .val (.int (0 : Int32))] [(.int (0 : Int32)), (.int (0 : Int32))])) _
              refine XS.icmpNo X398.here hx rfl (hb hby at_171) rfl (XT.ii_ne_f (by decide)) ?_
              show Steps p.tables e below (T398.setTop (mkF m 174 #[.val (.int p0), .val (.int p1), .val (.int p2), .val (.int p3), .val (.int (3 : Int32)), .val (.int c0), .val (.int c1), .val (.int c2), .val (.ref b), .val (.ref a362), .val (.int (0 : Int32))] [])) _
              refine XS.iconst X398.here hx rfl (hb hby at_174) ?_
              show Steps p.tables e below (T398.setTop (mkF m 175 #[.val (.int p0), .val (.int p1), .val (.int p2), .val (.int p3), .val (.int (3 : Int32)), .val (.int c0), .val (.int c1), .val (.int c2), .val (.ref b), .val (.ref a362), .val (.int (0 : Int32))] [(.int (1 : Int32))])) _
              refine XS.goto X398.here hx rfl (pc0 := 175) (pc' := 179) rfl (hb hby at_175) (by decide) (by decide) ?_
              exact kk_)
            obtain ⟨fs, hr, hrun, hended, hW, hsame⟩ := X398.leave (v := some (.int (1 : Int32))) (fun h => by rw [Bd.returns] at h; cases h)
            refine ⟨_, _, ?_, hrun, hended, _, _, rfl, ?_, ReturnedEndW.of_narrow ⟨_, rfl⟩ hW (hsame.mono (by decide) (by decide))⟩
            · rw [← hG]; exact S401 _ (retN X398 hx (t := .boolean) Bd.returns (by simp) (hb hby at_179) hr)
            · show Q0 Z p0 p1 p2 p3 h0 n0 _ T398.heap _
              rw [e398]
              exact ⟨rfl, M398⟩
    · have _ := e368
      have S402 : own_Go p e below s₁ G T368 (mkF m 124 #[.val (.int p0), .val (.int p1), .val (.int p2), .val (.int p3), .val (.int (3 : Int32)), .val (.int c0), .val (.int c1), .val (.int c2), .val (.ref b), .val (.ref a362), .val (.int (1 : Int32))] [(.int (0 : Int32))]) := fun tg_ kk_ => S367 tg_ (st368 tg_ kk_)
      have M368 := Fr.app NC N368
      have S403 : own_Go p e below s₁ G T368 (mkF m 138 #[.val (.int p0), .val (.int p1), .val (.int p2), .val (.int p3), .val (.int (3 : Int32)), .val (.int c0), .val (.int c1), .val (.int c2), .val (.ref b), .val (.ref a362), .val (.int (1 : Int32))] [(.int c1)]) := fun tg_ kk_ => S402 tg_ (by
        refine XS.ifYes X368.here hx rfl (pc0 := 124) (pc' := 130) rfl (hb hby at_124) rfl (XT.i0_eq_t (by decide)) (by decide) (by decide) ?_
        show Steps p.tables e below (T368.setTop (mkF m 130 #[.val (.int p0), .val (.int p1), .val (.int p2), .val (.int p3), .val (.int (3 : Int32)), .val (.int c0), .val (.int c1), .val (.int c2), .val (.ref b), .val (.ref a362), .val (.int (1 : Int32))] [])) _
        refine XS.iload X368.here hx rfl (hb hby at_130) rfl ?_
        show Steps p.tables e below (T368.setTop (mkF m 132 #[.val (.int p0), .val (.int p1), .val (.int p2), .val (.int p3), .val (.int (3 : Int32)), .val (.int c0), .val (.int c1), .val (.int c2), .val (.ref b), .val (.ref a362), .val (.int (1 : Int32))] [(.int (3 : Int32))])) _
        refine XS.iconst X368.here hx rfl (hb hby at_132) ?_
        show Steps p.tables e below (T368.setTop (mkF m 133 #[.val (.int p0), .val (.int p1), .val (.int p2), .val (.int p3), .val (.int (3 : Int32)), .val (.int c0), .val (.int c1), .val (.int c2), .val (.ref b), .val (.ref a362), .val (.int (1 : Int32))] [(.int (2 : Int32)), (.int (3 : Int32))])) _
        refine XS.icmpNo X368.here hx rfl (hb hby at_133) rfl (XT.ii_lt_f (by decide)) ?_
        show Steps p.tables e below (T368.setTop (mkF m 136 #[.val (.int p0), .val (.int p1), .val (.int p2), .val (.int p3), .val (.int (3 : Int32)), .val (.int c0), .val (.int c1), .val (.int c2), .val (.ref b), .val (.ref a362), .val (.int (1 : Int32))] [])) _
        refine XS.iload X368.here hx rfl (hb hby at_136) rfl ?_
        exact kk_)
      obtain ⟨_, T404, h404, L404, X404, e404, hQ404, st404⟩ := own_callS X368 hx hZ (y := (⟨"com/example/caddis/caddis/ManifestWriterCanHoldPinLaw", "bad", "(C)Z"⟩ : MethodName)) hown (hw _ (List.mem_of_getElem? (i := 80) rfl)) (hw _ (List.mem_of_getElem? (i := 81) rfl)) (hw _ (List.mem_of_getElem? (i := 2) rfl)) (hw _ (List.mem_of_getElem? (i := 82) rfl)) (by decide) 0 (g := (mkF m 138 #[.val (.int p0), .val (.int p1), .val (.int p2), .val (.int p3), .val (.int (3 : Int32)), .val (.int c0), .val (.int c1), .val (.int c2), .val (.ref b), .val (.ref a362), .val (.int (1 : Int32))] [(.int c1)])) rfl (by rw [hml]; rfl) [(.int c1)] [] (rm18 l Z a0 hw [] c1 h365 n0 Zc) (lenOf pd17 rfl) rfl (by show 2 * 0 + _ ≤ _; exact Nat.le_of_eq rfl) (hb hby at_138) (by decide) (by decide) e368 (by decide) (by decide)
      rcases hQ404 with ⟨⟨hb1, rfl⟩ | ⟨hb1, rfl⟩, N404, rfl⟩
      · have _ := e404
        have S405 : own_Go p e below s₁ G T404 (mkF m 141 #[.val (.int p0), .val (.int p1), .val (.int p2), .val (.int p3), .val (.int (3 : Int32)), .val (.int c0), .val (.int c1), .val (.int c2), .val (.ref b), .val (.ref a362), .val (.int (1 : Int32))] [(.int (1 : Int32))]) := fun tg_ kk_ => S403 tg_ (st404 tg_ kk_)
        have M404 := Fr.app M368 N404
        have S406 : own_Go p e below s₁ G T404 (mkF m 155 #[.val (.int p0), .val (.int p1), .val (.int p2), .val (.int p3), .val (.int (3 : Int32)), .val (.int c0), .val (.int c1), .val (.int c2), .val (.ref b), .val (.ref a362), .val (.int (0 : Int32))] [(.int c2)]) := fun tg_ kk_ => S405 tg_ (by
          refine XS.ifNo X404.here hx rfl (hb hby at_141) rfl (XT.i0_eq_f (by decide)) ?_
          show Steps p.tables e below (T404.setTop (mkF m 144 #[.val (.int p0), .val (.int p1), .val (.int p2), .val (.int p3), .val (.int (3 : Int32)), .val (.int c0), .val (.int c1), .val (.int c2), .val (.ref b), .val (.ref a362), .val (.int (1 : Int32))] [])) _
          refine XS.iconst X404.here hx rfl (hb hby at_144) ?_
          show Steps p.tables e below (T404.setTop (mkF m 145 #[.val (.int p0), .val (.int p1), .val (.int p2), .val (.int p3), .val (.int (3 : Int32)), .val (.int c0), .val (.int c1), .val (.int c2), .val (.ref b), .val (.ref a362), .val (.int (1 : Int32))] [(.int (0 : Int32))])) _
          refine XS.istore X404.here hx rfl (hb hby at_145) rfl (l' := #[.val (.int p0), .val (.int p1), .val (.int p2), .val (.int p3), .val (.int (3 : Int32)), .val (.int c0), .val (.int c1), .val (.int c2), .val (.ref b), .val (.ref a362), .val (.int (0 : Int32))]) rfl ?_
          show Steps p.tables e below (T404.setTop (mkF m 147 #[.val (.int p0), .val (.int p1), .val (.int p2), .val (.int p3), .val (.int (3 : Int32)), .val (.int c0), .val (.int c1), .val (.int c2), .val (.ref b), .val (.ref a362), .val (.int (0 : Int32))] [])) _
          refine XS.iload X404.here hx rfl (hb hby at_147) rfl ?_
          show Steps p.tables e below (T404.setTop (mkF m 149 #[.val (.int p0), .val (.int p1), .val (.int p2), .val (.int p3), .val (.int (3 : Int32)), .val (.int c0), .val (.int c1), .val (.int c2), .val (.ref b), .val (.ref a362), .val (.int (0 : Int32))] [(.int (3 : Int32))])) _
          refine XS.iconst X404.here hx rfl (hb hby at_149) ?_
          show Steps p.tables e below (T404.setTop (mkF m 150 #[.val (.int p0), .val (.int p1), .val (.int p2), .val (.int p3), .val (.int (3 : Int32)), .val (.int c0), .val (.int c1), .val (.int c2), .val (.ref b), .val (.ref a362), .val (.int (0 : Int32))] [(.int (3 : Int32)), (.int (3 : Int32))])) _
          refine XS.icmpNo X404.here hx rfl (hb hby at_150) rfl (XT.ii_lt_f (by decide)) ?_
          show Steps p.tables e below (T404.setTop (mkF m 153 #[.val (.int p0), .val (.int p1), .val (.int p2), .val (.int p3), .val (.int (3 : Int32)), .val (.int c0), .val (.int c1), .val (.int c2), .val (.ref b), .val (.ref a362), .val (.int (0 : Int32))] [])) _
          refine XS.iload X404.here hx rfl (hb hby at_153) rfl ?_
          exact kk_)
        obtain ⟨_, T407, h407, L407, X407, e407, hQ407, st407⟩ := own_callS X404 hx hZ (y := (⟨"com/example/caddis/caddis/ManifestWriterCanHoldPinLaw", "bad", "(C)Z"⟩ : MethodName)) hown (hw _ (List.mem_of_getElem? (i := 80) rfl)) (hw _ (List.mem_of_getElem? (i := 81) rfl)) (hw _ (List.mem_of_getElem? (i := 2) rfl)) (hw _ (List.mem_of_getElem? (i := 82) rfl)) (by decide) 0 (g := (mkF m 155 #[.val (.int p0), .val (.int p1), .val (.int p2), .val (.int p3), .val (.int (3 : Int32)), .val (.int c0), .val (.int c1), .val (.int c2), .val (.ref b), .val (.ref a362), .val (.int (0 : Int32))] [(.int c2)])) rfl (by rw [hml]; rfl) [(.int c2)] [] (rm18 l Z a0 hw [] c2 h365 n0 Zc) (lenOf pd17 rfl) rfl (by show 2 * 0 + _ ≤ _; exact Nat.le_of_eq rfl) (hb hby at_155) (by decide) (by decide) e404 (by decide) (by decide)
        rcases hQ407 with ⟨⟨hb2, rfl⟩ | ⟨hb2, rfl⟩, N407, rfl⟩
        · have _ := e407
          have S408 : own_Go p e below s₁ G T407 (mkF m 158 #[.val (.int p0), .val (.int p1), .val (.int p2), .val (.int p3), .val (.int (3 : Int32)), .val (.int c0), .val (.int c1), .val (.int c2), .val (.ref b), .val (.ref a362), .val (.int (0 : Int32))] [(.int (1 : Int32))]) := fun tg_ kk_ => S406 tg_ (st407 tg_ kk_)
          have M407 := Fr.app M404 N407
          have S409 : own_Go p e below s₁ G T407 (mkF m 166 #[.val (.int p0), .val (.int p1), .val (.int p2), .val (.int p3), .val (.int (3 : Int32)), .val (.int c0), .val (.int c1), .val (.int c2), .val (.ref b), .val (.ref a362), .val (.int (0 : Int32))] [(.ref a362)]) := fun tg_ kk_ => S408 tg_ (by
            refine XS.ifNo X407.here hx rfl (hb hby at_158) rfl (XT.i0_eq_f (by decide)) ?_
            show Steps p.tables e below (T407.setTop (mkF m 161 #[.val (.int p0), .val (.int p1), .val (.int p2), .val (.int p3), .val (.int (3 : Int32)), .val (.int c0), .val (.int c1), .val (.int c2), .val (.ref b), .val (.ref a362), .val (.int (0 : Int32))] [])) _
            refine XS.iconst X407.here hx rfl (hb hby at_161) ?_
            show Steps p.tables e below (T407.setTop (mkF m 162 #[.val (.int p0), .val (.int p1), .val (.int p2), .val (.int p3), .val (.int (3 : Int32)), .val (.int c0), .val (.int c1), .val (.int c2), .val (.ref b), .val (.ref a362), .val (.int (0 : Int32))] [(.int (0 : Int32))])) _
            refine XS.istore X407.here hx rfl (hb hby at_162) rfl (l' := #[.val (.int p0), .val (.int p1), .val (.int p2), .val (.int p3), .val (.int (3 : Int32)), .val (.int c0), .val (.int c1), .val (.int c2), .val (.ref b), .val (.ref a362), .val (.int (0 : Int32))]) rfl ?_
            show Steps p.tables e below (T407.setTop (mkF m 164 #[.val (.int p0), .val (.int p1), .val (.int p2), .val (.int p3), .val (.int (3 : Int32)), .val (.int c0), .val (.int c1), .val (.int c2), .val (.ref b), .val (.ref a362), .val (.int (0 : Int32))] [])) _
            refine XS.aload X407.here hx rfl (hb hby at_164) rfl rfl ?_
            exact kk_)
          obtain ⟨_, T410, h410, L410, X410, e410, hQ410, st410⟩ := own_callS X407 hx hZ (y := (⟨"com/example/caddis/caddis/ManifestWriter", "canHold", "(Ljava/lang/String;)Z"⟩ : MethodName)) hown (hw _ (List.mem_of_getElem? (i := 26) rfl)) (hw _ (List.mem_of_getElem? (i := 27) rfl)) (hw _ (List.mem_of_getElem? (i := 28) rfl)) (hw _ (List.mem_of_getElem? (i := 29) rfl)) (by decide) 0 (g := (mkF m 166 #[.val (.int p0), .val (.int p1), .val (.int p2), .val (.int p3), .val (.int (3 : Int32)), .val (.int c0), .val (.int c1), .val (.int c2), .val (.ref b), .val (.ref a362), .val (.int (0 : Int32))] [(.ref a362)])) rfl (by rw [hml]; rfl) [(.ref a362)] [] (rm5 l Z a0 hw [] a362 t [c0, c1, c2] h365 n0 Zc z Oc O2 P5 SS (by simp) hch A16 fm hfm SF) (lenOf pd6 rfl) rfl (by show 2 * 0 + _ ≤ _; exact Nat.le_of_eq rfl) (hb hby at_166) (by decide) (by decide) e407 (by decide) (by decide)
          rcases hQ410 with ⟨⟨hall, rfl⟩ | ⟨⟨j, hj, hbj⟩, rfl⟩, N410, rfl⟩
          · have _ := e410
            have S411 : own_Go p e below s₁ G T410 (mkF m 169 #[.val (.int p0), .val (.int p1), .val (.int p2), .val (.int p3), .val (.int (3 : Int32)), .val (.int c0), .val (.int c1), .val (.int c2), .val (.ref b), .val (.ref a362), .val (.int (0 : Int32))] [(.int (1 : Int32))]) := fun tg_ kk_ => S409 tg_ (st410 tg_ kk_)
            have M410 := Fr.app M407 N410
            exact absurd (hall 1 (by simp)) (by simp [hb1])
          · have _ := e410
            have S412 : own_Go p e below s₁ G T410 (mkF m 169 #[.val (.int p0), .val (.int p1), .val (.int p2), .val (.int p3), .val (.int (3 : Int32)), .val (.int c0), .val (.int c1), .val (.int c2), .val (.ref b), .val (.ref a362), .val (.int (0 : Int32))] [(.int (0 : Int32))]) := fun tg_ kk_ => S409 tg_ (st410 tg_ kk_)
            have M410 := Fr.app M407 N410
            have S413 : own_Go p e below s₁ G T410 (mkF m 179 #[.val (.int p0), .val (.int p1), .val (.int p2), .val (.int p3), .val (.int (3 : Int32)), .val (.int c0), .val (.int c1), .val (.int c2), .val (.ref b), .val (.ref a362), .val (.int (0 : Int32))] [(.int (1 : Int32))]) := fun tg_ kk_ => S412 tg_ (by
              refine XS.iload X410.here hx rfl (hb hby at_169) rfl ?_
              show Steps p.tables e below (T410.setTop (mkF m 171 #[.val (.int p0), .val (.int p1), .val (.int p2), .val (.int p3), .val (.int (3 : Int32)), .val (.int c0), .val (.int c1), .val (.int c2), .val (.ref b), .val (.ref a362), .val (.int (0 : Int32))] [(.int (0 : Int32)), (.int (0 : Int32))])) _
              refine XS.icmpNo X410.here hx rfl (hb hby at_171) rfl (XT.ii_ne_f (by decide)) ?_
              show Steps p.tables e below (T410.setTop (mkF m 174 #[.val (.int p0), .val (.int p1), .val (.int p2), .val (.int p3), .val (.int (3 : Int32)), .val (.int c0), .val (.int c1), .val (.int c2), .val (.ref b), .val (.ref a362), .val (.int (0 : Int32))] [])) _
              refine XS.iconst X410.here hx rfl (hb hby at_174) ?_
              show Steps p.tables e below (T410.setTop (mkF m 175 #[.val (.int p0), .val (.int p1), .val (.int p2), .val (.int p3), .val (.int (3 : Int32)), .val (.int c0), .val (.int c1), .val (.int c2), .val (.ref b), .val (.ref a362), .val (.int (0 : Int32))] [(.int (1 : Int32))])) _
              refine XS.goto X410.here hx rfl (pc0 := 175) (pc' := 179) rfl (hb hby at_175) (by decide) (by decide) ?_
              exact kk_)
            obtain ⟨fs, hr, hrun, hended, hW, hsame⟩ := X410.leave (v := some (.int (1 : Int32))) (fun h => by rw [Bd.returns] at h; cases h)
            refine ⟨_, _, ?_, hrun, hended, _, _, rfl, ?_, ReturnedEndW.of_narrow ⟨_, rfl⟩ hW (hsame.mono (by decide) (by decide))⟩
            · rw [← hG]; exact S413 _ (retN X410 hx (t := .boolean) Bd.returns (by simp) (hb hby at_179) hr)
            · show Q0 Z p0 p1 p2 p3 h0 n0 _ T410.heap _
              rw [e410]
              exact ⟨rfl, M410⟩
        · have _ := e407
          have S414 : own_Go p e below s₁ G T407 (mkF m 158 #[.val (.int p0), .val (.int p1), .val (.int p2), .val (.int p3), .val (.int (3 : Int32)), .val (.int c0), .val (.int c1), .val (.int c2), .val (.ref b), .val (.ref a362), .val (.int (0 : Int32))] [(.int (0 : Int32))]) := fun tg_ kk_ => S406 tg_ (st407 tg_ kk_)
          have M407 := Fr.app M404 N407
          have S415 : own_Go p e below s₁ G T407 (mkF m 166 #[.val (.int p0), .val (.int p1), .val (.int p2), .val (.int p3), .val (.int (3 : Int32)), .val (.int c0), .val (.int c1), .val (.int c2), .val (.ref b), .val (.ref a362), .val (.int (0 : Int32))] [(.ref a362)]) := fun tg_ kk_ => S414 tg_ (by
            refine XS.ifYes X407.here hx rfl (pc0 := 158) (pc' := 164) rfl (hb hby at_158) rfl (XT.i0_eq_t (by decide)) (by decide) (by decide) ?_
            show Steps p.tables e below (T407.setTop (mkF m 164 #[.val (.int p0), .val (.int p1), .val (.int p2), .val (.int p3), .val (.int (3 : Int32)), .val (.int c0), .val (.int c1), .val (.int c2), .val (.ref b), .val (.ref a362), .val (.int (0 : Int32))] [])) _
            refine XS.aload X407.here hx rfl (hb hby at_164) rfl rfl ?_
            exact kk_)
          obtain ⟨_, T416, h416, L416, X416, e416, hQ416, st416⟩ := own_callS X407 hx hZ (y := (⟨"com/example/caddis/caddis/ManifestWriter", "canHold", "(Ljava/lang/String;)Z"⟩ : MethodName)) hown (hw _ (List.mem_of_getElem? (i := 26) rfl)) (hw _ (List.mem_of_getElem? (i := 27) rfl)) (hw _ (List.mem_of_getElem? (i := 28) rfl)) (hw _ (List.mem_of_getElem? (i := 29) rfl)) (by decide) 0 (g := (mkF m 166 #[.val (.int p0), .val (.int p1), .val (.int p2), .val (.int p3), .val (.int (3 : Int32)), .val (.int c0), .val (.int c1), .val (.int c2), .val (.ref b), .val (.ref a362), .val (.int (0 : Int32))] [(.ref a362)])) rfl (by rw [hml]; rfl) [(.ref a362)] [] (rm5 l Z a0 hw [] a362 t [c0, c1, c2] h365 n0 Zc z Oc O2 P5 SS (by simp) hch A16 fm hfm SF) (lenOf pd6 rfl) rfl (by show 2 * 0 + _ ≤ _; exact Nat.le_of_eq rfl) (hb hby at_166) (by decide) (by decide) e407 (by decide) (by decide)
          rcases hQ416 with ⟨⟨hall, rfl⟩ | ⟨⟨j, hj, hbj⟩, rfl⟩, N416, rfl⟩
          · have _ := e416
            have S417 : own_Go p e below s₁ G T416 (mkF m 169 #[.val (.int p0), .val (.int p1), .val (.int p2), .val (.int p3), .val (.int (3 : Int32)), .val (.int c0), .val (.int c1), .val (.int c2), .val (.ref b), .val (.ref a362), .val (.int (0 : Int32))] [(.int (1 : Int32))]) := fun tg_ kk_ => S415 tg_ (st416 tg_ kk_)
            have M416 := Fr.app M407 N416
            exact absurd (hall 1 (by simp)) (by simp [hb1])
          · have _ := e416
            have S418 : own_Go p e below s₁ G T416 (mkF m 169 #[.val (.int p0), .val (.int p1), .val (.int p2), .val (.int p3), .val (.int (3 : Int32)), .val (.int c0), .val (.int c1), .val (.int c2), .val (.ref b), .val (.ref a362), .val (.int (0 : Int32))] [(.int (0 : Int32))]) := fun tg_ kk_ => S415 tg_ (st416 tg_ kk_)
            have M416 := Fr.app M407 N416
            have S419 : own_Go p e below s₁ G T416 (mkF m 179 #[.val (.int p0), .val (.int p1), .val (.int p2), .val (.int p3), .val (.int (3 : Int32)), .val (.int c0), .val (.int c1), .val (.int c2), .val (.ref b), .val (.ref a362), .val (.int (0 : Int32))] [(.int (1 : Int32))]) := fun tg_ kk_ => S418 tg_ (by
              refine XS.iload X416.here hx rfl (hb hby at_169) rfl ?_
              show Steps p.tables e below (T416.setTop (mkF m 171 #[.val (.int p0), .val (.int p1), .val (.int p2), .val (.int p3), .val (.int (3 : Int32)), .val (.int c0), .val (.int c1), .val (.int c2), .val (.ref b), .val (.ref a362), .val (.int (0 : Int32))] [(.int (0 : Int32)), (.int (0 : Int32))])) _
              refine XS.icmpNo X416.here hx rfl (hb hby at_171) rfl (XT.ii_ne_f (by decide)) ?_
              show Steps p.tables e below (T416.setTop (mkF m 174 #[.val (.int p0), .val (.int p1), .val (.int p2), .val (.int p3), .val (.int (3 : Int32)), .val (.int c0), .val (.int c1), .val (.int c2), .val (.ref b), .val (.ref a362), .val (.int (0 : Int32))] [])) _
              refine XS.iconst X416.here hx rfl (hb hby at_174) ?_
              show Steps p.tables e below (T416.setTop (mkF m 175 #[.val (.int p0), .val (.int p1), .val (.int p2), .val (.int p3), .val (.int (3 : Int32)), .val (.int c0), .val (.int c1), .val (.int c2), .val (.ref b), .val (.ref a362), .val (.int (0 : Int32))] [(.int (1 : Int32))])) _
              refine XS.goto X416.here hx rfl (pc0 := 175) (pc' := 179) rfl (hb hby at_175) (by decide) (by decide) ?_
              exact kk_)
            obtain ⟨fs, hr, hrun, hended, hW, hsame⟩ := X416.leave (v := some (.int (1 : Int32))) (fun h => by rw [Bd.returns] at h; cases h)
            refine ⟨_, _, ?_, hrun, hended, _, _, rfl, ?_, ReturnedEndW.of_narrow ⟨_, rfl⟩ hW (hsame.mono (by decide) (by decide))⟩
            · rw [← hG]; exact S419 _ (retN X416 hx (t := .boolean) Bd.returns (by simp) (hb hby at_179) hr)
            · show Q0 Z p0 p1 p2 p3 h0 n0 _ T416.heap _
              rw [e416]
              exact ⟨rfl, M416⟩
      · have _ := e404
        have S420 : own_Go p e below s₁ G T404 (mkF m 141 #[.val (.int p0), .val (.int p1), .val (.int p2), .val (.int p3), .val (.int (3 : Int32)), .val (.int c0), .val (.int c1), .val (.int c2), .val (.ref b), .val (.ref a362), .val (.int (1 : Int32))] [(.int (0 : Int32))]) := fun tg_ kk_ => S403 tg_ (st404 tg_ kk_)
        have M404 := Fr.app M368 N404
        have S421 : own_Go p e below s₁ G T404 (mkF m 155 #[.val (.int p0), .val (.int p1), .val (.int p2), .val (.int p3), .val (.int (3 : Int32)), .val (.int c0), .val (.int c1), .val (.int c2), .val (.ref b), .val (.ref a362), .val (.int (1 : Int32))] [(.int c2)]) := fun tg_ kk_ => S420 tg_ (by
          refine XS.ifYes X404.here hx rfl (pc0 := 141) (pc' := 147) rfl (hb hby at_141) rfl (XT.i0_eq_t (by decide)) (by decide) (by decide) ?_
          show Steps p.tables e below (T404.setTop (mkF m 147 #[.val (.int p0), .val (.int p1), .val (.int p2), .val (.int p3), .val (.int (3 : Int32)), .val (.int c0), .val (.int c1), .val (.int c2), .val (.ref b), .val (.ref a362), .val (.int (1 : Int32))] [])) _
          refine XS.iload X404.here hx rfl (hb hby at_147) rfl ?_
          show Steps p.tables e below (T404.setTop (mkF m 149 #[.val (.int p0), .val (.int p1), .val (.int p2), .val (.int p3), .val (.int (3 : Int32)), .val (.int c0), .val (.int c1), .val (.int c2), .val (.ref b), .val (.ref a362), .val (.int (1 : Int32))] [(.int (3 : Int32))])) _
          refine XS.iconst X404.here hx rfl (hb hby at_149) ?_
          show Steps p.tables e below (T404.setTop (mkF m 150 #[.val (.int p0), .val (.int p1), .val (.int p2), .val (.int p3), .val (.int (3 : Int32)), .val (.int c0), .val (.int c1), .val (.int c2), .val (.ref b), .val (.ref a362), .val (.int (1 : Int32))] [(.int (3 : Int32)), (.int (3 : Int32))])) _
          refine XS.icmpNo X404.here hx rfl (hb hby at_150) rfl (XT.ii_lt_f (by decide)) ?_
          show Steps p.tables e below (T404.setTop (mkF m 153 #[.val (.int p0), .val (.int p1), .val (.int p2), .val (.int p3), .val (.int (3 : Int32)), .val (.int c0), .val (.int c1), .val (.int c2), .val (.ref b), .val (.ref a362), .val (.int (1 : Int32))] [])) _
          refine XS.iload X404.here hx rfl (hb hby at_153) rfl ?_
          exact kk_)
        obtain ⟨_, T422, h422, L422, X422, e422, hQ422, st422⟩ := own_callS X404 hx hZ (y := (⟨"com/example/caddis/caddis/ManifestWriterCanHoldPinLaw", "bad", "(C)Z"⟩ : MethodName)) hown (hw _ (List.mem_of_getElem? (i := 80) rfl)) (hw _ (List.mem_of_getElem? (i := 81) rfl)) (hw _ (List.mem_of_getElem? (i := 2) rfl)) (hw _ (List.mem_of_getElem? (i := 82) rfl)) (by decide) 0 (g := (mkF m 155 #[.val (.int p0), .val (.int p1), .val (.int p2), .val (.int p3), .val (.int (3 : Int32)), .val (.int c0), .val (.int c1), .val (.int c2), .val (.ref b), .val (.ref a362), .val (.int (1 : Int32))] [(.int c2)])) rfl (by rw [hml]; rfl) [(.int c2)] [] (rm18 l Z a0 hw [] c2 h365 n0 Zc) (lenOf pd17 rfl) rfl (by show 2 * 0 + _ ≤ _; exact Nat.le_of_eq rfl) (hb hby at_155) (by decide) (by decide) e404 (by decide) (by decide)
        rcases hQ422 with ⟨⟨hb2, rfl⟩ | ⟨hb2, rfl⟩, N422, rfl⟩
        · have _ := e422
          have S423 : own_Go p e below s₁ G T422 (mkF m 158 #[.val (.int p0), .val (.int p1), .val (.int p2), .val (.int p3), .val (.int (3 : Int32)), .val (.int c0), .val (.int c1), .val (.int c2), .val (.ref b), .val (.ref a362), .val (.int (1 : Int32))] [(.int (1 : Int32))]) := fun tg_ kk_ => S421 tg_ (st422 tg_ kk_)
          have M422 := Fr.app M404 N422
          have S424 : own_Go p e below s₁ G T422 (mkF m 166 #[.val (.int p0), .val (.int p1), .val (.int p2), .val (.int p3), .val (.int (3 : Int32)), .val (.int c0), .val (.int c1), .val (.int c2), .val (.ref b), .val (.ref a362), .val (.int (0 : Int32))] [(.ref a362)]) := fun tg_ kk_ => S423 tg_ (by
            refine XS.ifNo X422.here hx rfl (hb hby at_158) rfl (XT.i0_eq_f (by decide)) ?_
            show Steps p.tables e below (T422.setTop (mkF m 161 #[.val (.int p0), .val (.int p1), .val (.int p2), .val (.int p3), .val (.int (3 : Int32)), .val (.int c0), .val (.int c1), .val (.int c2), .val (.ref b), .val (.ref a362), .val (.int (1 : Int32))] [])) _
            refine XS.iconst X422.here hx rfl (hb hby at_161) ?_
            show Steps p.tables e below (T422.setTop (mkF m 162 #[.val (.int p0), .val (.int p1), .val (.int p2), .val (.int p3), .val (.int (3 : Int32)), .val (.int c0), .val (.int c1), .val (.int c2), .val (.ref b), .val (.ref a362), .val (.int (1 : Int32))] [(.int (0 : Int32))])) _
            refine XS.istore X422.here hx rfl (hb hby at_162) rfl (l' := #[.val (.int p0), .val (.int p1), .val (.int p2), .val (.int p3), .val (.int (3 : Int32)), .val (.int c0), .val (.int c1), .val (.int c2), .val (.ref b), .val (.ref a362), .val (.int (0 : Int32))]) rfl ?_
            show Steps p.tables e below (T422.setTop (mkF m 164 #[.val (.int p0), .val (.int p1), .val (.int p2), .val (.int p3), .val (.int (3 : Int32)), .val (.int c0), .val (.int c1), .val (.int c2), .val (.ref b), .val (.ref a362), .val (.int (0 : Int32))] [])) _
            refine XS.aload X422.here hx rfl (hb hby at_164) rfl rfl ?_
            exact kk_)
          obtain ⟨_, T425, h425, L425, X425, e425, hQ425, st425⟩ := own_callS X422 hx hZ (y := (⟨"com/example/caddis/caddis/ManifestWriter", "canHold", "(Ljava/lang/String;)Z"⟩ : MethodName)) hown (hw _ (List.mem_of_getElem? (i := 26) rfl)) (hw _ (List.mem_of_getElem? (i := 27) rfl)) (hw _ (List.mem_of_getElem? (i := 28) rfl)) (hw _ (List.mem_of_getElem? (i := 29) rfl)) (by decide) 0 (g := (mkF m 166 #[.val (.int p0), .val (.int p1), .val (.int p2), .val (.int p3), .val (.int (3 : Int32)), .val (.int c0), .val (.int c1), .val (.int c2), .val (.ref b), .val (.ref a362), .val (.int (0 : Int32))] [(.ref a362)])) rfl (by rw [hml]; rfl) [(.ref a362)] [] (rm5 l Z a0 hw [] a362 t [c0, c1, c2] h365 n0 Zc z Oc O2 P5 SS (by simp) hch A16 fm hfm SF) (lenOf pd6 rfl) rfl (by show 2 * 0 + _ ≤ _; exact Nat.le_of_eq rfl) (hb hby at_166) (by decide) (by decide) e422 (by decide) (by decide)
          rcases hQ425 with ⟨⟨hall, rfl⟩ | ⟨⟨j, hj, hbj⟩, rfl⟩, N425, rfl⟩
          · have _ := e425
            have S426 : own_Go p e below s₁ G T425 (mkF m 169 #[.val (.int p0), .val (.int p1), .val (.int p2), .val (.int p3), .val (.int (3 : Int32)), .val (.int c0), .val (.int c1), .val (.int c2), .val (.ref b), .val (.ref a362), .val (.int (0 : Int32))] [(.int (1 : Int32))]) := fun tg_ kk_ => S424 tg_ (st425 tg_ kk_)
            have M425 := Fr.app M422 N425
            exact absurd (hall 2 (by simp)) (by simp [hb2])
          · have _ := e425
            have S427 : own_Go p e below s₁ G T425 (mkF m 169 #[.val (.int p0), .val (.int p1), .val (.int p2), .val (.int p3), .val (.int (3 : Int32)), .val (.int c0), .val (.int c1), .val (.int c2), .val (.ref b), .val (.ref a362), .val (.int (0 : Int32))] [(.int (0 : Int32))]) := fun tg_ kk_ => S424 tg_ (st425 tg_ kk_)
            have M425 := Fr.app M422 N425
            have S428 : own_Go p e below s₁ G T425 (mkF m 179 #[.val (.int p0), .val (.int p1), .val (.int p2), .val (.int p3), .val (.int (3 : Int32)), .val (.int c0), .val (.int c1), .val (.int c2), .val (.ref b), .val (.ref a362), .val (.int (0 : Int32))] [(.int (1 : Int32))]) := fun tg_ kk_ => S427 tg_ (by
              refine XS.iload X425.here hx rfl (hb hby at_169) rfl ?_
              show Steps p.tables e below (T425.setTop (mkF m 171 #[.val (.int p0), .val (.int p1), .val (.int p2), .val (.int p3), .val (.int (3 : Int32)), .val (.int c0), .val (.int c1), .val (.int c2), .val (.ref b), .val (.ref a362), .val (.int (0 : Int32))] [(.int (0 : Int32)), (.int (0 : Int32))])) _
              refine XS.icmpNo X425.here hx rfl (hb hby at_171) rfl (XT.ii_ne_f (by decide)) ?_
              show Steps p.tables e below (T425.setTop (mkF m 174 #[.val (.int p0), .val (.int p1), .val (.int p2), .val (.int p3), .val (.int (3 : Int32)), .val (.int c0), .val (.int c1), .val (.int c2), .val (.ref b), .val (.ref a362), .val (.int (0 : Int32))] [])) _
              refine XS.iconst X425.here hx rfl (hb hby at_174) ?_
              show Steps p.tables e below (T425.setTop (mkF m 175 #[.val (.int p0), .val (.int p1), .val (.int p2), .val (.int p3), .val (.int (3 : Int32)), .val (.int c0), .val (.int c1), .val (.int c2), .val (.ref b), .val (.ref a362), .val (.int (0 : Int32))] [(.int (1 : Int32))])) _
              refine XS.goto X425.here hx rfl (pc0 := 175) (pc' := 179) rfl (hb hby at_175) (by decide) (by decide) ?_
              exact kk_)
            obtain ⟨fs, hr, hrun, hended, hW, hsame⟩ := X425.leave (v := some (.int (1 : Int32))) (fun h => by rw [Bd.returns] at h; cases h)
            refine ⟨_, _, ?_, hrun, hended, _, _, rfl, ?_, ReturnedEndW.of_narrow ⟨_, rfl⟩ hW (hsame.mono (by decide) (by decide))⟩
            · rw [← hG]; exact S428 _ (retN X425 hx (t := .boolean) Bd.returns (by simp) (hb hby at_179) hr)
            · show Q0 Z p0 p1 p2 p3 h0 n0 _ T425.heap _
              rw [e425]
              exact ⟨rfl, M425⟩
        · have _ := e422
          have S429 : own_Go p e below s₁ G T422 (mkF m 158 #[.val (.int p0), .val (.int p1), .val (.int p2), .val (.int p3), .val (.int (3 : Int32)), .val (.int c0), .val (.int c1), .val (.int c2), .val (.ref b), .val (.ref a362), .val (.int (1 : Int32))] [(.int (0 : Int32))]) := fun tg_ kk_ => S421 tg_ (st422 tg_ kk_)
          have M422 := Fr.app M404 N422
          have S430 : own_Go p e below s₁ G T422 (mkF m 166 #[.val (.int p0), .val (.int p1), .val (.int p2), .val (.int p3), .val (.int (3 : Int32)), .val (.int c0), .val (.int c1), .val (.int c2), .val (.ref b), .val (.ref a362), .val (.int (1 : Int32))] [(.ref a362)]) := fun tg_ kk_ => S429 tg_ (by
            refine XS.ifYes X422.here hx rfl (pc0 := 158) (pc' := 164) rfl (hb hby at_158) rfl (XT.i0_eq_t (by decide)) (by decide) (by decide) ?_
            show Steps p.tables e below (T422.setTop (mkF m 164 #[.val (.int p0), .val (.int p1), .val (.int p2), .val (.int p3), .val (.int (3 : Int32)), .val (.int c0), .val (.int c1), .val (.int c2), .val (.ref b), .val (.ref a362), .val (.int (1 : Int32))] [])) _
            refine XS.aload X422.here hx rfl (hb hby at_164) rfl rfl ?_
            exact kk_)
          obtain ⟨_, T431, h431, L431, X431, e431, hQ431, st431⟩ := own_callS X422 hx hZ (y := (⟨"com/example/caddis/caddis/ManifestWriter", "canHold", "(Ljava/lang/String;)Z"⟩ : MethodName)) hown (hw _ (List.mem_of_getElem? (i := 26) rfl)) (hw _ (List.mem_of_getElem? (i := 27) rfl)) (hw _ (List.mem_of_getElem? (i := 28) rfl)) (hw _ (List.mem_of_getElem? (i := 29) rfl)) (by decide) 0 (g := (mkF m 166 #[.val (.int p0), .val (.int p1), .val (.int p2), .val (.int p3), .val (.int (3 : Int32)), .val (.int c0), .val (.int c1), .val (.int c2), .val (.ref b), .val (.ref a362), .val (.int (1 : Int32))] [(.ref a362)])) rfl (by rw [hml]; rfl) [(.ref a362)] [] (rm5 l Z a0 hw [] a362 t [c0, c1, c2] h365 n0 Zc z Oc O2 P5 SS (by simp) hch A16 fm hfm SF) (lenOf pd6 rfl) rfl (by show 2 * 0 + _ ≤ _; exact Nat.le_of_eq rfl) (hb hby at_166) (by decide) (by decide) e422 (by decide) (by decide)
          rcases hQ431 with ⟨⟨hall, rfl⟩ | ⟨⟨j, hj, hbj⟩, rfl⟩, N431, rfl⟩
          · have _ := e431
            have S432 : own_Go p e below s₁ G T431 (mkF m 169 #[.val (.int p0), .val (.int p1), .val (.int p2), .val (.int p3), .val (.int (3 : Int32)), .val (.int c0), .val (.int c1), .val (.int c2), .val (.ref b), .val (.ref a362), .val (.int (1 : Int32))] [(.int (1 : Int32))]) := fun tg_ kk_ => S430 tg_ (st431 tg_ kk_)
            have M431 := Fr.app M422 N431
            have S433 : own_Go p e below s₁ G T431 (mkF m 179 #[.val (.int p0), .val (.int p1), .val (.int p2), .val (.int p3), .val (.int (3 : Int32)), .val (.int c0), .val (.int c1), .val (.int c2), .val (.ref b), .val (.ref a362), .val (.int (1 : Int32))] [(.int (1 : Int32))]) := fun tg_ kk_ => S432 tg_ (by
              refine XS.iload X431.here hx rfl (hb hby at_169) rfl ?_
              show Steps p.tables e below (T431.setTop (mkF m 171 #[.val (.int p0), .val (.int p1), .val (.int p2), .val (.int p3), .val (.int (3 : Int32)), .val (.int c0), .val (.int c1), .val (.int c2), .val (.ref b), .val (.ref a362), .val (.int (1 : Int32))] [(.int (1 : Int32)), (.int (1 : Int32))])) _
              refine XS.icmpNo X431.here hx rfl (hb hby at_171) rfl (XT.ii_ne_f (by decide)) ?_
              show Steps p.tables e below (T431.setTop (mkF m 174 #[.val (.int p0), .val (.int p1), .val (.int p2), .val (.int p3), .val (.int (3 : Int32)), .val (.int c0), .val (.int c1), .val (.int c2), .val (.ref b), .val (.ref a362), .val (.int (1 : Int32))] [])) _
              refine XS.iconst X431.here hx rfl (hb hby at_174) ?_
              show Steps p.tables e below (T431.setTop (mkF m 175 #[.val (.int p0), .val (.int p1), .val (.int p2), .val (.int p3), .val (.int (3 : Int32)), .val (.int c0), .val (.int c1), .val (.int c2), .val (.ref b), .val (.ref a362), .val (.int (1 : Int32))] [(.int (1 : Int32))])) _
              refine XS.goto X431.here hx rfl (pc0 := 175) (pc' := 179) rfl (hb hby at_175) (by decide) (by decide) ?_
              exact kk_)
            obtain ⟨fs, hr, hrun, hended, hW, hsame⟩ := X431.leave (v := some (.int (1 : Int32))) (fun h => by rw [Bd.returns] at h; cases h)
            refine ⟨_, _, ?_, hrun, hended, _, _, rfl, ?_, ReturnedEndW.of_narrow ⟨_, rfl⟩ hW (hsame.mono (by decide) (by decide))⟩
            · rw [← hG]; exact S433 _ (retN X431 hx (t := .boolean) Bd.returns (by simp) (hb hby at_179) hr)
            · show Q0 Z p0 p1 p2 p3 h0 n0 _ T431.heap _
              rw [e431]
              exact ⟨rfl, M431⟩
          · have _ := e431
            have S434 : own_Go p e below s₁ G T431 (mkF m 169 #[.val (.int p0), .val (.int p1), .val (.int p2), .val (.int p3), .val (.int (3 : Int32)), .val (.int c0), .val (.int c1), .val (.int c2), .val (.ref b), .val (.ref a362), .val (.int (1 : Int32))] [(.int (0 : Int32))]) := fun tg_ kk_ => S430 tg_ (st431 tg_ kk_)
            have M431 := Fr.app M422 N431
            match j, hj with
            | 0, _ => exact absurd hbj (by simp [hb0])
            | 1, _ => exact absurd hbj (by simp [hb1])
            | 2, _ => exact absurd hbj (by simp [hb2])
theorem own_not0 {s : State} {a : Array Value} {t : Term} {z : Int32} (ev : t.eval a s none [] s = some (.int z)) (h : (Jvm.Cond.not (Jvm.Cond.eq t (Jvm.Term.int 0))).before a s = true) : ¬ z = 0 :=
  gotF (Cond.eq_ints ev (Term.int_eval 0)) (not_v (Cond.before_iff.mp h))
theorem own_sta {s : State} {a : Array Value} {C n d : String} {k : Int32} (h : (Jvm.Cond.eq (Jvm.Term.static C n d) (Jvm.Term.int k)).before a s = true) (hi : (Jvm.Cond.initializedFor C n d).before a s = true) : Sta s s.heap C n d (.int k) := by
  have hv := Cond.before_iff.mp h
  obtain ⟨x, y, e1, e2, k1, -⟩ := cmp_v (Or.inl hv)
  have e3 := (Term.int_eval (args := a) (first := s) (o := none) (idx := []) (s := s) k).symm.trans e2
  obtain rfl := Option.some.inj e3
  cases x with
  | int z =>
    have q : z = k := gotT (Cond.eq_ints e1 (Term.int_eval k)) hv
    subst q
    exact Sta.start e1 (Or.inl hi)
  | _ => first | (obtain ⟨z, hz⟩ := k1; cases hz) | (exact absurd k1.2 (by decide))

set_option maxRecDepth 65536 in
set_option maxHeartbeats 40000000 in
theorem comes_1 {Post : Tables → Env → Array Value → State → Outcome → State → Prop} (hpost : ∀ tb e args s v u, (limb_1_1.after args s (.returned v) u = true ∧ limb_1_2.after args s (.returned v) u = true ∧ True) → ReturnedEndW s (.returned v) u (Jvm.fieldLocs frame_1_writes args s ++ Jvm.arrayLocs frame_1_arrays args s ++ Jvm.staticLocs frame_1_statics s) 24 1152 → Post tb e args s (.returned v) u) :
    ArmFor flags0 classFile x code maxLocals ret World_1 tables_1 room_1 Calls_1 rest_1 Pre_1 Post := by
  intro l hfl _ _ p e ha hc hk s m args below hf hA hF happ hP
  obtain ⟨hcalls, hrest, hpre⟩ := hP
  obtain ⟨-, -, -, hnamed, -, -, -, hat⟩ := (Spec.applies_iff hf).mp happ
  obtain ⟨hg, hn⟩ := and_e (Cond.before_iff.mp (show (Jvm.Cond.and given_1 narrow_1).before args s = true from hpre))
  obtain ⟨gc, gg0⟩ := and_e hg
  obtain ⟨ga0, gg1⟩ := and_e gg0
  obtain ⟨ga1, gg2⟩ := and_e gg1
  obtain ⟨ga2, gg3⟩ := and_e gg2
  have ga3 := gg3
  obtain ⟨w0, w1, w2, w3, rfl⟩ : ∃ w0 w1 w2 w3 : Value, args = #[w0, w1, w2, w3] := by
    have hs : args.size = 4 := by simpa [Cond.value, given_1] using gc
    obtain ⟨L⟩ := args
    match L, hs with
    | [w0, w1, w2, w3], _ => exact ⟨w0, w1, w2, w3, rfl⟩
  have hw := fun d (hd : d ∈ tables_1) => atoms_spec (ws := Jvm.Cond.code x code maxLocals ret :: tables_1) hat d (List.mem_cons_of_mem _ hd)
  have hfit : Fit s := fun {y c} hc i hi => by
    obtain ⟨ha, rfl⟩ := Array.getElem?_eq_some_iff.mp hc
    have q := List.all_eq_true.mp ((Array.all_eq_true_iff_forall_mem.mp hF) _ (Array.getElem_mem ha)) i (List.mem_range.mpr hi)
    simpa [Array.getElem?_eq_getElem hi] using q
  obtain ⟨i0, ei0⟩ := is_v ga0
  obtain rfl : w0 = (.int i0) := Option.some.inj ei0
  obtain ⟨i1, ei1⟩ := is_v ga1
  obtain rfl : w1 = (.int i1) := Option.some.inj ei1
  obtain ⟨i2, ei2⟩ := is_v ga2
  obtain rfl : w2 = (.int i2) := Option.some.inj ei2
  obtain ⟨i3, ei3⟩ := is_v ga3
  obtain rfl : w3 = (.int i3) := Option.some.inj ei3
  have hsets := (atoms_of _ (rest_1_c_eq ▸ (show rest_1_c.before _ s = true from hrest))).1
  obtain ⟨zc, ezc⟩ := is_v (Cond.before_iff.mp (hsets _ (List.mem_of_getElem? (i := 1) rfl)))
  have hzc : ¬ zc = 0 := own_not0 ezc (hsets _ (List.mem_of_getElem? (i := 2) rfl))
  have Ocs := Sta.start ezc (Or.inl (hsets _ (List.mem_of_getElem? (i := 0) rfl)))
  obtain ⟨fm, efm, rfm⟩ := isR_v (Cond.before_iff.mp (hsets _ (List.mem_of_getElem? (i := 8) rfl)))
  have Sfm := Sta.start efm (Or.inl (hsets _ (List.mem_of_getElem? (i := 7) rfl)))
  have A16 : own_A16 s := ⟨own_sta (hsets _ (List.mem_of_getElem? (i := 12) rfl)) (hsets _ (List.mem_of_getElem? (i := 11) rfl)), own_sta (hsets _ (List.mem_of_getElem? (i := 15) rfl)) (hsets _ (List.mem_of_getElem? (i := 14) rfl)), own_sta (hsets _ (List.mem_of_getElem? (i := 18) rfl)) (hsets _ (List.mem_of_getElem? (i := 17) rfl))⟩
  have hCH : CHv s own_EL s.vm s.heap := CHv.start (own_EW hw) (fun p hp => hcalls.1 p hp) (hsets _ (List.mem_of_getElem? (i := 2) rfl)) (hw _ (List.mem_of_getElem? (i := 19) rfl)) (hw _ (List.mem_of_getElem? (i := 6) rfl))
  obtain ⟨n, o, h1, h2, h3, _, L, rfl, ⟨rfl, N⟩, hq⟩ := rm0 l s _ hw tables_1 i0 i1 i2 i3 s.heap s.heap.size (Nat.le_refl _) zc (Old.start s) Ocs hzc A16 fm rfm Sfm p e ha hc hk s m _ below hf ((Spec.applies_iff_loose hf).mp happ).1 ⟨rfl, State.Warmed39.refl s, rfl, hCH⟩ trivial
  refine ⟨n, _, h1, h2, h3, hpost _ _ _ _ _ _ ⟨Cond.after_iff.mpr rfl, Cond.after_iff.mpr (eq_i res_at (Term.int_eval (1)) rfl), trivial⟩ ⟨hq.1, hq.2.1, hq.2.2.1, (hq.2.2.2.sift fun y hy => Or.inr (N y hy)).mono (by decide) (by decide)⟩⟩
theorem main_1_1 : Claimed_1_1 := comes_1 fun _ _ _ _ _ _ h hF => ⟨h.1, hF⟩
theorem main_1_2 : Claimed_1_2 := comes_1 fun _ _ _ _ _ _ h hF => ⟨h.2.1, hF⟩
end Jvm.Pilot.@@N@@
namespace Jvm.Pilot.@@N@@
open Jvm Jvm.ClassFile Sem Op Lib Jvm.Free Jvm.Stand Jvm.Pilot.@@N@@.Jvm.D
/-! MADE BY PROGRAM (witnessworld.py) out of the Statement's table words and the real class files: 21 classes; the members and pool entries that the words name. The judged class is class 1, her method 3. -/
namespace start1
open Jvm.ClassFile
def u (s : String) : CpInfo := .utf8 (stringToUtf16 s)
/-- a pool by its gaps: so many unusable entries, then the entry; so many at the end -/
def gap : Nat → List CpInfo → List CpInfo
  | 0, r => r
  | n + 1, r => .unusable :: gap n r
def poolList (es : List (Nat × CpInfo)) (last : Nat) : List CpInfo := es.foldr (fun e r => gap e.1 (e.2 :: r)) (gap last [])
def pool (es : List (Nat × CpInfo)) (last : Nat) : Array CpInfo := ⟨poolList es last⟩
def fileOf (pool : Array CpInfo) (this : Nat) (attrs : Array Attribute := #[]) (ms : Array MethodInfo := #[]) (fl : Nat := 33) (sup : Nat := 0) (ifs : Array Nat := #[]) (fds : Array FieldInfo := #[]) : ClassFile where
  minorVersion := 0
  majorVersion := 65
  constantPool := pool
  accessFlags := fl
  thisClass := this
  superClass := sup
  interfaces := ifs
  fields := fds
  methods := ms
  attributes := attrs
def plain (name : String) (sup : Option ClassId) : Class where
  name := name
  kind := .ordinary
  loader := none
  accessFlags := 33
  super := sup
  interfaces := #[]
  cf := none
  fields := #[]
  methods := #[]
  instanceTypes := #[]
  staticTypes := #[]
  resolved := #[]
  callSites := []
  init := .initialized
  statics := none
  mirror := none

def pool0 : Array CpInfo := pool [(5, u "<init>"), (0, u "()V"), (1, .class_ 10), (1, u "java/lang/Object")] 113

def k0c0 : Code := { maxStack := 0, maxLocals := 1, code := object_method_1_code, exceptionTable := #[], attributes := #[] }
def k0m0 : Method := { name := "<init>", desc := "()V", sig := { parameters := [], returnType := none }, accessFlags := 1, code := some k0c0 }
/-- java/lang/Object -/
def k0 : Class := { plain "java/lang/Object" none with
  accessFlags := 33
  interfaces := #[]
  cf := some (fileOf pool0 8 #[] #[{ accessFlags := 1, nameIndex := 5, descriptorIndex := 6, attributes := #[] }] 33 0 #[] #[])
  fields := #[]
  methods := #[k0m0]
  instanceTypes := #[]
  staticTypes := #[]
  resolved := Array.replicate 124 none
  statics := none }

def pool1 : Array CpInfo := pool [(2, .class_ 4), (1, u "java/lang/Object"), (0, u "<init>"), (0, u "()V"), (0, .methodref 8 9), (0, .class_ 10), (0, .nameAndType 11 12), (0, u "com/example/caddis/caddis/ManifestWriterCanHoldPinLaw"), (0, u "draw"), (0, u "(I)C"), (0, .class_ 14), (0, u "java/lang/String"), (0, .methodref 13 16), (0, .nameAndType 5 17), (0, u "([C)V"), (0, .methodref 8 19), (0, .nameAndType 20 21), (0, u "bad"), (0, u "(C)Z"), (0, .methodref 23 24), (0, .class_ 25), (0, .nameAndType 26 27), (0, u "com/example/caddis/caddis/ManifestWriter"), (0, u "canHold"), (0, u "(Ljava/lang/String;)Z"), (3, u "law"), (0, u "(IIII)Z")] 4

def k1m0 : Method := { name := "<init>", desc := "()V", sig := { parameters := [], returnType := none }, accessFlags := 2, code := none }
def k1c1 : Code := { maxStack := 2, maxLocals := 2, code := method_2_code, exceptionTable := #[], attributes := #[] }
def k1m1 : Method := { name := "draw", desc := "(I)C", sig := { parameters := [.int], returnType := some .char }, accessFlags := 10, code := some k1c1 }
def k1c2 : Code := { maxStack := 2, maxLocals := 1, code := method_3_code, exceptionTable := #[], attributes := #[] }
def k1m2 : Method := { name := "bad", desc := "(C)Z", sig := { parameters := [.char], returnType := some .boolean }, accessFlags := 10, code := some k1c2 }
def k1c3 : Code := { maxStack := 4, maxLocals := 11, code := code, exceptionTable := #[], attributes := #[] }
def k1m3 : Method := { name := "law", desc := "(IIII)Z", sig := { parameters := [.int, .int, .int, .int], returnType := some .boolean }, accessFlags := 9, code := some k1c3 }
/-- com/example/caddis/caddis/ManifestWriterCanHoldPinLaw -/
def k1 : Class := { plain "com/example/caddis/caddis/ManifestWriterCanHoldPinLaw" (some 0) with
  accessFlags := 49
  interfaces := #[]
  cf := some (fileOf pool1 8 #[] #[{ accessFlags := 2, nameIndex := 5, descriptorIndex := 6, attributes := #[] }, { accessFlags := 10, nameIndex := 11, descriptorIndex := 12, attributes := #[] }, { accessFlags := 10, nameIndex := 20, descriptorIndex := 21, attributes := #[] }, { accessFlags := 9, nameIndex := 31, descriptorIndex := 32, attributes := #[] }] 49 2 #[] #[])
  fields := #[]
  methods := #[k1m0, k1m1, k1m2, k1m3]
  instanceTypes := #[]
  staticTypes := #[]
  resolved := Array.replicate 37 none
  statics := none }

def pool2 : Array CpInfo := pool [(1, .class_ 2), (0, u "java/io/Serializable"), (0, .class_ 4), (0, u "java/lang/Object")] 2

/-- java/io/Serializable -/
def k2 : Class := { plain "java/io/Serializable" (some 0) with
  accessFlags := 1537
  interfaces := #[]
  cf := some (fileOf pool2 1 #[] #[] 1537 3 #[] #[])
  fields := #[]
  methods := #[]
  instanceTypes := #[]
  staticTypes := #[]
  resolved := Array.replicate 7 none
  statics := none }

def pool3 : Array CpInfo := pool [(1, .class_ 2), (0, u "java/lang/Comparable"), (0, .class_ 4), (0, u "java/lang/Object")] 7

/-- java/lang/Comparable -/
def k3 : Class := { plain "java/lang/Comparable" (some 0) with
  accessFlags := 1537
  interfaces := #[]
  cf := some (fileOf pool3 1 #[] #[] 1537 3 #[] #[])
  fields := #[]
  methods := #[]
  instanceTypes := #[]
  staticTypes := #[]
  resolved := Array.replicate 12 none
  statics := none }

def pool4 : Array CpInfo := pool [(2, .class_ 4), (1, u "java/lang/CharSequence"), (42, .class_ 48), (0, u "java/lang/CharSequence$1CodePointIterator"), (10, .class_ 60), (0, u "java/lang/CharSequence$1CharIterator"), (5, .class_ 67), (0, u "java/lang/Object")] 63

/-- java/lang/CharSequence -/
def k4 : Class := { plain "java/lang/CharSequence" (some 0) with
  accessFlags := 1537
  interfaces := #[]
  cf := some (fileOf pool4 2 #[.nestMembers #[47, 59]] #[] 1537 66 #[] #[])
  fields := #[]
  methods := #[]
  instanceTypes := #[]
  staticTypes := #[]
  resolved := Array.replicate 131 none
  statics := none }

def pool5 : Array CpInfo := pool [(1, .class_ 2), (0, u "java/lang/constant/Constable"), (0, .class_ 4), (0, u "java/lang/Object")] 6

/-- java/lang/constant/Constable -/
def k5 : Class := { plain "java/lang/constant/Constable" (some 0) with
  accessFlags := 1537
  interfaces := #[]
  cf := some (fileOf pool5 1 #[] #[] 1537 3 #[] #[])
  fields := #[]
  methods := #[]
  instanceTypes := #[]
  staticTypes := #[]
  resolved := Array.replicate 11 none
  statics := none }

def pool6 : Array CpInfo := pool [(1, .class_ 2), (0, u "java/lang/constant/ConstantDesc"), (0, .class_ 4), (0, u "java/lang/Object")] 32

/-- java/lang/constant/ConstantDesc -/
def k6 : Class := { plain "java/lang/constant/ConstantDesc" (some 0) with
  accessFlags := 1537
  interfaces := #[]
  cf := some (fileOf pool6 1 #[] #[] 1537 3 #[] #[])
  fields := #[]
  methods := #[]
  instanceTypes := #[]
  staticTypes := #[]
  resolved := Array.replicate 37 none
  statics := none }

def pool7 : Array CpInfo := pool [(1, .methodref 2 3), (0, .class_ 4), (0, .nameAndType 5 6), (0, u "java/lang/Object"), (0, u "<init>"), (0, u "()V"), (0, .string 8), (0, u ""), (0, .fieldref 10 11), (0, .class_ 12), (0, .nameAndType 13 14), (0, u "java/lang/String"), (0, u "value"), (0, u "[B"), (0, .fieldref 10 16), (0, .nameAndType 17 18), (0, u "coder"), (0, u "B"), (2, u "hash"), (0, u "I"), (2, u "hashIsZero"), (0, u "Z"), (0, .methodref 10 28), (0, .nameAndType 5 29), (0, u "([CIILjava/lang/Void;)V"), (8, .fieldref 10 39), (0, .nameAndType 40 26), (0, u "COMPACT_STRINGS"), (1, .class_ 44), (1, u "java/lang/StringUTF16"), (0, u "compress"), (1, .methodref 42 48), (0, .nameAndType 49 50), (0, u "coderFromArrayLen"), (0, u "([BI)B"), (56, .class_ 109), (1, u "java/lang/StringLatin1"), (32, u "()Z"), (34, .methodref 42 178), (0, .nameAndType 45 179), (0, u "([CII)[B"), (154, u "()I"), (0, .methodref 10 336), (0, .nameAndType 17 337), (0, u "()B"), (154, .methodref 10 493), (0, .nameAndType 494 142), (0, u "isLatin1"), (10, .methodref 10 506), (0, .nameAndType 507 334), (0, u "length"), (5, u "checkFromToIndex"), (9, u "checkBoundsBeginEnd"), (0, u "(III)V"), (50, .class_ 576), (0, u "java/lang/CharSequence"), (22, u "CASE_INSENSITIVE_ORDER"), (0, u "Ljava/util/Comparator;"), (32, .methodref 10 634), (0, .nameAndType 635 636), (0, u "indexOf"), (0, u "(II)I"), (0, .methodref 107 638), (0, .nameAndType 635 639), (0, u "([BIII)I"), (0, .methodref 42 638), (124, u "(I)I"), (244, u "([C)V"), (42, .fieldref 1054 1055), (0, .class_ 1056), (0, .nameAndType 1057 1058), (0, u "jdk/internal/util/Preconditions"), (0, u "SIOOBE_FORMATTER"), (0, u "Ljava/util/function/BiFunction;"), (3, .methodref 1054 1063), (0, .nameAndType 513 1064), (0, u "(IIILjava/util/function/BiFunction;)I"), (36, u "serialPersistentFields"), (0, u "[Ljava/io/ObjectStreamField;"), (0, .class_ 1104), (0, u "java/lang/String$CaseInsensitiveComparator"), (1, .class_ 1107), (0, u "java/io/Serializable"), (0, .class_ 1109), (0, u "java/lang/Comparable"), (0, .class_ 1111), (0, u "java/lang/constant/Constable"), (0, .class_ 1113), (0, u "java/lang/constant/ConstantDesc"), (2, u "serialVersionUID"), (0, u "J"), (3, u "REPL"), (0, u "C"), (2, u "LATIN1"), (1, u "UTF16")] 323

def k7m0 : Method := { name := "<init>", desc := "()V", sig := { parameters := [], returnType := none }, accessFlags := 1, code := none }
def k7c1 : Code := { maxStack := 5, maxLocals := 2, code := jdk_42_method_3_code, exceptionTable := #[], attributes := #[] }
def k7m1 : Method := { name := "<init>", desc := "([C)V", sig := { parameters := [(.array .char)], returnType := none }, accessFlags := 1, code := some k7c1 }
def k7c2 : Code := { maxStack := 2, maxLocals := 1, code := jdk_42_method_54_code, exceptionTable := #[], attributes := #[] }
def k7m2 : Method := { name := "length", desc := "()I", sig := { parameters := [], returnType := some .int }, accessFlags := 1, code := some k7c2 }
def k7c3 : Code := { maxStack := 3, maxLocals := 2, code := jdk_42_method_79_code, exceptionTable := #[], attributes := #[] }
def k7m3 : Method := { name := "indexOf", desc := "(I)I", sig := { parameters := [.int], returnType := some .int }, accessFlags := 1, code := some k7c3 }
def k7c4 : Code := { maxStack := 4, maxLocals := 3, code := jdk_42_method_80_code, exceptionTable := #[], attributes := #[] }
def k7m4 : Method := { name := "indexOf", desc := "(II)I", sig := { parameters := [.int, .int], returnType := some .int }, accessFlags := 1, code := some k7c4 }
def k7c5 : Code := { maxStack := 4, maxLocals := 6, code := jdk_42_method_149_code, exceptionTable := #[], attributes := #[] }
def k7m5 : Method := { name := "<init>", desc := "([CIILjava/lang/Void;)V", sig := { parameters := [(.array .char), .int, .int, (.object "java/lang/Void")], returnType := none }, accessFlags := 2, code := some k7c5 }
def k7c6 : Code := { maxStack := 1, maxLocals := 1, code := jdk_42_method_152_code, exceptionTable := #[], attributes := #[] }
def k7m6 : Method := { name := "coder", desc := "()B", sig := { parameters := [], returnType := some .byte }, accessFlags := 0, code := some k7c6 }
def k7c7 : Code := { maxStack := 1, maxLocals := 1, code := jdk_42_method_154_code, exceptionTable := #[], attributes := #[] }
def k7m7 : Method := { name := "isLatin1", desc := "()Z", sig := { parameters := [], returnType := some .boolean }, accessFlags := 0, code := some k7c7 }
def k7c8 : Code := { maxStack := 4, maxLocals := 3, code := jdk_42_method_158_code, exceptionTable := #[], attributes := #[] }
def k7m8 : Method := { name := "checkBoundsBeginEnd", desc := "(III)V", sig := { parameters := [.int, .int, .int], returnType := none }, accessFlags := 8, code := some k7c8 }
/-- java/lang/String -/
def k7 : Class := { plain "java/lang/String" (some 0) with
  accessFlags := 49
  interfaces := #[2, 3, 4, 5, 6]
  cf := some (fileOf pool7 10 #[.nestMembers #[1103]] #[{ accessFlags := 1, nameIndex := 5, descriptorIndex := 6, attributes := #[] }, { accessFlags := 1, nameIndex := 5, descriptorIndex := 1010, attributes := #[] }, { accessFlags := 1, nameIndex := 507, descriptorIndex := 334, attributes := #[] }, { accessFlags := 1, nameIndex := 635, descriptorIndex := 765, attributes := #[] }, { accessFlags := 1, nameIndex := 635, descriptorIndex := 636, attributes := #[] }, { accessFlags := 2, nameIndex := 5, descriptorIndex := 29, attributes := #[] }, { accessFlags := 0, nameIndex := 17, descriptorIndex := 337, attributes := #[] }, { accessFlags := 0, nameIndex := 494, descriptorIndex := 142, attributes := #[] }, { accessFlags := 8, nameIndex := 523, descriptorIndex := 524, attributes := #[] }] 49 2 #[1106, 1108, 575, 1110, 1112] #[{ accessFlags := 18, nameIndex := 13, descriptorIndex := 14, attributes := #[] }, { accessFlags := 18, nameIndex := 17, descriptorIndex := 18, attributes := #[] }, { accessFlags := 2, nameIndex := 21, descriptorIndex := 22, attributes := #[] }, { accessFlags := 2, nameIndex := 25, descriptorIndex := 26, attributes := #[] }, { accessFlags := 26, nameIndex := 1116, descriptorIndex := 1117, attributes := #[] }, { accessFlags := 24, nameIndex := 40, descriptorIndex := 26, attributes := #[] }, { accessFlags := 26, nameIndex := 1101, descriptorIndex := 1102, attributes := #[] }, { accessFlags := 26, nameIndex := 1121, descriptorIndex := 1122, attributes := #[] }, { accessFlags := 25, nameIndex := 599, descriptorIndex := 600, attributes := #[] }, { accessFlags := 24, nameIndex := 1125, descriptorIndex := 18, attributes := #[] }, { accessFlags := 24, nameIndex := 1127, descriptorIndex := 18, attributes := #[] }])
  fields := #[{ name := "value", type := (.array .byte), accessFlags := 18, slot := 0, constantValue := 0 }, { name := "coder", type := .byte, accessFlags := 18, slot := 1, constantValue := 0 }, { name := "hash", type := .int, accessFlags := 2, slot := 2, constantValue := 0 }, { name := "hashIsZero", type := .boolean, accessFlags := 2, slot := 3, constantValue := 0 }, { name := "serialVersionUID", type := .long, accessFlags := 26, slot := 0, constantValue := 0 }, { name := "COMPACT_STRINGS", type := .boolean, accessFlags := 24, slot := 1, constantValue := 0 }, { name := "serialPersistentFields", type := (.array (.object "java/io/ObjectStreamField")), accessFlags := 26, slot := 2, constantValue := 0 }, { name := "REPL", type := .char, accessFlags := 26, slot := 3, constantValue := 0 }, { name := "CASE_INSENSITIVE_ORDER", type := (.object "java/util/Comparator"), accessFlags := 25, slot := 4, constantValue := 0 }, { name := "LATIN1", type := .byte, accessFlags := 24, slot := 5, constantValue := 0 }, { name := "UTF16", type := .byte, accessFlags := 24, slot := 6, constantValue := 0 }]
  methods := #[k7m0, k7m1, k7m2, k7m3, k7m4, k7m5, k7m6, k7m7, k7m8]
  instanceTypes := #[(.array .byte), .byte, .int, .boolean]
  staticTypes := #[.long, .boolean, (.array (.object "java/io/ObjectStreamField")), .char, (.object "java/util/Comparator"), .byte, .byte]
  resolved := Array.replicate 1451 none
  statics := some 0 }

def pool8 : Array CpInfo := pool [(2, .class_ 4), (1, u "java/lang/Object"), (0, u "<init>"), (0, u "()V"), (4, .class_ 13), (1, u "com/example/caddis/caddis/ManifestWriter"), (0, u "bytes"), (0, u "Ljava/io/ByteArrayOutputStream;"), (0, .methodref 17 18), (0, .class_ 19), (0, .nameAndType 20 21), (0, u "java/lang/String"), (0, u "indexOf"), (0, u "(I)I"), (2, u "canHold"), (0, u "(Ljava/lang/String;)Z"), (34, u "LINE_END"), (0, u "[B"), (11, u "MAX_LINE"), (0, u "I")] 30

def k8m0 : Method := { name := "<init>", desc := "()V", sig := { parameters := [], returnType := none }, accessFlags := 0, code := none }
def k8c1 : Code := { maxStack := 2, maxLocals := 1, code := prog_9_method_2_code, exceptionTable := #[], attributes := #[] }
def k8m1 : Method := { name := "canHold", desc := "(Ljava/lang/String;)Z", sig := { parameters := [(.object "java/lang/String")], returnType := some .boolean }, accessFlags := 8, code := some k8c1 }
/-- com/example/caddis/caddis/ManifestWriter -/
def k8 : Class := { plain "com/example/caddis/caddis/ManifestWriter" (some 0) with
  accessFlags := 48
  interfaces := #[]
  cf := some (fileOf pool8 11 #[] #[{ accessFlags := 0, nameIndex := 5, descriptorIndex := 6, attributes := #[] }, { accessFlags := 8, nameIndex := 24, descriptorIndex := 25, attributes := #[] }] 48 2 #[] #[{ accessFlags := 26, nameIndex := 73, descriptorIndex := 74, attributes := #[] }, { accessFlags := 26, nameIndex := 60, descriptorIndex := 61, attributes := #[] }, { accessFlags := 18, nameIndex := 14, descriptorIndex := 15, attributes := #[] }])
  fields := #[{ name := "MAX_LINE", type := .int, accessFlags := 26, slot := 0, constantValue := 0 }, { name := "LINE_END", type := (.array .byte), accessFlags := 26, slot := 1, constantValue := 0 }, { name := "bytes", type := (.object "java/io/ByteArrayOutputStream"), accessFlags := 18, slot := 0, constantValue := 0 }]
  methods := #[k8m0, k8m1]
  instanceTypes := #[(.object "java/io/ByteArrayOutputStream")]
  staticTypes := #[.int, (.array .byte)]
  resolved := Array.replicate 105 none
  statics := none }

def pool9 : Array CpInfo := pool [(4, .class_ 6), (1, u "java/lang/Object"), (0, u "<init>"), (0, u "()V"), (5, .class_ 16), (1, u "java/lang/StringLatin1"), (21, .methodref 39 40), (0, .class_ 41), (0, .nameAndType 42 43), (0, u "java/lang/Math"), (0, u "min"), (0, u "(II)I"), (44, .methodref 14 89), (0, .nameAndType 90 91), (0, u "canEncode"), (0, u "(I)Z"), (0, .methodref 39 93), (0, .nameAndType 94 43), (0, u "max"), (0, .methodref 14 96), (0, .nameAndType 97 98), (0, u "indexOfChar"), (0, u "([BIII)I"), (2, u "indexOf"), (19, u "$assertionsDisabled"), (0, u "Z"), (98, .class_ 223), (1, u "java/lang/StringLatin1$LinesSpliterator"), (166, .class_ 391), (0, u "java/lang/StringLatin1$CharsSpliterator")] 3

def k9m0 : Method := { name := "<init>", desc := "()V", sig := { parameters := [], returnType := none }, accessFlags := 0, code := none }
def k9c1 : Code := { maxStack := 2, maxLocals := 1, code := jdk_43_method_4_code, exceptionTable := #[], attributes := #[] }
def k9m1 : Method := { name := "canEncode", desc := "(I)Z", sig := { parameters := [.int], returnType := some .boolean }, accessFlags := 9, code := some k9c1 }
def k9c2 : Code := { maxStack := 4, maxLocals := 4, code := jdk_43_method_22_code, exceptionTable := #[], attributes := #[] }
def k9m2 : Method := { name := "indexOf", desc := "([BIII)I", sig := { parameters := [(.array .byte), .int, .int, .int], returnType := some .int }, accessFlags := 9, code := some k9c2 }
def k9c3 : Code := { maxStack := 2, maxLocals := 6, code := jdk_43_method_23_code, exceptionTable := #[], attributes := #[] }
def k9m3 : Method := { name := "indexOfChar", desc := "([BIII)I", sig := { parameters := [(.array .byte), .int, .int, .int], returnType := some .int }, accessFlags := 10, code := some k9c3 }
/-- java/lang/StringLatin1 -/
def k9 : Class := { plain "java/lang/StringLatin1" (some 0) with
  accessFlags := 48
  interfaces := #[]
  cf := some (fileOf pool9 14 #[.nestMembers #[390, 221]] #[{ accessFlags := 0, nameIndex := 7, descriptorIndex := 8, attributes := #[] }, { accessFlags := 9, nameIndex := 90, descriptorIndex := 91, attributes := #[] }, { accessFlags := 9, nameIndex := 101, descriptorIndex := 98, attributes := #[] }, { accessFlags := 10, nameIndex := 97, descriptorIndex := 98, attributes := #[] }] 48 4 #[] #[{ accessFlags := 4120, nameIndex := 121, descriptorIndex := 122, attributes := #[] }])
  fields := #[{ name := "$assertionsDisabled", type := .boolean, accessFlags := 4120, slot := 0, constantValue := 0 }]
  methods := #[k9m0, k9m1, k9m2, k9m3]
  instanceTypes := #[]
  staticTypes := #[.boolean]
  resolved := Array.replicate 395 none
  statics := none }

def pool10 : Array CpInfo := pool [(1, .class_ 2), (0, u "java/lang/Math"), (1, .class_ 6), (1, u "java/lang/Object"), (0, u "<init>"), (0, u "()V"), (89, .class_ 100), (1, u "java/lang/Math$RandomNumberGeneratorHolder"), (71, u "negativeZeroFloatBits"), (0, u "J"), (2, u "negativeZeroDoubleBits"), (21, u "max"), (2, u "min"), (43, u "$assertionsDisabled"), (0, u "Z"), (88, u "(II)I"), (2, u "twoToTheDoubleScaleDown"), (0, u "D"), (4, u "twoToTheDoubleScaleUp"), (9, u "E"), (3, u "PI"), (2, u "TAU"), (2, u "DEGREES_TO_RADIANS"), (0, u "RADIANS_TO_DEGREES")] 94

def k10m0 : Method := { name := "<init>", desc := "()V", sig := { parameters := [], returnType := none }, accessFlags := 2, code := none }
def k10c1 : Code := { maxStack := 2, maxLocals := 2, code := jdk_29_method_65_code, exceptionTable := #[], attributes := #[] }
def k10m1 : Method := { name := "max", desc := "(II)I", sig := { parameters := [.int, .int], returnType := some .int }, accessFlags := 9, code := some k10c1 }
def k10c2 : Code := { maxStack := 2, maxLocals := 2, code := jdk_29_method_69_code, exceptionTable := #[], attributes := #[] }
def k10m2 : Method := { name := "min", desc := "(II)I", sig := { parameters := [.int, .int], returnType := some .int }, accessFlags := 9, code := some k10c2 }
/-- java/lang/Math -/
def k10 : Class := { plain "java/lang/Math" (some 0) with
  accessFlags := 49
  interfaces := #[]
  cf := some (fileOf pool10 1 #[.nestMembers #[98]] #[{ accessFlags := 2, nameIndex := 7, descriptorIndex := 8, attributes := #[] }, { accessFlags := 9, nameIndex := 198, descriptorIndex := 335, attributes := #[] }, { accessFlags := 9, nameIndex := 201, descriptorIndex := 335, attributes := #[] }] 49 4 #[] #[{ accessFlags := 25, nameIndex := 354, descriptorIndex := 339, attributes := #[] }, { accessFlags := 25, nameIndex := 358, descriptorIndex := 339, attributes := #[] }, { accessFlags := 25, nameIndex := 361, descriptorIndex := 339, attributes := #[] }, { accessFlags := 26, nameIndex := 364, descriptorIndex := 339, attributes := #[] }, { accessFlags := 26, nameIndex := 365, descriptorIndex := 339, attributes := #[] }, { accessFlags := 26, nameIndex := 172, descriptorIndex := 173, attributes := #[] }, { accessFlags := 26, nameIndex := 176, descriptorIndex := 173, attributes := #[] }, { accessFlags := 8, nameIndex := 344, descriptorIndex := 339, attributes := #[] }, { accessFlags := 8, nameIndex := 338, descriptorIndex := 339, attributes := #[] }, { accessFlags := 4120, nameIndex := 245, descriptorIndex := 246, attributes := #[] }])
  fields := #[{ name := "E", type := .double, accessFlags := 25, slot := 0, constantValue := 0 }, { name := "PI", type := .double, accessFlags := 25, slot := 1, constantValue := 0 }, { name := "TAU", type := .double, accessFlags := 25, slot := 2, constantValue := 0 }, { name := "DEGREES_TO_RADIANS", type := .double, accessFlags := 26, slot := 3, constantValue := 0 }, { name := "RADIANS_TO_DEGREES", type := .double, accessFlags := 26, slot := 4, constantValue := 0 }, { name := "negativeZeroFloatBits", type := .long, accessFlags := 26, slot := 5, constantValue := 0 }, { name := "negativeZeroDoubleBits", type := .long, accessFlags := 26, slot := 6, constantValue := 0 }, { name := "twoToTheDoubleScaleUp", type := .double, accessFlags := 8, slot := 7, constantValue := 0 }, { name := "twoToTheDoubleScaleDown", type := .double, accessFlags := 8, slot := 8, constantValue := 0 }, { name := "$assertionsDisabled", type := .boolean, accessFlags := 4120, slot := 9, constantValue := 0 }]
  methods := #[k10m0, k10m1, k10m2]
  instanceTypes := #[]
  staticTypes := #[.double, .double, .double, .double, .double, .long, .long, .double, .double, .boolean]
  resolved := Array.replicate 460 none
  statics := none }

def pool11 : Array CpInfo := pool [(3, .class_ 4), (0, u "java/lang/String"), (1, .class_ 8), (1, u "java/lang/Object"), (0, u "<init>"), (0, u "()V"), (0, .methodref 12 13), (0, .class_ 14), (0, .nameAndType 15 16), (0, u "java/lang/StringUTF16"), (0, u "newBytesLength"), (0, u "(I)I"), (3, .integer 1073741823), (23, .fieldref 12 45), (0, .nameAndType 46 47), (0, u "$assertionsDisabled"), (0, u "Z"), (0, .methodref 12 49), (0, .nameAndType 50 51), (0, u "length"), (0, u "([B)I"), (7, .fieldref 12 60), (0, .nameAndType 61 62), (0, u "HI_BYTE_SHIFT"), (0, u "I"), (0, .fieldref 12 64), (0, .nameAndType 65 62), (0, u "LO_BYTE_SHIFT"), (5, .methodref 12 72), (0, .nameAndType 73 74), (0, u "getChar"), (0, u "([BI)C"), (21, .methodref 12 97), (0, .nameAndType 98 99), (0, u "checkBoundsBeginEnd"), (0, u "(II[B)V"), (7, .methodref 12 108), (0, .nameAndType 109 110), (0, u "newBytesFor"), (0, u "(I)[B"), (0, .methodref 12 112), (0, .nameAndType 113 114), (0, u "putChar"), (0, u "([BII)V"), (0, .methodref 12 116), (0, .nameAndType 117 118), (0, u "compress"), (0, u "([CI[BII)I"), (0, .methodref 12 120), (0, .nameAndType 121 122), (0, u "toBytes"), (0, u "([CII)[B"), (60, .methodref 184 185), (0, .class_ 186), (0, .nameAndType 187 188), (0, u "java/lang/Math"), (0, u "min"), (0, u "(II)I"), (35, .methodref 184 225), (0, .nameAndType 226 188), (0, u "max"), (0, .integer 65536), (0, .methodref 12 229), (0, .nameAndType 230 231), (0, u "indexOfChar"), (0, u "([BIII)I"), (9, .methodref 3 242), (0, .nameAndType 98 243), (0, u "(III)V"), (0, .methodref 12 245), (0, .nameAndType 246 231), (0, u "indexOfCharUnsafe"), (14, u "coderFromArrayLen"), (0, u "([BI)B"), (5, u "indexOf"), (100, .class_ 371), (1, u "java/lang/StringUTF16$LinesSpliterator"), (58, u "MAX_LENGTH"), (196, .class_ 628), (0, u "java/lang/StringUTF16$CodePointsSpliterator"), (0, .class_ 630), (0, u "java/lang/StringUTF16$CharsSpliterator")] 4

def k11m0 : Method := { name := "<init>", desc := "()V", sig := { parameters := [], returnType := none }, accessFlags := 0, code := none }
def k11c1 : Code := { maxStack := 1, maxLocals := 1, code := jdk_52_method_2_code, exceptionTable := #[], attributes := #[] }
def k11m1 : Method := { name := "newBytesFor", desc := "(I)[B", sig := { parameters := [.int], returnType := some (.array .byte) }, accessFlags := 9, code := some k11c1 }
def k11c2 : Code := { maxStack := 4, maxLocals := 1, code := jdk_52_method_3_code, exceptionTable := #[], attributes := #[] }
def k11m2 : Method := { name := "newBytesLength", desc := "(I)I", sig := { parameters := [.int], returnType := some .int }, accessFlags := 9, code := some k11c2 }
def k11c3 : Code := { maxStack := 4, maxLocals := 3, code := jdk_52_method_4_code, exceptionTable := #[], attributes := #[] }
def k11m3 : Method := { name := "putChar", desc := "([BII)V", sig := { parameters := [(.array .byte), .int, .int], returnType := none }, accessFlags := 8, code := some k11c3 }
def k11c4 : Code := { maxStack := 3, maxLocals := 2, code := jdk_52_method_5_code, exceptionTable := #[], attributes := #[] }
def k11m4 : Method := { name := "getChar", desc := "([BI)C", sig := { parameters := [(.array .byte), .int], returnType := some .char }, accessFlags := 8, code := some k11c4 }
def k11c5 : Code := { maxStack := 2, maxLocals := 1, code := jdk_52_method_6_code, exceptionTable := #[], attributes := #[] }
def k11m5 : Method := { name := "length", desc := "([B)I", sig := { parameters := [(.array .byte)], returnType := some .int }, accessFlags := 9, code := some k11c5 }
def k11c6 : Code := { maxStack := 4, maxLocals := 5, code := jdk_52_method_14_code, exceptionTable := #[], attributes := #[] }
def k11m6 : Method := { name := "toBytes", desc := "([CII)[B", sig := { parameters := [(.array .char), .int, .int], returnType := some (.array .byte) }, accessFlags := 9, code := some k11c6 }
def k11c7 : Code := { maxStack := 2, maxLocals := 2, code := jdk_52_method_15_code, exceptionTable := #[], attributes := #[] }
def k11m7 : Method := { name := "coderFromArrayLen", desc := "([BI)B", sig := { parameters := [(.array .byte), .int], returnType := some .byte }, accessFlags := 8, code := some k11c7 }
def k11c8 : Code := { maxStack := 5, maxLocals := 6, code := jdk_52_method_16_code, exceptionTable := #[], attributes := #[] }
def k11m8 : Method := { name := "compress", desc := "([CII)[B", sig := { parameters := [(.array .char), .int, .int], returnType := some (.array .byte) }, accessFlags := 9, code := some k11c8 }
def k11c9 : Code := { maxStack := 3, maxLocals := 7, code := jdk_52_method_21_code, exceptionTable := #[], attributes := #[] }
def k11m9 : Method := { name := "compress", desc := "([CI[BII)I", sig := { parameters := [(.array .char), .int, (.array .byte), .int, .int], returnType := some .int }, accessFlags := 9, code := some k11c9 }
def k11c10 : Code := { maxStack := 4, maxLocals := 4, code := jdk_52_method_40_code, exceptionTable := #[], attributes := #[] }
def k11m10 : Method := { name := "indexOf", desc := "([BIII)I", sig := { parameters := [(.array .byte), .int, .int, .int], returnType := some .int }, accessFlags := 9, code := some k11c10 }
def k11c11 : Code := { maxStack := 4, maxLocals := 4, code := jdk_52_method_47_code, exceptionTable := #[], attributes := #[] }
def k11m11 : Method := { name := "indexOfChar", desc := "([BIII)I", sig := { parameters := [(.array .byte), .int, .int, .int], returnType := some .int }, accessFlags := 10, code := some k11c11 }
def k11c12 : Code := { maxStack := 2, maxLocals := 5, code := jdk_52_method_48_code, exceptionTable := #[], attributes := #[] }
def k11m12 : Method := { name := "indexOfCharUnsafe", desc := "([BIII)I", sig := { parameters := [(.array .byte), .int, .int, .int], returnType := some .int }, accessFlags := 10, code := some k11c12 }
def k11c13 : Code := { maxStack := 3, maxLocals := 3, code := jdk_52_method_93_code, exceptionTable := #[], attributes := #[] }
def k11m13 : Method := { name := "checkBoundsBeginEnd", desc := "(II[B)V", sig := { parameters := [.int, .int, (.array .byte)], returnType := none }, accessFlags := 9, code := some k11c13 }
/-- java/lang/StringUTF16 -/
def k11 : Class := { plain "java/lang/StringUTF16" (some 0) with
  accessFlags := 48
  interfaces := #[]
  cf := some (fileOf pool11 12 #[.nestMembers #[627, 629, 369]] #[{ accessFlags := 0, nameIndex := 9, descriptorIndex := 10, attributes := #[] }, { accessFlags := 9, nameIndex := 109, descriptorIndex := 110, attributes := #[] }, { accessFlags := 9, nameIndex := 15, descriptorIndex := 16, attributes := #[] }, { accessFlags := 8, nameIndex := 113, descriptorIndex := 114, attributes := #[] }, { accessFlags := 8, nameIndex := 73, descriptorIndex := 74, attributes := #[] }, { accessFlags := 9, nameIndex := 50, descriptorIndex := 51, attributes := #[] }, { accessFlags := 9, nameIndex := 121, descriptorIndex := 122, attributes := #[] }, { accessFlags := 8, nameIndex := 261, descriptorIndex := 262, attributes := #[] }, { accessFlags := 9, nameIndex := 117, descriptorIndex := 122, attributes := #[] }, { accessFlags := 9, nameIndex := 117, descriptorIndex := 118, attributes := #[] }, { accessFlags := 9, nameIndex := 268, descriptorIndex := 231, attributes := #[] }, { accessFlags := 10, nameIndex := 230, descriptorIndex := 231, attributes := #[] }, { accessFlags := 10, nameIndex := 246, descriptorIndex := 231, attributes := #[] }, { accessFlags := 9, nameIndex := 98, descriptorIndex := 99, attributes := #[] }] 48 6 #[] #[{ accessFlags := 26, nameIndex := 61, descriptorIndex := 62, attributes := #[] }, { accessFlags := 26, nameIndex := 65, descriptorIndex := 62, attributes := #[] }, { accessFlags := 24, nameIndex := 430, descriptorIndex := 62, attributes := #[] }, { accessFlags := 4120, nameIndex := 46, descriptorIndex := 47, attributes := #[] }])
  fields := #[{ name := "HI_BYTE_SHIFT", type := .int, accessFlags := 26, slot := 0, constantValue := 0 }, { name := "LO_BYTE_SHIFT", type := .int, accessFlags := 26, slot := 1, constantValue := 0 }, { name := "MAX_LENGTH", type := .int, accessFlags := 24, slot := 2, constantValue := 0 }, { name := "$assertionsDisabled", type := .boolean, accessFlags := 4120, slot := 3, constantValue := 0 }]
  methods := #[k11m0, k11m1, k11m2, k11m3, k11m4, k11m5, k11m6, k11m7, k11m8, k11m9, k11m10, k11m11, k11m12, k11m13]
  instanceTypes := #[]
  staticTypes := #[.int, .int, .int, .boolean]
  resolved := Array.replicate 635 none
  statics := some 1 }

def pool12 : Array CpInfo := pool [(2, .class_ 4), (1, u "java/lang/Object"), (0, u "<init>"), (0, u "()V"), (17, .class_ 26), (1, u "jdk/internal/util/Preconditions"), (20, u "checkFromToIndex"), (7, .class_ 56), (0, u "jdk/internal/util/Preconditions$4"), (57, .class_ 115), (0, u "jdk/internal/util/Preconditions$1"), (7, u "SIOOBE_FORMATTER"), (0, u "Ljava/util/function/BiFunction;"), (0, .class_ 126), (0, u "jdk/internal/util/Preconditions$2"), (3, u "AIOOBE_FORMATTER"), (0, .class_ 132), (0, u "jdk/internal/util/Preconditions$3"), (3, u "IOOBE_FORMATTER"), (46, u "(IIILjava/util/function/BiFunction;)I")] 10

def k12m0 : Method := { name := "<init>", desc := "()V", sig := { parameters := [], returnType := none }, accessFlags := 1, code := none }
def k12c1 : Code := { maxStack := 4, maxLocals := 4, code := jdk_41_method_12_code, exceptionTable := #[], attributes := #[] }
def k12m1 : Method := { name := "checkFromToIndex", desc := "(IIILjava/util/function/BiFunction;)I", sig := { parameters := [.int, .int, .int, (.object "java/util/function/BiFunction")], returnType := some .int }, accessFlags := 9, code := some k12c1 }
/-- jdk/internal/util/Preconditions -/
def k12 : Class := { plain "jdk/internal/util/Preconditions" (some 0) with
  accessFlags := 33
  interfaces := #[]
  cf := some (fileOf pool12 24 #[.nestMembers #[55, 131, 125, 114]] #[{ accessFlags := 1, nameIndex := 5, descriptorIndex := 6, attributes := #[] }, { accessFlags := 9, nameIndex := 47, descriptorIndex := 183, attributes := #[] }] 33 2 #[] #[{ accessFlags := 25, nameIndex := 123, descriptorIndex := 124, attributes := #[] }, { accessFlags := 25, nameIndex := 130, descriptorIndex := 124, attributes := #[] }, { accessFlags := 25, nameIndex := 136, descriptorIndex := 124, attributes := #[] }])
  fields := #[{ name := "SIOOBE_FORMATTER", type := (.object "java/util/function/BiFunction"), accessFlags := 25, slot := 0, constantValue := 0 }, { name := "AIOOBE_FORMATTER", type := (.object "java/util/function/BiFunction"), accessFlags := 25, slot := 1, constantValue := 0 }, { name := "IOOBE_FORMATTER", type := (.object "java/util/function/BiFunction"), accessFlags := 25, slot := 2, constantValue := 0 }]
  methods := #[k12m0, k12m1]
  instanceTypes := #[]
  staticTypes := #[(.object "java/util/function/BiFunction"), (.object "java/util/function/BiFunction"), (.object "java/util/function/BiFunction")]
  resolved := Array.replicate 194 none
  statics := some 2 }

def pool13 : Array CpInfo := pool [(9, u "<init>"), (6, .class_ 18), (1, u "java/lang/Object"), (0, u "()V"), (1, .class_ 23), (1, u "jdk/internal/util/ArraysSupport"), (0, u "LOG2_ARRAY_LONG_INDEX_SCALE"), (0, u "I"), (2, u "U"), (0, u "Ljdk/internal/misc/Unsafe;"), (8, u "BIG_ENDIAN"), (0, u "Z"), (8, u "LOG2_BYTE_BIT_SIZE"), (4, u "LOG2_ARRAY_INT_INDEX_SCALE"), (54, u "JLA"), (0, u "Ljdk/internal/access/JavaLangAccess;"), (11, u "LOG2_ARRAY_BOOLEAN_INDEX_SCALE"), (9, u "LOG2_ARRAY_BYTE_INDEX_SCALE"), (5, u "LOG2_ARRAY_CHAR_INDEX_SCALE"), (5, u "LOG2_ARRAY_SHORT_INDEX_SCALE"), (18, u "LOG2_ARRAY_FLOAT_INDEX_SCALE"), (24, u "LOG2_ARRAY_DOUBLE_INDEX_SCALE"), (89, u "T_BOOLEAN"), (2, u "T_CHAR"), (1, u "T_FLOAT"), (1, u "T_DOUBLE"), (1, u "T_BYTE"), (1, u "T_SHORT"), (1, u "T_INT"), (1, u "T_LONG"), (1, u "SOFT_MAX_ARRAY_LENGTH")] 83

def k13m0 : Method := { name := "<init>", desc := "()V", sig := { parameters := [], returnType := none }, accessFlags := 2, code := none }
/-- jdk/internal/util/ArraysSupport -/
def k13 : Class := { plain "jdk/internal/util/ArraysSupport" (some 0) with
  accessFlags := 33
  interfaces := #[]
  cf := some (fileOf pool13 21 #[] #[{ accessFlags := 2, nameIndex := 9, descriptorIndex := 19, attributes := #[] }] 33 16 #[] #[{ accessFlags := 24, nameIndex := 28, descriptorIndex := 29, attributes := #[] }, { accessFlags := 26, nameIndex := 38, descriptorIndex := 39, attributes := #[] }, { accessFlags := 25, nameIndex := 121, descriptorIndex := 25, attributes := #[] }, { accessFlags := 25, nameIndex := 131, descriptorIndex := 25, attributes := #[] }, { accessFlags := 25, nameIndex := 137, descriptorIndex := 25, attributes := #[] }, { accessFlags := 25, nameIndex := 143, descriptorIndex := 25, attributes := #[] }, { accessFlags := 25, nameIndex := 53, descriptorIndex := 25, attributes := #[] }, { accessFlags := 25, nameIndex := 24, descriptorIndex := 25, attributes := #[] }, { accessFlags := 25, nameIndex := 162, descriptorIndex := 25, attributes := #[] }, { accessFlags := 25, nameIndex := 187, descriptorIndex := 25, attributes := #[] }, { accessFlags := 26, nameIndex := 48, descriptorIndex := 25, attributes := #[] }, { accessFlags := 25, nameIndex := 277, descriptorIndex := 25, attributes := #[] }, { accessFlags := 25, nameIndex := 280, descriptorIndex := 25, attributes := #[] }, { accessFlags := 25, nameIndex := 282, descriptorIndex := 25, attributes := #[] }, { accessFlags := 25, nameIndex := 284, descriptorIndex := 25, attributes := #[] }, { accessFlags := 25, nameIndex := 286, descriptorIndex := 25, attributes := #[] }, { accessFlags := 25, nameIndex := 288, descriptorIndex := 25, attributes := #[] }, { accessFlags := 25, nameIndex := 290, descriptorIndex := 25, attributes := #[] }, { accessFlags := 25, nameIndex := 292, descriptorIndex := 25, attributes := #[] }, { accessFlags := 26, nameIndex := 108, descriptorIndex := 109, attributes := #[] }, { accessFlags := 25, nameIndex := 294, descriptorIndex := 25, attributes := #[] }])
  fields := #[{ name := "U", type := (.object "jdk/internal/misc/Unsafe"), accessFlags := 24, slot := 0, constantValue := 0 }, { name := "BIG_ENDIAN", type := .boolean, accessFlags := 26, slot := 1, constantValue := 0 }, { name := "LOG2_ARRAY_BOOLEAN_INDEX_SCALE", type := .int, accessFlags := 25, slot := 2, constantValue := 0 }, { name := "LOG2_ARRAY_BYTE_INDEX_SCALE", type := .int, accessFlags := 25, slot := 3, constantValue := 0 }, { name := "LOG2_ARRAY_CHAR_INDEX_SCALE", type := .int, accessFlags := 25, slot := 4, constantValue := 0 }, { name := "LOG2_ARRAY_SHORT_INDEX_SCALE", type := .int, accessFlags := 25, slot := 5, constantValue := 0 }, { name := "LOG2_ARRAY_INT_INDEX_SCALE", type := .int, accessFlags := 25, slot := 6, constantValue := 0 }, { name := "LOG2_ARRAY_LONG_INDEX_SCALE", type := .int, accessFlags := 25, slot := 7, constantValue := 0 }, { name := "LOG2_ARRAY_FLOAT_INDEX_SCALE", type := .int, accessFlags := 25, slot := 8, constantValue := 0 }, { name := "LOG2_ARRAY_DOUBLE_INDEX_SCALE", type := .int, accessFlags := 25, slot := 9, constantValue := 0 }, { name := "LOG2_BYTE_BIT_SIZE", type := .int, accessFlags := 26, slot := 10, constantValue := 0 }, { name := "T_BOOLEAN", type := .int, accessFlags := 25, slot := 11, constantValue := 0 }, { name := "T_CHAR", type := .int, accessFlags := 25, slot := 12, constantValue := 0 }, { name := "T_FLOAT", type := .int, accessFlags := 25, slot := 13, constantValue := 0 }, { name := "T_DOUBLE", type := .int, accessFlags := 25, slot := 14, constantValue := 0 }, { name := "T_BYTE", type := .int, accessFlags := 25, slot := 15, constantValue := 0 }, { name := "T_SHORT", type := .int, accessFlags := 25, slot := 16, constantValue := 0 }, { name := "T_INT", type := .int, accessFlags := 25, slot := 17, constantValue := 0 }, { name := "T_LONG", type := .int, accessFlags := 25, slot := 18, constantValue := 0 }, { name := "JLA", type := (.object "jdk/internal/access/JavaLangAccess"), accessFlags := 26, slot := 19, constantValue := 0 }, { name := "SOFT_MAX_ARRAY_LENGTH", type := .int, accessFlags := 25, slot := 20, constantValue := 0 }]
  methods := #[k13m0]
  instanceTypes := #[]
  staticTypes := #[(.object "jdk/internal/misc/Unsafe"), .boolean, .int, .int, .int, .int, .int, .int, .int, .int, .int, .int, .int, .int, .int, .int, .int, .int, .int, (.object "jdk/internal/access/JavaLangAccess"), .int]
  resolved := Array.replicate 378 none
  statics := none }

def pool14 : Array CpInfo := pool [(1, u "java/lang/Cloneable"), (0, .class_ 1), (0, u "java/lang/Object"), (0, .class_ 3)] 3

/-- java/lang/Cloneable -/
def k14 : Class := { plain "java/lang/Cloneable" (some 0) with
  accessFlags := 1537
  interfaces := #[]
  cf := some (fileOf pool14 2 #[] #[] 1537 4 #[] #[])
  fields := #[]
  methods := #[]
  instanceTypes := #[]
  staticTypes := #[]
  resolved := Array.replicate 8 none
  statics := none }

/-- the primitive byte -/
def k15 : Class := { plain "byte" none with kind := .primitive 'B', accessFlags := 0x411 }
/-- [B -/
def k16 : Class := { plain "[B" (some 0) with kind := .array 15 .byte, interfaces := #[14, 2], accessFlags := 1041 }

/-- the primitive char -/
def k17 : Class := { plain "char" none with kind := .primitive 'C', accessFlags := 0x411 }
/-- [C -/
def k18 : Class := { plain "[C" (some 0) with kind := .array 17 .char, interfaces := #[14, 2], accessFlags := 1041 }

/-- the primitive int -/
def k19 : Class := { plain "int" none with kind := .primitive 'I', accessFlags := 0x411 }
/-- [I -/
def k20 : Class := { plain "[I" (some 0) with kind := .array 19 .int, interfaces := #[14, 2], accessFlags := 1041 }

def heap : Heap := #[{ cls := 7, slots := #[.long 0, .int 1, .null, .int 0, .null, .int 0, .int 0], vm := .statics 7 },
  { cls := 11, slots := #[.int 0, .int 8, .int 0, .int 1], vm := .statics 11 },
  { cls := 12, slots := #[.null, .null, .null], vm := .statics 12 }]
def classes : Array Class := #[k0, k1, k2, k3, k4, k5, k6, k7, k8, k9, k10, k11, k12, k13, k14, k15, k16, k17, k18, k19, k20]
def interned : List (Array UInt16 × Addr) := []
def slotsUsed : Nat := 14
def theMethod : MethodId := ⟨1, 3⟩
def args0 : Array Value := #[.int 5, .int 6, .int 7, .int 8]
def aboutOver (below : List Frame) : State where
  vm := { classes := classes, interned := interned.toArray }
  heap := heap
  slotsUsed := slotsUsed
  threads := #[{ frames := .invoking theMethod args0 :: below }]
def below0 : List Frame := [.native { method := ⟨0, 0⟩, args := #[] }]
def about1 : State := aboutOver below0
def p0 : Program := .bare "" "" ""
def e0 : Env := launch0.env 0 0 0
theorem w_frames : about1.frames = Frame.invoking theMethod args0 :: below0 := rfl
set_option maxRecDepth 65536 in
theorem w_args : argsFit about1.vm theMethod args0 = true := by decide +kernel
set_option maxRecDepth 65536 in
theorem w_heap : heapFits about1 = true := by decide +kernel
set_option maxRecDepth 65536 in
theorem w_runnable : about1.curStatus? = some .runnable := by decide +kernel
set_option maxRecDepth 65536 in
theorem w_alone : about1.alone = true := by decide +kernel
set_option maxRecDepth 65536 in
theorem w_named : about1.methodNamed? x = some theMethod := by decide +kernel
set_option maxRecDepth 65536 in
theorem w_hears : about1.hears theMethod below0 = true := by decide +kernel
set_option maxRecDepth 65536 in
theorem w_ripe : about1.ripe theMethod args0 below0 = true := by decide +kernel
theorem w_running : about1.status = .running := rfl
set_option maxRecDepth 65536 in
theorem w_room : about1.hasRoom e0.platform room_1 = true :=
  launch0.hasRoom_least _ room_1 (by decide +kernel) (by decide +kernel) (by decide +kernel) (by decide +kernel) (by decide +kernel) (by decide +kernel)
theorem allAtoms_all (ts : List Jvm.Cond) (a : Array Jvm.Value) (st : Jvm.State) : (allAtoms ts).before a st = ts.all (fun c => c.before a st) := by
  induction ts with
  | nil => rfl
  | cons c t ih =>
    show (Jvm.Cond.and c (allAtoms t)).before a st = _
    rw [Jvm.Cond.before_and, ih, List.all_cons]
def words1 : List Jvm.Cond := Jvm.Cond.code x code maxLocals ret :: tables_1
/-- a 'code' word, met by the world's own term for the bytes: nothing is compared byte by byte -/
theorem code_word {y : MethodName} {bytes : ByteArray} {mx : Nat} {rt : Option FieldType} {a : Array Value} {s : State} {m : MethodId} {meth : Method} {c : Code} (h1 : s.methodNamed? y = some m) (h2 : s.vm.method? m = some meth) (h3 : meth.code = some c) (h4 : c.code = bytes)
    (h5 : (c.maxLocals == mx && c.exceptionTable.isEmpty && decide (c.maxStack ≤ mostOperands) && decide (meth.sig.returnType = rt) && !meth.locks && decide (parseMethodDescriptor y.desc = some meth.sig)) = true) : (Jvm.Cond.code y bytes mx rt).before a s = true := by
  simp only [Bool.and_eq_true, beq_iff_eq, Bool.not_eq_true', decide_eq_true_eq] at h5
  obtain ⟨⟨⟨⟨⟨g1, g2⟩, g3⟩, g4⟩, g5⟩, g6⟩ := h5
  simp [Cond.before, Cond.holds, Cond.value, h1, h2, h3, h4, g1, g2, g3, g4, g5, g6]
def isCode : Jvm.Cond → Bool
  | .code _ _ _ _ => true
  | _ => false
theorem all_split {L : List Jvm.Cond} {P : Jvm.Cond → Bool} (h1 : L.all (fun c => isCode c || P c) = true) (h2 : ∀ c ∈ L.filter isCode, P c = true) : L.all P = true := by
  refine List.all_eq_true.mpr fun c hc => ?_
  have h := List.all_eq_true.mp h1 c hc
  rcases Bool.eq_false_or_eq_true (isCode c) with hi | hi
  · exact h2 c (List.mem_filter.mpr ⟨hc, hi⟩)
  · simpa [hi] using h
set_option maxRecDepth 65536 in
theorem w_c0 : (Jvm.Cond.code x code maxLocals ret).before args0 about1 = true := code_word (m := ⟨1, 3⟩) (meth := k1m3) (c := k1c3) (by decide +kernel) rfl rfl rfl (by decide +kernel)
set_option maxRecDepth 65536 in
theorem w_c1 : (Jvm.Cond.code ({ cls := "com/example/caddis/caddis/ManifestWriterCanHoldPinLaw", name := "draw", desc := "(I)C" } : Jvm.MethodName) method_2_code (2 : Nat) (Option.some Jvm.ClassFile.FieldType.char)).before args0 about1 = true := code_word (m := ⟨1, 1⟩) (meth := k1m1) (c := k1c1) (by decide +kernel) rfl rfl rfl (by decide +kernel)
set_option maxRecDepth 65536 in
theorem w_c2 : (Jvm.Cond.code ({ cls := "java/lang/String", name := "<init>", desc := "([C)V" } : Jvm.MethodName) jdk_42_method_3_code (2 : Nat) (Option.none : Option Jvm.ClassFile.FieldType)).before args0 about1 = true := code_word (m := ⟨7, 1⟩) (meth := k7m1) (c := k7c1) (by decide +kernel) rfl rfl rfl (by decide +kernel)
set_option maxRecDepth 65536 in
theorem w_c3 : (Jvm.Cond.code ({ cls := "java/lang/String", name := "<init>", desc := "([CIILjava/lang/Void;)V" } : Jvm.MethodName) jdk_42_method_149_code (6 : Nat) (Option.none : Option Jvm.ClassFile.FieldType)).before args0 about1 = true := code_word (m := ⟨7, 5⟩) (meth := k7m5) (c := k7c5) (by decide +kernel) rfl rfl rfl (by decide +kernel)
set_option maxRecDepth 65536 in
theorem w_c4 : (Jvm.Cond.code ({ cls := "java/lang/Object", name := "<init>", desc := "()V" } : Jvm.MethodName) object_method_1_code (1 : Nat) (Option.none : Option Jvm.ClassFile.FieldType)).before args0 about1 = true := code_word (m := ⟨0, 0⟩) (meth := k0m0) (c := k0c0) (by decide +kernel) rfl rfl rfl (by decide +kernel)
set_option maxRecDepth 65536 in
theorem w_c5 : (Jvm.Cond.code ({ cls := "com/example/caddis/caddis/ManifestWriter", name := "canHold", desc := "(Ljava/lang/String;)Z" } : Jvm.MethodName) prog_9_method_2_code (1 : Nat) (Option.some Jvm.ClassFile.FieldType.boolean)).before args0 about1 = true := code_word (m := ⟨8, 1⟩) (meth := k8m1) (c := k8c1) (by decide +kernel) rfl rfl rfl (by decide +kernel)
set_option maxRecDepth 65536 in
theorem w_c6 : (Jvm.Cond.code ({ cls := "java/lang/String", name := "indexOf", desc := "(I)I" } : Jvm.MethodName) jdk_42_method_79_code (2 : Nat) (Option.some Jvm.ClassFile.FieldType.int)).before args0 about1 = true := code_word (m := ⟨7, 3⟩) (meth := k7m3) (c := k7c3) (by decide +kernel) rfl rfl rfl (by decide +kernel)
set_option maxRecDepth 65536 in
theorem w_c7 : (Jvm.Cond.code ({ cls := "java/lang/String", name := "indexOf", desc := "(II)I" } : Jvm.MethodName) jdk_42_method_80_code (3 : Nat) (Option.some Jvm.ClassFile.FieldType.int)).before args0 about1 = true := code_word (m := ⟨7, 4⟩) (meth := k7m4) (c := k7c4) (by decide +kernel) rfl rfl rfl (by decide +kernel)
set_option maxRecDepth 65536 in
theorem w_c8 : (Jvm.Cond.code ({ cls := "java/lang/String", name := "isLatin1", desc := "()Z" } : Jvm.MethodName) jdk_42_method_154_code (1 : Nat) (Option.some Jvm.ClassFile.FieldType.boolean)).before args0 about1 = true := code_word (m := ⟨7, 7⟩) (meth := k7m7) (c := k7c7) (by decide +kernel) rfl rfl rfl (by decide +kernel)
set_option maxRecDepth 65536 in
theorem w_c9 : (Jvm.Cond.code ({ cls := "java/lang/String", name := "length", desc := "()I" } : Jvm.MethodName) jdk_42_method_54_code (1 : Nat) (Option.some Jvm.ClassFile.FieldType.int)).before args0 about1 = true := code_word (m := ⟨7, 2⟩) (meth := k7m2) (c := k7c2) (by decide +kernel) rfl rfl rfl (by decide +kernel)
set_option maxRecDepth 65536 in
theorem w_c10 : (Jvm.Cond.code ({ cls := "java/lang/String", name := "coder", desc := "()B" } : Jvm.MethodName) jdk_42_method_152_code (1 : Nat) (Option.some Jvm.ClassFile.FieldType.byte)).before args0 about1 = true := code_word (m := ⟨7, 6⟩) (meth := k7m6) (c := k7c6) (by decide +kernel) rfl rfl rfl (by decide +kernel)
set_option maxRecDepth 65536 in
theorem w_c11 : (Jvm.Cond.code ({ cls := "java/lang/StringLatin1", name := "indexOf", desc := "([BIII)I" } : Jvm.MethodName) jdk_43_method_22_code (4 : Nat) (Option.some Jvm.ClassFile.FieldType.int)).before args0 about1 = true := code_word (m := ⟨9, 2⟩) (meth := k9m2) (c := k9c2) (by decide +kernel) rfl rfl rfl (by decide +kernel)
set_option maxRecDepth 65536 in
theorem w_c12 : (Jvm.Cond.code ({ cls := "java/lang/StringLatin1", name := "canEncode", desc := "(I)Z" } : Jvm.MethodName) jdk_43_method_4_code (1 : Nat) (Option.some Jvm.ClassFile.FieldType.boolean)).before args0 about1 = true := code_word (m := ⟨9, 1⟩) (meth := k9m1) (c := k9c1) (by decide +kernel) rfl rfl rfl (by decide +kernel)
set_option maxRecDepth 65536 in
theorem w_c13 : (Jvm.Cond.code ({ cls := "java/lang/Math", name := "max", desc := "(II)I" } : Jvm.MethodName) jdk_29_method_65_code (2 : Nat) (Option.some Jvm.ClassFile.FieldType.int)).before args0 about1 = true := code_word (m := ⟨10, 1⟩) (meth := k10m1) (c := k10c1) (by decide +kernel) rfl rfl rfl (by decide +kernel)
set_option maxRecDepth 65536 in
theorem w_c14 : (Jvm.Cond.code ({ cls := "java/lang/Math", name := "min", desc := "(II)I" } : Jvm.MethodName) jdk_29_method_69_code (2 : Nat) (Option.some Jvm.ClassFile.FieldType.int)).before args0 about1 = true := code_word (m := ⟨10, 2⟩) (meth := k10m2) (c := k10c2) (by decide +kernel) rfl rfl rfl (by decide +kernel)
set_option maxRecDepth 65536 in
theorem w_c15 : (Jvm.Cond.code ({ cls := "java/lang/StringUTF16", name := "compress", desc := "([CII)[B" } : Jvm.MethodName) jdk_52_method_16_code (6 : Nat) (Option.some (Jvm.ClassFile.FieldType.array Jvm.ClassFile.FieldType.byte))).before args0 about1 = true := code_word (m := ⟨11, 8⟩) (meth := k11m8) (c := k11c8) (by decide +kernel) rfl rfl rfl (by decide +kernel)
set_option maxRecDepth 65536 in
theorem w_c16 : (Jvm.Cond.code ({ cls := "java/lang/StringUTF16", name := "compress", desc := "([CI[BII)I" } : Jvm.MethodName) jdk_52_method_21_code (7 : Nat) (Option.some Jvm.ClassFile.FieldType.int)).before args0 about1 = true := code_word (m := ⟨11, 9⟩) (meth := k11m9) (c := k11c9) (by decide +kernel) rfl rfl rfl (by decide +kernel)
set_option maxRecDepth 65536 in
theorem w_c17 : (Jvm.Cond.code ({ cls := "java/lang/StringUTF16", name := "coderFromArrayLen", desc := "([BI)B" } : Jvm.MethodName) jdk_52_method_15_code (2 : Nat) (Option.some Jvm.ClassFile.FieldType.byte)).before args0 about1 = true := code_word (m := ⟨11, 7⟩) (meth := k11m7) (c := k11c7) (by decide +kernel) rfl rfl rfl (by decide +kernel)
set_option maxRecDepth 65536 in
theorem w_c18 : (Jvm.Cond.code ({ cls := "com/example/caddis/caddis/ManifestWriterCanHoldPinLaw", name := "bad", desc := "(C)Z" } : Jvm.MethodName) method_3_code (1 : Nat) (Option.some Jvm.ClassFile.FieldType.boolean)).before args0 about1 = true := code_word (m := ⟨1, 2⟩) (meth := k1m2) (c := k1c2) (by decide +kernel) rfl rfl rfl (by decide +kernel)
set_option maxRecDepth 65536 in
theorem w_c19 : (Jvm.Cond.code ({ cls := "java/lang/StringLatin1", name := "indexOfChar", desc := "([BIII)I" } : Jvm.MethodName) jdk_43_method_23_code (6 : Nat) (Option.some Jvm.ClassFile.FieldType.int)).before args0 about1 = true := code_word (m := ⟨9, 3⟩) (meth := k9m3) (c := k9c3) (by decide +kernel) rfl rfl rfl (by decide +kernel)
set_option maxRecDepth 65536 in
theorem w_c20 : (Jvm.Cond.code ({ cls := "java/lang/StringUTF16", name := "toBytes", desc := "([CII)[B" } : Jvm.MethodName) jdk_52_method_14_code (5 : Nat) (Option.some (Jvm.ClassFile.FieldType.array Jvm.ClassFile.FieldType.byte))).before args0 about1 = true := code_word (m := ⟨11, 6⟩) (meth := k11m6) (c := k11c6) (by decide +kernel) rfl rfl rfl (by decide +kernel)
set_option maxRecDepth 65536 in
theorem w_c21 : (Jvm.Cond.code ({ cls := "java/lang/StringUTF16", name := "newBytesFor", desc := "(I)[B" } : Jvm.MethodName) jdk_52_method_2_code (1 : Nat) (Option.some (Jvm.ClassFile.FieldType.array Jvm.ClassFile.FieldType.byte))).before args0 about1 = true := code_word (m := ⟨11, 1⟩) (meth := k11m1) (c := k11c1) (by decide +kernel) rfl rfl rfl (by decide +kernel)
set_option maxRecDepth 65536 in
theorem w_c22 : (Jvm.Cond.code ({ cls := "java/lang/StringUTF16", name := "newBytesLength", desc := "(I)I" } : Jvm.MethodName) jdk_52_method_3_code (1 : Nat) (Option.some Jvm.ClassFile.FieldType.int)).before args0 about1 = true := code_word (m := ⟨11, 2⟩) (meth := k11m2) (c := k11c2) (by decide +kernel) rfl rfl rfl (by decide +kernel)
set_option maxRecDepth 65536 in
theorem w_c23 : (Jvm.Cond.code ({ cls := "java/lang/StringUTF16", name := "putChar", desc := "([BII)V" } : Jvm.MethodName) jdk_52_method_4_code (3 : Nat) (Option.none : Option Jvm.ClassFile.FieldType)).before args0 about1 = true := code_word (m := ⟨11, 3⟩) (meth := k11m3) (c := k11c3) (by decide +kernel) rfl rfl rfl (by decide +kernel)
set_option maxRecDepth 65536 in
theorem w_c24 : (Jvm.Cond.code ({ cls := "java/lang/StringUTF16", name := "getChar", desc := "([BI)C" } : Jvm.MethodName) jdk_52_method_5_code (2 : Nat) (Option.some Jvm.ClassFile.FieldType.char)).before args0 about1 = true := code_word (m := ⟨11, 4⟩) (meth := k11m4) (c := k11c4) (by decide +kernel) rfl rfl rfl (by decide +kernel)
set_option maxRecDepth 65536 in
theorem w_c25 : (Jvm.Cond.code ({ cls := "java/lang/StringUTF16", name := "indexOf", desc := "([BIII)I" } : Jvm.MethodName) jdk_52_method_40_code (4 : Nat) (Option.some Jvm.ClassFile.FieldType.int)).before args0 about1 = true := code_word (m := ⟨11, 10⟩) (meth := k11m10) (c := k11c10) (by decide +kernel) rfl rfl rfl (by decide +kernel)
set_option maxRecDepth 65536 in
theorem w_c26 : (Jvm.Cond.code ({ cls := "java/lang/StringUTF16", name := "indexOfChar", desc := "([BIII)I" } : Jvm.MethodName) jdk_52_method_47_code (4 : Nat) (Option.some Jvm.ClassFile.FieldType.int)).before args0 about1 = true := code_word (m := ⟨11, 11⟩) (meth := k11m11) (c := k11c11) (by decide +kernel) rfl rfl rfl (by decide +kernel)
set_option maxRecDepth 65536 in
theorem w_c27 : (Jvm.Cond.code ({ cls := "java/lang/StringUTF16", name := "checkBoundsBeginEnd", desc := "(II[B)V" } : Jvm.MethodName) jdk_52_method_93_code (3 : Nat) (Option.none : Option Jvm.ClassFile.FieldType)).before args0 about1 = true := code_word (m := ⟨11, 13⟩) (meth := k11m13) (c := k11c13) (by decide +kernel) rfl rfl rfl (by decide +kernel)
set_option maxRecDepth 65536 in
theorem w_c28 : (Jvm.Cond.code ({ cls := "java/lang/StringUTF16", name := "length", desc := "([B)I" } : Jvm.MethodName) jdk_52_method_6_code (1 : Nat) (Option.some Jvm.ClassFile.FieldType.int)).before args0 about1 = true := code_word (m := ⟨11, 5⟩) (meth := k11m5) (c := k11c5) (by decide +kernel) rfl rfl rfl (by decide +kernel)
set_option maxRecDepth 65536 in
theorem w_c29 : (Jvm.Cond.code ({ cls := "java/lang/String", name := "checkBoundsBeginEnd", desc := "(III)V" } : Jvm.MethodName) jdk_42_method_158_code (3 : Nat) (Option.none : Option Jvm.ClassFile.FieldType)).before args0 about1 = true := code_word (m := ⟨7, 8⟩) (meth := k7m8) (c := k7c8) (by decide +kernel) rfl rfl rfl (by decide +kernel)
set_option maxRecDepth 65536 in
theorem w_c30 : (Jvm.Cond.code ({ cls := "jdk/internal/util/Preconditions", name := "checkFromToIndex", desc := "(IIILjava/util/function/BiFunction;)I" } : Jvm.MethodName) jdk_41_method_12_code (4 : Nat) (Option.some Jvm.ClassFile.FieldType.int)).before args0 about1 = true := code_word (m := ⟨12, 1⟩) (meth := k12m1) (c := k12c1) (by decide +kernel) rfl rfl rfl (by decide +kernel)
set_option maxRecDepth 65536 in
theorem w_c31 : (Jvm.Cond.code ({ cls := "java/lang/StringUTF16", name := "indexOfCharUnsafe", desc := "([BIII)I" } : Jvm.MethodName) jdk_52_method_48_code (5 : Nat) (Option.some Jvm.ClassFile.FieldType.int)).before args0 about1 = true := code_word (m := ⟨11, 12⟩) (meth := k11m12) (c := k11c12) (by decide +kernel) rfl rfl rfl (by decide +kernel)
def codes1 : List Jvm.Cond := [Jvm.Cond.code x code maxLocals ret, Jvm.Cond.code ({ cls := "com/example/caddis/caddis/ManifestWriterCanHoldPinLaw", name := "draw", desc := "(I)C" } : Jvm.MethodName) method_2_code (2 : Nat) (Option.some Jvm.ClassFile.FieldType.char), Jvm.Cond.code ({ cls := "java/lang/String", name := "<init>", desc := "([C)V" } : Jvm.MethodName) jdk_42_method_3_code (2 : Nat) (Option.none : Option Jvm.ClassFile.FieldType), Jvm.Cond.code ({ cls := "java/lang/String", name := "<init>", desc := "([CIILjava/lang/Void;)V" } : Jvm.MethodName) jdk_42_method_149_code (6 : Nat) (Option.none : Option Jvm.ClassFile.FieldType), Jvm.Cond.code ({ cls := "java/lang/Object", name := "<init>", desc := "()V" } : Jvm.MethodName) object_method_1_code (1 : Nat) (Option.none : Option Jvm.ClassFile.FieldType), Jvm.Cond.code ({ cls := "com/example/caddis/caddis/ManifestWriter", name := "canHold", desc := "(Ljava/lang/String;)Z" } : Jvm.MethodName) prog_9_method_2_code (1 : Nat) (Option.some Jvm.ClassFile.FieldType.boolean), Jvm.Cond.code ({ cls := "java/lang/String", name := "indexOf", desc := "(I)I" } : Jvm.MethodName) jdk_42_method_79_code (2 : Nat) (Option.some Jvm.ClassFile.FieldType.int), Jvm.Cond.code ({ cls := "java/lang/String", name := "indexOf", desc := "(II)I" } : Jvm.MethodName) jdk_42_method_80_code (3 : Nat) (Option.some Jvm.ClassFile.FieldType.int), Jvm.Cond.code ({ cls := "java/lang/String", name := "isLatin1", desc := "()Z" } : Jvm.MethodName) jdk_42_method_154_code (1 : Nat) (Option.some Jvm.ClassFile.FieldType.boolean), Jvm.Cond.code ({ cls := "java/lang/String", name := "length", desc := "()I" } : Jvm.MethodName) jdk_42_method_54_code (1 : Nat) (Option.some Jvm.ClassFile.FieldType.int), Jvm.Cond.code ({ cls := "java/lang/String", name := "coder", desc := "()B" } : Jvm.MethodName) jdk_42_method_152_code (1 : Nat) (Option.some Jvm.ClassFile.FieldType.byte), Jvm.Cond.code ({ cls := "java/lang/StringLatin1", name := "indexOf", desc := "([BIII)I" } : Jvm.MethodName) jdk_43_method_22_code (4 : Nat) (Option.some Jvm.ClassFile.FieldType.int), Jvm.Cond.code ({ cls := "java/lang/StringLatin1", name := "canEncode", desc := "(I)Z" } : Jvm.MethodName) jdk_43_method_4_code (1 : Nat) (Option.some Jvm.ClassFile.FieldType.boolean), Jvm.Cond.code ({ cls := "java/lang/Math", name := "max", desc := "(II)I" } : Jvm.MethodName) jdk_29_method_65_code (2 : Nat) (Option.some Jvm.ClassFile.FieldType.int), Jvm.Cond.code ({ cls := "java/lang/Math", name := "min", desc := "(II)I" } : Jvm.MethodName) jdk_29_method_69_code (2 : Nat) (Option.some Jvm.ClassFile.FieldType.int), Jvm.Cond.code ({ cls := "java/lang/StringUTF16", name := "compress", desc := "([CII)[B" } : Jvm.MethodName) jdk_52_method_16_code (6 : Nat) (Option.some (Jvm.ClassFile.FieldType.array Jvm.ClassFile.FieldType.byte)), Jvm.Cond.code ({ cls := "java/lang/StringUTF16", name := "compress", desc := "([CI[BII)I" } : Jvm.MethodName) jdk_52_method_21_code (7 : Nat) (Option.some Jvm.ClassFile.FieldType.int), Jvm.Cond.code ({ cls := "java/lang/StringUTF16", name := "coderFromArrayLen", desc := "([BI)B" } : Jvm.MethodName) jdk_52_method_15_code (2 : Nat) (Option.some Jvm.ClassFile.FieldType.byte), Jvm.Cond.code ({ cls := "com/example/caddis/caddis/ManifestWriterCanHoldPinLaw", name := "bad", desc := "(C)Z" } : Jvm.MethodName) method_3_code (1 : Nat) (Option.some Jvm.ClassFile.FieldType.boolean), Jvm.Cond.code ({ cls := "java/lang/StringLatin1", name := "indexOfChar", desc := "([BIII)I" } : Jvm.MethodName) jdk_43_method_23_code (6 : Nat) (Option.some Jvm.ClassFile.FieldType.int), Jvm.Cond.code ({ cls := "java/lang/StringUTF16", name := "toBytes", desc := "([CII)[B" } : Jvm.MethodName) jdk_52_method_14_code (5 : Nat) (Option.some (Jvm.ClassFile.FieldType.array Jvm.ClassFile.FieldType.byte)), Jvm.Cond.code ({ cls := "java/lang/StringUTF16", name := "newBytesFor", desc := "(I)[B" } : Jvm.MethodName) jdk_52_method_2_code (1 : Nat) (Option.some (Jvm.ClassFile.FieldType.array Jvm.ClassFile.FieldType.byte)), Jvm.Cond.code ({ cls := "java/lang/StringUTF16", name := "newBytesLength", desc := "(I)I" } : Jvm.MethodName) jdk_52_method_3_code (1 : Nat) (Option.some Jvm.ClassFile.FieldType.int), Jvm.Cond.code ({ cls := "java/lang/StringUTF16", name := "putChar", desc := "([BII)V" } : Jvm.MethodName) jdk_52_method_4_code (3 : Nat) (Option.none : Option Jvm.ClassFile.FieldType), Jvm.Cond.code ({ cls := "java/lang/StringUTF16", name := "getChar", desc := "([BI)C" } : Jvm.MethodName) jdk_52_method_5_code (2 : Nat) (Option.some Jvm.ClassFile.FieldType.char), Jvm.Cond.code ({ cls := "java/lang/StringUTF16", name := "indexOf", desc := "([BIII)I" } : Jvm.MethodName) jdk_52_method_40_code (4 : Nat) (Option.some Jvm.ClassFile.FieldType.int), Jvm.Cond.code ({ cls := "java/lang/StringUTF16", name := "indexOfChar", desc := "([BIII)I" } : Jvm.MethodName) jdk_52_method_47_code (4 : Nat) (Option.some Jvm.ClassFile.FieldType.int), Jvm.Cond.code ({ cls := "java/lang/StringUTF16", name := "checkBoundsBeginEnd", desc := "(II[B)V" } : Jvm.MethodName) jdk_52_method_93_code (3 : Nat) (Option.none : Option Jvm.ClassFile.FieldType), Jvm.Cond.code ({ cls := "java/lang/StringUTF16", name := "length", desc := "([B)I" } : Jvm.MethodName) jdk_52_method_6_code (1 : Nat) (Option.some Jvm.ClassFile.FieldType.int), Jvm.Cond.code ({ cls := "java/lang/String", name := "checkBoundsBeginEnd", desc := "(III)V" } : Jvm.MethodName) jdk_42_method_158_code (3 : Nat) (Option.none : Option Jvm.ClassFile.FieldType), Jvm.Cond.code ({ cls := "jdk/internal/util/Preconditions", name := "checkFromToIndex", desc := "(IIILjava/util/function/BiFunction;)I" } : Jvm.MethodName) jdk_41_method_12_code (4 : Nat) (Option.some Jvm.ClassFile.FieldType.int), Jvm.Cond.code ({ cls := "java/lang/StringUTF16", name := "indexOfCharUnsafe", desc := "([BIII)I" } : Jvm.MethodName) jdk_52_method_48_code (5 : Nat) (Option.some Jvm.ClassFile.FieldType.int)]
set_option maxRecDepth 65536 in
theorem codes_eq : words1.filter isCode = codes1 := rfl
theorem w_codes : ∀ c ∈ words1.filter isCode, c.before args0 about1 = true := by
  rw [codes_eq]
  intro c hc
  simp only [codes1, List.mem_cons, List.not_mem_nil, or_false] at hc
  rcases hc with rfl | rfl | rfl | rfl | rfl | rfl | rfl | rfl | rfl | rfl | rfl | rfl | rfl | rfl | rfl | rfl | rfl | rfl | rfl | rfl | rfl | rfl | rfl | rfl | rfl | rfl | rfl | rfl | rfl | rfl | rfl | rfl
  · exact w_c0
  · exact w_c1
  · exact w_c2
  · exact w_c3
  · exact w_c4
  · exact w_c5
  · exact w_c6
  · exact w_c7
  · exact w_c8
  · exact w_c9
  · exact w_c10
  · exact w_c11
  · exact w_c12
  · exact w_c13
  · exact w_c14
  · exact w_c15
  · exact w_c16
  · exact w_c17
  · exact w_c18
  · exact w_c19
  · exact w_c20
  · exact w_c21
  · exact w_c22
  · exact w_c23
  · exact w_c24
  · exact w_c25
  · exact w_c26
  · exact w_c27
  · exact w_c28
  · exact w_c29
  · exact w_c30
  · exact w_c31
set_option maxRecDepth 65536 in
theorem w_t1 : (words1.take 24).all (fun c => isCode c || c.before args0 about1) = true := by decide +kernel
set_option maxRecDepth 65536 in
theorem w_t2 : ((words1.drop 24).take 24).all (fun c => isCode c || c.before args0 about1) = true := by decide +kernel
set_option maxRecDepth 65536 in
theorem w_t3 : (((words1.drop 24).drop 24).take 24).all (fun c => isCode c || c.before args0 about1) = true := by decide +kernel
set_option maxRecDepth 65536 in
theorem w_t4 : ((((words1.drop 24).drop 24).drop 24).take 24).all (fun c => isCode c || c.before args0 about1) = true := by decide +kernel
set_option maxRecDepth 65536 in
theorem w_t5 : (((((words1.drop 24).drop 24).drop 24).drop 24).take 24).all (fun c => isCode c || c.before args0 about1) = true := by decide +kernel
set_option maxRecDepth 65536 in
theorem w_t6 : (((((words1.drop 24).drop 24).drop 24).drop 24).drop 24).all (fun c => isCode c || c.before args0 about1) = true := by decide +kernel
theorem w_tables : (allAtoms (Jvm.Cond.code x code maxLocals ret :: tables_1)).before args0 about1 = true := by
  rw [allAtoms_all]
  show words1.all (fun c => c.before args0 about1) = true
  refine all_split ?_ w_codes
  rw [← List.take_append_drop 24 words1, List.all_append, w_t1, ← List.take_append_drop 24 (words1.drop 24), List.all_append, w_t2, ← List.take_append_drop 24 ((words1.drop 24).drop 24), List.all_append, w_t3, ← List.take_append_drop 24 (((words1.drop 24).drop 24).drop 24), List.all_append, w_t4, ← List.take_append_drop 24 ((((words1.drop 24).drop 24).drop 24).drop 24), List.all_append, w_t5, w_t6]
  rfl
set_option maxRecDepth 65536 in
theorem w_rest : rest_1_c.before args0 about1 = true := by decide +kernel
set_option maxRecDepth 65536 in
theorem w_case : (Jvm.Cond.and given_1 narrow_1).before args0 about1 = true := by decide +kernel
set_option maxRecDepth 65536 in
theorem w_consts : constsHeld consts_1 about1 := Jvm.Lit.constsHeldB_iff.mp (by decide +kernel)
theorem w_applies : (headSpec (Jvm.Cond.code x code maxLocals ret :: tables_1) room_1).applies x e0.platform about1 = true :=
  (Spec.applies_iff w_frames).mpr ⟨w_running, w_runnable, w_alone, w_named, w_hears, w_ripe, w_room, w_tables⟩
theorem atStart : AtStart classFile x code maxLocals ret World_1 tables_1 room_1 Calls_1 rest_1 Pre_1 launch0 p0 e0 about1 theMethod args0 below0 :=
  ⟨lists_1, trivial, launch0.admits_env _ _ _, launch0.least_env, fairChoices_fair.cas, fairChoices_fair.clock, w_frames, w_args, w_heap, w_applies, ⟨w_consts, trivial⟩, w_rest, w_case⟩
end start1
theorem witness_1 : WitnessClaimed_1 := ⟨start1.p0, start1.e0, start1.about1, start1.theMethod, start1.args0, start1.below0, start1.atStart⟩
end Jvm.Pilot.@@N@@
