import JvmDerived
import JvmDerived.Pilot.@@N@@Statement
import JvmDerived.Pilot.@@N@@Code
set_option linter.unusedVariables false
set_option linter.unusedSimpArgs false
namespace Jvm.RoadKit
open Sem ClassFile Op Lib Jvm.Stand Jvm.Free Jvm.LawKit
section New
variable {p : Program} {l : Launch} {e : Env} {R : Room} {s : State} {m : MethodId} {args : Array Value} {below : List Frame} {meth : Method} {c : Code} {T : State} {locs : List Loc} {cells slots : Nat}
theorem retI (X : Stand p l e R s m args below meth c T locs cells slots) (hx : p.tables.exec = Jvm.exec) {pc : Nat} {Ls : Array Slot} {z : Int32} {rest : List Value} (hret : meth.sig.returnType = some .int) (hd : decode c.code pc = .ok (.ireturn, 1)) {fs : List Frame}
    (hl : ∀ (f : JFrame) (acts : List Action), f.method = m → f.locked = none → f.entered = [] → (doReturn e (T.setTop f) acts (some (.int z))).1 = T.setFrames fs) : Steps p.tables e below (T.setTop (mkF m pc Ls (.int z :: rest))) (T.setFrames fs) := by
  have hm' : T.vm.method? m = some meth := X.method'
  have hn : narrow .int (.int z) = .int z := rfl
  show Steps p.tables e below (T.setTop { method := m, pc := pc, locals := Ls, stack := _ :: rest, locked := none }) _
  jvm_step X.here [X.here.top, hx, hd, hm', hret, hn]
  first | (intro acts; rw [hl _ acts rfl rfl rfl]) | rw [hl _ _ rfl rfl rfl]
  exact Steps.refl _
end New
end Jvm.RoadKit
namespace Jvm.Pilot.@@N@@
open Jvm Jvm.ClassFile Sem Op Lib Jvm.Free Jvm.Stand Jvm.LawKit Jvm.RoadKit Bundle Jvm.Pilot.@@N@@.Jvm.D
/-- whatever the machine reaches from (T', g') it reaches from (T, g) -/
def own_Go (p : Program) (e : Env) (below : List Frame) (T : State) (g : JFrame) (T' : State) (g' : JFrame) : Prop := ∀ t, Steps p.tables e below (T'.setTop g') t → Steps p.tables e below (T.setTop g) t
theorem own_Go.refl {p : Program} {e : Env} {below : List Frame} (T : State) (g : JFrame) : own_Go p e below T g T g := fun _ k => k
theorem own_Go.trans {p : Program} {e : Env} {below : List Frame} {T T' T'' : State} {g g' g'' : JFrame} (h : own_Go p e below T g T' g') (h' : own_Go p e below T' g' T'' g'') : own_Go p e below T g T'' g'' := fun tg_ kk_ => h tg_ (h' tg_ kk_)
/-! ## calls by their contracts, in one row each -/
section OwnCalls
variable {p : Program} {l : Launch} {e : Env} {R : Room} {s : State} {m : MethodId} {args : Array Value} {below : List Frame} {meth : Method} {c : Code} {T : State} {locs : List Loc} {cells slots : Nat} {Z : State} {a0 : Array Value} {h : Heap}
theorem own_callS (X : Stand p l e R s m args below meth c T locs cells slots) (hx : p.tables.exec = Jvm.exec) (hZ : Z.Warmed39 s.vm) {own : String} {index : Nat} {y : MethodName} {bytes : ByteArray} {maxL : Nat} {ret : Option FieldType} {rm : Room} {Q : Option Value → Heap → List Loc → Prop}
    (hown : s.vm.findClass own = some m.cls) (w1 : (Cond.methodLink own index y).before a0 Z = true) (w2 : (Cond.static y).before a0 Z = true) (w3 : (Cond.initialized y.cls).before a0 Z = true) (w4 : (Cond.code y bytes maxL ret).before a0 Z = true)
    (hy : y.cls ≠ "java/lang/invoke/MethodHandle" ∧ y.cls ≠ "java/lang/invoke/VarHandle") (W : Nat) {g : JFrame} (hg : g.method = m) (hsize : g.locals.size = c.maxLocals) (argsL rest : List Value)
    (hM : MetFree l y (head1 [Cond.code y bytes maxL ret] rm) (fun a U => a = argsL.toArray ∧ Z.Warmed39 U.vm ∧ U.heap = h) (fun _ _ _ _ _ => True) (fun _ U o U' => ∃ v L, o = .returned v ∧ Q v U'.heap L ∧ FrameEnd U o U' L rm.cells rm.slots))
    (hlen : ∀ sig, parseMethodDescriptor y.desc = some sig → argsL.length = sig.parameters.length) (hstack : g.stack = argsL.reverse ++ rest) (hW : 2 * g.monitorRoom + (rest.map fun v => v.category).sum ≤ W) (hd : decode c.code g.pc = .ok (.invokestatic index, 3))
    (hf : rm.frames + 1 ≤ R.frames) (hl : W + (maxL + 11) + rm.locals ≤ R.locals) (eT : T.heap = h) (hc : cells + rm.cells ≤ R.cells) (hs : slots + rm.slots ≤ R.slots) :
    ∃ (v : Option Value) (T' : State) (h' : Heap) (L : List Loc), Stand p l e R s m args below meth c T' (locs ++ L) (cells + rm.cells) (slots + rm.slots) ∧ T'.heap = h' ∧ Q v h' L ∧
      ∀ t, Steps p.tables e below (T'.setTop { g with pc := g.pc + 3, stack := v.toList ++ rest }) t → Steps p.tables e below (T.setTop g) t := by
  obtain ⟨v, _, ⟨T4, L4, k4, n4⟩, -, X4, ⟨Lc, hQ, l4, y4, z4⟩, st⟩ := Jvm.LawKit.callS X hx (y := y) hown (mvT hZ w1) (mvT hZ w2) (mvT hZ w3) (mvT hZ w4) hy (backOf (W := W) hM hZ w4 w3 hf hl) (g := g) hg hsize (argsL := argsL) (rest := rest) hlen hstack hW hd (fun _ _ => ⟨rfl, eT, hc, hs⟩)
  dsimp only [Pt.U, Pt.locs, Pt.cells, Pt.slots] at X4 l4 y4 z4 st hQ
  subst l4 y4 z4
  exact ⟨v, T4, _, Lc, X4, rfl, hQ, st⟩
theorem own_callI (X : Stand p l e R s m args below meth c T locs cells slots) (hx : p.tables.exec = Jvm.exec) (hZ : Z.Warmed39 s.vm) {own : String} {index : Nat} {y : MethodName} {bytes : ByteArray} {maxL : Nat} {rm : Room} {Q : Option Value → Heap → List Loc → Prop}
    (hy1 : y.name = "<init>") (hown : s.vm.findClass own = some m.cls) (w1 : (Cond.methodLink own index y).before a0 Z = true) (w2 : (Cond.instanceMethod y).before a0 Z = true) (w3 : (Cond.initialized y.cls).before a0 Z = true) (w4 : (Cond.code y bytes maxL none).before a0 Z = true)
    (hy : y.cls ≠ "java/lang/invoke/MethodHandle" ∧ y.cls ≠ "java/lang/invoke/VarHandle") (W : Nat) {g : JFrame} (hg : g.method = m) (hsize : g.locals.size = c.maxLocals) (a : Addr) (argsL rest : List Value)
    (hM : MetFree l y (head1 [Cond.code y bytes maxL none] rm) (fun a' U => a' = (.ref a :: argsL).toArray ∧ Z.Warmed39 U.vm ∧ U.heap = h) (fun _ _ _ _ _ => True) (fun _ U o U' => ∃ v L, o = .returned v ∧ Q v U'.heap L ∧ FrameEnd U o U' L rm.cells rm.slots))
    (hlen : ∀ sig, parseMethodDescriptor y.desc = some sig → argsL.length = sig.parameters.length) (hstack : g.stack = argsL.reverse ++ .ref a :: rest) (hW : 2 * g.monitorRoom + (rest.map fun v => v.category).sum ≤ W) (hd : decode c.code g.pc = .ok (.invokespecial index, 3))
    (hf : rm.frames + 1 ≤ R.frames) (hl : W + (maxL + 11) + rm.locals ≤ R.locals) (eT : T.heap = h) (hc : cells + rm.cells ≤ R.cells) (hs : slots + rm.slots ≤ R.slots) :
    ∃ (v : Option Value) (T' : State) (h' : Heap) (L : List Loc), Stand p l e R s m args below meth c T' (locs ++ L) (cells + rm.cells) (slots + rm.slots) ∧ T'.heap = h' ∧ Q v h' L ∧
      ∀ t, Steps p.tables e below (T'.setTop { g with pc := g.pc + 3, stack := v.toList ++ rest }) t → Steps p.tables e below (T.setTop g) t := by
  obtain ⟨v, _, ⟨T4, L4, k4, n4⟩, -, X4, ⟨Lc, hQ, l4, y4, z4⟩, st⟩ := X.specialBack hx (y := y) hy1 hown (mvT hZ w1) (mvT hZ w2) (mvT hZ w4) hy (backOf (W := W) hM hZ w4 w3 hf hl) (g := g) hg hsize (Steps.refl _) (a := a) (argsL := argsL) (rest := rest) hlen hstack hW hd (fun _ _ => ⟨rfl, eT, hc, hs⟩)
  dsimp only [Pt.U, Pt.locs, Pt.cells, Pt.slots] at X4 l4 y4 z4 st hQ
  subst l4 y4 z4
  exact ⟨v, T4, _, Lc, X4, rfl, hQ, fun t k => st.trans k⟩
theorem own_callV (X : Stand p l e R s m args below meth c T locs cells slots) (hx : p.tables.exec = Jvm.exec) (hZ : Z.Warmed39 s.vm) {own C : String} {index : Nat} {y : MethodName} {bytes : ByteArray} {maxL : Nat} {ret : Option FieldType} {rm : Room} {Q : Option Value → Heap → List Loc → Prop}
    (hown : s.vm.findClass own = some m.cls) (w1 : (Cond.methodLink own index y).before a0 Z = true) (w2 : (Cond.declares y).before a0 Z = true) (w5 : (Cond.selects C y y).before a0 Z = true) (w6 : (Cond.instanceMethod y).before a0 Z = true) (w3 : (Cond.initialized y.cls).before a0 Z = true) (w4 : (Cond.code y bytes maxL ret).before a0 Z = true)
    (hy : y.cls ≠ "java/lang/invoke/MethodHandle" ∧ y.cls ≠ "java/lang/invoke/VarHandle") (W : Nat) {g : JFrame} (hg : g.method = m) (hsize : g.locals.size = c.maxLocals) (a : Addr) (E : Exa Z h a C) (argsL rest : List Value)
    (hM : MetFree l y (head1 [Cond.code y bytes maxL ret] rm) (fun a' U => a' = (.ref a :: argsL).toArray ∧ Z.Warmed39 U.vm ∧ U.heap = h) (fun _ _ _ _ _ => True) (fun _ U o U' => ∃ v L, o = .returned v ∧ Q v U'.heap L ∧ FrameEnd U o U' L rm.cells rm.slots))
    (hlen : ∀ sig, parseMethodDescriptor y.desc = some sig → argsL.length = sig.parameters.length) (hstack : g.stack = argsL.reverse ++ .ref a :: rest) (hW : 2 * g.monitorRoom + (rest.map fun v => v.category).sum ≤ W) (hd : decode c.code g.pc = .ok (.invokevirtual index, 3))
    (hf : rm.frames + 1 ≤ R.frames) (hl : W + (maxL + 11) + rm.locals ≤ R.locals) (eT : T.heap = h) (hc : cells + rm.cells ≤ R.cells) (hs : slots + rm.slots ≤ R.slots) :
    ∃ (v : Option Value) (T' : State) (h' : Heap) (L : List Loc), Stand p l e R s m args below meth c T' (locs ++ L) (cells + rm.cells) (slots + rm.slots) ∧ T'.heap = h' ∧ Q v h' L ∧
      ∀ t, Steps p.tables e below (T'.setTop { g with pc := g.pc + 3, stack := v.toList ++ rest }) t → Steps p.tables e below (T.setTop g) t := by
  obtain ⟨cB, kB, qa, qb, qc⟩ := isOf (T := T) hZ eT E
  obtain ⟨v, _, ⟨T4, L4, k4, n4⟩, -, X4, ⟨Lc, hQ, l4, y4, z4⟩, st⟩ := X.virtualBack hx (y := y) (z := y) hown (mvT hZ w1) (mvT hZ w2) (notFace_of_selects (args := #[]) (mvT hZ w5)) (mvT hZ w5) (mvT hZ w6) hy (backOf (W := W) hM hZ w4 w3 hf hl) qa qc (g := g) hg hsize (Steps.refl _) (argsL := argsL) (rest := rest) hlen hstack hW hd (fun _ _ => ⟨rfl, eT, hc, hs⟩)
  dsimp only [Pt.U, Pt.locs, Pt.cells, Pt.slots] at X4 l4 y4 z4 st hQ
  subst l4 y4 z4
  exact ⟨v, T4, _, Lc, X4, rfl, hQ, fun t k => st.trans k⟩
end OwnCalls
/-! ## doubles: k/256, its square, sums of squares, one over the sum -/
/-- the datum of i * 2^e, i below 2^53, as the format writes it -/
def own_can (i : Nat) (e : Int) : FP.Core.Datum := if i = 0 then .fin false 0 (-1074) else .fin false (i * 2 ^ (52 - i.log2)) ((i.log2 : Int) - 52 + e)
/-- d is i * 2^e, and not below 0 -/
def own_Ex (i : Nat) (e : Int) (d : FP.Core.Datum) : Prop := ∃ c q, d = .fin false c q ∧ -2000 ≤ q ∧ c * 2 ^ (q + 2000).toNat = i * 2 ^ (e + 2000).toNat
theorem own_can_fits {i : Nat} (hi : i < 2 ^ 53) {e : Int} (h1 : -1000 ≤ e) (h2 : e ≤ 900) : FP.Core.fits FP.Core.b64 (own_can i e) := by
  unfold own_can
  split
  · refine ⟨by decide, ?_, ?_, Or.inl ?_⟩ <;> decide
  · rename_i h0
    have l1 : 2 ^ i.log2 ≤ i := Nat.log2_self_le h0
    have l2 : i < 2 ^ (i.log2 + 1) := Nat.lt_log2_self
    have l3 : i.log2 < 53 := (Nat.pow_lt_pow_iff_right (by decide : 1 < 2)).mp (Nat.lt_of_le_of_lt l1 hi)
    generalize i.log2 = L at l1 l2 l3 ⊢
    have q1 : FP.Core.b64.qmin = -1074 := by decide
    have q2 : FP.Core.b64.qmax = 971 := by decide
    have q3 : FP.Core.b64.tails = 2 ^ 52 := by decide
    refine ⟨?_, by omega, by omega, Or.inr ?_⟩
    · show i * 2 ^ (52 - L) < 2 ^ 53
      calc i * 2 ^ (52 - L) < 2 ^ (L + 1) * 2 ^ (52 - L) := Nat.mul_lt_mul_of_pos_right l2 (Nat.two_pow_pos _)
        _ = 2 ^ 53 := by rw [← Nat.pow_add]; congr 1; omega
    · rw [q3]
      calc 2 ^ 52 = 2 ^ L * 2 ^ (52 - L) := by rw [← Nat.pow_add]; congr 1; omega
        _ ≤ i * 2 ^ (52 - L) := Nat.mul_le_mul_right _ l1
theorem own_can_ex {i : Nat} (hi : i < 2 ^ 53) {e : Int} (h1 : -1000 ≤ e) (h2 : e ≤ 900) : own_Ex i e (own_can i e) := by
  unfold own_can
  split
  · rename_i h0
    exact ⟨0, -1074, rfl, by omega, by simp [h0]⟩
  · rename_i h0
    have l1 : 2 ^ i.log2 ≤ i := Nat.log2_self_le h0
    have l3 : i.log2 < 53 := (Nat.pow_lt_pow_iff_right (by decide : 1 < 2)).mp (Nat.lt_of_le_of_lt l1 hi)
    generalize i.log2 = L at l1 l3 ⊢
    refine ⟨_, _, rfl, by omega, ?_⟩
    rw [Nat.mul_assoc, ← Nat.pow_add]
    congr 2
    omega
/-- what is i * 2^e rounds to it -/
theorem own_ex_round {i : Nat} (hi : i < 2 ^ 53) {e : Int} (h1 : -1000 ≤ e) (h2 : e ≤ 900) {d : FP.Core.Datum} (h : own_Ex i e d) : FP.Core.round FP.Core.b64 d = own_can i e := by
  obtain ⟨c, q, rfl, hq, hv⟩ := h
  obtain ⟨c', q', hc, hq', hv'⟩ := own_can_ex hi h1 h2
  have hf := own_can_fits hi h1 h2
  rw [hc] at hf ⊢
  show FP.Core.roundRatio FP.Core.b64 false c 1 q = _
  refine FP.Core.roundRatio_exact FP.Core.good_b64 (by decide) hf ?_
  rw [← hv'] at hv
  rw [Nat.mul_one]
  by_cases hle : q' ≤ q
  · have e1 : (q + 2000).toNat = (q - q').toNat + (q' + 2000).toNat := by omega
    have e2 : (q' - q).toNat = 0 := by omega
    rw [e1, Nat.pow_add, ← Nat.mul_assoc] at hv
    rw [e2, Nat.pow_zero, Nat.mul_one]
    exact Nat.eq_of_mul_eq_mul_right (Nat.two_pow_pos _) hv
  · have e1 : (q' + 2000).toNat = (q' - q).toNat + (q + 2000).toNat := by omega
    have e2 : (q - q').toNat = 0 := by omega
    rw [e1, Nat.pow_add, ← Nat.mul_assoc] at hv
    rw [e2, Nat.pow_zero, Nat.mul_one]
    exact Nat.eq_of_mul_eq_mul_right (Nat.two_pow_pos _) hv
theorem own_ex_sum {i j : Nat} {e : Int} {x y : FP.Core.Datum} (hx : own_Ex i e x) (hy : own_Ex j e y) : own_Ex (i + j) e (FP.Core.exactSum x y) := by
  obtain ⟨c, q, rfl, hq, hv⟩ := hx
  obtain ⟨d, r, rfl, hr, hw⟩ := hy
  have key : FP.Core.sumUnits false c q false d r (min q r) = ((c * 2 ^ (q - min q r).toNat + d * 2 ^ (r - min q r).toNat : Nat) : Int) := by
    simp only [FP.Core.sumUnits, FP.Core.signed, FP.Core.inUnits]
    simp
  refine ⟨c * 2 ^ (q - min q r).toNat + d * 2 ^ (r - min q r).toNat, min q r, ?_, by omega, ?_⟩
  · show FP.Core.Datum.fin _ _ _ = _
    rw [key]
    have hs : FP.Core.sumSign false false ((c * 2 ^ (q - min q r).toNat + d * 2 ^ (r - min q r).toNat : Nat) : Int) = false := by
      unfold FP.Core.sumSign
      split
      · rfl
      · exact decide_eq_false (by omega)
    rw [hs, Int.natAbs_natCast]
  · rw [Nat.add_mul, Nat.mul_assoc, Nat.mul_assoc, ← Nat.pow_add, ← Nat.pow_add, Nat.add_mul, ← hv, ← hw]
    have e1 : (q - min q r).toNat + (min q r + 2000).toNat = (q + 2000).toNat := by omega
    have e2 : (r - min q r).toNat + (min q r + 2000).toNat = (r + 2000).toNat := by omega
    rw [e1, e2]
theorem own_add {i j : Nat} {a b : UInt64} (hi : i + j < 2 ^ 53) (ha : FP.Core.val64 a = own_can i (-16)) (hb : FP.Core.val64 b = own_can j (-16)) : FP.Core.val64 (FP.dadd a b) = own_can (i + j) (-16) := by
  show FP.Core.val64 (FP.Core.dadd a b) = _
  rw [FP.Core.val64_dadd, ha, hb]
  exact own_ex_round hi (by omega) (by omega) (own_ex_sum (own_can_ex (by omega) (by omega) (by omega)) (own_can_ex (by omega) (by omega) (by omega)))
theorem own_can_num (i : Nat) (e : Int) : own_can i e ≠ .nan := by
  unfold own_can; split <;> exact fun h => nomatch h
theorem own_nn {a : UInt64} (h : FP.Core.val64 a ≠ .nan) : Jvm.Free.Fl.NoNaN64 a := Jvm.Free.Fl.noNaN64_no.mpr ((FP.Core.notNaN_iff a).mpr h)
/-- the int of the k-th weight, the weight, its square times 65536 -/
def own_ks (k : Fin 512) : Int32 := Int32.ofInt ((k.1 : Int) - 256)
def own_w (k : Fin 512) : UInt64 := FP.ddiv (FP.i2d (own_ks k)) 4643211215818981376
def own_q (k : Fin 512) : Nat := (((k.1 : Int) - 256) * ((k.1 : Int) - 256)).natAbs
set_option maxRecDepth 100000 in
theorem own_wnn : ∀ k : Fin 512, FP.Core.dIsNaN (own_w k) = false := by decide +kernel
set_option maxRecDepth 100000 in
theorem own_sq : ∀ k : Fin 512, FP.Core.val64 (FP.dmul (own_w k) (own_w k)) = own_can (own_q k) (-16) := by decide +kernel
set_option maxRecDepth 100000 in
theorem own_ksq : ∀ k : Fin 512, own_ks k * own_ks k = Int32.ofNat (own_q k) := by decide +kernel
set_option maxRecDepth 100000 in
theorem own_qle : ∀ k : Fin 512, own_q k ≤ 65536 := by decide +kernel
/-- the running sum of the method, and the same in whole numbers -/
def own_S (w : Nat → UInt64) : Nat → UInt64
  | 0 => FP.dconst0
  | j + 1 => FP.dadd (own_S w j) (FP.dmul (w j) (w j))
def own_T (q : Nat → Nat) : Nat → Nat
  | 0 => 0
  | j + 1 => own_T q j + q j
theorem own_T_le {q : Nat → Nat} (hq : ∀ j, q j ≤ 65536) : ∀ N, own_T q N ≤ 65536 * N
  | 0 => Nat.le_refl _
  | N + 1 => by have := own_T_le hq N; have := hq N; show own_T q N + q N ≤ _; omega
theorem own_sum {f : Nat → Fin 512} : ∀ N, N ≤ 4 → FP.Core.val64 (own_S (fun j => own_w (f j)) N) = own_can (own_T (fun j => own_q (f j)) N) (-16)
  | 0, _ => by show FP.Core.val64 FP.dconst0 = own_can 0 (-16); decide +kernel
  | N + 1, h => by
    show FP.Core.val64 (FP.dadd (own_S (fun j => own_w (f j)) N) (FP.dmul (own_w (f N)) (own_w (f N)))) = own_can (own_T (fun j => own_q (f j)) N + own_q (f N)) (-16)
    have b1 := own_T_le (q := fun j => own_q (f j)) (fun j => own_qle (f j)) N
    have b2 := own_qle (f N)
    exact own_add (by omega) (own_sum N (by omega)) (own_sq (f N))
theorem own_snn {f : Nat → Fin 512} {N : Nat} (h : N ≤ 4) : Jvm.Free.Fl.NoNaN64 (own_S (fun j => own_w (f j)) N) := own_nn (by rw [own_sum N h]; exact own_can_num _ _)
theorem own_mnn (k : Fin 512) : Jvm.Free.Fl.NoNaN64 (FP.dmul (own_w k) (own_w k)) := own_nn (by rw [own_sq k]; exact own_can_num _ _)
theorem own_i2d {n : Nat} (h : n < 2 ^ 31) : FP.Core.val64 (FP.i2d (Int32.ofNat n)) = own_can n 0 := by
  show FP.Core.val64 (FP.Core.i2d (Int32.ofNat n)) = _
  rw [FP.Core.val64_i2d]
  refine own_ex_round (by omega) (by omega) (by omega) ⟨n, 0, ?_, by omega, rfl⟩
  rw [Int32.toInt_ofNat_of_lt h]
  show FP.Core.Datum.fin _ _ _ = _
  rw [Int.natAbs_natCast, decide_eq_false (by omega)]
/-- a sum that isn't 0: one over it is 65536 over the whole number -/
theorem own_div {s a : UInt64} {n : Nat} (h0 : n ≠ 0) (hn : n < 2 ^ 31) (hs : FP.Core.val64 s = own_can n (-16)) (ha : FP.Core.val64 a = own_can n 0) :
    FP.ddiv FP.dconst1 s = FP.ddiv 4679240012837945344 a ∧ Jvm.Free.Fl.NoNaN64 (FP.ddiv FP.dconst1 s) := by
  have e1 : FP.Core.val64 FP.dconst1 = .fin false (2 ^ 52) (-52) := FP.Core.val64_dconst1
  have e2 : FP.Core.val64 4679240012837945344 = .fin false (2 ^ 52) (-36) := by decide +kernel
  have hc : n * 2 ^ (52 - n.log2) ≠ 0 := Nat.mul_ne_zero h0 (Nat.ne_of_gt (Nat.two_pow_pos _))
  have v1 : FP.Core.val64 (FP.ddiv FP.dconst1 s) = FP.Core.roundRatio FP.Core.b64 false (2 ^ 52) (n * 2 ^ (52 - n.log2)) (16 - (n.log2 : Int)) := by
    show FP.Core.val64 (FP.Core.ddiv FP.dconst1 s) = _
    rw [FP.Core.val64_ddiv, e1, hs]
    unfold own_can
    rw [if_neg h0]
    show (if n * 2 ^ (52 - n.log2) = 0 then _ else FP.Core.roundRatio FP.Core.b64 (false != false) (2 ^ 52) (n * 2 ^ (52 - n.log2)) (-52 - ((n.log2 : Int) - 52 + -16))) = _
    rw [if_neg hc]
    congr 1
    omega
  have v2 : FP.Core.val64 (FP.ddiv 4679240012837945344 a) = FP.Core.roundRatio FP.Core.b64 false (2 ^ 52) (n * 2 ^ (52 - n.log2)) (16 - (n.log2 : Int)) := by
    show FP.Core.val64 (FP.Core.ddiv 4679240012837945344 a) = _
    rw [FP.Core.val64_ddiv, e2, ha]
    unfold own_can
    rw [if_neg h0]
    show (if n * 2 ^ (52 - n.log2) = 0 then _ else FP.Core.roundRatio FP.Core.b64 (false != false) (2 ^ 52) (n * 2 ^ (52 - n.log2)) (-36 - ((n.log2 : Int) - 52 + 0))) = _
    rw [if_neg hc]
    congr 1
    omega
  have nn : FP.Core.val64 (FP.ddiv FP.dconst1 s) ≠ .nan := by rw [v1]; exact FP.Core.roundRatio_ne_nan _ _ _ _ _
  exact ⟨FP.Core.val64_inj nn (v1.trans v2.symm), own_nn nn⟩
theorem own_zero {s : UInt64} (hs : FP.Core.val64 s = own_can 0 (-16)) : s = 0 := by
  refine FP.Core.val64_inj (by rw [hs]; exact own_can_num _ _) (hs.trans ?_)
  decide +kernel
theorem own_mask8 (x : Int32) : ∃ j : Fin 8, x &&& 7 = Int32.ofInt (j.1 : Int) := by
  have h := c_mask x 7 3 (by decide) (by decide)
  refine ⟨⟨(x &&& 7).toInt.toNat, by omega⟩, Int32.toInt_inj.mp ?_⟩
  rw [Int32.toInt_ofInt_of_le (by show _ ≤ ((_ : Nat) : Int); omega) (by show ((_ : Nat) : Int) < _; omega)]
  show (x &&& 7).toInt = (((x &&& 7).toInt.toNat : Nat) : Int)
  omega
theorem own_mask512 (x : Int32) : ∃ j : Fin 512, x &&& 511 = Int32.ofInt (j.1 : Int) := by
  have h := c_mask x 511 9 (by decide) (by decide)
  refine ⟨⟨(x &&& 511).toInt.toNat, by omega⟩, Int32.toInt_inj.mp ?_⟩
  rw [Int32.toInt_ofInt_of_le (by show _ ≤ ((_ : Nat) : Int); omega) (by show ((_ : Nat) : Int) < _; omega)]
  show (x &&& 511).toInt = (((x &&& 511).toInt.toNat : Nat) : Int)
  omega
theorem own_n5 (x : Int32) : (x &&& 7) - ((x &&& 7) / 5) * 5 = 0 ∨ (x &&& 7) - ((x &&& 7) / 5) * 5 = 1 ∨ (x &&& 7) - ((x &&& 7) / 5) * 5 = 2 ∨ (x &&& 7) - ((x &&& 7) / 5) * 5 = 3 ∨ (x &&& 7) - ((x &&& 7) / 5) * 5 = 4 := by
  obtain ⟨j, hj⟩ := own_mask8 x
  rw [hj]
  clear hj
  revert j
  decide +kernel
theorem own_k (x : Int32) : ∃ k : Fin 512, (x &&& 511) - 256 = own_ks k := by
  obtain ⟨j, hj⟩ := own_mask512 x
  refine ⟨j, ?_⟩
  rw [hj]
  revert j
  have h : ∀ j : Fin 512, Int32.ofInt (j.1 : Int) - 256 = own_ks j := by decide +kernel
  exact fun j _ => h j

theorem d1_0 : decode prog_47_method_3_code 0 = .ok (.dconst 0, 1) := by decide +kernel
theorem d1_1 : decode prog_47_method_3_code 1 = .ok (.dstore_n 1, 1) := by decide +kernel
theorem d1_2 : decode prog_47_method_3_code 2 = .ok (.aload_n 0, 1) := by decide +kernel
theorem d1_3 : decode prog_47_method_3_code 3 = .ok (.astore_n 3, 1) := by decide +kernel
theorem d1_4 : decode prog_47_method_3_code 4 = .ok (.aload_n 3, 1) := by decide +kernel
theorem d1_5 : decode prog_47_method_3_code 5 = .ok (.arraylength, 1) := by decide +kernel
theorem d1_6 : decode prog_47_method_3_code 6 = .ok (.istore 4, 2) := by decide +kernel
theorem d1_8 : decode prog_47_method_3_code 8 = .ok (.iconst 0, 1) := by decide +kernel
theorem d1_9 : decode prog_47_method_3_code 9 = .ok (.istore 5, 2) := by decide +kernel
theorem d1_11 : decode prog_47_method_3_code 11 = .ok (.iload 5, 2) := by decide +kernel
theorem d1_13 : decode prog_47_method_3_code 13 = .ok (.iload 4, 2) := by decide +kernel
theorem d1_15 : decode prog_47_method_3_code 15 = .ok (.if_icmp .ge 23, 3) := by decide +kernel
theorem d1_18 : decode prog_47_method_3_code 18 = .ok (.aload_n 3, 1) := by decide +kernel
theorem d1_19 : decode prog_47_method_3_code 19 = .ok (.iload 5, 2) := by decide +kernel
theorem d1_21 : decode prog_47_method_3_code 21 = .ok (.daload, 1) := by decide +kernel
theorem d1_22 : decode prog_47_method_3_code 22 = .ok (.dstore 6, 2) := by decide +kernel
theorem d1_24 : decode prog_47_method_3_code 24 = .ok (.dload_n 1, 1) := by decide +kernel
theorem d1_25 : decode prog_47_method_3_code 25 = .ok (.dload 6, 2) := by decide +kernel
theorem d1_27 : decode prog_47_method_3_code 27 = .ok (.dload 6, 2) := by decide +kernel
theorem d1_29 : decode prog_47_method_3_code 29 = .ok (.dmul, 1) := by decide +kernel
theorem d1_30 : decode prog_47_method_3_code 30 = .ok (.dadd, 1) := by decide +kernel
theorem d1_31 : decode prog_47_method_3_code 31 = .ok (.dstore_n 1, 1) := by decide +kernel
theorem d1_32 : decode prog_47_method_3_code 32 = .ok (.iinc 5 1, 3) := by decide +kernel
theorem d1_35 : decode prog_47_method_3_code 35 = .ok (.goto (-24), 3) := by decide +kernel
theorem d1_38 : decode prog_47_method_3_code 38 = .ok (.dconst 1, 1) := by decide +kernel
theorem d1_39 : decode prog_47_method_3_code 39 = .ok (.dload_n 1, 1) := by decide +kernel
theorem d1_40 : decode prog_47_method_3_code 40 = .ok (.ddiv, 1) := by decide +kernel
theorem d1_41 : decode prog_47_method_3_code 41 = .ok (.dreturn, 1) := by decide +kernel
theorem pd1 : parseMethodDescriptor "([D)D" = some ⟨[(.array .double)], some .double⟩ := by decide +kernel
def own_Pair (a b : Slot) : Prop := (a = .unset ∧ b = .unset) ∨ ∃ u, a = .val (.double u) ∧ b = .second
theorem own_st6 {a b c d e f s6 s7 : Slot} {u : UInt64} (h : own_Pair s6 s7) : storeLocals #[a, b, c, d, e, f, s6, s7] 6 (.double u) = some #[a, b, c, d, e, f, .val (.double u), .second] := by
  rcases h with ⟨rfl, rfl⟩ | ⟨v, rfl, rfl⟩ <;> rfl
set_option maxRecDepth 65536 in
set_option maxHeartbeats 40000000 in
theorem own_turn {p : Program} {l : Launch} {e : Env} {R : Room} {s : State} {m : MethodId} {args : Array Value} {below : List Frame} {meth : Method} {c : Code} {locs : List Loc} {cells slots : Nat} {Z : State} {h0 : Heap} {T0 : State} (o0 : Addr) (Sv u : UInt64) (i N : Int32) (s6 s7 : Slot) (hs67 : own_Pair s6 s7) (cl : Cell) (X0 : Stand p l e R s m args below meth c T0 locs cells slots) (hx : p.tables.exec = Jvm.exec) (hZ : Z.Warmed39 s.vm) (hby : c.code = prog_47_method_3_code) (e0 : T0.heap = h0) (Ar : Arr Z h0 o0 cl .double) (hc : i < N) (hin : ¬ (i < 0 ∨ cl.slots.size ≤ i.toNatClampNeg)) (hat : cl.slots[i.toNatClampNeg]? = some (.double u)) (n1 : Jvm.Free.Fl.NoNaN64 (FP.dmul u u)) (n2 : Jvm.Free.Fl.NoNaN64 (FP.dadd Sv (FP.dmul u u))) :
    own_Go p e below T0 (mkF m 11 #[.val (.ref o0), .val (.double Sv), .second, .val (.ref o0), .val (.int N), .val (.int i), s6, s7] []) T0 (mkF m 11 #[.val (.ref o0), .val (.double (FP.dadd Sv (FP.dmul u u))), .second, .val (.ref o0), .val (.int N), .val (.int (i + (1 : Int32))), .val (.double u), .second] []) := by
  have S1 : own_Go p e below T0 (mkF m 11 #[.val (.ref o0), .val (.double Sv), .second, .val (.ref o0), .val (.int N), .val (.int i), s6, s7] []) T0 (mkF m 11 #[.val (.ref o0), .val (.double (FP.dadd Sv (FP.dmul u u))), .second, .val (.ref o0), .val (.int N), .val (.int (i + (1 : Int32))), .val (.double u), .second] []) := fun tg_ kk_ => (own_Go.refl T0 _) tg_ (by
    refine XS.iload X0.here hx rfl (hb hby d1_11) rfl ?_
    show Steps p.tables e below (T0.setTop (mkF m 13 #[.val (.ref o0), .val (.double Sv), .second, .val (.ref o0), .val (.int N), .val (.int i), s6, s7] [(.int i)])) _
    refine XS.iload X0.here hx rfl (hb hby d1_13) rfl ?_
    show Steps p.tables e below (T0.setTop (mkF m 15 #[.val (.ref o0), .val (.double Sv), .second, .val (.ref o0), .val (.int N), .val (.int i), s6, s7] [(.int N), (.int i)])) _
    refine XS.icmpNo X0.here hx rfl (hb hby d1_15) rfl (tlt hc).2.1 ?_
    show Steps p.tables e below (T0.setTop (mkF m 18 #[.val (.ref o0), .val (.double Sv), .second, .val (.ref o0), .val (.int N), .val (.int i), s6, s7] [])) _
    refine XS.aloadN X0.here hx rfl (hb hby d1_18) rfl rfl ?_
    show Steps p.tables e below (T0.setTop (mkF m 19 #[.val (.ref o0), .val (.double Sv), .second, .val (.ref o0), .val (.int N), .val (.int i), s6, s7] [(.ref o0)])) _
    refine XS.iload X0.here hx rfl (hb hby d1_19) rfl ?_
    show Steps p.tables e below (T0.setTop (mkF m 21 #[.val (.ref o0), .val (.double Sv), .second, .val (.ref o0), .val (.int N), .val (.int i), s6, s7] [(.int i), (.ref o0)])) _
    refine X0.daload hx (j := i) (v := (.double u)) (cell := cl) (by rw [e0]; exact Ar.1) (State.isArrayOf_alike hZ.alike Ar.2.1) Ar.2.2 hin hat (g := (mkF m 21 #[.val (.ref o0), .val (.double Sv), .second, .val (.ref o0), .val (.int N), .val (.int i), s6, s7] [(.int i), (.ref o0)])) rfl rfl (hb hby d1_21) _ ?_
    show Steps p.tables e below (T0.setTop (mkF m 22 #[.val (.ref o0), .val (.double Sv), .second, .val (.ref o0), .val (.int N), .val (.int i), s6, s7] [(.double u)])) _
    refine XS.dstore X0.here hx rfl (hb hby d1_22) rfl (l' := #[.val (.ref o0), .val (.double Sv), .second, .val (.ref o0), .val (.int N), .val (.int i), .val (.double u), .second]) (own_st6 hs67) ?_
    show Steps p.tables e below (T0.setTop (mkF m 24 #[.val (.ref o0), .val (.double Sv), .second, .val (.ref o0), .val (.int N), .val (.int i), .val (.double u), .second] [])) _
    refine XS.dloadN X0.here hx rfl (hb hby d1_24) rfl ?_
    show Steps p.tables e below (T0.setTop (mkF m 25 #[.val (.ref o0), .val (.double Sv), .second, .val (.ref o0), .val (.int N), .val (.int i), .val (.double u), .second] [(.double Sv)])) _
    refine XS.dload X0.here hx rfl (hb hby d1_25) rfl ?_
    show Steps p.tables e below (T0.setTop (mkF m 27 #[.val (.ref o0), .val (.double Sv), .second, .val (.ref o0), .val (.int N), .val (.int i), .val (.double u), .second] [(.double u), (.double Sv)])) _
    refine XS.dload X0.here hx rfl (hb hby d1_27) rfl ?_
    show Steps p.tables e below (T0.setTop (mkF m 29 #[.val (.ref o0), .val (.double Sv), .second, .val (.ref o0), .val (.int N), .val (.int i), .val (.double u), .second] [(.double u), (.double u), (.double Sv)])) _
    refine XS.dmulS X0.here hx rfl (hb hby d1_29) rfl n1 rfl ?_
    show Steps p.tables e below (T0.setTop (mkF m 30 #[.val (.ref o0), .val (.double Sv), .second, .val (.ref o0), .val (.int N), .val (.int i), .val (.double u), .second] [(.double (FP.dmul u u)), (.double Sv)])) _
    refine XS.daddS X0.here hx rfl (hb hby d1_30) rfl n2 rfl ?_
    show Steps p.tables e below (T0.setTop (mkF m 31 #[.val (.ref o0), .val (.double Sv), .second, .val (.ref o0), .val (.int N), .val (.int i), .val (.double u), .second] [(.double (FP.dadd Sv (FP.dmul u u)))])) _
    refine XS.dstoreN X0.here hx rfl (hb hby d1_31) rfl (l' := #[.val (.ref o0), .val (.double (FP.dadd Sv (FP.dmul u u))), .second, .val (.ref o0), .val (.int N), .val (.int i), .val (.double u), .second]) rfl ?_
    show Steps p.tables e below (T0.setTop (mkF m 32 #[.val (.ref o0), .val (.double (FP.dadd Sv (FP.dmul u u))), .second, .val (.ref o0), .val (.int N), .val (.int i), .val (.double u), .second] [])) _
    refine XS.iinc X0.here hx rfl (hb hby d1_32) rfl (l' := #[.val (.ref o0), .val (.double (FP.dadd Sv (FP.dmul u u))), .second, .val (.ref o0), .val (.int N), .val (.int (i + (1 : Int32))), .val (.double u), .second]) rfl ?_
    show Steps p.tables e below (T0.setTop (mkF m 35 #[.val (.ref o0), .val (.double (FP.dadd Sv (FP.dmul u u))), .second, .val (.ref o0), .val (.int N), .val (.int (i + (1 : Int32))), .val (.double u), .second] [])) _
    refine XS.goto X0.here hx rfl (pc0 := 35) (pc' := 11) rfl (hb hby d1_35) (by decide) (by decide) ?_
    exact kk_)
  exact S1
set_option maxRecDepth 65536 in
set_option maxHeartbeats 40000000 in
theorem own_out {p : Program} {l : Launch} {e : Env} {R : Room} {s : State} {m : MethodId} {args : Array Value} {below : List Frame} {meth : Method} {c : Code} {locs : List Loc} {cells slots : Nat} {T0 : State} (o0 : Addr) (Sv : UInt64) (i N : Int32) (s6 s7 : Slot) (X0 : Stand p l e R s m args below meth c T0 locs cells slots) (hx : p.tables.exec = Jvm.exec) (hby : c.code = prog_47_method_3_code) (hc : ¬ (i < N)) :
    own_Go p e below T0 (mkF m 11 #[.val (.ref o0), .val (.double Sv), .second, .val (.ref o0), .val (.int N), .val (.int i), s6, s7] []) T0 (mkF m 38 #[.val (.ref o0), .val (.double Sv), .second, .val (.ref o0), .val (.int N), .val (.int i), s6, s7] []) := by
  have S2 : own_Go p e below T0 (mkF m 11 #[.val (.ref o0), .val (.double Sv), .second, .val (.ref o0), .val (.int N), .val (.int i), s6, s7] []) T0 (mkF m 38 #[.val (.ref o0), .val (.double Sv), .second, .val (.ref o0), .val (.int N), .val (.int i), s6, s7] []) := fun tg_ kk_ => (own_Go.refl T0 _) tg_ (by
    refine XS.iload X0.here hx rfl (hb hby d1_11) rfl ?_
    show Steps p.tables e below (T0.setTop (mkF m 13 #[.val (.ref o0), .val (.double Sv), .second, .val (.ref o0), .val (.int N), .val (.int i), s6, s7] [(.int i)])) _
    refine XS.iload X0.here hx rfl (hb hby d1_13) rfl ?_
    show Steps p.tables e below (T0.setTop (mkF m 15 #[.val (.ref o0), .val (.double Sv), .second, .val (.ref o0), .val (.int N), .val (.int i), s6, s7] [(.int N), (.int i)])) _
    refine XS.icmpYes X0.here hx rfl (pc0 := 15) (pc' := 38) rfl (hb hby d1_15) rfl (flt hc).2.1 (by decide) (by decide) ?_
    exact kk_)
  exact S2
theorem own_n32 {n : Nat} (h : n < 2 ^ 31) : (Int32.ofNat n).toNatClampNeg = n := by
  rw [Int32.toNatClampNeg, Int32.toInt_ofNat_of_lt h]; rfl
theorem own_lt32 {i n : Nat} (h : i < n) (hn : n < 2 ^ 31) : Int32.ofNat i < Int32.ofNat n := by
  rw [Int32.lt_iff_toInt_lt, Int32.toInt_ofNat_of_lt (by omega), Int32.toInt_ofNat_of_lt hn]; omega
theorem own_nn32 {n : Nat} (h : n < 2 ^ 31) : ¬ Int32.ofNat n < 0 := by
  rw [Int32.lt_iff_toInt_lt, Int32.toInt_ofNat_of_lt h]; show ¬ ((n : Int) < 0); omega
theorem own_suc (i : Nat) : Int32.ofNat i + 1 = Int32.ofNat (i + 1) := by rw [Int32.ofNat_add]; rfl
set_option maxRecDepth 65536 in
set_option maxHeartbeats 40000000 in
theorem own_loop {p : Program} {l : Launch} {e : Env} {R : Room} {s : State} {m : MethodId} {args : Array Value} {below : List Frame} {meth : Method} {c : Code} {locs : List Loc} {cells slots : Nat} {Z : State} {h0 : Heap} {T0 : State} (o0 : Addr) (f : Nat → Fin 512) (N : Nat) (hN : N ≤ 4) (cl : Cell) (X0 : Stand p l e R s m args below meth c T0 locs cells slots) (hx : p.tables.exec = Jvm.exec) (hZ : Z.Warmed39 s.vm) (hby : c.code = prog_47_method_3_code) (e0 : T0.heap = h0) (Ar : Arr Z h0 o0 cl .double) (Sz : cl.slots.size = N) (hat : ∀ j, j < N → cl.slots[j]? = some (.double (own_w (f j)))) :
    ∀ (k i : Nat) (s6 s7 : Slot), i + k = N → own_Pair s6 s7 → ∃ t6 t7, own_Go p e below T0 (mkF m 11 #[.val (.ref o0), .val (.double (own_S (fun j => own_w (f j)) i)), .second, .val (.ref o0), .val (.int (Int32.ofNat N)), .val (.int (Int32.ofNat i)), s6, s7] []) T0 (mkF m 38 #[.val (.ref o0), .val (.double (own_S (fun j => own_w (f j)) N)), .second, .val (.ref o0), .val (.int (Int32.ofNat N)), .val (.int (Int32.ofNat N)), t6, t7] []) := by
  intro k
  induction k with
  | zero =>
    intro i s6 s7 hi hp
    have hi' : i = N := by omega
    subst hi'
    exact ⟨s6, s7, own_out o0 _ _ _ s6 s7 X0 hx hby Int32.lt_irrefl⟩
  | succ k ih =>
    intro i s6 s7 hi hp
    have g1 := own_turn o0 (own_S (fun j => own_w (f j)) i) (own_w (f i)) (Int32.ofNat i) (Int32.ofNat N) s6 s7 hp cl X0 hx hZ hby e0 Ar (own_lt32 (by omega) (by omega)) (by rw [Sz, own_n32 (by omega)]; exact fun q => q.elim (own_nn32 (by omega)) (fun q => by omega)) (by rw [own_n32 (by omega)]; exact hat i (by omega)) (own_mnn _) (own_snn (f := f) (N := i + 1) (by omega))
    rw [own_suc] at g1
    obtain ⟨t6, t7, g2⟩ := ih (i + 1) (.val (.double (own_w (f i)))) .second (by omega) (Or.inr ⟨_, rfl, rfl⟩)
    exact ⟨t6, t7, g1.trans g2⟩
theorem pn1 : plainName "com/example/cladewave/cladewave/samplers/Resampling" = true := by first | (simp [plainName, overriddenIn]; done) | decide +kernel
def Q1 (Z : State) (o0 : Addr) (f : Nat → Fin 512) (N : Nat) (h0 : Heap) (n0 : Nat) (v : Option Value) (h : Heap) (L : List Loc) : Prop := v = some (.double (FP.ddiv FP.dconst1 (own_S (fun j => own_w (f j)) N))) ∧ Fr n0 L ∧ h0 = h
set_option maxRecDepth 65536 in
set_option maxHeartbeats 40000000 in
theorem rm1 (l : Launch) (Z : State) (a0 : Array Value) (hw : ∀ d ∈ tables_1, d.before a0 Z = true) (ws : List Jvm.Cond) (o0 : Addr) (f : Nat → Fin 512) (N : Nat) (h0 : Heap) (n0 : Nat) (Z0 : n0 ≤ h0.size) (hN : N ≤ 4) (ka : ClassId) (vs : List Value) (dv : Value) (V : Arv Z h0 o0 ka .double (Int32.ofNat N) vs dv) (hvs : ∀ j, j < N → vs.getD j dv = .double (own_w (f j))) (hd : Jvm.Free.Fl.NoNaN64 (FP.ddiv FP.dconst1 (own_S (fun j => own_w (f j)) N))) :
    MetFree l (⟨"com/example/cladewave/cladewave/samplers/Resampling", "effectiveSampleSize", "([D)D"⟩ : MethodName) (head1 (Jvm.Cond.code (⟨"com/example/cladewave/cladewave/samplers/Resampling", "effectiveSampleSize", "([D)D"⟩ : MethodName) prog_47_method_3_code 8 (some .double) :: ws) ({ frames := 0, cells := 0, slots := 0, locals := 0 } : Room)) (fun aa_ U => aa_ = #[(.ref o0)] ∧ Z.Warmed39 U.vm ∧ U.heap = h0) (fun _ _ _ _ _ => True) (fun _ U o U' => ∃ v L, o = .returned v ∧ Q1 Z o0 f N h0 n0 v U'.heap L ∧ FrameEnd U o U' L ({ frames := 0, cells := 0, slots := 0, locals := 0 } : Room).cells ({ frames := 0, cells := 0, slots := 0, locals := 0 } : Room).slots) := by
  refine MetFree.of_bodySF (plainFor_of_name pn1) hisR ?_
  intro p e s m args below meth c s₁ Bd hml0 hP hK
  obtain ⟨rfl, hZ, hh⟩ := hP
  have hx := Bd.exec
  have hby := Bd.bytes
  have hml : c.maxLocals = 8 := hml0
  have hown : s.vm.findClass "com/example/cladewave/cladewave/samplers/Resampling" = some m.cls := findClass_of_methodNamed Bd.named
  have hnm := (name_of_methodNamed Bd.named Bd.method).1
  have X0 : Stand p l e ({ frames := 0, cells := 0, slots := 0, locals := 0 } : Room) s m #[(.ref o0)] below meth c s₁ [] 0 0 := Stand.of_body Bd
  have e0 : s₁.heap = h0 := by rw [← hh, Bd.state]; rfl
  have N0 := Fr.nil n0
  obtain ⟨G, hG⟩ : ∃ G, G = entryFrame m #[(.ref o0)] 8 := ⟨_, rfl⟩
  have S0 : own_Go p e below s₁ G s₁ (mkF m 0 #[.val (.ref o0), .unset, .unset, .unset, .unset, .unset, .unset, .unset] []) := fun tg_ kk_ => castTop (by rw [hG]; first | rfl | simp [entryFrame, mkF, argsToLocals, Value.category, maxLocals]) kk_
  obtain ⟨cl, Ar, -, S, Mn, H, -⟩ := V
  have Sz : cl.slots.size = N := by rw [S]; exact own_n32 (by omega)
  have hat : ∀ j, j < N → cl.slots[j]? = some (.double (own_w (f j))) := fun j hj => by rw [H j (by omega), hvs j hj]
  have S3 : own_Go p e below s₁ G s₁ (mkF m 11 #[.val (.ref o0), .val (.double FP.dconst0), .second, .val (.ref o0), .val (.int (Int32.ofNat N)), .val (.int (0 : Int32)), .unset, .unset] []) := fun tg_ kk_ => S0 tg_ (by
    refine XS.dconst0 X0.here hx rfl (hb hby d1_0) rfl ?_
    show Steps p.tables e below (s₁.setTop (mkF m 1 #[.val (.ref o0), .unset, .unset, .unset, .unset, .unset, .unset, .unset] [(.double FP.dconst0)])) _
    refine XS.dstoreN X0.here hx rfl (hb hby d1_1) rfl (l' := #[.val (.ref o0), .val (.double FP.dconst0), .second, .unset, .unset, .unset, .unset, .unset]) rfl ?_
    show Steps p.tables e below (s₁.setTop (mkF m 2 #[.val (.ref o0), .val (.double FP.dconst0), .second, .unset, .unset, .unset, .unset, .unset] [])) _
    refine XS.aloadN X0.here hx rfl (hb hby d1_2) rfl rfl ?_
    show Steps p.tables e below (s₁.setTop (mkF m 3 #[.val (.ref o0), .val (.double FP.dconst0), .second, .unset, .unset, .unset, .unset, .unset] [(.ref o0)])) _
    refine XS.astoreN X0.here hx rfl (hb hby d1_3) rfl rfl (l' := #[.val (.ref o0), .val (.double FP.dconst0), .second, .val (.ref o0), .unset, .unset, .unset, .unset]) rfl ?_
    show Steps p.tables e below (s₁.setTop (mkF m 4 #[.val (.ref o0), .val (.double FP.dconst0), .second, .val (.ref o0), .unset, .unset, .unset, .unset] [])) _
    refine XS.aloadN X0.here hx rfl (hb hby d1_4) rfl rfl ?_
    show Steps p.tables e below (s₁.setTop (mkF m 5 #[.val (.ref o0), .val (.double FP.dconst0), .second, .val (.ref o0), .unset, .unset, .unset, .unset] [(.ref o0)])) _
    refine X0.arraylength hx (cell := cl) (by rw [e0]; exact Ar.1) (State.isArrayOf_alike hZ.alike Ar.2.1) (g := (mkF m 5 #[.val (.ref o0), .val (.double FP.dconst0), .second, .val (.ref o0), .unset, .unset, .unset, .unset] [(.ref o0)])) rfl (rest := []) rfl (hb hby d1_5) _ ?_
    rw [len_of S Mn]
    show Steps p.tables e below (s₁.setTop (mkF m 6 #[.val (.ref o0), .val (.double FP.dconst0), .second, .val (.ref o0), .unset, .unset, .unset, .unset] [(.int (Int32.ofNat N))])) _
    refine XS.istore X0.here hx rfl (hb hby d1_6) rfl (l' := #[.val (.ref o0), .val (.double FP.dconst0), .second, .val (.ref o0), .val (.int (Int32.ofNat N)), .unset, .unset, .unset]) rfl ?_
    show Steps p.tables e below (s₁.setTop (mkF m 8 #[.val (.ref o0), .val (.double FP.dconst0), .second, .val (.ref o0), .val (.int (Int32.ofNat N)), .unset, .unset, .unset] [])) _
    refine XS.iconst X0.here hx rfl (hb hby d1_8) ?_
    show Steps p.tables e below (s₁.setTop (mkF m 9 #[.val (.ref o0), .val (.double FP.dconst0), .second, .val (.ref o0), .val (.int (Int32.ofNat N)), .unset, .unset, .unset] [(.int (0 : Int32))])) _
    refine XS.istore X0.here hx rfl (hb hby d1_9) rfl (l' := #[.val (.ref o0), .val (.double FP.dconst0), .second, .val (.ref o0), .val (.int (Int32.ofNat N)), .val (.int (0 : Int32)), .unset, .unset]) rfl ?_
    exact kk_)
  obtain ⟨t6, t7, gl⟩ := own_loop o0 f N hN cl X0 hx hZ hby e0 Ar Sz hat N 0 .unset .unset (by omega) (Or.inl ⟨rfl, rfl⟩)
  have SL : own_Go p e below s₁ G s₁ (mkF m 38 #[.val (.ref o0), .val (.double (own_S (fun j => own_w (f j)) N)), .second, .val (.ref o0), .val (.int (Int32.ofNat N)), .val (.int (Int32.ofNat N)), t6, t7] []) := own_Go.trans S3 gl
  have S4 : own_Go p e below s₁ G s₁ (mkF m 41 #[.val (.ref o0), .val (.double (own_S (fun j => own_w (f j)) N)), .second, .val (.ref o0), .val (.int (Int32.ofNat N)), .val (.int (Int32.ofNat N)), t6, t7] [(.double (FP.ddiv (FP.dconst1) (own_S (fun j => own_w (f j)) N)))]) := fun tg_ kk_ => SL tg_ (by
    refine XS.dconst1 X0.here hx rfl (hb hby d1_38) rfl ?_
    show Steps p.tables e below (s₁.setTop (mkF m 39 #[.val (.ref o0), .val (.double (own_S (fun j => own_w (f j)) N)), .second, .val (.ref o0), .val (.int (Int32.ofNat N)), .val (.int (Int32.ofNat N)), t6, t7] [(.double FP.dconst1)])) _
    refine XS.dloadN X0.here hx rfl (hb hby d1_39) rfl ?_
    show Steps p.tables e below (s₁.setTop (mkF m 40 #[.val (.ref o0), .val (.double (own_S (fun j => own_w (f j)) N)), .second, .val (.ref o0), .val (.int (Int32.ofNat N)), .val (.int (Int32.ofNat N)), t6, t7] [(.double (own_S (fun j => own_w (f j)) N)), (.double FP.dconst1)])) _
    refine XS.ddivS X0.here hx rfl (hb hby d1_40) rfl hd rfl ?_
    exact kk_)
  obtain ⟨fs, hr, hrun, hended, hW, hsame⟩ := X0.leave (v := some (.double (FP.ddiv (FP.dconst1) (own_S (fun j => own_w (f j)) N)))) (fun h => by rw [Bd.returns] at h; cases h)
  refine ⟨_, _, ?_, hrun, hended, _, _, rfl, ?_, ⟨_, rfl⟩, hW, hsame.mono (by decide) (by decide)⟩
  · rw [← hG]; exact S4 _ (retOut X0 hx Bd.returns rfl (Or.inr (Or.inr (Or.inl ⟨rfl, rfl, _, rfl⟩))) (hb hby d1_41) hr)
  · show Q1 Z o0 f N h0 n0 _ s₁.heap _
    rw [e0]
    exact ⟨rfl, N0, rfl⟩
theorem pn2 : plainName "com/example/cladewave/cladewave/samplers/ResamplingEffectiveSampleSizePinLaw" = true := by first | (simp [plainName, overriddenIn]; done) | decide +kernel
def Q0 (Z : State) (p0 : Int32) (p1 : Int32) (p2 : Int32) (p3 : Int32) (p4 : Int32) (h0 : Heap) (n0 : Nat) (v : Option Value) (h : Heap) (L : List Loc) : Prop := v = some (.int 1) ∧ Fr n0 L
set_option maxRecDepth 65536 in
set_option maxHeartbeats 40000000 in
theorem rm0 (l : Launch) (Z : State) (a0 : Array Value) (hw : ∀ d ∈ tables_1, d.before a0 Z = true) (ws : List Jvm.Cond) (p0 : Int32) (p1 : Int32) (p2 : Int32) (p3 : Int32) (p4 : Int32) (h0 : Heap) (n0 : Nat) (Z0 : n0 ≤ h0.size)  :
    MetFree l x (head1 (Jvm.Cond.code x code maxLocals ret :: ws) room_1) (fun aa_ U => aa_ = #[(.int p0), (.int p1), (.int p2), (.int p3), (.int p4)] ∧ Z.Warmed39 U.vm ∧ U.heap = h0) (fun _ _ _ _ _ => True) (fun _ U o U' => ∃ v L, o = .returned v ∧ Q0 Z p0 p1 p2 p3 p4 h0 n0 v U'.heap L ∧ FrameEnd U o U' L 1 4) := by
  refine MetFree.of_bodySF (plainFor_of_name pn2) hisR ?_
  intro p e s m args below meth c s₁ Bd hml0 hP hK
  obtain ⟨rfl, hZ, hh⟩ := hP
  have hx := Bd.exec
  have hby := Bd.bytes
  have hml : c.maxLocals = 16 := hml0
  have hown : s.vm.findClass "com/example/cladewave/cladewave/samplers/ResamplingEffectiveSampleSizePinLaw" = some m.cls := findClass_of_methodNamed Bd.named
  have hnm := (name_of_methodNamed Bd.named Bd.method).1
  have X0 : Stand p l e room_1 s m #[(.int p0), (.int p1), (.int p2), (.int p3), (.int p4)] below meth c s₁ [] 0 0 := Stand.of_body Bd
  have e0 : s₁.heap = h0 := by rw [← hh, Bd.state]; rfl
  have N0 := Fr.nil n0
  obtain ⟨G, hG⟩ : ∃ G, G = entryFrame m #[(.int p0), (.int p1), (.int p2), (.int p3), (.int p4)] maxLocals := ⟨_, rfl⟩
  have S0 : own_Go p e below s₁ G s₁ (mkF m 0 #[.val (.int p0), .val (.int p1), .val (.int p2), .val (.int p3), .val (.int p4), .unset, .unset, .unset, .unset, .unset, .unset, .unset, .unset, .unset, .unset, .unset] []) := fun tg_ kk_ => castTop (by rw [hG]; first | rfl | simp [entryFrame, mkF, argsToLocals, Value.category, maxLocals]) kk_
  have S5 : own_Go p e below s₁ G s₁ (mkF m 55 #[.val (.int p0), .val (.int p1), .val (.int p2), .val (.int p3), .val (.int p4), .val (.int ((p0 &&& (7 : Int32)) - ((p0 &&& (7 : Int32)) / (5 : Int32)) * (5 : Int32))), .val (.int ((p1 &&& (511 : Int32)) - (256 : Int32))), .val (.int ((p2 &&& (511 : Int32)) - (256 : Int32))), .val (.int ((p3 &&& (511 : Int32)) - (256 : Int32))), .val (.int ((p4 &&& (511 : Int32)) - (256 : Int32))), .unset, .unset, .unset, .unset, .unset, .unset] [(.int ((p0 &&& (7 : Int32)) - ((p0 &&& (7 : Int32)) / (5 : Int32)) * (5 : Int32)))]) := fun tg_ kk_ => S0 tg_ (by
    refine XS.iloadN X0.here hx rfl (hb hby at_0) rfl ?_
    show Steps p.tables e below (s₁.setTop (mkF m 1 #[.val (.int p0), .val (.int p1), .val (.int p2), .val (.int p3), .val (.int p4), .unset, .unset, .unset, .unset, .unset, .unset, .unset, .unset, .unset, .unset, .unset] [(.int p0)])) _
    refine XS.bipush X0.here hx rfl (hb hby at_1) ?_
    show Steps p.tables e below (s₁.setTop (mkF m 3 #[.val (.int p0), .val (.int p1), .val (.int p2), .val (.int p3), .val (.int p4), .unset, .unset, .unset, .unset, .unset, .unset, .unset, .unset, .unset, .unset, .unset] [(.int (7 : Int32)), (.int p0)])) _
    refine XS.iand X0.here hx rfl (hb hby at_3) rfl ?_
    show Steps p.tables e below (s₁.setTop (mkF m 4 #[.val (.int p0), .val (.int p1), .val (.int p2), .val (.int p3), .val (.int p4), .unset, .unset, .unset, .unset, .unset, .unset, .unset, .unset, .unset, .unset, .unset] [(.int (p0 &&& (7 : Int32)))])) _
    refine XS.iconst X0.here hx rfl (hb hby at_4) ?_
    show Steps p.tables e below (s₁.setTop (mkF m 5 #[.val (.int p0), .val (.int p1), .val (.int p2), .val (.int p3), .val (.int p4), .unset, .unset, .unset, .unset, .unset, .unset, .unset, .unset, .unset, .unset, .unset] [(.int (5 : Int32)), (.int (p0 &&& (7 : Int32)))])) _
    refine XS.irem X0.here hx rfl (hb hby at_5) rfl (by decide) ?_
    show Steps p.tables e below (s₁.setTop (mkF m 6 #[.val (.int p0), .val (.int p1), .val (.int p2), .val (.int p3), .val (.int p4), .unset, .unset, .unset, .unset, .unset, .unset, .unset, .unset, .unset, .unset, .unset] [(.int ((p0 &&& (7 : Int32)) - ((p0 &&& (7 : Int32)) / (5 : Int32)) * (5 : Int32)))])) _
    refine XS.istore X0.here hx rfl (hb hby at_6) rfl (l' := #[.val (.int p0), .val (.int p1), .val (.int p2), .val (.int p3), .val (.int p4), .val (.int ((p0 &&& (7 : Int32)) - ((p0 &&& (7 : Int32)) / (5 : Int32)) * (5 : Int32))), .unset, .unset, .unset, .unset, .unset, .unset, .unset, .unset, .unset, .unset]) rfl ?_
    show Steps p.tables e below (s₁.setTop (mkF m 8 #[.val (.int p0), .val (.int p1), .val (.int p2), .val (.int p3), .val (.int p4), .val (.int ((p0 &&& (7 : Int32)) - ((p0 &&& (7 : Int32)) / (5 : Int32)) * (5 : Int32))), .unset, .unset, .unset, .unset, .unset, .unset, .unset, .unset, .unset, .unset] [])) _
    refine XS.iloadN X0.here hx rfl (hb hby at_8) rfl ?_
    show Steps p.tables e below (s₁.setTop (mkF m 9 #[.val (.int p0), .val (.int p1), .val (.int p2), .val (.int p3), .val (.int p4), .val (.int ((p0 &&& (7 : Int32)) - ((p0 &&& (7 : Int32)) / (5 : Int32)) * (5 : Int32))), .unset, .unset, .unset, .unset, .unset, .unset, .unset, .unset, .unset, .unset] [(.int p1)])) _
    refine XS.sipush X0.here hx rfl (hb hby at_9) ?_
    show Steps p.tables e below (s₁.setTop (mkF m 12 #[.val (.int p0), .val (.int p1), .val (.int p2), .val (.int p3), .val (.int p4), .val (.int ((p0 &&& (7 : Int32)) - ((p0 &&& (7 : Int32)) / (5 : Int32)) * (5 : Int32))), .unset, .unset, .unset, .unset, .unset, .unset, .unset, .unset, .unset, .unset] [(.int (511 : Int32)), (.int p1)])) _
    refine XS.iand X0.here hx rfl (hb hby at_12) rfl ?_
    show Steps p.tables e below (s₁.setTop (mkF m 13 #[.val (.int p0), .val (.int p1), .val (.int p2), .val (.int p3), .val (.int p4), .val (.int ((p0 &&& (7 : Int32)) - ((p0 &&& (7 : Int32)) / (5 : Int32)) * (5 : Int32))), .unset, .unset, .unset, .unset, .unset, .unset, .unset, .unset, .unset, .unset] [(.int (p1 &&& (511 : Int32)))])) _
    refine XS.sipush X0.here hx rfl (hb hby at_13) ?_
    show Steps p.tables e below (s₁.setTop (mkF m 16 #[.val (.int p0), .val (.int p1), .val (.int p2), .val (.int p3), .val (.int p4), .val (.int ((p0 &&& (7 : Int32)) - ((p0 &&& (7 : Int32)) / (5 : Int32)) * (5 : Int32))), .unset, .unset, .unset, .unset, .unset, .unset, .unset, .unset, .unset, .unset] [(.int (256 : Int32)), (.int (p1 &&& (511 : Int32)))])) _
    refine XS.isub X0.here hx rfl (hb hby at_16) rfl ?_
    show Steps p.tables e below (s₁.setTop (mkF m 17 #[.val (.int p0), .val (.int p1), .val (.int p2), .val (.int p3), .val (.int p4), .val (.int ((p0 &&& (7 : Int32)) - ((p0 &&& (7 : Int32)) / (5 : Int32)) * (5 : Int32))), .unset, .unset, .unset, .unset, .unset, .unset, .unset, .unset, .unset, .unset] [(.int ((p1 &&& (511 : Int32)) - (256 : Int32)))])) _
    refine XS.istore X0.here hx rfl (hb hby at_17) rfl (l' := #[.val (.int p0), .val (.int p1), .val (.int p2), .val (.int p3), .val (.int p4), .val (.int ((p0 &&& (7 : Int32)) - ((p0 &&& (7 : Int32)) / (5 : Int32)) * (5 : Int32))), .val (.int ((p1 &&& (511 : Int32)) - (256 : Int32))), .unset, .unset, .unset, .unset, .unset, .unset, .unset, .unset, .unset]) rfl ?_
    show Steps p.tables e below (s₁.setTop (mkF m 19 #[.val (.int p0), .val (.int p1), .val (.int p2), .val (.int p3), .val (.int p4), .val (.int ((p0 &&& (7 : Int32)) - ((p0 &&& (7 : Int32)) / (5 : Int32)) * (5 : Int32))), .val (.int ((p1 &&& (511 : Int32)) - (256 : Int32))), .unset, .unset, .unset, .unset, .unset, .unset, .unset, .unset, .unset] [])) _
    refine XS.iloadN X0.here hx rfl (hb hby at_19) rfl ?_
    show Steps p.tables e below (s₁.setTop (mkF m 20 #[.val (.int p0), .val (.int p1), .val (.int p2), .val (.int p3), .val (.int p4), .val (.int ((p0 &&& (7 : Int32)) - ((p0 &&& (7 : Int32)) / (5 : Int32)) * (5 : Int32))), .val (.int ((p1 &&& (511 : Int32)) - (256 : Int32))), .unset, .unset, .unset, .unset, .unset, .unset, .unset, .unset, .unset] [(.int p2)])) _
    refine XS.sipush X0.here hx rfl (hb hby at_20) ?_
    show Steps p.tables e below (s₁.setTop (mkF m 23 #[.val (.int p0), .val (.int p1), .val (.int p2), .val (.int p3), .val (.int p4), .val (.int ((p0 &&& (7 : Int32)) - ((p0 &&& (7 : Int32)) / (5 : Int32)) * (5 : Int32))), .val (.int ((p1 &&& (511 : Int32)) - (256 : Int32))), .unset, .unset, .unset, .unset, .unset, .unset, .unset, .unset, .unset] [(.int (511 : Int32)), (.int p2)])) _
    refine XS.iand X0.here hx rfl (hb hby at_23) rfl ?_
    show Steps p.tables e below (s₁.setTop (mkF m 24 #[.val (.int p0), .val (.int p1), .val (.int p2), .val (.int p3), .val (.int p4), .val (.int ((p0 &&& (7 : Int32)) - ((p0 &&& (7 : Int32)) / (5 : Int32)) * (5 : Int32))), .val (.int ((p1 &&& (511 : Int32)) - (256 : Int32))), .unset, .unset, .unset, .unset, .unset, .unset, .unset, .unset, .unset] [(.int (p2 &&& (511 : Int32)))])) _
    refine XS.sipush X0.here hx rfl (hb hby at_24) ?_
    show Steps p.tables e below (s₁.setTop (mkF m 27 #[.val (.int p0), .val (.int p1), .val (.int p2), .val (.int p3), .val (.int p4), .val (.int ((p0 &&& (7 : Int32)) - ((p0 &&& (7 : Int32)) / (5 : Int32)) * (5 : Int32))), .val (.int ((p1 &&& (511 : Int32)) - (256 : Int32))), .unset, .unset, .unset, .unset, .unset, .unset, .unset, .unset, .unset] [(.int (256 : Int32)), (.int (p2 &&& (511 : Int32)))])) _
    refine XS.isub X0.here hx rfl (hb hby at_27) rfl ?_
    show Steps p.tables e below (s₁.setTop (mkF m 28 #[.val (.int p0), .val (.int p1), .val (.int p2), .val (.int p3), .val (.int p4), .val (.int ((p0 &&& (7 : Int32)) - ((p0 &&& (7 : Int32)) / (5 : Int32)) * (5 : Int32))), .val (.int ((p1 &&& (511 : Int32)) - (256 : Int32))), .unset, .unset, .unset, .unset, .unset, .unset, .unset, .unset, .unset] [(.int ((p2 &&& (511 : Int32)) - (256 : Int32)))])) _
    refine XS.istore X0.here hx rfl (hb hby at_28) rfl (l' := #[.val (.int p0), .val (.int p1), .val (.int p2), .val (.int p3), .val (.int p4), .val (.int ((p0 &&& (7 : Int32)) - ((p0 &&& (7 : Int32)) / (5 : Int32)) * (5 : Int32))), .val (.int ((p1 &&& (511 : Int32)) - (256 : Int32))), .val (.int ((p2 &&& (511 : Int32)) - (256 : Int32))), .unset, .unset, .unset, .unset, .unset, .unset, .unset, .unset]) rfl ?_
    show Steps p.tables e below (s₁.setTop (mkF m 30 #[.val (.int p0), .val (.int p1), .val (.int p2), .val (.int p3), .val (.int p4), .val (.int ((p0 &&& (7 : Int32)) - ((p0 &&& (7 : Int32)) / (5 : Int32)) * (5 : Int32))), .val (.int ((p1 &&& (511 : Int32)) - (256 : Int32))), .val (.int ((p2 &&& (511 : Int32)) - (256 : Int32))), .unset, .unset, .unset, .unset, .unset, .unset, .unset, .unset] [])) _
    refine XS.iloadN X0.here hx rfl (hb hby at_30) rfl ?_
    show Steps p.tables e below (s₁.setTop (mkF m 31 #[.val (.int p0), .val (.int p1), .val (.int p2), .val (.int p3), .val (.int p4), .val (.int ((p0 &&& (7 : Int32)) - ((p0 &&& (7 : Int32)) / (5 : Int32)) * (5 : Int32))), .val (.int ((p1 &&& (511 : Int32)) - (256 : Int32))), .val (.int ((p2 &&& (511 : Int32)) - (256 : Int32))), .unset, .unset, .unset, .unset, .unset, .unset, .unset, .unset] [(.int p3)])) _
    refine XS.sipush X0.here hx rfl (hb hby at_31) ?_
    show Steps p.tables e below (s₁.setTop (mkF m 34 #[.val (.int p0), .val (.int p1), .val (.int p2), .val (.int p3), .val (.int p4), .val (.int ((p0 &&& (7 : Int32)) - ((p0 &&& (7 : Int32)) / (5 : Int32)) * (5 : Int32))), .val (.int ((p1 &&& (511 : Int32)) - (256 : Int32))), .val (.int ((p2 &&& (511 : Int32)) - (256 : Int32))), .unset, .unset, .unset, .unset, .unset, .unset, .unset, .unset] [(.int (511 : Int32)), (.int p3)])) _
    refine XS.iand X0.here hx rfl (hb hby at_34) rfl ?_
    show Steps p.tables e below (s₁.setTop (mkF m 35 #[.val (.int p0), .val (.int p1), .val (.int p2), .val (.int p3), .val (.int p4), .val (.int ((p0 &&& (7 : Int32)) - ((p0 &&& (7 : Int32)) / (5 : Int32)) * (5 : Int32))), .val (.int ((p1 &&& (511 : Int32)) - (256 : Int32))), .val (.int ((p2 &&& (511 : Int32)) - (256 : Int32))), .unset, .unset, .unset, .unset, .unset, .unset, .unset, .unset] [(.int (p3 &&& (511 : Int32)))])) _
    refine XS.sipush X0.here hx rfl (hb hby at_35) ?_
    show Steps p.tables e below (s₁.setTop (mkF m 38 #[.val (.int p0), .val (.int p1), .val (.int p2), .val (.int p3), .val (.int p4), .val (.int ((p0 &&& (7 : Int32)) - ((p0 &&& (7 : Int32)) / (5 : Int32)) * (5 : Int32))), .val (.int ((p1 &&& (511 : Int32)) - (256 : Int32))), .val (.int ((p2 &&& (511 : Int32)) - (256 : Int32))), .unset, .unset, .unset, .unset, .unset, .unset, .unset, .unset] [(.int (256 : Int32)), (.int (p3 &&& (511 : Int32)))])) _
    refine XS.isub X0.here hx rfl (hb hby at_38) rfl ?_
    show Steps p.tables e below (s₁.setTop (mkF m 39 #[.val (.int p0), .val (.int p1), .val (.int p2), .val (.int p3), .val (.int p4), .val (.int ((p0 &&& (7 : Int32)) - ((p0 &&& (7 : Int32)) / (5 : Int32)) * (5 : Int32))), .val (.int ((p1 &&& (511 : Int32)) - (256 : Int32))), .val (.int ((p2 &&& (511 : Int32)) - (256 : Int32))), .unset, .unset, .unset, .unset, .unset, .unset, .unset, .unset] [(.int ((p3 &&& (511 : Int32)) - (256 : Int32)))])) _
    refine XS.istore X0.here hx rfl (hb hby at_39) rfl (l' := #[.val (.int p0), .val (.int p1), .val (.int p2), .val (.int p3), .val (.int p4), .val (.int ((p0 &&& (7 : Int32)) - ((p0 &&& (7 : Int32)) / (5 : Int32)) * (5 : Int32))), .val (.int ((p1 &&& (511 : Int32)) - (256 : Int32))), .val (.int ((p2 &&& (511 : Int32)) - (256 : Int32))), .val (.int ((p3 &&& (511 : Int32)) - (256 : Int32))), .unset, .unset, .unset, .unset, .unset, .unset, .unset]) rfl ?_
    show Steps p.tables e below (s₁.setTop (mkF m 41 #[.val (.int p0), .val (.int p1), .val (.int p2), .val (.int p3), .val (.int p4), .val (.int ((p0 &&& (7 : Int32)) - ((p0 &&& (7 : Int32)) / (5 : Int32)) * (5 : Int32))), .val (.int ((p1 &&& (511 : Int32)) - (256 : Int32))), .val (.int ((p2 &&& (511 : Int32)) - (256 : Int32))), .val (.int ((p3 &&& (511 : Int32)) - (256 : Int32))), .unset, .unset, .unset, .unset, .unset, .unset, .unset] [])) _
    refine XS.iload X0.here hx rfl (hb hby at_41) rfl ?_
    show Steps p.tables e below (s₁.setTop (mkF m 43 #[.val (.int p0), .val (.int p1), .val (.int p2), .val (.int p3), .val (.int p4), .val (.int ((p0 &&& (7 : Int32)) - ((p0 &&& (7 : Int32)) / (5 : Int32)) * (5 : Int32))), .val (.int ((p1 &&& (511 : Int32)) - (256 : Int32))), .val (.int ((p2 &&& (511 : Int32)) - (256 : Int32))), .val (.int ((p3 &&& (511 : Int32)) - (256 : Int32))), .unset, .unset, .unset, .unset, .unset, .unset, .unset] [(.int p4)])) _
    refine XS.sipush X0.here hx rfl (hb hby at_43) ?_
    show Steps p.tables e below (s₁.setTop (mkF m 46 #[.val (.int p0), .val (.int p1), .val (.int p2), .val (.int p3), .val (.int p4), .val (.int ((p0 &&& (7 : Int32)) - ((p0 &&& (7 : Int32)) / (5 : Int32)) * (5 : Int32))), .val (.int ((p1 &&& (511 : Int32)) - (256 : Int32))), .val (.int ((p2 &&& (511 : Int32)) - (256 : Int32))), .val (.int ((p3 &&& (511 : Int32)) - (256 : Int32))), .unset, .unset, .unset, .unset, .unset, .unset, .unset] [(.int (511 : Int32)), (.int p4)])) _
    refine XS.iand X0.here hx rfl (hb hby at_46) rfl ?_
    show Steps p.tables e below (s₁.setTop (mkF m 47 #[.val (.int p0), .val (.int p1), .val (.int p2), .val (.int p3), .val (.int p4), .val (.int ((p0 &&& (7 : Int32)) - ((p0 &&& (7 : Int32)) / (5 : Int32)) * (5 : Int32))), .val (.int ((p1 &&& (511 : Int32)) - (256 : Int32))), .val (.int ((p2 &&& (511 : Int32)) - (256 : Int32))), .val (.int ((p3 &&& (511 : Int32)) - (256 : Int32))), .unset, .unset, .unset, .unset, .unset, .unset, .unset] [(.int (p4 &&& (511 : Int32)))])) _
    refine XS.sipush X0.here hx rfl (hb hby at_47) ?_
    show Steps p.tables e below (s₁.setTop (mkF m 50 #[.val (.int p0), .val (.int p1), .val (.int p2), .val (.int p3), .val (.int p4), .val (.int ((p0 &&& (7 : Int32)) - ((p0 &&& (7 : Int32)) / (5 : Int32)) * (5 : Int32))), .val (.int ((p1 &&& (511 : Int32)) - (256 : Int32))), .val (.int ((p2 &&& (511 : Int32)) - (256 : Int32))), .val (.int ((p3 &&& (511 : Int32)) - (256 : Int32))), .unset, .unset, .unset, .unset, .unset, .unset, .unset] [(.int (256 : Int32)), (.int (p4 &&& (511 : Int32)))])) _
    refine XS.isub X0.here hx rfl (hb hby at_50) rfl ?_
    show Steps p.tables e below (s₁.setTop (mkF m 51 #[.val (.int p0), .val (.int p1), .val (.int p2), .val (.int p3), .val (.int p4), .val (.int ((p0 &&& (7 : Int32)) - ((p0 &&& (7 : Int32)) / (5 : Int32)) * (5 : Int32))), .val (.int ((p1 &&& (511 : Int32)) - (256 : Int32))), .val (.int ((p2 &&& (511 : Int32)) - (256 : Int32))), .val (.int ((p3 &&& (511 : Int32)) - (256 : Int32))), .unset, .unset, .unset, .unset, .unset, .unset, .unset] [(.int ((p4 &&& (511 : Int32)) - (256 : Int32)))])) _
    refine XS.istore X0.here hx rfl (hb hby at_51) rfl (l' := #[.val (.int p0), .val (.int p1), .val (.int p2), .val (.int p3), .val (.int p4), .val (.int ((p0 &&& (7 : Int32)) - ((p0 &&& (7 : Int32)) / (5 : Int32)) * (5 : Int32))), .val (.int ((p1 &&& (511 : Int32)) - (256 : Int32))), .val (.int ((p2 &&& (511 : Int32)) - (256 : Int32))), .val (.int ((p3 &&& (511 : Int32)) - (256 : Int32))), .val (.int ((p4 &&& (511 : Int32)) - (256 : Int32))), .unset, .unset, .unset, .unset, .unset, .unset]) rfl ?_
    show Steps p.tables e below (s₁.setTop (mkF m 53 #[.val (.int p0), .val (.int p1), .val (.int p2), .val (.int p3), .val (.int p4), .val (.int ((p0 &&& (7 : Int32)) - ((p0 &&& (7 : Int32)) / (5 : Int32)) * (5 : Int32))), .val (.int ((p1 &&& (511 : Int32)) - (256 : Int32))), .val (.int ((p2 &&& (511 : Int32)) - (256 : Int32))), .val (.int ((p3 &&& (511 : Int32)) - (256 : Int32))), .val (.int ((p4 &&& (511 : Int32)) - (256 : Int32))), .unset, .unset, .unset, .unset, .unset, .unset] [])) _
    refine XS.iload X0.here hx rfl (hb hby at_53) rfl ?_
    exact kk_)
  obtain ⟨j0, hj0⟩ := own_k p1
  rw [hj0] at S5
  obtain ⟨j1, hj1⟩ := own_k p2
  rw [hj1] at S5
  obtain ⟨j2, hj2⟩ := own_k p3
  rw [hj2] at S5
  obtain ⟨j3, hj3⟩ := own_k p4
  rw [hj3] at S5
  rcases own_n5 p0 with hn | hn | hn | hn | hn
  · have _ := hn
    rw [hn] at S5
    obtain ⟨T1, h1, k1, X1, e1, E1, A1, st1⟩ := newP X0 hx hZ (hw _ (List.mem_of_getElem? (i := 0) rfl)) e0 (g := (mkF m 55 #[.val (.int p0), .val (.int p1), .val (.int p2), .val (.int p3), .val (.int p4), .val (.int (0 : Int32)), .val (.int (own_ks j0)), .val (.int (own_ks j1)), .val (.int (own_ks j2)), .val (.int (own_ks j3)), .unset, .unset, .unset, .unset, .unset, .unset] [(.int (0 : Int32))])) rfl (hb hby at_55) rfl (by decide) (cap := 4) (by decide) (by decide) (by decide) (by decide)
    have S6 : own_Go p e below s₁ G T1 (mkF m 57 #[.val (.int p0), .val (.int p1), .val (.int p2), .val (.int p3), .val (.int p4), .val (.int (0 : Int32)), .val (.int (own_ks j0)), .val (.int (own_ks j1)), .val (.int (own_ks j2)), .val (.int (own_ks j3)), .unset, .unset, .unset, .unset, .unset, .unset] [(.ref h0.size)]) := fun tg_ kk_ => S5 tg_ (st1 tg_ kk_)
    obtain ⟨a1, g1⟩ : ∃ z, z = h0.size := ⟨_, rfl⟩
    rw [← g1] at S6
    rw [← g1] at A1
    have ha : n0 ≤ a1 := Nat.le_trans Z0 (Nat.le_of_eq g1.symm)
    have V0 : Arv Z h1 a1 k1 .double (0 : Int32) [] (.double 0) := (Arv.new A1 (by decide)).pad (pad_rep [] _ 0)
    have M0 : Fr n0 [] := N0
    have S7 : own_Go p e below s₁ G T1 (mkF m 88 #[.val (.int p0), .val (.int p1), .val (.int p2), .val (.int p3), .val (.int p4), .val (.int (0 : Int32)), .val (.int (own_ks j0)), .val (.int (own_ks j1)), .val (.int (own_ks j2)), .val (.int (own_ks j3)), .val (.ref a1), .val (.int (0 : Int32)), .unset, .unset, .unset, .unset] []) := fun tg_ kk_ => S6 tg_ (by
      refine XS.astore X1.here hx rfl (hb hby at_57) rfl rfl (l' := #[.val (.int p0), .val (.int p1), .val (.int p2), .val (.int p3), .val (.int p4), .val (.int (0 : Int32)), .val (.int (own_ks j0)), .val (.int (own_ks j1)), .val (.int (own_ks j2)), .val (.int (own_ks j3)), .val (.ref a1), .unset, .unset, .unset, .unset, .unset]) rfl ?_
      show Steps p.tables e below (T1.setTop (mkF m 59 #[.val (.int p0), .val (.int p1), .val (.int p2), .val (.int p3), .val (.int p4), .val (.int (0 : Int32)), .val (.int (own_ks j0)), .val (.int (own_ks j1)), .val (.int (own_ks j2)), .val (.int (own_ks j3)), .val (.ref a1), .unset, .unset, .unset, .unset, .unset] [])) _
      refine XS.iconst X1.here hx rfl (hb hby at_59) ?_
      show Steps p.tables e below (T1.setTop (mkF m 60 #[.val (.int p0), .val (.int p1), .val (.int p2), .val (.int p3), .val (.int p4), .val (.int (0 : Int32)), .val (.int (own_ks j0)), .val (.int (own_ks j1)), .val (.int (own_ks j2)), .val (.int (own_ks j3)), .val (.ref a1), .unset, .unset, .unset, .unset, .unset] [(.int (0 : Int32))])) _
      refine XS.istore X1.here hx rfl (hb hby at_60) rfl (l' := #[.val (.int p0), .val (.int p1), .val (.int p2), .val (.int p3), .val (.int p4), .val (.int (0 : Int32)), .val (.int (own_ks j0)), .val (.int (own_ks j1)), .val (.int (own_ks j2)), .val (.int (own_ks j3)), .val (.ref a1), .val (.int (0 : Int32)), .unset, .unset, .unset, .unset]) rfl ?_
      show Steps p.tables e below (T1.setTop (mkF m 62 #[.val (.int p0), .val (.int p1), .val (.int p2), .val (.int p3), .val (.int p4), .val (.int (0 : Int32)), .val (.int (own_ks j0)), .val (.int (own_ks j1)), .val (.int (own_ks j2)), .val (.int (own_ks j3)), .val (.ref a1), .val (.int (0 : Int32)), .unset, .unset, .unset, .unset] [])) _
      refine XS.iload X1.here hx rfl (hb hby at_62) rfl ?_
      show Steps p.tables e below (T1.setTop (mkF m 64 #[.val (.int p0), .val (.int p1), .val (.int p2), .val (.int p3), .val (.int p4), .val (.int (0 : Int32)), .val (.int (own_ks j0)), .val (.int (own_ks j1)), .val (.int (own_ks j2)), .val (.int (own_ks j3)), .val (.ref a1), .val (.int (0 : Int32)), .unset, .unset, .unset, .unset] [(.int (0 : Int32))])) _
      refine XS.ifYes X1.here hx rfl (pc0 := 64) (pc' := 88) rfl (hb hby at_64) rfl (by decide) (by decide) (by decide) ?_
      exact kk_)
    have S8 : own_Go p e below s₁ G T1 (mkF m 115 #[.val (.int p0), .val (.int p1), .val (.int p2), .val (.int p3), .val (.int p4), .val (.int (0 : Int32)), .val (.int (own_ks j0)), .val (.int (own_ks j1)), .val (.int (own_ks j2)), .val (.int (own_ks j3)), .val (.ref a1), .val (.int (0 : Int32)), .unset, .unset, .unset, .unset] []) := fun tg_ kk_ => S7 tg_ (by
      refine XS.iload X1.here hx rfl (hb hby at_88) rfl ?_
      show Steps p.tables e below (T1.setTop (mkF m 90 #[.val (.int p0), .val (.int p1), .val (.int p2), .val (.int p3), .val (.int p4), .val (.int (0 : Int32)), .val (.int (own_ks j0)), .val (.int (own_ks j1)), .val (.int (own_ks j2)), .val (.int (own_ks j3)), .val (.ref a1), .val (.int (0 : Int32)), .unset, .unset, .unset, .unset] [(.int (0 : Int32))])) _
      refine XS.iconst X1.here hx rfl (hb hby at_90) ?_
      show Steps p.tables e below (T1.setTop (mkF m 91 #[.val (.int p0), .val (.int p1), .val (.int p2), .val (.int p3), .val (.int p4), .val (.int (0 : Int32)), .val (.int (own_ks j0)), .val (.int (own_ks j1)), .val (.int (own_ks j2)), .val (.int (own_ks j3)), .val (.ref a1), .val (.int (0 : Int32)), .unset, .unset, .unset, .unset] [(.int (1 : Int32)), (.int (0 : Int32))])) _
      refine XS.icmpYes X1.here hx rfl (pc0 := 91) (pc' := 115) rfl (hb hby at_91) rfl (by decide) (by decide) (by decide) ?_
      exact kk_)
    have S9 : own_Go p e below s₁ G T1 (mkF m 142 #[.val (.int p0), .val (.int p1), .val (.int p2), .val (.int p3), .val (.int p4), .val (.int (0 : Int32)), .val (.int (own_ks j0)), .val (.int (own_ks j1)), .val (.int (own_ks j2)), .val (.int (own_ks j3)), .val (.ref a1), .val (.int (0 : Int32)), .unset, .unset, .unset, .unset] []) := fun tg_ kk_ => S8 tg_ (by
      refine XS.iload X1.here hx rfl (hb hby at_115) rfl ?_
      show Steps p.tables e below (T1.setTop (mkF m 117 #[.val (.int p0), .val (.int p1), .val (.int p2), .val (.int p3), .val (.int p4), .val (.int (0 : Int32)), .val (.int (own_ks j0)), .val (.int (own_ks j1)), .val (.int (own_ks j2)), .val (.int (own_ks j3)), .val (.ref a1), .val (.int (0 : Int32)), .unset, .unset, .unset, .unset] [(.int (0 : Int32))])) _
      refine XS.iconst X1.here hx rfl (hb hby at_117) ?_
      show Steps p.tables e below (T1.setTop (mkF m 118 #[.val (.int p0), .val (.int p1), .val (.int p2), .val (.int p3), .val (.int p4), .val (.int (0 : Int32)), .val (.int (own_ks j0)), .val (.int (own_ks j1)), .val (.int (own_ks j2)), .val (.int (own_ks j3)), .val (.ref a1), .val (.int (0 : Int32)), .unset, .unset, .unset, .unset] [(.int (2 : Int32)), (.int (0 : Int32))])) _
      refine XS.icmpYes X1.here hx rfl (pc0 := 118) (pc' := 142) rfl (hb hby at_118) rfl (by decide) (by decide) (by decide) ?_
      exact kk_)
    have S10 : own_Go p e below s₁ G T1 (mkF m 169 #[.val (.int p0), .val (.int p1), .val (.int p2), .val (.int p3), .val (.int p4), .val (.int (0 : Int32)), .val (.int (own_ks j0)), .val (.int (own_ks j1)), .val (.int (own_ks j2)), .val (.int (own_ks j3)), .val (.ref a1), .val (.int (0 : Int32)), .unset, .unset, .unset, .unset] []) := fun tg_ kk_ => S9 tg_ (by
      refine XS.iload X1.here hx rfl (hb hby at_142) rfl ?_
      show Steps p.tables e below (T1.setTop (mkF m 144 #[.val (.int p0), .val (.int p1), .val (.int p2), .val (.int p3), .val (.int p4), .val (.int (0 : Int32)), .val (.int (own_ks j0)), .val (.int (own_ks j1)), .val (.int (own_ks j2)), .val (.int (own_ks j3)), .val (.ref a1), .val (.int (0 : Int32)), .unset, .unset, .unset, .unset] [(.int (0 : Int32))])) _
      refine XS.iconst X1.here hx rfl (hb hby at_144) ?_
      show Steps p.tables e below (T1.setTop (mkF m 145 #[.val (.int p0), .val (.int p1), .val (.int p2), .val (.int p3), .val (.int p4), .val (.int (0 : Int32)), .val (.int (own_ks j0)), .val (.int (own_ks j1)), .val (.int (own_ks j2)), .val (.int (own_ks j3)), .val (.ref a1), .val (.int (0 : Int32)), .unset, .unset, .unset, .unset] [(.int (3 : Int32)), (.int (0 : Int32))])) _
      refine XS.icmpYes X1.here hx rfl (pc0 := 145) (pc' := 169) rfl (hb hby at_145) rfl (by decide) (by decide) (by decide) ?_
      exact kk_)
    have S11 : own_Go p e below s₁ G T1 (mkF m 171 #[.val (.int p0), .val (.int p1), .val (.int p2), .val (.int p3), .val (.int p4), .val (.int (0 : Int32)), .val (.int (own_ks j0)), .val (.int (own_ks j1)), .val (.int (own_ks j2)), .val (.int (own_ks j3)), .val (.ref a1), .val (.int (0 : Int32)), .unset, .unset, .unset, .unset] [(.ref a1)]) := fun tg_ kk_ => S10 tg_ (by
      refine XS.aload X1.here hx rfl (hb hby at_169) rfl rfl ?_
      exact kk_)
    obtain ⟨tot, htot⟩ : ∃ z, z = (own_T (fun j => own_q ((fun _ => 0) j)) 0) := ⟨_, rfl⟩
    have hle : tot ≤ 262144 := by rw [htot]; exact Nat.le_trans (own_T_le (fun j => own_qle _) 0) (by decide)
    have hsum := own_sum (f := (fun _ => 0)) 0 (by decide)
    rw [← htot] at hsum
    have hs : (0 : Int32) = Int32.ofNat tot := by
      rw [htot]
      simp only [own_ksq, own_T, Int32.ofNat_add]
      rfl
    rw [hs] at S11
    have hi := own_i2d (n := tot) (by omega)
    have hzn : Jvm.Free.Fl.NoNaN64 (FP.ddiv FP.dconst1 (own_S (fun j => own_w ((fun _ => 0) j)) 0)) := by
      by_cases ht0 : tot = 0
      · rw [ht0] at hsum; rw [own_zero hsum]; exact own_nn (by decide +kernel)
      · exact (own_div ht0 (by omega) hsum hi).2
    have Zc : n0 ≤ h1.size := by
      refine Nat.le_trans Z0 (Nat.le_trans E1.1 ?_)
      simp only [Nat.le_refl]
    obtain ⟨_, T12, h12, L12, X12, e12, hQ12, st12⟩ := own_callS X1 hx hZ (y := (⟨"com/example/cladewave/cladewave/samplers/Resampling", "effectiveSampleSize", "([D)D"⟩ : MethodName)) hown (hw _ (List.mem_of_getElem? (i := 1) rfl)) (hw _ (List.mem_of_getElem? (i := 2) rfl)) (hw _ (List.mem_of_getElem? (i := 3) rfl)) (hw _ (List.mem_of_getElem? (i := 4) rfl)) (by decide) 0 (g := (mkF m 171 #[.val (.int p0), .val (.int p1), .val (.int p2), .val (.int p3), .val (.int p4), .val (.int (Int32.ofNat tot)), .val (.int (own_ks j0)), .val (.int (own_ks j1)), .val (.int (own_ks j2)), .val (.int (own_ks j3)), .val (.ref a1), .val (.int (Int32.ofNat tot)), .unset, .unset, .unset, .unset] [(.ref a1)])) rfl (by rw [hml]; rfl) [(.ref a1)] [] (rm1 l Z a0 hw [] a1 (fun _ => 0) 0 h1 n0 Zc (by decide) k1 [] (.double 0) V0 (fun j hj => absurd hj (Nat.not_lt_zero j)) hzn) (lenOf pd1 rfl) rfl (by show 2 * 0 + _ ≤ _; exact Nat.le_of_eq rfl) (hb hby at_171) (by decide) (by decide) e1 (by decide) (by decide)
    obtain ⟨rfl, M12, rfl⟩ := hQ12
    have S13 : own_Go p e below s₁ G T12 (mkF m 174 #[.val (.int p0), .val (.int p1), .val (.int p2), .val (.int p3), .val (.int p4), .val (.int (Int32.ofNat tot)), .val (.int (own_ks j0)), .val (.int (own_ks j1)), .val (.int (own_ks j2)), .val (.int (own_ks j3)), .val (.ref a1), .val (.int (Int32.ofNat tot)), .unset, .unset, .unset, .unset] [(.double (FP.ddiv FP.dconst1 (own_S (fun j => own_w ((fun _ => 0) j)) 0)))]) := fun tg_ kk_ => S11 tg_ (st12 tg_ kk_)
    have MM := Fr.app N0 M12
    obtain ⟨r, hr0⟩ : ∃ z : UInt64, z = (FP.ddiv FP.dconst1 (own_S (fun j => own_w ((fun _ => 0) j)) 0)) := ⟨_, rfl⟩
    rw [← hr0] at S13
    have S14 : own_Go p e below s₁ G T12 (mkF m 178 #[.val (.int p0), .val (.int p1), .val (.int p2), .val (.int p3), .val (.int p4), .val (.int (Int32.ofNat tot)), .val (.int (own_ks j0)), .val (.int (own_ks j1)), .val (.int (own_ks j2)), .val (.int (own_ks j3)), .val (.ref a1), .val (.int (Int32.ofNat tot)), .val (.double r), .second, .unset, .unset] [(.int (Int32.ofNat tot))]) := fun tg_ kk_ => S13 tg_ (by
      refine XS.dstore X12.here hx rfl (hb hby at_174) rfl (l' := #[.val (.int p0), .val (.int p1), .val (.int p2), .val (.int p3), .val (.int p4), .val (.int (Int32.ofNat tot)), .val (.int (own_ks j0)), .val (.int (own_ks j1)), .val (.int (own_ks j2)), .val (.int (own_ks j3)), .val (.ref a1), .val (.int (Int32.ofNat tot)), .val (.double r), .second, .unset, .unset]) rfl ?_
      show Steps p.tables e below (T12.setTop (mkF m 176 #[.val (.int p0), .val (.int p1), .val (.int p2), .val (.int p3), .val (.int p4), .val (.int (Int32.ofNat tot)), .val (.int (own_ks j0)), .val (.int (own_ks j1)), .val (.int (own_ks j2)), .val (.int (own_ks j3)), .val (.ref a1), .val (.int (Int32.ofNat tot)), .val (.double r), .second, .unset, .unset] [])) _
      refine XS.iload X12.here hx rfl (hb hby at_176) rfl ?_
      exact kk_)
    by_cases ht0 : tot = 0
    · have hr1 : r = 9218868437227405312 := by
        rw [hr0]; rw [ht0] at hsum; rw [own_zero hsum]; decide +kernel
      subst ht0
      rw [show Int32.ofNat 0 = Int32.ofNat 0 from rfl] at S14
      have S15 : own_Go p e below s₁ G T12 (mkF m 207 #[.val (.int p0), .val (.int p1), .val (.int p2), .val (.int p3), .val (.int p4), .val (.int (Int32.ofNat 0)), .val (.int (own_ks j0)), .val (.int (own_ks j1)), .val (.int (own_ks j2)), .val (.int (own_ks j3)), .val (.ref a1), .val (.int (Int32.ofNat 0)), .val (.double r), .second, .unset, .unset] [(.int (1 : Int32))]) := fun tg_ kk_ => S14 tg_ (by
        refine XS.ifNo X12.here hx rfl (hb hby at_178) rfl (by decide) ?_
        show Steps p.tables e below (T12.setTop (mkF m 181 #[.val (.int p0), .val (.int p1), .val (.int p2), .val (.int p3), .val (.int p4), .val (.int (Int32.ofNat 0)), .val (.int (own_ks j0)), .val (.int (own_ks j1)), .val (.int (own_ks j2)), .val (.int (own_ks j3)), .val (.ref a1), .val (.int (Int32.ofNat 0)), .val (.double r), .second, .unset, .unset] [])) _
        refine XS.dload X12.here hx rfl (hb hby at_181) rfl ?_
        show Steps p.tables e below (T12.setTop (mkF m 183 #[.val (.int p0), .val (.int p1), .val (.int p2), .val (.int p3), .val (.int p4), .val (.int (Int32.ofNat 0)), .val (.int (own_ks j0)), .val (.int (own_ks j1)), .val (.int (own_ks j2)), .val (.int (own_ks j3)), .val (.ref a1), .val (.int (Int32.ofNat 0)), .val (.double r), .second, .unset, .unset] [(.double r)])) _
        refine X12.ldc2DoubleC hx hown (mvT hZ (hw _ (List.mem_of_getElem? (i := 5) rfl))) (g := (mkF m 183 #[.val (.int p0), .val (.int p1), .val (.int p2), .val (.int p3), .val (.int p4), .val (.int (Int32.ofNat 0)), .val (.int (own_ks j0)), .val (.int (own_ks j1)), .val (.int (own_ks j2)), .val (.int (own_ks j3)), .val (.ref a1), .val (.int (Int32.ofNat 0)), .val (.double r), .second, .unset, .unset] [(.double r)])) rfl (hb hby at_183) _ ?_
        show Steps p.tables e below (T12.setTop (mkF m 186 #[.val (.int p0), .val (.int p1), .val (.int p2), .val (.int p3), .val (.int p4), .val (.int (Int32.ofNat 0)), .val (.int (own_ks j0)), .val (.int (own_ks j1)), .val (.int (own_ks j2)), .val (.int (own_ks j3)), .val (.ref a1), .val (.int (Int32.ofNat 0)), .val (.double r), .second, .unset, .unset] [(.double (9214871658872686752 : UInt64)), (.double r)])) _
        refine XS.dcmpS X12.here hx rfl (hb hby at_186) rfl (by rw [hr1] <;> decide +kernel) ?_
        show Steps p.tables e below (T12.setTop (mkF m 187 #[.val (.int p0), .val (.int p1), .val (.int p2), .val (.int p3), .val (.int p4), .val (.int (Int32.ofNat 0)), .val (.int (own_ks j0)), .val (.int (own_ks j1)), .val (.int (own_ks j2)), .val (.int (own_ks j3)), .val (.ref a1), .val (.int (Int32.ofNat 0)), .val (.double r), .second, .unset, .unset] [(.int (1 : Int32))])) _
        refine XS.ifNo X12.here hx rfl (hb hby at_187) rfl (by decide) ?_
        show Steps p.tables e below (T12.setTop (mkF m 190 #[.val (.int p0), .val (.int p1), .val (.int p2), .val (.int p3), .val (.int p4), .val (.int (Int32.ofNat 0)), .val (.int (own_ks j0)), .val (.int (own_ks j1)), .val (.int (own_ks j2)), .val (.int (own_ks j3)), .val (.ref a1), .val (.int (Int32.ofNat 0)), .val (.double r), .second, .unset, .unset] [])) _
        refine XS.dload X12.here hx rfl (hb hby at_190) rfl ?_
        show Steps p.tables e below (T12.setTop (mkF m 192 #[.val (.int p0), .val (.int p1), .val (.int p2), .val (.int p3), .val (.int p4), .val (.int (Int32.ofNat 0)), .val (.int (own_ks j0)), .val (.int (own_ks j1)), .val (.int (own_ks j2)), .val (.int (own_ks j3)), .val (.ref a1), .val (.int (Int32.ofNat 0)), .val (.double r), .second, .unset, .unset] [(.double r)])) _
        refine X12.ldc2DoubleC hx hown (mvT hZ (hw _ (List.mem_of_getElem? (i := 6) rfl))) (g := (mkF m 192 #[.val (.int p0), .val (.int p1), .val (.int p2), .val (.int p3), .val (.int p4), .val (.int (Int32.ofNat 0)), .val (.int (own_ks j0)), .val (.int (own_ks j1)), .val (.int (own_ks j2)), .val (.int (own_ks j3)), .val (.ref a1), .val (.int (Int32.ofNat 0)), .val (.double r), .second, .unset, .unset] [(.double r)])) rfl (hb hby at_192) _ ?_
        show Steps p.tables e below (T12.setTop (mkF m 195 #[.val (.int p0), .val (.int p1), .val (.int p2), .val (.int p3), .val (.int p4), .val (.int (Int32.ofNat 0)), .val (.int (own_ks j0)), .val (.int (own_ks j1)), .val (.int (own_ks j2)), .val (.int (own_ks j3)), .val (.ref a1), .val (.int (Int32.ofNat 0)), .val (.double r), .second, .unset, .unset] [(.double (4611686018427387904 : UInt64)), (.double r)])) _
        refine XS.dmulS X12.here hx rfl (hb hby at_195) rfl (by rw [hr1]; exact own_nn (by decide +kernel)) rfl ?_
        show Steps p.tables e below (T12.setTop (mkF m 196 #[.val (.int p0), .val (.int p1), .val (.int p2), .val (.int p3), .val (.int p4), .val (.int (Int32.ofNat 0)), .val (.int (own_ks j0)), .val (.int (own_ks j1)), .val (.int (own_ks j2)), .val (.int (own_ks j3)), .val (.ref a1), .val (.int (Int32.ofNat 0)), .val (.double r), .second, .unset, .unset] [(.double (FP.dmul r (4611686018427387904 : UInt64)))])) _
        refine XS.dload X12.here hx rfl (hb hby at_196) rfl ?_
        show Steps p.tables e below (T12.setTop (mkF m 198 #[.val (.int p0), .val (.int p1), .val (.int p2), .val (.int p3), .val (.int p4), .val (.int (Int32.ofNat 0)), .val (.int (own_ks j0)), .val (.int (own_ks j1)), .val (.int (own_ks j2)), .val (.int (own_ks j3)), .val (.ref a1), .val (.int (Int32.ofNat 0)), .val (.double r), .second, .unset, .unset] [(.double r), (.double (FP.dmul r (4611686018427387904 : UInt64)))])) _
        refine XS.dcmpS X12.here hx rfl (hb hby at_198) rfl (by rw [hr1] <;> decide +kernel) ?_
        show Steps p.tables e below (T12.setTop (mkF m 199 #[.val (.int p0), .val (.int p1), .val (.int p2), .val (.int p3), .val (.int p4), .val (.int (Int32.ofNat 0)), .val (.int (own_ks j0)), .val (.int (own_ks j1)), .val (.int (own_ks j2)), .val (.int (own_ks j3)), .val (.ref a1), .val (.int (Int32.ofNat 0)), .val (.double r), .second, .unset, .unset] [(.int (0 : Int32))])) _
        refine XS.ifNo X12.here hx rfl (hb hby at_199) rfl (by decide) ?_
        show Steps p.tables e below (T12.setTop (mkF m 202 #[.val (.int p0), .val (.int p1), .val (.int p2), .val (.int p3), .val (.int p4), .val (.int (Int32.ofNat 0)), .val (.int (own_ks j0)), .val (.int (own_ks j1)), .val (.int (own_ks j2)), .val (.int (own_ks j3)), .val (.ref a1), .val (.int (Int32.ofNat 0)), .val (.double r), .second, .unset, .unset] [])) _
        refine XS.iconst X12.here hx rfl (hb hby at_202) ?_
        show Steps p.tables e below (T12.setTop (mkF m 203 #[.val (.int p0), .val (.int p1), .val (.int p2), .val (.int p3), .val (.int p4), .val (.int (Int32.ofNat 0)), .val (.int (own_ks j0)), .val (.int (own_ks j1)), .val (.int (own_ks j2)), .val (.int (own_ks j3)), .val (.ref a1), .val (.int (Int32.ofNat 0)), .val (.double r), .second, .unset, .unset] [(.int (1 : Int32))])) _
        refine XS.goto X12.here hx rfl (pc0 := 203) (pc' := 207) rfl (hb hby at_203) (by decide) (by decide) ?_
        exact kk_)
      obtain ⟨fs, hr, hrun, hended, hW, hsame⟩ := X12.leave (v := some (.int (1 : Int32))) (fun h => by rw [Bd.returns] at h; cases h)
      refine ⟨_, _, ?_, hrun, hended, _, _, rfl, ?_, ⟨_, rfl⟩, hW, hsame.mono (by decide) (by decide)⟩
      · rw [← hG]; exact S15 _ (retN X12 hx (t := .boolean) Bd.returns (by simp) (hb hby at_207) hr)
      · show Q0 Z p0 p1 p2 p3 p4 h0 n0 _ T12.heap _
        rw [e12]
        exact ⟨rfl, MM⟩
    · obtain ⟨hd1, hd2⟩ := own_div ht0 (by omega) hsum hi
      rw [← hr0] at hd1 hd2
      have hne : ¬ Int32.ofNat tot = 0 := fun q => ht0 (by have q2 := congrArg Int32.toInt q; rw [Int32.toInt_ofNat_of_lt (by omega)] at q2; exact Int.ofNat.inj q2)
      have S16 : own_Go p e below s₁ G T12 (mkF m 230 #[.val (.int p0), .val (.int p1), .val (.int p2), .val (.int p3), .val (.int p4), .val (.int (Int32.ofNat tot)), .val (.int (own_ks j0)), .val (.int (own_ks j1)), .val (.int (own_ks j2)), .val (.int (own_ks j3)), .val (.ref a1), .val (.int (Int32.ofNat tot)), .val (.double r), .second, .val (.double r), .second] [(.int (1 : Int32))]) := fun tg_ kk_ => S14 tg_ (by
        refine XS.ifYes X12.here hx rfl (pc0 := 178) (pc' := 208) rfl (hb hby at_178) rfl (XT.i0_ne_t hne) (by decide) (by decide) ?_
        show Steps p.tables e below (T12.setTop (mkF m 208 #[.val (.int p0), .val (.int p1), .val (.int p2), .val (.int p3), .val (.int p4), .val (.int (Int32.ofNat tot)), .val (.int (own_ks j0)), .val (.int (own_ks j1)), .val (.int (own_ks j2)), .val (.int (own_ks j3)), .val (.ref a1), .val (.int (Int32.ofNat tot)), .val (.double r), .second, .unset, .unset] [])) _
        refine X12.ldc2DoubleC hx hown (mvT hZ (hw _ (List.mem_of_getElem? (i := 8) rfl))) (g := (mkF m 208 #[.val (.int p0), .val (.int p1), .val (.int p2), .val (.int p3), .val (.int p4), .val (.int (Int32.ofNat tot)), .val (.int (own_ks j0)), .val (.int (own_ks j1)), .val (.int (own_ks j2)), .val (.int (own_ks j3)), .val (.ref a1), .val (.int (Int32.ofNat tot)), .val (.double r), .second, .unset, .unset] [])) rfl (hb hby at_208) _ ?_
        show Steps p.tables e below (T12.setTop (mkF m 211 #[.val (.int p0), .val (.int p1), .val (.int p2), .val (.int p3), .val (.int p4), .val (.int (Int32.ofNat tot)), .val (.int (own_ks j0)), .val (.int (own_ks j1)), .val (.int (own_ks j2)), .val (.int (own_ks j3)), .val (.ref a1), .val (.int (Int32.ofNat tot)), .val (.double r), .second, .unset, .unset] [(.double (4679240012837945344 : UInt64))])) _
        refine XS.iload X12.here hx rfl (hb hby at_211) rfl ?_
        show Steps p.tables e below (T12.setTop (mkF m 213 #[.val (.int p0), .val (.int p1), .val (.int p2), .val (.int p3), .val (.int p4), .val (.int (Int32.ofNat tot)), .val (.int (own_ks j0)), .val (.int (own_ks j1)), .val (.int (own_ks j2)), .val (.int (own_ks j3)), .val (.ref a1), .val (.int (Int32.ofNat tot)), .val (.double r), .second, .unset, .unset] [(.int (Int32.ofNat tot)), (.double (4679240012837945344 : UInt64))])) _
        refine XS.i2dS X12.here hx rfl (hb hby at_213) rfl rfl ?_
        show Steps p.tables e below (T12.setTop (mkF m 214 #[.val (.int p0), .val (.int p1), .val (.int p2), .val (.int p3), .val (.int p4), .val (.int (Int32.ofNat tot)), .val (.int (own_ks j0)), .val (.int (own_ks j1)), .val (.int (own_ks j2)), .val (.int (own_ks j3)), .val (.ref a1), .val (.int (Int32.ofNat tot)), .val (.double r), .second, .unset, .unset] [(.double (FP.i2d (Int32.ofNat tot))), (.double (4679240012837945344 : UInt64))])) _
        refine XS.ddivS X12.here hx rfl (hb hby at_214) rfl (by rw [← hd1]; exact hd2) hd1.symm ?_
        show Steps p.tables e below (T12.setTop (mkF m 215 #[.val (.int p0), .val (.int p1), .val (.int p2), .val (.int p3), .val (.int p4), .val (.int (Int32.ofNat tot)), .val (.int (own_ks j0)), .val (.int (own_ks j1)), .val (.int (own_ks j2)), .val (.int (own_ks j3)), .val (.ref a1), .val (.int (Int32.ofNat tot)), .val (.double r), .second, .unset, .unset] [(.double r)])) _
        refine XS.dstore X12.here hx rfl (hb hby at_215) rfl (l' := #[.val (.int p0), .val (.int p1), .val (.int p2), .val (.int p3), .val (.int p4), .val (.int (Int32.ofNat tot)), .val (.int (own_ks j0)), .val (.int (own_ks j1)), .val (.int (own_ks j2)), .val (.int (own_ks j3)), .val (.ref a1), .val (.int (Int32.ofNat tot)), .val (.double r), .second, .val (.double r), .second]) rfl ?_
        show Steps p.tables e below (T12.setTop (mkF m 217 #[.val (.int p0), .val (.int p1), .val (.int p2), .val (.int p3), .val (.int p4), .val (.int (Int32.ofNat tot)), .val (.int (own_ks j0)), .val (.int (own_ks j1)), .val (.int (own_ks j2)), .val (.int (own_ks j3)), .val (.ref a1), .val (.int (Int32.ofNat tot)), .val (.double r), .second, .val (.double r), .second] [])) _
        refine XS.dload X12.here hx rfl (hb hby at_217) rfl ?_
        show Steps p.tables e below (T12.setTop (mkF m 219 #[.val (.int p0), .val (.int p1), .val (.int p2), .val (.int p3), .val (.int p4), .val (.int (Int32.ofNat tot)), .val (.int (own_ks j0)), .val (.int (own_ks j1)), .val (.int (own_ks j2)), .val (.int (own_ks j3)), .val (.ref a1), .val (.int (Int32.ofNat tot)), .val (.double r), .second, .val (.double r), .second] [(.double r)])) _
        refine XS.dload X12.here hx rfl (hb hby at_219) rfl ?_
        show Steps p.tables e below (T12.setTop (mkF m 221 #[.val (.int p0), .val (.int p1), .val (.int p2), .val (.int p3), .val (.int p4), .val (.int (Int32.ofNat tot)), .val (.int (own_ks j0)), .val (.int (own_ks j1)), .val (.int (own_ks j2)), .val (.int (own_ks j3)), .val (.ref a1), .val (.int (Int32.ofNat tot)), .val (.double r), .second, .val (.double r), .second] [(.double r), (.double r)])) _
        refine XS.dcmpS X12.here hx rfl (hb hby at_221) rfl (dcmpV_self hd2 _) ?_
        show Steps p.tables e below (T12.setTop (mkF m 222 #[.val (.int p0), .val (.int p1), .val (.int p2), .val (.int p3), .val (.int p4), .val (.int (Int32.ofNat tot)), .val (.int (own_ks j0)), .val (.int (own_ks j1)), .val (.int (own_ks j2)), .val (.int (own_ks j3)), .val (.ref a1), .val (.int (Int32.ofNat tot)), .val (.double r), .second, .val (.double r), .second] [(.int (0 : Int32))])) _
        refine XS.ifNo X12.here hx rfl (hb hby at_222) rfl (by decide) ?_
        show Steps p.tables e below (T12.setTop (mkF m 225 #[.val (.int p0), .val (.int p1), .val (.int p2), .val (.int p3), .val (.int p4), .val (.int (Int32.ofNat tot)), .val (.int (own_ks j0)), .val (.int (own_ks j1)), .val (.int (own_ks j2)), .val (.int (own_ks j3)), .val (.ref a1), .val (.int (Int32.ofNat tot)), .val (.double r), .second, .val (.double r), .second] [])) _
        refine XS.iconst X12.here hx rfl (hb hby at_225) ?_
        show Steps p.tables e below (T12.setTop (mkF m 226 #[.val (.int p0), .val (.int p1), .val (.int p2), .val (.int p3), .val (.int p4), .val (.int (Int32.ofNat tot)), .val (.int (own_ks j0)), .val (.int (own_ks j1)), .val (.int (own_ks j2)), .val (.int (own_ks j3)), .val (.ref a1), .val (.int (Int32.ofNat tot)), .val (.double r), .second, .val (.double r), .second] [(.int (1 : Int32))])) _
        refine XS.goto X12.here hx rfl (pc0 := 226) (pc' := 230) rfl (hb hby at_226) (by decide) (by decide) ?_
        exact kk_)
      obtain ⟨fs, hr, hrun, hended, hW, hsame⟩ := X12.leave (v := some (.int (1 : Int32))) (fun h => by rw [Bd.returns] at h; cases h)
      refine ⟨_, _, ?_, hrun, hended, _, _, rfl, ?_, ⟨_, rfl⟩, hW, hsame.mono (by decide) (by decide)⟩
      · rw [← hG]; exact S16 _ (retN X12 hx (t := .boolean) Bd.returns (by simp) (hb hby at_230) hr)
      · show Q0 Z p0 p1 p2 p3 p4 h0 n0 _ T12.heap _
        rw [e12]
        exact ⟨rfl, MM⟩
  · have _ := hn
    rw [hn] at S5
    obtain ⟨T1, h1, k1, X1, e1, E1, A1, st1⟩ := newP X0 hx hZ (hw _ (List.mem_of_getElem? (i := 0) rfl)) e0 (g := (mkF m 55 #[.val (.int p0), .val (.int p1), .val (.int p2), .val (.int p3), .val (.int p4), .val (.int (1 : Int32)), .val (.int (own_ks j0)), .val (.int (own_ks j1)), .val (.int (own_ks j2)), .val (.int (own_ks j3)), .unset, .unset, .unset, .unset, .unset, .unset] [(.int (1 : Int32))])) rfl (hb hby at_55) rfl (by decide) (cap := 4) (by decide) (by decide) (by decide) (by decide)
    have S17 : own_Go p e below s₁ G T1 (mkF m 57 #[.val (.int p0), .val (.int p1), .val (.int p2), .val (.int p3), .val (.int p4), .val (.int (1 : Int32)), .val (.int (own_ks j0)), .val (.int (own_ks j1)), .val (.int (own_ks j2)), .val (.int (own_ks j3)), .unset, .unset, .unset, .unset, .unset, .unset] [(.ref h0.size)]) := fun tg_ kk_ => S5 tg_ (st1 tg_ kk_)
    obtain ⟨a1, g1⟩ : ∃ z, z = h0.size := ⟨_, rfl⟩
    rw [← g1] at S17
    rw [← g1] at A1
    have ha : n0 ≤ a1 := Nat.le_trans Z0 (Nat.le_of_eq g1.symm)
    have V0 : Arv Z h1 a1 k1 .double (1 : Int32) [.double 0] (.double 0) := (Arv.new A1 (by decide)).pad (pad_rep [] _ 1)
    have M0 : Fr n0 [] := N0
    have S18 : own_Go p e below s₁ G T1 (mkF m 77 #[.val (.int p0), .val (.int p1), .val (.int p2), .val (.int p3), .val (.int p4), .val (.int (1 : Int32)), .val (.int (own_ks j0)), .val (.int (own_ks j1)), .val (.int (own_ks j2)), .val (.int (own_ks j3)), .val (.ref a1), .val (.int (0 : Int32)), .unset, .unset, .unset, .unset] [(.double (own_w j0)), (.int (0 : Int32)), (.ref a1)]) := fun tg_ kk_ => S17 tg_ (by
      refine XS.astore X1.here hx rfl (hb hby at_57) rfl rfl (l' := #[.val (.int p0), .val (.int p1), .val (.int p2), .val (.int p3), .val (.int p4), .val (.int (1 : Int32)), .val (.int (own_ks j0)), .val (.int (own_ks j1)), .val (.int (own_ks j2)), .val (.int (own_ks j3)), .val (.ref a1), .unset, .unset, .unset, .unset, .unset]) rfl ?_
      show Steps p.tables e below (T1.setTop (mkF m 59 #[.val (.int p0), .val (.int p1), .val (.int p2), .val (.int p3), .val (.int p4), .val (.int (1 : Int32)), .val (.int (own_ks j0)), .val (.int (own_ks j1)), .val (.int (own_ks j2)), .val (.int (own_ks j3)), .val (.ref a1), .unset, .unset, .unset, .unset, .unset] [])) _
      refine XS.iconst X1.here hx rfl (hb hby at_59) ?_
      show Steps p.tables e below (T1.setTop (mkF m 60 #[.val (.int p0), .val (.int p1), .val (.int p2), .val (.int p3), .val (.int p4), .val (.int (1 : Int32)), .val (.int (own_ks j0)), .val (.int (own_ks j1)), .val (.int (own_ks j2)), .val (.int (own_ks j3)), .val (.ref a1), .unset, .unset, .unset, .unset, .unset] [(.int (0 : Int32))])) _
      refine XS.istore X1.here hx rfl (hb hby at_60) rfl (l' := #[.val (.int p0), .val (.int p1), .val (.int p2), .val (.int p3), .val (.int p4), .val (.int (1 : Int32)), .val (.int (own_ks j0)), .val (.int (own_ks j1)), .val (.int (own_ks j2)), .val (.int (own_ks j3)), .val (.ref a1), .val (.int (0 : Int32)), .unset, .unset, .unset, .unset]) rfl ?_
      show Steps p.tables e below (T1.setTop (mkF m 62 #[.val (.int p0), .val (.int p1), .val (.int p2), .val (.int p3), .val (.int p4), .val (.int (1 : Int32)), .val (.int (own_ks j0)), .val (.int (own_ks j1)), .val (.int (own_ks j2)), .val (.int (own_ks j3)), .val (.ref a1), .val (.int (0 : Int32)), .unset, .unset, .unset, .unset] [])) _
      refine XS.iload X1.here hx rfl (hb hby at_62) rfl ?_
      show Steps p.tables e below (T1.setTop (mkF m 64 #[.val (.int p0), .val (.int p1), .val (.int p2), .val (.int p3), .val (.int p4), .val (.int (1 : Int32)), .val (.int (own_ks j0)), .val (.int (own_ks j1)), .val (.int (own_ks j2)), .val (.int (own_ks j3)), .val (.ref a1), .val (.int (0 : Int32)), .unset, .unset, .unset, .unset] [(.int (1 : Int32))])) _
      refine XS.ifNo X1.here hx rfl (hb hby at_64) rfl (by decide) ?_
      show Steps p.tables e below (T1.setTop (mkF m 67 #[.val (.int p0), .val (.int p1), .val (.int p2), .val (.int p3), .val (.int p4), .val (.int (1 : Int32)), .val (.int (own_ks j0)), .val (.int (own_ks j1)), .val (.int (own_ks j2)), .val (.int (own_ks j3)), .val (.ref a1), .val (.int (0 : Int32)), .unset, .unset, .unset, .unset] [])) _
      refine XS.aload X1.here hx rfl (hb hby at_67) rfl rfl ?_
      show Steps p.tables e below (T1.setTop (mkF m 69 #[.val (.int p0), .val (.int p1), .val (.int p2), .val (.int p3), .val (.int p4), .val (.int (1 : Int32)), .val (.int (own_ks j0)), .val (.int (own_ks j1)), .val (.int (own_ks j2)), .val (.int (own_ks j3)), .val (.ref a1), .val (.int (0 : Int32)), .unset, .unset, .unset, .unset] [(.ref a1)])) _
      refine XS.iconst X1.here hx rfl (hb hby at_69) ?_
      show Steps p.tables e below (T1.setTop (mkF m 70 #[.val (.int p0), .val (.int p1), .val (.int p2), .val (.int p3), .val (.int p4), .val (.int (1 : Int32)), .val (.int (own_ks j0)), .val (.int (own_ks j1)), .val (.int (own_ks j2)), .val (.int (own_ks j3)), .val (.ref a1), .val (.int (0 : Int32)), .unset, .unset, .unset, .unset] [(.int (0 : Int32)), (.ref a1)])) _
      refine XS.iload X1.here hx rfl (hb hby at_70) rfl ?_
      show Steps p.tables e below (T1.setTop (mkF m 72 #[.val (.int p0), .val (.int p1), .val (.int p2), .val (.int p3), .val (.int p4), .val (.int (1 : Int32)), .val (.int (own_ks j0)), .val (.int (own_ks j1)), .val (.int (own_ks j2)), .val (.int (own_ks j3)), .val (.ref a1), .val (.int (0 : Int32)), .unset, .unset, .unset, .unset] [(.int (own_ks j0)), (.int (0 : Int32)), (.ref a1)])) _
      refine XS.i2dS X1.here hx rfl (hb hby at_72) rfl rfl ?_
      show Steps p.tables e below (T1.setTop (mkF m 73 #[.val (.int p0), .val (.int p1), .val (.int p2), .val (.int p3), .val (.int p4), .val (.int (1 : Int32)), .val (.int (own_ks j0)), .val (.int (own_ks j1)), .val (.int (own_ks j2)), .val (.int (own_ks j3)), .val (.ref a1), .val (.int (0 : Int32)), .unset, .unset, .unset, .unset] [(.double (FP.i2d (own_ks j0))), (.int (0 : Int32)), (.ref a1)])) _
      refine X1.ldc2DoubleC hx hown (mvT hZ (hw _ (List.mem_of_getElem? (i := 7) rfl))) (g := (mkF m 73 #[.val (.int p0), .val (.int p1), .val (.int p2), .val (.int p3), .val (.int p4), .val (.int (1 : Int32)), .val (.int (own_ks j0)), .val (.int (own_ks j1)), .val (.int (own_ks j2)), .val (.int (own_ks j3)), .val (.ref a1), .val (.int (0 : Int32)), .unset, .unset, .unset, .unset] [(.double (FP.i2d (own_ks j0))), (.int (0 : Int32)), (.ref a1)])) rfl (hb hby at_73) _ ?_
      show Steps p.tables e below (T1.setTop (mkF m 76 #[.val (.int p0), .val (.int p1), .val (.int p2), .val (.int p3), .val (.int p4), .val (.int (1 : Int32)), .val (.int (own_ks j0)), .val (.int (own_ks j1)), .val (.int (own_ks j2)), .val (.int (own_ks j3)), .val (.ref a1), .val (.int (0 : Int32)), .unset, .unset, .unset, .unset] [(.double (4643211215818981376 : UInt64)), (.double (FP.i2d (own_ks j0))), (.int (0 : Int32)), (.ref a1)])) _
      refine XS.ddivS X1.here hx rfl (hb hby at_76) rfl (own_nn ((FP.Core.notNaN_iff _).mp (own_wnn j0))) rfl ?_
      exact kk_)
    obtain ⟨cl0, B0, b0, z0, y0, H0, F0⟩ := V0
    obtain ⟨U0, u0, Y0, f0, W0, su0⟩ := stD X1 hx hZ e1 B0 (j := (0 : Int32)) (inb_of z0 (by decide)) (g := (mkF m 77 #[.val (.int p0), .val (.int p1), .val (.int p2), .val (.int p3), .val (.int p4), .val (.int (1 : Int32)), .val (.int (own_ks j0)), .val (.int (own_ks j1)), .val (.int (own_ks j2)), .val (.int (own_ks j3)), .val (.ref a1), .val (.int (0 : Int32)), .unset, .unset, .unset, .unset] [(.double (own_w j0)), (.int (0 : Int32)), (.ref a1)])) rfl rfl (hb hby at_77)
    have S19 : own_Go p e below s₁ G U0 (mkF m 78 #[.val (.int p0), .val (.int p1), .val (.int p2), .val (.int p3), .val (.int p4), .val (.int (1 : Int32)), .val (.int (own_ks j0)), .val (.int (own_ks j1)), .val (.int (own_ks j2)), .val (.int (own_ks j3)), .val (.ref a1), .val (.int (0 : Int32)), .unset, .unset, .unset, .unset] []) := fun tg_ kk_ => S18 tg_ (su0 tg_ kk_)
    have V1 : Arv Z u0 a1 k1 .double (1 : Int32) [.double (own_w j0)] (.double 0) := Arv.set B0 b0 z0 y0 H0 F0 rfl W0 0 rfl (by simp)
    have M1 := Fr.snoc Y0 N0 ha
    have S20 : own_Go p e below s₁ G U0 (mkF m 115 #[.val (.int p0), .val (.int p1), .val (.int p2), .val (.int p3), .val (.int p4), .val (.int (1 : Int32)), .val (.int (own_ks j0)), .val (.int (own_ks j1)), .val (.int (own_ks j2)), .val (.int (own_ks j3)), .val (.ref a1), .val (.int ((0 : Int32) + ((own_ks j0) * (own_ks j0)))), .unset, .unset, .unset, .unset] []) := fun tg_ kk_ => S19 tg_ (by
      refine XS.iload Y0.here hx rfl (hb hby at_78) rfl ?_
      show Steps p.tables e below (U0.setTop (mkF m 80 #[.val (.int p0), .val (.int p1), .val (.int p2), .val (.int p3), .val (.int p4), .val (.int (1 : Int32)), .val (.int (own_ks j0)), .val (.int (own_ks j1)), .val (.int (own_ks j2)), .val (.int (own_ks j3)), .val (.ref a1), .val (.int (0 : Int32)), .unset, .unset, .unset, .unset] [(.int (0 : Int32))])) _
      refine XS.iload Y0.here hx rfl (hb hby at_80) rfl ?_
      show Steps p.tables e below (U0.setTop (mkF m 82 #[.val (.int p0), .val (.int p1), .val (.int p2), .val (.int p3), .val (.int p4), .val (.int (1 : Int32)), .val (.int (own_ks j0)), .val (.int (own_ks j1)), .val (.int (own_ks j2)), .val (.int (own_ks j3)), .val (.ref a1), .val (.int (0 : Int32)), .unset, .unset, .unset, .unset] [(.int (own_ks j0)), (.int (0 : Int32))])) _
      refine XS.iload Y0.here hx rfl (hb hby at_82) rfl ?_
      show Steps p.tables e below (U0.setTop (mkF m 84 #[.val (.int p0), .val (.int p1), .val (.int p2), .val (.int p3), .val (.int p4), .val (.int (1 : Int32)), .val (.int (own_ks j0)), .val (.int (own_ks j1)), .val (.int (own_ks j2)), .val (.int (own_ks j3)), .val (.ref a1), .val (.int (0 : Int32)), .unset, .unset, .unset, .unset] [(.int (own_ks j0)), (.int (own_ks j0)), (.int (0 : Int32))])) _
      refine XS.imul Y0.here hx rfl (hb hby at_84) rfl ?_
      show Steps p.tables e below (U0.setTop (mkF m 85 #[.val (.int p0), .val (.int p1), .val (.int p2), .val (.int p3), .val (.int p4), .val (.int (1 : Int32)), .val (.int (own_ks j0)), .val (.int (own_ks j1)), .val (.int (own_ks j2)), .val (.int (own_ks j3)), .val (.ref a1), .val (.int (0 : Int32)), .unset, .unset, .unset, .unset] [(.int ((own_ks j0) * (own_ks j0))), (.int (0 : Int32))])) _
      refine XS.iadd Y0.here hx rfl (hb hby at_85) rfl ?_
      show Steps p.tables e below (U0.setTop (mkF m 86 #[.val (.int p0), .val (.int p1), .val (.int p2), .val (.int p3), .val (.int p4), .val (.int (1 : Int32)), .val (.int (own_ks j0)), .val (.int (own_ks j1)), .val (.int (own_ks j2)), .val (.int (own_ks j3)), .val (.ref a1), .val (.int (0 : Int32)), .unset, .unset, .unset, .unset] [(.int ((0 : Int32) + ((own_ks j0) * (own_ks j0))))])) _
      refine XS.istore Y0.here hx rfl (hb hby at_86) rfl (l' := #[.val (.int p0), .val (.int p1), .val (.int p2), .val (.int p3), .val (.int p4), .val (.int (1 : Int32)), .val (.int (own_ks j0)), .val (.int (own_ks j1)), .val (.int (own_ks j2)), .val (.int (own_ks j3)), .val (.ref a1), .val (.int ((0 : Int32) + ((own_ks j0) * (own_ks j0)))), .unset, .unset, .unset, .unset]) rfl ?_
      show Steps p.tables e below (U0.setTop (mkF m 88 #[.val (.int p0), .val (.int p1), .val (.int p2), .val (.int p3), .val (.int p4), .val (.int (1 : Int32)), .val (.int (own_ks j0)), .val (.int (own_ks j1)), .val (.int (own_ks j2)), .val (.int (own_ks j3)), .val (.ref a1), .val (.int ((0 : Int32) + ((own_ks j0) * (own_ks j0)))), .unset, .unset, .unset, .unset] [])) _
      refine XS.iload Y0.here hx rfl (hb hby at_88) rfl ?_
      show Steps p.tables e below (U0.setTop (mkF m 90 #[.val (.int p0), .val (.int p1), .val (.int p2), .val (.int p3), .val (.int p4), .val (.int (1 : Int32)), .val (.int (own_ks j0)), .val (.int (own_ks j1)), .val (.int (own_ks j2)), .val (.int (own_ks j3)), .val (.ref a1), .val (.int ((0 : Int32) + ((own_ks j0) * (own_ks j0)))), .unset, .unset, .unset, .unset] [(.int (1 : Int32))])) _
      refine XS.iconst Y0.here hx rfl (hb hby at_90) ?_
      show Steps p.tables e below (U0.setTop (mkF m 91 #[.val (.int p0), .val (.int p1), .val (.int p2), .val (.int p3), .val (.int p4), .val (.int (1 : Int32)), .val (.int (own_ks j0)), .val (.int (own_ks j1)), .val (.int (own_ks j2)), .val (.int (own_ks j3)), .val (.ref a1), .val (.int ((0 : Int32) + ((own_ks j0) * (own_ks j0)))), .unset, .unset, .unset, .unset] [(.int (1 : Int32)), (.int (1 : Int32))])) _
      refine XS.icmpYes Y0.here hx rfl (pc0 := 91) (pc' := 115) rfl (hb hby at_91) rfl (by decide) (by decide) (by decide) ?_
      exact kk_)
    have S21 : own_Go p e below s₁ G U0 (mkF m 142 #[.val (.int p0), .val (.int p1), .val (.int p2), .val (.int p3), .val (.int p4), .val (.int (1 : Int32)), .val (.int (own_ks j0)), .val (.int (own_ks j1)), .val (.int (own_ks j2)), .val (.int (own_ks j3)), .val (.ref a1), .val (.int ((0 : Int32) + ((own_ks j0) * (own_ks j0)))), .unset, .unset, .unset, .unset] []) := fun tg_ kk_ => S20 tg_ (by
      refine XS.iload Y0.here hx rfl (hb hby at_115) rfl ?_
      show Steps p.tables e below (U0.setTop (mkF m 117 #[.val (.int p0), .val (.int p1), .val (.int p2), .val (.int p3), .val (.int p4), .val (.int (1 : Int32)), .val (.int (own_ks j0)), .val (.int (own_ks j1)), .val (.int (own_ks j2)), .val (.int (own_ks j3)), .val (.ref a1), .val (.int ((0 : Int32) + ((own_ks j0) * (own_ks j0)))), .unset, .unset, .unset, .unset] [(.int (1 : Int32))])) _
      refine XS.iconst Y0.here hx rfl (hb hby at_117) ?_
      show Steps p.tables e below (U0.setTop (mkF m 118 #[.val (.int p0), .val (.int p1), .val (.int p2), .val (.int p3), .val (.int p4), .val (.int (1 : Int32)), .val (.int (own_ks j0)), .val (.int (own_ks j1)), .val (.int (own_ks j2)), .val (.int (own_ks j3)), .val (.ref a1), .val (.int ((0 : Int32) + ((own_ks j0) * (own_ks j0)))), .unset, .unset, .unset, .unset] [(.int (2 : Int32)), (.int (1 : Int32))])) _
      refine XS.icmpYes Y0.here hx rfl (pc0 := 118) (pc' := 142) rfl (hb hby at_118) rfl (by decide) (by decide) (by decide) ?_
      exact kk_)
    have S22 : own_Go p e below s₁ G U0 (mkF m 169 #[.val (.int p0), .val (.int p1), .val (.int p2), .val (.int p3), .val (.int p4), .val (.int (1 : Int32)), .val (.int (own_ks j0)), .val (.int (own_ks j1)), .val (.int (own_ks j2)), .val (.int (own_ks j3)), .val (.ref a1), .val (.int ((0 : Int32) + ((own_ks j0) * (own_ks j0)))), .unset, .unset, .unset, .unset] []) := fun tg_ kk_ => S21 tg_ (by
      refine XS.iload Y0.here hx rfl (hb hby at_142) rfl ?_
      show Steps p.tables e below (U0.setTop (mkF m 144 #[.val (.int p0), .val (.int p1), .val (.int p2), .val (.int p3), .val (.int p4), .val (.int (1 : Int32)), .val (.int (own_ks j0)), .val (.int (own_ks j1)), .val (.int (own_ks j2)), .val (.int (own_ks j3)), .val (.ref a1), .val (.int ((0 : Int32) + ((own_ks j0) * (own_ks j0)))), .unset, .unset, .unset, .unset] [(.int (1 : Int32))])) _
      refine XS.iconst Y0.here hx rfl (hb hby at_144) ?_
      show Steps p.tables e below (U0.setTop (mkF m 145 #[.val (.int p0), .val (.int p1), .val (.int p2), .val (.int p3), .val (.int p4), .val (.int (1 : Int32)), .val (.int (own_ks j0)), .val (.int (own_ks j1)), .val (.int (own_ks j2)), .val (.int (own_ks j3)), .val (.ref a1), .val (.int ((0 : Int32) + ((own_ks j0) * (own_ks j0)))), .unset, .unset, .unset, .unset] [(.int (3 : Int32)), (.int (1 : Int32))])) _
      refine XS.icmpYes Y0.here hx rfl (pc0 := 145) (pc' := 169) rfl (hb hby at_145) rfl (by decide) (by decide) (by decide) ?_
      exact kk_)
    have S23 : own_Go p e below s₁ G U0 (mkF m 171 #[.val (.int p0), .val (.int p1), .val (.int p2), .val (.int p3), .val (.int p4), .val (.int (1 : Int32)), .val (.int (own_ks j0)), .val (.int (own_ks j1)), .val (.int (own_ks j2)), .val (.int (own_ks j3)), .val (.ref a1), .val (.int ((0 : Int32) + ((own_ks j0) * (own_ks j0)))), .unset, .unset, .unset, .unset] [(.ref a1)]) := fun tg_ kk_ => S22 tg_ (by
      refine XS.aload Y0.here hx rfl (hb hby at_169) rfl rfl ?_
      exact kk_)
    obtain ⟨tot, htot⟩ : ∃ z, z = (own_T (fun j => own_q ((fun j => [j0].getD j 0) j)) 1) := ⟨_, rfl⟩
    have hle : tot ≤ 262144 := by rw [htot]; exact Nat.le_trans (own_T_le (fun j => own_qle _) 1) (by decide)
    have hsum := own_sum (f := (fun j => [j0].getD j 0)) 1 (by decide)
    rw [← htot] at hsum
    have hs : ((0 : Int32) + ((own_ks j0) * (own_ks j0))) = Int32.ofNat tot := by
      rw [htot]
      simp only [own_ksq, own_T, Int32.ofNat_add]
      rfl
    rw [hs] at S23
    have hi := own_i2d (n := tot) (by omega)
    have hzn : Jvm.Free.Fl.NoNaN64 (FP.ddiv FP.dconst1 (own_S (fun j => own_w ((fun j => [j0].getD j 0) j)) 1)) := by
      by_cases ht0 : tot = 0
      · rw [ht0] at hsum; rw [own_zero hsum]; exact own_nn (by decide +kernel)
      · exact (own_div ht0 (by omega) hsum hi).2
    have Zc : n0 ≤ u0.size := by
      refine Nat.le_trans Z0 (Nat.le_trans E1.1 ?_)
      simp only [W0.size]
      exact Nat.le_refl _
    obtain ⟨_, T24, h24, L24, X24, e24, hQ24, st24⟩ := own_callS Y0 hx hZ (y := (⟨"com/example/cladewave/cladewave/samplers/Resampling", "effectiveSampleSize", "([D)D"⟩ : MethodName)) hown (hw _ (List.mem_of_getElem? (i := 1) rfl)) (hw _ (List.mem_of_getElem? (i := 2) rfl)) (hw _ (List.mem_of_getElem? (i := 3) rfl)) (hw _ (List.mem_of_getElem? (i := 4) rfl)) (by decide) 0 (g := (mkF m 171 #[.val (.int p0), .val (.int p1), .val (.int p2), .val (.int p3), .val (.int p4), .val (.int (1 : Int32)), .val (.int (own_ks j0)), .val (.int (own_ks j1)), .val (.int (own_ks j2)), .val (.int (own_ks j3)), .val (.ref a1), .val (.int (Int32.ofNat tot)), .unset, .unset, .unset, .unset] [(.ref a1)])) rfl (by rw [hml]; rfl) [(.ref a1)] [] (rm1 l Z a0 hw [] a1 (fun j => [j0].getD j 0) 1 u0 n0 Zc (by decide) k1 [.double (own_w j0)] (.double 0) V1 (fun j hj => by match j, hj with | 0, _ => rfl) hzn) (lenOf pd1 rfl) rfl (by show 2 * 0 + _ ≤ _; exact Nat.le_of_eq rfl) (hb hby at_171) (by decide) (by decide) f0 (by decide) (by decide)
    obtain ⟨rfl, M24, rfl⟩ := hQ24
    have S25 : own_Go p e below s₁ G T24 (mkF m 174 #[.val (.int p0), .val (.int p1), .val (.int p2), .val (.int p3), .val (.int p4), .val (.int (1 : Int32)), .val (.int (own_ks j0)), .val (.int (own_ks j1)), .val (.int (own_ks j2)), .val (.int (own_ks j3)), .val (.ref a1), .val (.int (Int32.ofNat tot)), .unset, .unset, .unset, .unset] [(.double (FP.ddiv FP.dconst1 (own_S (fun j => own_w ((fun j => [j0].getD j 0) j)) 1)))]) := fun tg_ kk_ => S23 tg_ (st24 tg_ kk_)
    have MM := Fr.app M1 M24
    obtain ⟨r, hr0⟩ : ∃ z : UInt64, z = (FP.ddiv FP.dconst1 (own_S (fun j => own_w ((fun j => [j0].getD j 0) j)) 1)) := ⟨_, rfl⟩
    rw [← hr0] at S25
    have S26 : own_Go p e below s₁ G T24 (mkF m 178 #[.val (.int p0), .val (.int p1), .val (.int p2), .val (.int p3), .val (.int p4), .val (.int (1 : Int32)), .val (.int (own_ks j0)), .val (.int (own_ks j1)), .val (.int (own_ks j2)), .val (.int (own_ks j3)), .val (.ref a1), .val (.int (Int32.ofNat tot)), .val (.double r), .second, .unset, .unset] [(.int (Int32.ofNat tot))]) := fun tg_ kk_ => S25 tg_ (by
      refine XS.dstore X24.here hx rfl (hb hby at_174) rfl (l' := #[.val (.int p0), .val (.int p1), .val (.int p2), .val (.int p3), .val (.int p4), .val (.int (1 : Int32)), .val (.int (own_ks j0)), .val (.int (own_ks j1)), .val (.int (own_ks j2)), .val (.int (own_ks j3)), .val (.ref a1), .val (.int (Int32.ofNat tot)), .val (.double r), .second, .unset, .unset]) rfl ?_
      show Steps p.tables e below (T24.setTop (mkF m 176 #[.val (.int p0), .val (.int p1), .val (.int p2), .val (.int p3), .val (.int p4), .val (.int (1 : Int32)), .val (.int (own_ks j0)), .val (.int (own_ks j1)), .val (.int (own_ks j2)), .val (.int (own_ks j3)), .val (.ref a1), .val (.int (Int32.ofNat tot)), .val (.double r), .second, .unset, .unset] [])) _
      refine XS.iload X24.here hx rfl (hb hby at_176) rfl ?_
      exact kk_)
    by_cases ht0 : tot = 0
    · have hr1 : r = 9218868437227405312 := by
        rw [hr0]; rw [ht0] at hsum; rw [own_zero hsum]; decide +kernel
      subst ht0
      rw [show Int32.ofNat 0 = Int32.ofNat 0 from rfl] at S26
      have S27 : own_Go p e below s₁ G T24 (mkF m 207 #[.val (.int p0), .val (.int p1), .val (.int p2), .val (.int p3), .val (.int p4), .val (.int (1 : Int32)), .val (.int (own_ks j0)), .val (.int (own_ks j1)), .val (.int (own_ks j2)), .val (.int (own_ks j3)), .val (.ref a1), .val (.int (Int32.ofNat 0)), .val (.double r), .second, .unset, .unset] [(.int (1 : Int32))]) := fun tg_ kk_ => S26 tg_ (by
        refine XS.ifNo X24.here hx rfl (hb hby at_178) rfl (by decide) ?_
        show Steps p.tables e below (T24.setTop (mkF m 181 #[.val (.int p0), .val (.int p1), .val (.int p2), .val (.int p3), .val (.int p4), .val (.int (1 : Int32)), .val (.int (own_ks j0)), .val (.int (own_ks j1)), .val (.int (own_ks j2)), .val (.int (own_ks j3)), .val (.ref a1), .val (.int (Int32.ofNat 0)), .val (.double r), .second, .unset, .unset] [])) _
        refine XS.dload X24.here hx rfl (hb hby at_181) rfl ?_
        show Steps p.tables e below (T24.setTop (mkF m 183 #[.val (.int p0), .val (.int p1), .val (.int p2), .val (.int p3), .val (.int p4), .val (.int (1 : Int32)), .val (.int (own_ks j0)), .val (.int (own_ks j1)), .val (.int (own_ks j2)), .val (.int (own_ks j3)), .val (.ref a1), .val (.int (Int32.ofNat 0)), .val (.double r), .second, .unset, .unset] [(.double r)])) _
        refine X24.ldc2DoubleC hx hown (mvT hZ (hw _ (List.mem_of_getElem? (i := 5) rfl))) (g := (mkF m 183 #[.val (.int p0), .val (.int p1), .val (.int p2), .val (.int p3), .val (.int p4), .val (.int (1 : Int32)), .val (.int (own_ks j0)), .val (.int (own_ks j1)), .val (.int (own_ks j2)), .val (.int (own_ks j3)), .val (.ref a1), .val (.int (Int32.ofNat 0)), .val (.double r), .second, .unset, .unset] [(.double r)])) rfl (hb hby at_183) _ ?_
        show Steps p.tables e below (T24.setTop (mkF m 186 #[.val (.int p0), .val (.int p1), .val (.int p2), .val (.int p3), .val (.int p4), .val (.int (1 : Int32)), .val (.int (own_ks j0)), .val (.int (own_ks j1)), .val (.int (own_ks j2)), .val (.int (own_ks j3)), .val (.ref a1), .val (.int (Int32.ofNat 0)), .val (.double r), .second, .unset, .unset] [(.double (9214871658872686752 : UInt64)), (.double r)])) _
        refine XS.dcmpS X24.here hx rfl (hb hby at_186) rfl (by rw [hr1] <;> decide +kernel) ?_
        show Steps p.tables e below (T24.setTop (mkF m 187 #[.val (.int p0), .val (.int p1), .val (.int p2), .val (.int p3), .val (.int p4), .val (.int (1 : Int32)), .val (.int (own_ks j0)), .val (.int (own_ks j1)), .val (.int (own_ks j2)), .val (.int (own_ks j3)), .val (.ref a1), .val (.int (Int32.ofNat 0)), .val (.double r), .second, .unset, .unset] [(.int (1 : Int32))])) _
        refine XS.ifNo X24.here hx rfl (hb hby at_187) rfl (by decide) ?_
        show Steps p.tables e below (T24.setTop (mkF m 190 #[.val (.int p0), .val (.int p1), .val (.int p2), .val (.int p3), .val (.int p4), .val (.int (1 : Int32)), .val (.int (own_ks j0)), .val (.int (own_ks j1)), .val (.int (own_ks j2)), .val (.int (own_ks j3)), .val (.ref a1), .val (.int (Int32.ofNat 0)), .val (.double r), .second, .unset, .unset] [])) _
        refine XS.dload X24.here hx rfl (hb hby at_190) rfl ?_
        show Steps p.tables e below (T24.setTop (mkF m 192 #[.val (.int p0), .val (.int p1), .val (.int p2), .val (.int p3), .val (.int p4), .val (.int (1 : Int32)), .val (.int (own_ks j0)), .val (.int (own_ks j1)), .val (.int (own_ks j2)), .val (.int (own_ks j3)), .val (.ref a1), .val (.int (Int32.ofNat 0)), .val (.double r), .second, .unset, .unset] [(.double r)])) _
        refine X24.ldc2DoubleC hx hown (mvT hZ (hw _ (List.mem_of_getElem? (i := 6) rfl))) (g := (mkF m 192 #[.val (.int p0), .val (.int p1), .val (.int p2), .val (.int p3), .val (.int p4), .val (.int (1 : Int32)), .val (.int (own_ks j0)), .val (.int (own_ks j1)), .val (.int (own_ks j2)), .val (.int (own_ks j3)), .val (.ref a1), .val (.int (Int32.ofNat 0)), .val (.double r), .second, .unset, .unset] [(.double r)])) rfl (hb hby at_192) _ ?_
        show Steps p.tables e below (T24.setTop (mkF m 195 #[.val (.int p0), .val (.int p1), .val (.int p2), .val (.int p3), .val (.int p4), .val (.int (1 : Int32)), .val (.int (own_ks j0)), .val (.int (own_ks j1)), .val (.int (own_ks j2)), .val (.int (own_ks j3)), .val (.ref a1), .val (.int (Int32.ofNat 0)), .val (.double r), .second, .unset, .unset] [(.double (4611686018427387904 : UInt64)), (.double r)])) _
        refine XS.dmulS X24.here hx rfl (hb hby at_195) rfl (by rw [hr1]; exact own_nn (by decide +kernel)) rfl ?_
        show Steps p.tables e below (T24.setTop (mkF m 196 #[.val (.int p0), .val (.int p1), .val (.int p2), .val (.int p3), .val (.int p4), .val (.int (1 : Int32)), .val (.int (own_ks j0)), .val (.int (own_ks j1)), .val (.int (own_ks j2)), .val (.int (own_ks j3)), .val (.ref a1), .val (.int (Int32.ofNat 0)), .val (.double r), .second, .unset, .unset] [(.double (FP.dmul r (4611686018427387904 : UInt64)))])) _
        refine XS.dload X24.here hx rfl (hb hby at_196) rfl ?_
        show Steps p.tables e below (T24.setTop (mkF m 198 #[.val (.int p0), .val (.int p1), .val (.int p2), .val (.int p3), .val (.int p4), .val (.int (1 : Int32)), .val (.int (own_ks j0)), .val (.int (own_ks j1)), .val (.int (own_ks j2)), .val (.int (own_ks j3)), .val (.ref a1), .val (.int (Int32.ofNat 0)), .val (.double r), .second, .unset, .unset] [(.double r), (.double (FP.dmul r (4611686018427387904 : UInt64)))])) _
        refine XS.dcmpS X24.here hx rfl (hb hby at_198) rfl (by rw [hr1] <;> decide +kernel) ?_
        show Steps p.tables e below (T24.setTop (mkF m 199 #[.val (.int p0), .val (.int p1), .val (.int p2), .val (.int p3), .val (.int p4), .val (.int (1 : Int32)), .val (.int (own_ks j0)), .val (.int (own_ks j1)), .val (.int (own_ks j2)), .val (.int (own_ks j3)), .val (.ref a1), .val (.int (Int32.ofNat 0)), .val (.double r), .second, .unset, .unset] [(.int (0 : Int32))])) _
        refine XS.ifNo X24.here hx rfl (hb hby at_199) rfl (by decide) ?_
        show Steps p.tables e below (T24.setTop (mkF m 202 #[.val (.int p0), .val (.int p1), .val (.int p2), .val (.int p3), .val (.int p4), .val (.int (1 : Int32)), .val (.int (own_ks j0)), .val (.int (own_ks j1)), .val (.int (own_ks j2)), .val (.int (own_ks j3)), .val (.ref a1), .val (.int (Int32.ofNat 0)), .val (.double r), .second, .unset, .unset] [])) _
        refine XS.iconst X24.here hx rfl (hb hby at_202) ?_
        show Steps p.tables e below (T24.setTop (mkF m 203 #[.val (.int p0), .val (.int p1), .val (.int p2), .val (.int p3), .val (.int p4), .val (.int (1 : Int32)), .val (.int (own_ks j0)), .val (.int (own_ks j1)), .val (.int (own_ks j2)), .val (.int (own_ks j3)), .val (.ref a1), .val (.int (Int32.ofNat 0)), .val (.double r), .second, .unset, .unset] [(.int (1 : Int32))])) _
        refine XS.goto X24.here hx rfl (pc0 := 203) (pc' := 207) rfl (hb hby at_203) (by decide) (by decide) ?_
        exact kk_)
      obtain ⟨fs, hr, hrun, hended, hW, hsame⟩ := X24.leave (v := some (.int (1 : Int32))) (fun h => by rw [Bd.returns] at h; cases h)
      refine ⟨_, _, ?_, hrun, hended, _, _, rfl, ?_, ⟨_, rfl⟩, hW, hsame.mono (by decide) (by decide)⟩
      · rw [← hG]; exact S27 _ (retN X24 hx (t := .boolean) Bd.returns (by simp) (hb hby at_207) hr)
      · show Q0 Z p0 p1 p2 p3 p4 h0 n0 _ T24.heap _
        rw [e24]
        exact ⟨rfl, MM⟩
    · obtain ⟨hd1, hd2⟩ := own_div ht0 (by omega) hsum hi
      rw [← hr0] at hd1 hd2
      have hne : ¬ Int32.ofNat tot = 0 := fun q => ht0 (by have q2 := congrArg Int32.toInt q; rw [Int32.toInt_ofNat_of_lt (by omega)] at q2; exact Int.ofNat.inj q2)
      have S28 : own_Go p e below s₁ G T24 (mkF m 230 #[.val (.int p0), .val (.int p1), .val (.int p2), .val (.int p3), .val (.int p4), .val (.int (1 : Int32)), .val (.int (own_ks j0)), .val (.int (own_ks j1)), .val (.int (own_ks j2)), .val (.int (own_ks j3)), .val (.ref a1), .val (.int (Int32.ofNat tot)), .val (.double r), .second, .val (.double r), .second] [(.int (1 : Int32))]) := fun tg_ kk_ => S26 tg_ (by
        refine XS.ifYes X24.here hx rfl (pc0 := 178) (pc' := 208) rfl (hb hby at_178) rfl (XT.i0_ne_t hne) (by decide) (by decide) ?_
        show Steps p.tables e below (T24.setTop (mkF m 208 #[.val (.int p0), .val (.int p1), .val (.int p2), .val (.int p3), .val (.int p4), .val (.int (1 : Int32)), .val (.int (own_ks j0)), .val (.int (own_ks j1)), .val (.int (own_ks j2)), .val (.int (own_ks j3)), .val (.ref a1), .val (.int (Int32.ofNat tot)), .val (.double r), .second, .unset, .unset] [])) _
        refine X24.ldc2DoubleC hx hown (mvT hZ (hw _ (List.mem_of_getElem? (i := 8) rfl))) (g := (mkF m 208 #[.val (.int p0), .val (.int p1), .val (.int p2), .val (.int p3), .val (.int p4), .val (.int (1 : Int32)), .val (.int (own_ks j0)), .val (.int (own_ks j1)), .val (.int (own_ks j2)), .val (.int (own_ks j3)), .val (.ref a1), .val (.int (Int32.ofNat tot)), .val (.double r), .second, .unset, .unset] [])) rfl (hb hby at_208) _ ?_
        show Steps p.tables e below (T24.setTop (mkF m 211 #[.val (.int p0), .val (.int p1), .val (.int p2), .val (.int p3), .val (.int p4), .val (.int (1 : Int32)), .val (.int (own_ks j0)), .val (.int (own_ks j1)), .val (.int (own_ks j2)), .val (.int (own_ks j3)), .val (.ref a1), .val (.int (Int32.ofNat tot)), .val (.double r), .second, .unset, .unset] [(.double (4679240012837945344 : UInt64))])) _
        refine XS.iload X24.here hx rfl (hb hby at_211) rfl ?_
        show Steps p.tables e below (T24.setTop (mkF m 213 #[.val (.int p0), .val (.int p1), .val (.int p2), .val (.int p3), .val (.int p4), .val (.int (1 : Int32)), .val (.int (own_ks j0)), .val (.int (own_ks j1)), .val (.int (own_ks j2)), .val (.int (own_ks j3)), .val (.ref a1), .val (.int (Int32.ofNat tot)), .val (.double r), .second, .unset, .unset] [(.int (Int32.ofNat tot)), (.double (4679240012837945344 : UInt64))])) _
        refine XS.i2dS X24.here hx rfl (hb hby at_213) rfl rfl ?_
        show Steps p.tables e below (T24.setTop (mkF m 214 #[.val (.int p0), .val (.int p1), .val (.int p2), .val (.int p3), .val (.int p4), .val (.int (1 : Int32)), .val (.int (own_ks j0)), .val (.int (own_ks j1)), .val (.int (own_ks j2)), .val (.int (own_ks j3)), .val (.ref a1), .val (.int (Int32.ofNat tot)), .val (.double r), .second, .unset, .unset] [(.double (FP.i2d (Int32.ofNat tot))), (.double (4679240012837945344 : UInt64))])) _
        refine XS.ddivS X24.here hx rfl (hb hby at_214) rfl (by rw [← hd1]; exact hd2) hd1.symm ?_
        show Steps p.tables e below (T24.setTop (mkF m 215 #[.val (.int p0), .val (.int p1), .val (.int p2), .val (.int p3), .val (.int p4), .val (.int (1 : Int32)), .val (.int (own_ks j0)), .val (.int (own_ks j1)), .val (.int (own_ks j2)), .val (.int (own_ks j3)), .val (.ref a1), .val (.int (Int32.ofNat tot)), .val (.double r), .second, .unset, .unset] [(.double r)])) _
        refine XS.dstore X24.here hx rfl (hb hby at_215) rfl (l' := #[.val (.int p0), .val (.int p1), .val (.int p2), .val (.int p3), .val (.int p4), .val (.int (1 : Int32)), .val (.int (own_ks j0)), .val (.int (own_ks j1)), .val (.int (own_ks j2)), .val (.int (own_ks j3)), .val (.ref a1), .val (.int (Int32.ofNat tot)), .val (.double r), .second, .val (.double r), .second]) rfl ?_
        show Steps p.tables e below (T24.setTop (mkF m 217 #[.val (.int p0), .val (.int p1), .val (.int p2), .val (.int p3), .val (.int p4), .val (.int (1 : Int32)), .val (.int (own_ks j0)), .val (.int (own_ks j1)), .val (.int (own_ks j2)), .val (.int (own_ks j3)), .val (.ref a1), .val (.int (Int32.ofNat tot)), .val (.double r), .second, .val (.double r), .second] [])) _
        refine XS.dload X24.here hx rfl (hb hby at_217) rfl ?_
        show Steps p.tables e below (T24.setTop (mkF m 219 #[.val (.int p0), .val (.int p1), .val (.int p2), .val (.int p3), .val (.int p4), .val (.int (1 : Int32)), .val (.int (own_ks j0)), .val (.int (own_ks j1)), .val (.int (own_ks j2)), .val (.int (own_ks j3)), .val (.ref a1), .val (.int (Int32.ofNat tot)), .val (.double r), .second, .val (.double r), .second] [(.double r)])) _
        refine XS.dload X24.here hx rfl (hb hby at_219) rfl ?_
        show Steps p.tables e below (T24.setTop (mkF m 221 #[.val (.int p0), .val (.int p1), .val (.int p2), .val (.int p3), .val (.int p4), .val (.int (1 : Int32)), .val (.int (own_ks j0)), .val (.int (own_ks j1)), .val (.int (own_ks j2)), .val (.int (own_ks j3)), .val (.ref a1), .val (.int (Int32.ofNat tot)), .val (.double r), .second, .val (.double r), .second] [(.double r), (.double r)])) _
        refine XS.dcmpS X24.here hx rfl (hb hby at_221) rfl (dcmpV_self hd2 _) ?_
        show Steps p.tables e below (T24.setTop (mkF m 222 #[.val (.int p0), .val (.int p1), .val (.int p2), .val (.int p3), .val (.int p4), .val (.int (1 : Int32)), .val (.int (own_ks j0)), .val (.int (own_ks j1)), .val (.int (own_ks j2)), .val (.int (own_ks j3)), .val (.ref a1), .val (.int (Int32.ofNat tot)), .val (.double r), .second, .val (.double r), .second] [(.int (0 : Int32))])) _
        refine XS.ifNo X24.here hx rfl (hb hby at_222) rfl (by decide) ?_
        show Steps p.tables e below (T24.setTop (mkF m 225 #[.val (.int p0), .val (.int p1), .val (.int p2), .val (.int p3), .val (.int p4), .val (.int (1 : Int32)), .val (.int (own_ks j0)), .val (.int (own_ks j1)), .val (.int (own_ks j2)), .val (.int (own_ks j3)), .val (.ref a1), .val (.int (Int32.ofNat tot)), .val (.double r), .second, .val (.double r), .second] [])) _
        refine XS.iconst X24.here hx rfl (hb hby at_225) ?_
        show Steps p.tables e below (T24.setTop (mkF m 226 #[.val (.int p0), .val (.int p1), .val (.int p2), .val (.int p3), .val (.int p4), .val (.int (1 : Int32)), .val (.int (own_ks j0)), .val (.int (own_ks j1)), .val (.int (own_ks j2)), .val (.int (own_ks j3)), .val (.ref a1), .val (.int (Int32.ofNat tot)), .val (.double r), .second, .val (.double r), .second] [(.int (1 : Int32))])) _
        refine XS.goto X24.here hx rfl (pc0 := 226) (pc' := 230) rfl (hb hby at_226) (by decide) (by decide) ?_
        exact kk_)
      obtain ⟨fs, hr, hrun, hended, hW, hsame⟩ := X24.leave (v := some (.int (1 : Int32))) (fun h => by rw [Bd.returns] at h; cases h)
      refine ⟨_, _, ?_, hrun, hended, _, _, rfl, ?_, ⟨_, rfl⟩, hW, hsame.mono (by decide) (by decide)⟩
      · rw [← hG]; exact S28 _ (retN X24 hx (t := .boolean) Bd.returns (by simp) (hb hby at_230) hr)
      · show Q0 Z p0 p1 p2 p3 p4 h0 n0 _ T24.heap _
        rw [e24]
        exact ⟨rfl, MM⟩
  · have _ := hn
    rw [hn] at S5
    obtain ⟨T1, h1, k1, X1, e1, E1, A1, st1⟩ := newP X0 hx hZ (hw _ (List.mem_of_getElem? (i := 0) rfl)) e0 (g := (mkF m 55 #[.val (.int p0), .val (.int p1), .val (.int p2), .val (.int p3), .val (.int p4), .val (.int (2 : Int32)), .val (.int (own_ks j0)), .val (.int (own_ks j1)), .val (.int (own_ks j2)), .val (.int (own_ks j3)), .unset, .unset, .unset, .unset, .unset, .unset] [(.int (2 : Int32))])) rfl (hb hby at_55) rfl (by decide) (cap := 4) (by decide) (by decide) (by decide) (by decide)
    have S29 : own_Go p e below s₁ G T1 (mkF m 57 #[.val (.int p0), .val (.int p1), .val (.int p2), .val (.int p3), .val (.int p4), .val (.int (2 : Int32)), .val (.int (own_ks j0)), .val (.int (own_ks j1)), .val (.int (own_ks j2)), .val (.int (own_ks j3)), .unset, .unset, .unset, .unset, .unset, .unset] [(.ref h0.size)]) := fun tg_ kk_ => S5 tg_ (st1 tg_ kk_)
    obtain ⟨a1, g1⟩ : ∃ z, z = h0.size := ⟨_, rfl⟩
    rw [← g1] at S29
    rw [← g1] at A1
    have ha : n0 ≤ a1 := Nat.le_trans Z0 (Nat.le_of_eq g1.symm)
    have V0 : Arv Z h1 a1 k1 .double (2 : Int32) [.double 0, .double 0] (.double 0) := (Arv.new A1 (by decide)).pad (pad_rep [] _ 2)
    have M0 : Fr n0 [] := N0
    have S30 : own_Go p e below s₁ G T1 (mkF m 77 #[.val (.int p0), .val (.int p1), .val (.int p2), .val (.int p3), .val (.int p4), .val (.int (2 : Int32)), .val (.int (own_ks j0)), .val (.int (own_ks j1)), .val (.int (own_ks j2)), .val (.int (own_ks j3)), .val (.ref a1), .val (.int (0 : Int32)), .unset, .unset, .unset, .unset] [(.double (own_w j0)), (.int (0 : Int32)), (.ref a1)]) := fun tg_ kk_ => S29 tg_ (by
      refine XS.astore X1.here hx rfl (hb hby at_57) rfl rfl (l' := #[.val (.int p0), .val (.int p1), .val (.int p2), .val (.int p3), .val (.int p4), .val (.int (2 : Int32)), .val (.int (own_ks j0)), .val (.int (own_ks j1)), .val (.int (own_ks j2)), .val (.int (own_ks j3)), .val (.ref a1), .unset, .unset, .unset, .unset, .unset]) rfl ?_
      show Steps p.tables e below (T1.setTop (mkF m 59 #[.val (.int p0), .val (.int p1), .val (.int p2), .val (.int p3), .val (.int p4), .val (.int (2 : Int32)), .val (.int (own_ks j0)), .val (.int (own_ks j1)), .val (.int (own_ks j2)), .val (.int (own_ks j3)), .val (.ref a1), .unset, .unset, .unset, .unset, .unset] [])) _
      refine XS.iconst X1.here hx rfl (hb hby at_59) ?_
      show Steps p.tables e below (T1.setTop (mkF m 60 #[.val (.int p0), .val (.int p1), .val (.int p2), .val (.int p3), .val (.int p4), .val (.int (2 : Int32)), .val (.int (own_ks j0)), .val (.int (own_ks j1)), .val (.int (own_ks j2)), .val (.int (own_ks j3)), .val (.ref a1), .unset, .unset, .unset, .unset, .unset] [(.int (0 : Int32))])) _
      refine XS.istore X1.here hx rfl (hb hby at_60) rfl (l' := #[.val (.int p0), .val (.int p1), .val (.int p2), .val (.int p3), .val (.int p4), .val (.int (2 : Int32)), .val (.int (own_ks j0)), .val (.int (own_ks j1)), .val (.int (own_ks j2)), .val (.int (own_ks j3)), .val (.ref a1), .val (.int (0 : Int32)), .unset, .unset, .unset, .unset]) rfl ?_
      show Steps p.tables e below (T1.setTop (mkF m 62 #[.val (.int p0), .val (.int p1), .val (.int p2), .val (.int p3), .val (.int p4), .val (.int (2 : Int32)), .val (.int (own_ks j0)), .val (.int (own_ks j1)), .val (.int (own_ks j2)), .val (.int (own_ks j3)), .val (.ref a1), .val (.int (0 : Int32)), .unset, .unset, .unset, .unset] [])) _
      refine XS.iload X1.here hx rfl (hb hby at_62) rfl ?_
      show Steps p.tables e below (T1.setTop (mkF m 64 #[.val (.int p0), .val (.int p1), .val (.int p2), .val (.int p3), .val (.int p4), .val (.int (2 : Int32)), .val (.int (own_ks j0)), .val (.int (own_ks j1)), .val (.int (own_ks j2)), .val (.int (own_ks j3)), .val (.ref a1), .val (.int (0 : Int32)), .unset, .unset, .unset, .unset] [(.int (2 : Int32))])) _
      refine XS.ifNo X1.here hx rfl (hb hby at_64) rfl (by decide) ?_
      show Steps p.tables e below (T1.setTop (mkF m 67 #[.val (.int p0), .val (.int p1), .val (.int p2), .val (.int p3), .val (.int p4), .val (.int (2 : Int32)), .val (.int (own_ks j0)), .val (.int (own_ks j1)), .val (.int (own_ks j2)), .val (.int (own_ks j3)), .val (.ref a1), .val (.int (0 : Int32)), .unset, .unset, .unset, .unset] [])) _
      refine XS.aload X1.here hx rfl (hb hby at_67) rfl rfl ?_
      show Steps p.tables e below (T1.setTop (mkF m 69 #[.val (.int p0), .val (.int p1), .val (.int p2), .val (.int p3), .val (.int p4), .val (.int (2 : Int32)), .val (.int (own_ks j0)), .val (.int (own_ks j1)), .val (.int (own_ks j2)), .val (.int (own_ks j3)), .val (.ref a1), .val (.int (0 : Int32)), .unset, .unset, .unset, .unset] [(.ref a1)])) _
      refine XS.iconst X1.here hx rfl (hb hby at_69) ?_
      show Steps p.tables e below (T1.setTop (mkF m 70 #[.val (.int p0), .val (.int p1), .val (.int p2), .val (.int p3), .val (.int p4), .val (.int (2 : Int32)), .val (.int (own_ks j0)), .val (.int (own_ks j1)), .val (.int (own_ks j2)), .val (.int (own_ks j3)), .val (.ref a1), .val (.int (0 : Int32)), .unset, .unset, .unset, .unset] [(.int (0 : Int32)), (.ref a1)])) _
      refine XS.iload X1.here hx rfl (hb hby at_70) rfl ?_
      show Steps p.tables e below (T1.setTop (mkF m 72 #[.val (.int p0), .val (.int p1), .val (.int p2), .val (.int p3), .val (.int p4), .val (.int (2 : Int32)), .val (.int (own_ks j0)), .val (.int (own_ks j1)), .val (.int (own_ks j2)), .val (.int (own_ks j3)), .val (.ref a1), .val (.int (0 : Int32)), .unset, .unset, .unset, .unset] [(.int (own_ks j0)), (.int (0 : Int32)), (.ref a1)])) _
      refine XS.i2dS X1.here hx rfl (hb hby at_72) rfl rfl ?_
      show Steps p.tables e below (T1.setTop (mkF m 73 #[.val (.int p0), .val (.int p1), .val (.int p2), .val (.int p3), .val (.int p4), .val (.int (2 : Int32)), .val (.int (own_ks j0)), .val (.int (own_ks j1)), .val (.int (own_ks j2)), .val (.int (own_ks j3)), .val (.ref a1), .val (.int (0 : Int32)), .unset, .unset, .unset, .unset] [(.double (FP.i2d (own_ks j0))), (.int (0 : Int32)), (.ref a1)])) _
      refine X1.ldc2DoubleC hx hown (mvT hZ (hw _ (List.mem_of_getElem? (i := 7) rfl))) (g := (mkF m 73 #[.val (.int p0), .val (.int p1), .val (.int p2), .val (.int p3), .val (.int p4), .val (.int (2 : Int32)), .val (.int (own_ks j0)), .val (.int (own_ks j1)), .val (.int (own_ks j2)), .val (.int (own_ks j3)), .val (.ref a1), .val (.int (0 : Int32)), .unset, .unset, .unset, .unset] [(.double (FP.i2d (own_ks j0))), (.int (0 : Int32)), (.ref a1)])) rfl (hb hby at_73) _ ?_
      show Steps p.tables e below (T1.setTop (mkF m 76 #[.val (.int p0), .val (.int p1), .val (.int p2), .val (.int p3), .val (.int p4), .val (.int (2 : Int32)), .val (.int (own_ks j0)), .val (.int (own_ks j1)), .val (.int (own_ks j2)), .val (.int (own_ks j3)), .val (.ref a1), .val (.int (0 : Int32)), .unset, .unset, .unset, .unset] [(.double (4643211215818981376 : UInt64)), (.double (FP.i2d (own_ks j0))), (.int (0 : Int32)), (.ref a1)])) _
      refine XS.ddivS X1.here hx rfl (hb hby at_76) rfl (own_nn ((FP.Core.notNaN_iff _).mp (own_wnn j0))) rfl ?_
      exact kk_)
    obtain ⟨cl0, B0, b0, z0, y0, H0, F0⟩ := V0
    obtain ⟨U0, u0, Y0, f0, W0, su0⟩ := stD X1 hx hZ e1 B0 (j := (0 : Int32)) (inb_of z0 (by decide)) (g := (mkF m 77 #[.val (.int p0), .val (.int p1), .val (.int p2), .val (.int p3), .val (.int p4), .val (.int (2 : Int32)), .val (.int (own_ks j0)), .val (.int (own_ks j1)), .val (.int (own_ks j2)), .val (.int (own_ks j3)), .val (.ref a1), .val (.int (0 : Int32)), .unset, .unset, .unset, .unset] [(.double (own_w j0)), (.int (0 : Int32)), (.ref a1)])) rfl rfl (hb hby at_77)
    have S31 : own_Go p e below s₁ G U0 (mkF m 78 #[.val (.int p0), .val (.int p1), .val (.int p2), .val (.int p3), .val (.int p4), .val (.int (2 : Int32)), .val (.int (own_ks j0)), .val (.int (own_ks j1)), .val (.int (own_ks j2)), .val (.int (own_ks j3)), .val (.ref a1), .val (.int (0 : Int32)), .unset, .unset, .unset, .unset] []) := fun tg_ kk_ => S30 tg_ (su0 tg_ kk_)
    have V1 : Arv Z u0 a1 k1 .double (2 : Int32) [.double (own_w j0), .double 0] (.double 0) := Arv.set B0 b0 z0 y0 H0 F0 rfl W0 0 rfl (by simp)
    have M1 := Fr.snoc Y0 N0 ha
    have S32 : own_Go p e below s₁ G U0 (mkF m 104 #[.val (.int p0), .val (.int p1), .val (.int p2), .val (.int p3), .val (.int p4), .val (.int (2 : Int32)), .val (.int (own_ks j0)), .val (.int (own_ks j1)), .val (.int (own_ks j2)), .val (.int (own_ks j3)), .val (.ref a1), .val (.int ((0 : Int32) + ((own_ks j0) * (own_ks j0)))), .unset, .unset, .unset, .unset] [(.double (own_w j1)), (.int (1 : Int32)), (.ref a1)]) := fun tg_ kk_ => S31 tg_ (by
      refine XS.iload Y0.here hx rfl (hb hby at_78) rfl ?_
      show Steps p.tables e below (U0.setTop (mkF m 80 #[.val (.int p0), .val (.int p1), .val (.int p2), .val (.int p3), .val (.int p4), .val (.int (2 : Int32)), .val (.int (own_ks j0)), .val (.int (own_ks j1)), .val (.int (own_ks j2)), .val (.int (own_ks j3)), .val (.ref a1), .val (.int (0 : Int32)), .unset, .unset, .unset, .unset] [(.int (0 : Int32))])) _
      refine XS.iload Y0.here hx rfl (hb hby at_80) rfl ?_
      show Steps p.tables e below (U0.setTop (mkF m 82 #[.val (.int p0), .val (.int p1), .val (.int p2), .val (.int p3), .val (.int p4), .val (.int (2 : Int32)), .val (.int (own_ks j0)), .val (.int (own_ks j1)), .val (.int (own_ks j2)), .val (.int (own_ks j3)), .val (.ref a1), .val (.int (0 : Int32)), .unset, .unset, .unset, .unset] [(.int (own_ks j0)), (.int (0 : Int32))])) _
      refine XS.iload Y0.here hx rfl (hb hby at_82) rfl ?_
      show Steps p.tables e below (U0.setTop (mkF m 84 #[.val (.int p0), .val (.int p1), .val (.int p2), .val (.int p3), .val (.int p4), .val (.int (2 : Int32)), .val (.int (own_ks j0)), .val (.int (own_ks j1)), .val (.int (own_ks j2)), .val (.int (own_ks j3)), .val (.ref a1), .val (.int (0 : Int32)), .unset, .unset, .unset, .unset] [(.int (own_ks j0)), (.int (own_ks j0)), (.int (0 : Int32))])) _
      refine XS.imul Y0.here hx rfl (hb hby at_84) rfl ?_
      show Steps p.tables e below (U0.setTop (mkF m 85 #[.val (.int p0), .val (.int p1), .val (.int p2), .val (.int p3), .val (.int p4), .val (.int (2 : Int32)), .val (.int (own_ks j0)), .val (.int (own_ks j1)), .val (.int (own_ks j2)), .val (.int (own_ks j3)), .val (.ref a1), .val (.int (0 : Int32)), .unset, .unset, .unset, .unset] [(.int ((own_ks j0) * (own_ks j0))), (.int (0 : Int32))])) _
      refine XS.iadd Y0.here hx rfl (hb hby at_85) rfl ?_
      show Steps p.tables e below (U0.setTop (mkF m 86 #[.val (.int p0), .val (.int p1), .val (.int p2), .val (.int p3), .val (.int p4), .val (.int (2 : Int32)), .val (.int (own_ks j0)), .val (.int (own_ks j1)), .val (.int (own_ks j2)), .val (.int (own_ks j3)), .val (.ref a1), .val (.int (0 : Int32)), .unset, .unset, .unset, .unset] [(.int ((0 : Int32) + ((own_ks j0) * (own_ks j0))))])) _
      refine XS.istore Y0.here hx rfl (hb hby at_86) rfl (l' := #[.val (.int p0), .val (.int p1), .val (.int p2), .val (.int p3), .val (.int p4), .val (.int (2 : Int32)), .val (.int (own_ks j0)), .val (.int (own_ks j1)), .val (.int (own_ks j2)), .val (.int (own_ks j3)), .val (.ref a1), .val (.int ((0 : Int32) + ((own_ks j0) * (own_ks j0)))), .unset, .unset, .unset, .unset]) rfl ?_
      show Steps p.tables e below (U0.setTop (mkF m 88 #[.val (.int p0), .val (.int p1), .val (.int p2), .val (.int p3), .val (.int p4), .val (.int (2 : Int32)), .val (.int (own_ks j0)), .val (.int (own_ks j1)), .val (.int (own_ks j2)), .val (.int (own_ks j3)), .val (.ref a1), .val (.int ((0 : Int32) + ((own_ks j0) * (own_ks j0)))), .unset, .unset, .unset, .unset] [])) _
      refine XS.iload Y0.here hx rfl (hb hby at_88) rfl ?_
      show Steps p.tables e below (U0.setTop (mkF m 90 #[.val (.int p0), .val (.int p1), .val (.int p2), .val (.int p3), .val (.int p4), .val (.int (2 : Int32)), .val (.int (own_ks j0)), .val (.int (own_ks j1)), .val (.int (own_ks j2)), .val (.int (own_ks j3)), .val (.ref a1), .val (.int ((0 : Int32) + ((own_ks j0) * (own_ks j0)))), .unset, .unset, .unset, .unset] [(.int (2 : Int32))])) _
      refine XS.iconst Y0.here hx rfl (hb hby at_90) ?_
      show Steps p.tables e below (U0.setTop (mkF m 91 #[.val (.int p0), .val (.int p1), .val (.int p2), .val (.int p3), .val (.int p4), .val (.int (2 : Int32)), .val (.int (own_ks j0)), .val (.int (own_ks j1)), .val (.int (own_ks j2)), .val (.int (own_ks j3)), .val (.ref a1), .val (.int ((0 : Int32) + ((own_ks j0) * (own_ks j0)))), .unset, .unset, .unset, .unset] [(.int (1 : Int32)), (.int (2 : Int32))])) _
      refine XS.icmpNo Y0.here hx rfl (hb hby at_91) rfl (by decide) ?_
      show Steps p.tables e below (U0.setTop (mkF m 94 #[.val (.int p0), .val (.int p1), .val (.int p2), .val (.int p3), .val (.int p4), .val (.int (2 : Int32)), .val (.int (own_ks j0)), .val (.int (own_ks j1)), .val (.int (own_ks j2)), .val (.int (own_ks j3)), .val (.ref a1), .val (.int ((0 : Int32) + ((own_ks j0) * (own_ks j0)))), .unset, .unset, .unset, .unset] [])) _
      refine XS.aload Y0.here hx rfl (hb hby at_94) rfl rfl ?_
      show Steps p.tables e below (U0.setTop (mkF m 96 #[.val (.int p0), .val (.int p1), .val (.int p2), .val (.int p3), .val (.int p4), .val (.int (2 : Int32)), .val (.int (own_ks j0)), .val (.int (own_ks j1)), .val (.int (own_ks j2)), .val (.int (own_ks j3)), .val (.ref a1), .val (.int ((0 : Int32) + ((own_ks j0) * (own_ks j0)))), .unset, .unset, .unset, .unset] [(.ref a1)])) _
      refine XS.iconst Y0.here hx rfl (hb hby at_96) ?_
      show Steps p.tables e below (U0.setTop (mkF m 97 #[.val (.int p0), .val (.int p1), .val (.int p2), .val (.int p3), .val (.int p4), .val (.int (2 : Int32)), .val (.int (own_ks j0)), .val (.int (own_ks j1)), .val (.int (own_ks j2)), .val (.int (own_ks j3)), .val (.ref a1), .val (.int ((0 : Int32) + ((own_ks j0) * (own_ks j0)))), .unset, .unset, .unset, .unset] [(.int (1 : Int32)), (.ref a1)])) _
      refine XS.iload Y0.here hx rfl (hb hby at_97) rfl ?_
      show Steps p.tables e below (U0.setTop (mkF m 99 #[.val (.int p0), .val (.int p1), .val (.int p2), .val (.int p3), .val (.int p4), .val (.int (2 : Int32)), .val (.int (own_ks j0)), .val (.int (own_ks j1)), .val (.int (own_ks j2)), .val (.int (own_ks j3)), .val (.ref a1), .val (.int ((0 : Int32) + ((own_ks j0) * (own_ks j0)))), .unset, .unset, .unset, .unset] [(.int (own_ks j1)), (.int (1 : Int32)), (.ref a1)])) _
      refine XS.i2dS Y0.here hx rfl (hb hby at_99) rfl rfl ?_
      show Steps p.tables e below (U0.setTop (mkF m 100 #[.val (.int p0), .val (.int p1), .val (.int p2), .val (.int p3), .val (.int p4), .val (.int (2 : Int32)), .val (.int (own_ks j0)), .val (.int (own_ks j1)), .val (.int (own_ks j2)), .val (.int (own_ks j3)), .val (.ref a1), .val (.int ((0 : Int32) + ((own_ks j0) * (own_ks j0)))), .unset, .unset, .unset, .unset] [(.double (FP.i2d (own_ks j1))), (.int (1 : Int32)), (.ref a1)])) _
      refine Y0.ldc2DoubleC hx hown (mvT hZ (hw _ (List.mem_of_getElem? (i := 7) rfl))) (g := (mkF m 100 #[.val (.int p0), .val (.int p1), .val (.int p2), .val (.int p3), .val (.int p4), .val (.int (2 : Int32)), .val (.int (own_ks j0)), .val (.int (own_ks j1)), .val (.int (own_ks j2)), .val (.int (own_ks j3)), .val (.ref a1), .val (.int ((0 : Int32) + ((own_ks j0) * (own_ks j0)))), .unset, .unset, .unset, .unset] [(.double (FP.i2d (own_ks j1))), (.int (1 : Int32)), (.ref a1)])) rfl (hb hby at_100) _ ?_
      show Steps p.tables e below (U0.setTop (mkF m 103 #[.val (.int p0), .val (.int p1), .val (.int p2), .val (.int p3), .val (.int p4), .val (.int (2 : Int32)), .val (.int (own_ks j0)), .val (.int (own_ks j1)), .val (.int (own_ks j2)), .val (.int (own_ks j3)), .val (.ref a1), .val (.int ((0 : Int32) + ((own_ks j0) * (own_ks j0)))), .unset, .unset, .unset, .unset] [(.double (4643211215818981376 : UInt64)), (.double (FP.i2d (own_ks j1))), (.int (1 : Int32)), (.ref a1)])) _
      refine XS.ddivS Y0.here hx rfl (hb hby at_103) rfl (own_nn ((FP.Core.notNaN_iff _).mp (own_wnn j1))) rfl ?_
      exact kk_)
    obtain ⟨cl1, B1, b1, z1, y1, H1, F1⟩ := V1
    obtain ⟨U1, u1, Y1, f1, W1, su1⟩ := stD Y0 hx hZ f0 B1 (j := (1 : Int32)) (inb_of z1 (by decide)) (g := (mkF m 104 #[.val (.int p0), .val (.int p1), .val (.int p2), .val (.int p3), .val (.int p4), .val (.int (2 : Int32)), .val (.int (own_ks j0)), .val (.int (own_ks j1)), .val (.int (own_ks j2)), .val (.int (own_ks j3)), .val (.ref a1), .val (.int ((0 : Int32) + ((own_ks j0) * (own_ks j0)))), .unset, .unset, .unset, .unset] [(.double (own_w j1)), (.int (1 : Int32)), (.ref a1)])) rfl rfl (hb hby at_104)
    have S33 : own_Go p e below s₁ G U1 (mkF m 105 #[.val (.int p0), .val (.int p1), .val (.int p2), .val (.int p3), .val (.int p4), .val (.int (2 : Int32)), .val (.int (own_ks j0)), .val (.int (own_ks j1)), .val (.int (own_ks j2)), .val (.int (own_ks j3)), .val (.ref a1), .val (.int ((0 : Int32) + ((own_ks j0) * (own_ks j0)))), .unset, .unset, .unset, .unset] []) := fun tg_ kk_ => S32 tg_ (su1 tg_ kk_)
    have V2 : Arv Z u1 a1 k1 .double (2 : Int32) [.double (own_w j0), .double (own_w j1)] (.double 0) := Arv.set B1 b1 z1 y1 H1 F1 rfl W1 1 rfl (by simp)
    have M2 := Fr.snoc Y1 M1 ha
    have S34 : own_Go p e below s₁ G U1 (mkF m 142 #[.val (.int p0), .val (.int p1), .val (.int p2), .val (.int p3), .val (.int p4), .val (.int (2 : Int32)), .val (.int (own_ks j0)), .val (.int (own_ks j1)), .val (.int (own_ks j2)), .val (.int (own_ks j3)), .val (.ref a1), .val (.int (((0 : Int32) + ((own_ks j0) * (own_ks j0))) + ((own_ks j1) * (own_ks j1)))), .unset, .unset, .unset, .unset] []) := fun tg_ kk_ => S33 tg_ (by
      refine XS.iload Y1.here hx rfl (hb hby at_105) rfl ?_
      show Steps p.tables e below (U1.setTop (mkF m 107 #[.val (.int p0), .val (.int p1), .val (.int p2), .val (.int p3), .val (.int p4), .val (.int (2 : Int32)), .val (.int (own_ks j0)), .val (.int (own_ks j1)), .val (.int (own_ks j2)), .val (.int (own_ks j3)), .val (.ref a1), .val (.int ((0 : Int32) + ((own_ks j0) * (own_ks j0)))), .unset, .unset, .unset, .unset] [(.int ((0 : Int32) + ((own_ks j0) * (own_ks j0))))])) _
      refine XS.iload Y1.here hx rfl (hb hby at_107) rfl ?_
      show Steps p.tables e below (U1.setTop (mkF m 109 #[.val (.int p0), .val (.int p1), .val (.int p2), .val (.int p3), .val (.int p4), .val (.int (2 : Int32)), .val (.int (own_ks j0)), .val (.int (own_ks j1)), .val (.int (own_ks j2)), .val (.int (own_ks j3)), .val (.ref a1), .val (.int ((0 : Int32) + ((own_ks j0) * (own_ks j0)))), .unset, .unset, .unset, .unset] [(.int (own_ks j1)), (.int ((0 : Int32) + ((own_ks j0) * (own_ks j0))))])) _
      refine XS.iload Y1.here hx rfl (hb hby at_109) rfl ?_
      show Steps p.tables e below (U1.setTop (mkF m 111 #[.val (.int p0), .val (.int p1), .val (.int p2), .val (.int p3), .val (.int p4), .val (.int (2 : Int32)), .val (.int (own_ks j0)), .val (.int (own_ks j1)), .val (.int (own_ks j2)), .val (.int (own_ks j3)), .val (.ref a1), .val (.int ((0 : Int32) + ((own_ks j0) * (own_ks j0)))), .unset, .unset, .unset, .unset] [(.int (own_ks j1)), (.int (own_ks j1)), (.int ((0 : Int32) + ((own_ks j0) * (own_ks j0))))])) _
      refine XS.imul Y1.here hx rfl (hb hby at_111) rfl ?_
      show Steps p.tables e below (U1.setTop (mkF m 112 #[.val (.int p0), .val (.int p1), .val (.int p2), .val (.int p3), .val (.int p4), .val (.int (2 : Int32)), .val (.int (own_ks j0)), .val (.int (own_ks j1)), .val (.int (own_ks j2)), .val (.int (own_ks j3)), .val (.ref a1), .val (.int ((0 : Int32) + ((own_ks j0) * (own_ks j0)))), .unset, .unset, .unset, .unset] [(.int ((own_ks j1) * (own_ks j1))), (.int ((0 : Int32) + ((own_ks j0) * (own_ks j0))))])) _
      refine XS.iadd Y1.here hx rfl (hb hby at_112) rfl ?_
      show Steps p.tables e below (U1.setTop (mkF m 113 #[.val (.int p0), .val (.int p1), .val (.int p2), .val (.int p3), .val (.int p4), .val (.int (2 : Int32)), .val (.int (own_ks j0)), .val (.int (own_ks j1)), .val (.int (own_ks j2)), .val (.int (own_ks j3)), .val (.ref a1), .val (.int ((0 : Int32) + ((own_ks j0) * (own_ks j0)))), .unset, .unset, .unset, .unset] [(.int (((0 : Int32) + ((own_ks j0) * (own_ks j0))) + ((own_ks j1) * (own_ks j1))))])) _
      refine XS.istore Y1.here hx rfl (hb hby at_113) rfl (l' := #[.val (.int p0), .val (.int p1), .val (.int p2), .val (.int p3), .val (.int p4), .val (.int (2 : Int32)), .val (.int (own_ks j0)), .val (.int (own_ks j1)), .val (.int (own_ks j2)), .val (.int (own_ks j3)), .val (.ref a1), .val (.int (((0 : Int32) + ((own_ks j0) * (own_ks j0))) + ((own_ks j1) * (own_ks j1)))), .unset, .unset, .unset, .unset]) rfl ?_
      show Steps p.tables e below (U1.setTop (mkF m 115 #[.val (.int p0), .val (.int p1), .val (.int p2), .val (.int p3), .val (.int p4), .val (.int (2 : Int32)), .val (.int (own_ks j0)), .val (.int (own_ks j1)), .val (.int (own_ks j2)), .val (.int (own_ks j3)), .val (.ref a1), .val (.int (((0 : Int32) + ((own_ks j0) * (own_ks j0))) + ((own_ks j1) * (own_ks j1)))), .unset, .unset, .unset, .unset] [])) _
      refine XS.iload Y1.here hx rfl (hb hby at_115) rfl ?_
      show Steps p.tables e below (U1.setTop (mkF m 117 #[.val (.int p0), .val (.int p1), .val (.int p2), .val (.int p3), .val (.int p4), .val (.int (2 : Int32)), .val (.int (own_ks j0)), .val (.int (own_ks j1)), .val (.int (own_ks j2)), .val (.int (own_ks j3)), .val (.ref a1), .val (.int (((0 : Int32) + ((own_ks j0) * (own_ks j0))) + ((own_ks j1) * (own_ks j1)))), .unset, .unset, .unset, .unset] [(.int (2 : Int32))])) _
      refine XS.iconst Y1.here hx rfl (hb hby at_117) ?_
      show Steps p.tables e below (U1.setTop (mkF m 118 #[.val (.int p0), .val (.int p1), .val (.int p2), .val (.int p3), .val (.int p4), .val (.int (2 : Int32)), .val (.int (own_ks j0)), .val (.int (own_ks j1)), .val (.int (own_ks j2)), .val (.int (own_ks j3)), .val (.ref a1), .val (.int (((0 : Int32) + ((own_ks j0) * (own_ks j0))) + ((own_ks j1) * (own_ks j1)))), .unset, .unset, .unset, .unset] [(.int (2 : Int32)), (.int (2 : Int32))])) _
      refine XS.icmpYes Y1.here hx rfl (pc0 := 118) (pc' := 142) rfl (hb hby at_118) rfl (by decide) (by decide) (by decide) ?_
      exact kk_)
    have S35 : own_Go p e below s₁ G U1 (mkF m 169 #[.val (.int p0), .val (.int p1), .val (.int p2), .val (.int p3), .val (.int p4), .val (.int (2 : Int32)), .val (.int (own_ks j0)), .val (.int (own_ks j1)), .val (.int (own_ks j2)), .val (.int (own_ks j3)), .val (.ref a1), .val (.int (((0 : Int32) + ((own_ks j0) * (own_ks j0))) + ((own_ks j1) * (own_ks j1)))), .unset, .unset, .unset, .unset] []) := fun tg_ kk_ => S34 tg_ (by
      refine XS.iload Y1.here hx rfl (hb hby at_142) rfl ?_
      show Steps p.tables e below (U1.setTop (mkF m 144 #[.val (.int p0), .val (.int p1), .val (.int p2), .val (.int p3), .val (.int p4), .val (.int (2 : Int32)), .val (.int (own_ks j0)), .val (.int (own_ks j1)), .val (.int (own_ks j2)), .val (.int (own_ks j3)), .val (.ref a1), .val (.int (((0 : Int32) + ((own_ks j0) * (own_ks j0))) + ((own_ks j1) * (own_ks j1)))), .unset, .unset, .unset, .unset] [(.int (2 : Int32))])) _
      refine XS.iconst Y1.here hx rfl (hb hby at_144) ?_
      show Steps p.tables e below (U1.setTop (mkF m 145 #[.val (.int p0), .val (.int p1), .val (.int p2), .val (.int p3), .val (.int p4), .val (.int (2 : Int32)), .val (.int (own_ks j0)), .val (.int (own_ks j1)), .val (.int (own_ks j2)), .val (.int (own_ks j3)), .val (.ref a1), .val (.int (((0 : Int32) + ((own_ks j0) * (own_ks j0))) + ((own_ks j1) * (own_ks j1)))), .unset, .unset, .unset, .unset] [(.int (3 : Int32)), (.int (2 : Int32))])) _
      refine XS.icmpYes Y1.here hx rfl (pc0 := 145) (pc' := 169) rfl (hb hby at_145) rfl (by decide) (by decide) (by decide) ?_
      exact kk_)
    have S36 : own_Go p e below s₁ G U1 (mkF m 171 #[.val (.int p0), .val (.int p1), .val (.int p2), .val (.int p3), .val (.int p4), .val (.int (2 : Int32)), .val (.int (own_ks j0)), .val (.int (own_ks j1)), .val (.int (own_ks j2)), .val (.int (own_ks j3)), .val (.ref a1), .val (.int (((0 : Int32) + ((own_ks j0) * (own_ks j0))) + ((own_ks j1) * (own_ks j1)))), .unset, .unset, .unset, .unset] [(.ref a1)]) := fun tg_ kk_ => S35 tg_ (by
      refine XS.aload Y1.here hx rfl (hb hby at_169) rfl rfl ?_
      exact kk_)
    obtain ⟨tot, htot⟩ : ∃ z, z = (own_T (fun j => own_q ((fun j => [j0, j1].getD j 0) j)) 2) := ⟨_, rfl⟩
    have hle : tot ≤ 262144 := by rw [htot]; exact Nat.le_trans (own_T_le (fun j => own_qle _) 2) (by decide)
    have hsum := own_sum (f := (fun j => [j0, j1].getD j 0)) 2 (by decide)
    rw [← htot] at hsum
    have hs : (((0 : Int32) + ((own_ks j0) * (own_ks j0))) + ((own_ks j1) * (own_ks j1))) = Int32.ofNat tot := by
      rw [htot]
      simp only [own_ksq, own_T, Int32.ofNat_add]
      rfl
    rw [hs] at S36
    have hi := own_i2d (n := tot) (by omega)
    have hzn : Jvm.Free.Fl.NoNaN64 (FP.ddiv FP.dconst1 (own_S (fun j => own_w ((fun j => [j0, j1].getD j 0) j)) 2)) := by
      by_cases ht0 : tot = 0
      · rw [ht0] at hsum; rw [own_zero hsum]; exact own_nn (by decide +kernel)
      · exact (own_div ht0 (by omega) hsum hi).2
    have Zc : n0 ≤ u1.size := by
      refine Nat.le_trans Z0 (Nat.le_trans E1.1 ?_)
      simp only [W1.size, W0.size]
      exact Nat.le_refl _
    obtain ⟨_, T37, h37, L37, X37, e37, hQ37, st37⟩ := own_callS Y1 hx hZ (y := (⟨"com/example/cladewave/cladewave/samplers/Resampling", "effectiveSampleSize", "([D)D"⟩ : MethodName)) hown (hw _ (List.mem_of_getElem? (i := 1) rfl)) (hw _ (List.mem_of_getElem? (i := 2) rfl)) (hw _ (List.mem_of_getElem? (i := 3) rfl)) (hw _ (List.mem_of_getElem? (i := 4) rfl)) (by decide) 0 (g := (mkF m 171 #[.val (.int p0), .val (.int p1), .val (.int p2), .val (.int p3), .val (.int p4), .val (.int (2 : Int32)), .val (.int (own_ks j0)), .val (.int (own_ks j1)), .val (.int (own_ks j2)), .val (.int (own_ks j3)), .val (.ref a1), .val (.int (Int32.ofNat tot)), .unset, .unset, .unset, .unset] [(.ref a1)])) rfl (by rw [hml]; rfl) [(.ref a1)] [] (rm1 l Z a0 hw [] a1 (fun j => [j0, j1].getD j 0) 2 u1 n0 Zc (by decide) k1 [.double (own_w j0), .double (own_w j1)] (.double 0) V2 (fun j hj => by match j, hj with | 0, _ => rfl | 1, _ => rfl) hzn) (lenOf pd1 rfl) rfl (by show 2 * 0 + _ ≤ _; exact Nat.le_of_eq rfl) (hb hby at_171) (by decide) (by decide) f1 (by decide) (by decide)
    obtain ⟨rfl, M37, rfl⟩ := hQ37
    have S38 : own_Go p e below s₁ G T37 (mkF m 174 #[.val (.int p0), .val (.int p1), .val (.int p2), .val (.int p3), .val (.int p4), .val (.int (2 : Int32)), .val (.int (own_ks j0)), .val (.int (own_ks j1)), .val (.int (own_ks j2)), .val (.int (own_ks j3)), .val (.ref a1), .val (.int (Int32.ofNat tot)), .unset, .unset, .unset, .unset] [(.double (FP.ddiv FP.dconst1 (own_S (fun j => own_w ((fun j => [j0, j1].getD j 0) j)) 2)))]) := fun tg_ kk_ => S36 tg_ (st37 tg_ kk_)
    have MM := Fr.app M2 M37
    obtain ⟨r, hr0⟩ : ∃ z : UInt64, z = (FP.ddiv FP.dconst1 (own_S (fun j => own_w ((fun j => [j0, j1].getD j 0) j)) 2)) := ⟨_, rfl⟩
    rw [← hr0] at S38
    have S39 : own_Go p e below s₁ G T37 (mkF m 178 #[.val (.int p0), .val (.int p1), .val (.int p2), .val (.int p3), .val (.int p4), .val (.int (2 : Int32)), .val (.int (own_ks j0)), .val (.int (own_ks j1)), .val (.int (own_ks j2)), .val (.int (own_ks j3)), .val (.ref a1), .val (.int (Int32.ofNat tot)), .val (.double r), .second, .unset, .unset] [(.int (Int32.ofNat tot))]) := fun tg_ kk_ => S38 tg_ (by
      refine XS.dstore X37.here hx rfl (hb hby at_174) rfl (l' := #[.val (.int p0), .val (.int p1), .val (.int p2), .val (.int p3), .val (.int p4), .val (.int (2 : Int32)), .val (.int (own_ks j0)), .val (.int (own_ks j1)), .val (.int (own_ks j2)), .val (.int (own_ks j3)), .val (.ref a1), .val (.int (Int32.ofNat tot)), .val (.double r), .second, .unset, .unset]) rfl ?_
      show Steps p.tables e below (T37.setTop (mkF m 176 #[.val (.int p0), .val (.int p1), .val (.int p2), .val (.int p3), .val (.int p4), .val (.int (2 : Int32)), .val (.int (own_ks j0)), .val (.int (own_ks j1)), .val (.int (own_ks j2)), .val (.int (own_ks j3)), .val (.ref a1), .val (.int (Int32.ofNat tot)), .val (.double r), .second, .unset, .unset] [])) _
      refine XS.iload X37.here hx rfl (hb hby at_176) rfl ?_
      exact kk_)
    by_cases ht0 : tot = 0
    · have hr1 : r = 9218868437227405312 := by
        rw [hr0]; rw [ht0] at hsum; rw [own_zero hsum]; decide +kernel
      subst ht0
      rw [show Int32.ofNat 0 = Int32.ofNat 0 from rfl] at S39
      have S40 : own_Go p e below s₁ G T37 (mkF m 207 #[.val (.int p0), .val (.int p1), .val (.int p2), .val (.int p3), .val (.int p4), .val (.int (2 : Int32)), .val (.int (own_ks j0)), .val (.int (own_ks j1)), .val (.int (own_ks j2)), .val (.int (own_ks j3)), .val (.ref a1), .val (.int (Int32.ofNat 0)), .val (.double r), .second, .unset, .unset] [(.int (1 : Int32))]) := fun tg_ kk_ => S39 tg_ (by
        refine XS.ifNo X37.here hx rfl (hb hby at_178) rfl (by decide) ?_
        show Steps p.tables e below (T37.setTop (mkF m 181 #[.val (.int p0), .val (.int p1), .val (.int p2), .val (.int p3), .val (.int p4), .val (.int (2 : Int32)), .val (.int (own_ks j0)), .val (.int (own_ks j1)), .val (.int (own_ks j2)), .val (.int (own_ks j3)), .val (.ref a1), .val (.int (Int32.ofNat 0)), .val (.double r), .second, .unset, .unset] [])) _
        refine XS.dload X37.here hx rfl (hb hby at_181) rfl ?_
        show Steps p.tables e below (T37.setTop (mkF m 183 #[.val (.int p0), .val (.int p1), .val (.int p2), .val (.int p3), .val (.int p4), .val (.int (2 : Int32)), .val (.int (own_ks j0)), .val (.int (own_ks j1)), .val (.int (own_ks j2)), .val (.int (own_ks j3)), .val (.ref a1), .val (.int (Int32.ofNat 0)), .val (.double r), .second, .unset, .unset] [(.double r)])) _
        refine X37.ldc2DoubleC hx hown (mvT hZ (hw _ (List.mem_of_getElem? (i := 5) rfl))) (g := (mkF m 183 #[.val (.int p0), .val (.int p1), .val (.int p2), .val (.int p3), .val (.int p4), .val (.int (2 : Int32)), .val (.int (own_ks j0)), .val (.int (own_ks j1)), .val (.int (own_ks j2)), .val (.int (own_ks j3)), .val (.ref a1), .val (.int (Int32.ofNat 0)), .val (.double r), .second, .unset, .unset] [(.double r)])) rfl (hb hby at_183) _ ?_
        show Steps p.tables e below (T37.setTop (mkF m 186 #[.val (.int p0), .val (.int p1), .val (.int p2), .val (.int p3), .val (.int p4), .val (.int (2 : Int32)), .val (.int (own_ks j0)), .val (.int (own_ks j1)), .val (.int (own_ks j2)), .val (.int (own_ks j3)), .val (.ref a1), .val (.int (Int32.ofNat 0)), .val (.double r), .second, .unset, .unset] [(.double (9214871658872686752 : UInt64)), (.double r)])) _
        refine XS.dcmpS X37.here hx rfl (hb hby at_186) rfl (by rw [hr1] <;> decide +kernel) ?_
        show Steps p.tables e below (T37.setTop (mkF m 187 #[.val (.int p0), .val (.int p1), .val (.int p2), .val (.int p3), .val (.int p4), .val (.int (2 : Int32)), .val (.int (own_ks j0)), .val (.int (own_ks j1)), .val (.int (own_ks j2)), .val (.int (own_ks j3)), .val (.ref a1), .val (.int (Int32.ofNat 0)), .val (.double r), .second, .unset, .unset] [(.int (1 : Int32))])) _
        refine XS.ifNo X37.here hx rfl (hb hby at_187) rfl (by decide) ?_
        show Steps p.tables e below (T37.setTop (mkF m 190 #[.val (.int p0), .val (.int p1), .val (.int p2), .val (.int p3), .val (.int p4), .val (.int (2 : Int32)), .val (.int (own_ks j0)), .val (.int (own_ks j1)), .val (.int (own_ks j2)), .val (.int (own_ks j3)), .val (.ref a1), .val (.int (Int32.ofNat 0)), .val (.double r), .second, .unset, .unset] [])) _
        refine XS.dload X37.here hx rfl (hb hby at_190) rfl ?_
        show Steps p.tables e below (T37.setTop (mkF m 192 #[.val (.int p0), .val (.int p1), .val (.int p2), .val (.int p3), .val (.int p4), .val (.int (2 : Int32)), .val (.int (own_ks j0)), .val (.int (own_ks j1)), .val (.int (own_ks j2)), .val (.int (own_ks j3)), .val (.ref a1), .val (.int (Int32.ofNat 0)), .val (.double r), .second, .unset, .unset] [(.double r)])) _
        refine X37.ldc2DoubleC hx hown (mvT hZ (hw _ (List.mem_of_getElem? (i := 6) rfl))) (g := (mkF m 192 #[.val (.int p0), .val (.int p1), .val (.int p2), .val (.int p3), .val (.int p4), .val (.int (2 : Int32)), .val (.int (own_ks j0)), .val (.int (own_ks j1)), .val (.int (own_ks j2)), .val (.int (own_ks j3)), .val (.ref a1), .val (.int (Int32.ofNat 0)), .val (.double r), .second, .unset, .unset] [(.double r)])) rfl (hb hby at_192) _ ?_
        show Steps p.tables e below (T37.setTop (mkF m 195 #[.val (.int p0), .val (.int p1), .val (.int p2), .val (.int p3), .val (.int p4), .val (.int (2 : Int32)), .val (.int (own_ks j0)), .val (.int (own_ks j1)), .val (.int (own_ks j2)), .val (.int (own_ks j3)), .val (.ref a1), .val (.int (Int32.ofNat 0)), .val (.double r), .second, .unset, .unset] [(.double (4611686018427387904 : UInt64)), (.double r)])) _
        refine XS.dmulS X37.here hx rfl (hb hby at_195) rfl (by rw [hr1]; exact own_nn (by decide +kernel)) rfl ?_
        show Steps p.tables e below (T37.setTop (mkF m 196 #[.val (.int p0), .val (.int p1), .val (.int p2), .val (.int p3), .val (.int p4), .val (.int (2 : Int32)), .val (.int (own_ks j0)), .val (.int (own_ks j1)), .val (.int (own_ks j2)), .val (.int (own_ks j3)), .val (.ref a1), .val (.int (Int32.ofNat 0)), .val (.double r), .second, .unset, .unset] [(.double (FP.dmul r (4611686018427387904 : UInt64)))])) _
        refine XS.dload X37.here hx rfl (hb hby at_196) rfl ?_
        show Steps p.tables e below (T37.setTop (mkF m 198 #[.val (.int p0), .val (.int p1), .val (.int p2), .val (.int p3), .val (.int p4), .val (.int (2 : Int32)), .val (.int (own_ks j0)), .val (.int (own_ks j1)), .val (.int (own_ks j2)), .val (.int (own_ks j3)), .val (.ref a1), .val (.int (Int32.ofNat 0)), .val (.double r), .second, .unset, .unset] [(.double r), (.double (FP.dmul r (4611686018427387904 : UInt64)))])) _
        refine XS.dcmpS X37.here hx rfl (hb hby at_198) rfl (by rw [hr1] <;> decide +kernel) ?_
        show Steps p.tables e below (T37.setTop (mkF m 199 #[.val (.int p0), .val (.int p1), .val (.int p2), .val (.int p3), .val (.int p4), .val (.int (2 : Int32)), .val (.int (own_ks j0)), .val (.int (own_ks j1)), .val (.int (own_ks j2)), .val (.int (own_ks j3)), .val (.ref a1), .val (.int (Int32.ofNat 0)), .val (.double r), .second, .unset, .unset] [(.int (0 : Int32))])) _
        refine XS.ifNo X37.here hx rfl (hb hby at_199) rfl (by decide) ?_
        show Steps p.tables e below (T37.setTop (mkF m 202 #[.val (.int p0), .val (.int p1), .val (.int p2), .val (.int p3), .val (.int p4), .val (.int (2 : Int32)), .val (.int (own_ks j0)), .val (.int (own_ks j1)), .val (.int (own_ks j2)), .val (.int (own_ks j3)), .val (.ref a1), .val (.int (Int32.ofNat 0)), .val (.double r), .second, .unset, .unset] [])) _
        refine XS.iconst X37.here hx rfl (hb hby at_202) ?_
        show Steps p.tables e below (T37.setTop (mkF m 203 #[.val (.int p0), .val (.int p1), .val (.int p2), .val (.int p3), .val (.int p4), .val (.int (2 : Int32)), .val (.int (own_ks j0)), .val (.int (own_ks j1)), .val (.int (own_ks j2)), .val (.int (own_ks j3)), .val (.ref a1), .val (.int (Int32.ofNat 0)), .val (.double r), .second, .unset, .unset] [(.int (1 : Int32))])) _
        refine XS.goto X37.here hx rfl (pc0 := 203) (pc' := 207) rfl (hb hby at_203) (by decide) (by decide) ?_
        exact kk_)
      obtain ⟨fs, hr, hrun, hended, hW, hsame⟩ := X37.leave (v := some (.int (1 : Int32))) (fun h => by rw [Bd.returns] at h; cases h)
      refine ⟨_, _, ?_, hrun, hended, _, _, rfl, ?_, ⟨_, rfl⟩, hW, hsame.mono (by decide) (by decide)⟩
      · rw [← hG]; exact S40 _ (retN X37 hx (t := .boolean) Bd.returns (by simp) (hb hby at_207) hr)
      · show Q0 Z p0 p1 p2 p3 p4 h0 n0 _ T37.heap _
        rw [e37]
        exact ⟨rfl, MM⟩
    · obtain ⟨hd1, hd2⟩ := own_div ht0 (by omega) hsum hi
      rw [← hr0] at hd1 hd2
      have hne : ¬ Int32.ofNat tot = 0 := fun q => ht0 (by have q2 := congrArg Int32.toInt q; rw [Int32.toInt_ofNat_of_lt (by omega)] at q2; exact Int.ofNat.inj q2)
      have S41 : own_Go p e below s₁ G T37 (mkF m 230 #[.val (.int p0), .val (.int p1), .val (.int p2), .val (.int p3), .val (.int p4), .val (.int (2 : Int32)), .val (.int (own_ks j0)), .val (.int (own_ks j1)), .val (.int (own_ks j2)), .val (.int (own_ks j3)), .val (.ref a1), .val (.int (Int32.ofNat tot)), .val (.double r), .second, .val (.double r), .second] [(.int (1 : Int32))]) := fun tg_ kk_ => S39 tg_ (by
        refine XS.ifYes X37.here hx rfl (pc0 := 178) (pc' := 208) rfl (hb hby at_178) rfl (XT.i0_ne_t hne) (by decide) (by decide) ?_
        show Steps p.tables e below (T37.setTop (mkF m 208 #[.val (.int p0), .val (.int p1), .val (.int p2), .val (.int p3), .val (.int p4), .val (.int (2 : Int32)), .val (.int (own_ks j0)), .val (.int (own_ks j1)), .val (.int (own_ks j2)), .val (.int (own_ks j3)), .val (.ref a1), .val (.int (Int32.ofNat tot)), .val (.double r), .second, .unset, .unset] [])) _
        refine X37.ldc2DoubleC hx hown (mvT hZ (hw _ (List.mem_of_getElem? (i := 8) rfl))) (g := (mkF m 208 #[.val (.int p0), .val (.int p1), .val (.int p2), .val (.int p3), .val (.int p4), .val (.int (2 : Int32)), .val (.int (own_ks j0)), .val (.int (own_ks j1)), .val (.int (own_ks j2)), .val (.int (own_ks j3)), .val (.ref a1), .val (.int (Int32.ofNat tot)), .val (.double r), .second, .unset, .unset] [])) rfl (hb hby at_208) _ ?_
        show Steps p.tables e below (T37.setTop (mkF m 211 #[.val (.int p0), .val (.int p1), .val (.int p2), .val (.int p3), .val (.int p4), .val (.int (2 : Int32)), .val (.int (own_ks j0)), .val (.int (own_ks j1)), .val (.int (own_ks j2)), .val (.int (own_ks j3)), .val (.ref a1), .val (.int (Int32.ofNat tot)), .val (.double r), .second, .unset, .unset] [(.double (4679240012837945344 : UInt64))])) _
        refine XS.iload X37.here hx rfl (hb hby at_211) rfl ?_
        show Steps p.tables e below (T37.setTop (mkF m 213 #[.val (.int p0), .val (.int p1), .val (.int p2), .val (.int p3), .val (.int p4), .val (.int (2 : Int32)), .val (.int (own_ks j0)), .val (.int (own_ks j1)), .val (.int (own_ks j2)), .val (.int (own_ks j3)), .val (.ref a1), .val (.int (Int32.ofNat tot)), .val (.double r), .second, .unset, .unset] [(.int (Int32.ofNat tot)), (.double (4679240012837945344 : UInt64))])) _
        refine XS.i2dS X37.here hx rfl (hb hby at_213) rfl rfl ?_
        show Steps p.tables e below (T37.setTop (mkF m 214 #[.val (.int p0), .val (.int p1), .val (.int p2), .val (.int p3), .val (.int p4), .val (.int (2 : Int32)), .val (.int (own_ks j0)), .val (.int (own_ks j1)), .val (.int (own_ks j2)), .val (.int (own_ks j3)), .val (.ref a1), .val (.int (Int32.ofNat tot)), .val (.double r), .second, .unset, .unset] [(.double (FP.i2d (Int32.ofNat tot))), (.double (4679240012837945344 : UInt64))])) _
        refine XS.ddivS X37.here hx rfl (hb hby at_214) rfl (by rw [← hd1]; exact hd2) hd1.symm ?_
        show Steps p.tables e below (T37.setTop (mkF m 215 #[.val (.int p0), .val (.int p1), .val (.int p2), .val (.int p3), .val (.int p4), .val (.int (2 : Int32)), .val (.int (own_ks j0)), .val (.int (own_ks j1)), .val (.int (own_ks j2)), .val (.int (own_ks j3)), .val (.ref a1), .val (.int (Int32.ofNat tot)), .val (.double r), .second, .unset, .unset] [(.double r)])) _
        refine XS.dstore X37.here hx rfl (hb hby at_215) rfl (l' := #[.val (.int p0), .val (.int p1), .val (.int p2), .val (.int p3), .val (.int p4), .val (.int (2 : Int32)), .val (.int (own_ks j0)), .val (.int (own_ks j1)), .val (.int (own_ks j2)), .val (.int (own_ks j3)), .val (.ref a1), .val (.int (Int32.ofNat tot)), .val (.double r), .second, .val (.double r), .second]) rfl ?_
        show Steps p.tables e below (T37.setTop (mkF m 217 #[.val (.int p0), .val (.int p1), .val (.int p2), .val (.int p3), .val (.int p4), .val (.int (2 : Int32)), .val (.int (own_ks j0)), .val (.int (own_ks j1)), .val (.int (own_ks j2)), .val (.int (own_ks j3)), .val (.ref a1), .val (.int (Int32.ofNat tot)), .val (.double r), .second, .val (.double r), .second] [])) _
        refine XS.dload X37.here hx rfl (hb hby at_217) rfl ?_
        show Steps p.tables e below (T37.setTop (mkF m 219 #[.val (.int p0), .val (.int p1), .val (.int p2), .val (.int p3), .val (.int p4), .val (.int (2 : Int32)), .val (.int (own_ks j0)), .val (.int (own_ks j1)), .val (.int (own_ks j2)), .val (.int (own_ks j3)), .val (.ref a1), .val (.int (Int32.ofNat tot)), .val (.double r), .second, .val (.double r), .second] [(.double r)])) _
        refine XS.dload X37.here hx rfl (hb hby at_219) rfl ?_
        show Steps p.tables e below (T37.setTop (mkF m 221 #[.val (.int p0), .val (.int p1), .val (.int p2), .val (.int p3), .val (.int p4), .val (.int (2 : Int32)), .val (.int (own_ks j0)), .val (.int (own_ks j1)), .val (.int (own_ks j2)), .val (.int (own_ks j3)), .val (.ref a1), .val (.int (Int32.ofNat tot)), .val (.double r), .second, .val (.double r), .second] [(.double r), (.double r)])) _
        refine XS.dcmpS X37.here hx rfl (hb hby at_221) rfl (dcmpV_self hd2 _) ?_
        show Steps p.tables e below (T37.setTop (mkF m 222 #[.val (.int p0), .val (.int p1), .val (.int p2), .val (.int p3), .val (.int p4), .val (.int (2 : Int32)), .val (.int (own_ks j0)), .val (.int (own_ks j1)), .val (.int (own_ks j2)), .val (.int (own_ks j3)), .val (.ref a1), .val (.int (Int32.ofNat tot)), .val (.double r), .second, .val (.double r), .second] [(.int (0 : Int32))])) _
        refine XS.ifNo X37.here hx rfl (hb hby at_222) rfl (by decide) ?_
        show Steps p.tables e below (T37.setTop (mkF m 225 #[.val (.int p0), .val (.int p1), .val (.int p2), .val (.int p3), .val (.int p4), .val (.int (2 : Int32)), .val (.int (own_ks j0)), .val (.int (own_ks j1)), .val (.int (own_ks j2)), .val (.int (own_ks j3)), .val (.ref a1), .val (.int (Int32.ofNat tot)), .val (.double r), .second, .val (.double r), .second] [])) _
        refine XS.iconst X37.here hx rfl (hb hby at_225) ?_
        show Steps p.tables e below (T37.setTop (mkF m 226 #[.val (.int p0), .val (.int p1), .val (.int p2), .val (.int p3), .val (.int p4), .val (.int (2 : Int32)), .val (.int (own_ks j0)), .val (.int (own_ks j1)), .val (.int (own_ks j2)), .val (.int (own_ks j3)), .val (.ref a1), .val (.int (Int32.ofNat tot)), .val (.double r), .second, .val (.double r), .second] [(.int (1 : Int32))])) _
        refine XS.goto X37.here hx rfl (pc0 := 226) (pc' := 230) rfl (hb hby at_226) (by decide) (by decide) ?_
        exact kk_)
      obtain ⟨fs, hr, hrun, hended, hW, hsame⟩ := X37.leave (v := some (.int (1 : Int32))) (fun h => by rw [Bd.returns] at h; cases h)
      refine ⟨_, _, ?_, hrun, hended, _, _, rfl, ?_, ⟨_, rfl⟩, hW, hsame.mono (by decide) (by decide)⟩
      · rw [← hG]; exact S41 _ (retN X37 hx (t := .boolean) Bd.returns (by simp) (hb hby at_230) hr)
      · show Q0 Z p0 p1 p2 p3 p4 h0 n0 _ T37.heap _
        rw [e37]
        exact ⟨rfl, MM⟩
  · have _ := hn
    rw [hn] at S5
    obtain ⟨T1, h1, k1, X1, e1, E1, A1, st1⟩ := newP X0 hx hZ (hw _ (List.mem_of_getElem? (i := 0) rfl)) e0 (g := (mkF m 55 #[.val (.int p0), .val (.int p1), .val (.int p2), .val (.int p3), .val (.int p4), .val (.int (3 : Int32)), .val (.int (own_ks j0)), .val (.int (own_ks j1)), .val (.int (own_ks j2)), .val (.int (own_ks j3)), .unset, .unset, .unset, .unset, .unset, .unset] [(.int (3 : Int32))])) rfl (hb hby at_55) rfl (by decide) (cap := 4) (by decide) (by decide) (by decide) (by decide)
    have S42 : own_Go p e below s₁ G T1 (mkF m 57 #[.val (.int p0), .val (.int p1), .val (.int p2), .val (.int p3), .val (.int p4), .val (.int (3 : Int32)), .val (.int (own_ks j0)), .val (.int (own_ks j1)), .val (.int (own_ks j2)), .val (.int (own_ks j3)), .unset, .unset, .unset, .unset, .unset, .unset] [(.ref h0.size)]) := fun tg_ kk_ => S5 tg_ (st1 tg_ kk_)
    obtain ⟨a1, g1⟩ : ∃ z, z = h0.size := ⟨_, rfl⟩
    rw [← g1] at S42
    rw [← g1] at A1
    have ha : n0 ≤ a1 := Nat.le_trans Z0 (Nat.le_of_eq g1.symm)
    have V0 : Arv Z h1 a1 k1 .double (3 : Int32) [.double 0, .double 0, .double 0] (.double 0) := (Arv.new A1 (by decide)).pad (pad_rep [] _ 3)
    have M0 : Fr n0 [] := N0
    have S43 : own_Go p e below s₁ G T1 (mkF m 77 #[.val (.int p0), .val (.int p1), .val (.int p2), .val (.int p3), .val (.int p4), .val (.int (3 : Int32)), .val (.int (own_ks j0)), .val (.int (own_ks j1)), .val (.int (own_ks j2)), .val (.int (own_ks j3)), .val (.ref a1), .val (.int (0 : Int32)), .unset, .unset, .unset, .unset] [(.double (own_w j0)), (.int (0 : Int32)), (.ref a1)]) := fun tg_ kk_ => S42 tg_ (by
      refine XS.astore X1.here hx rfl (hb hby at_57) rfl rfl (l' := #[.val (.int p0), .val (.int p1), .val (.int p2), .val (.int p3), .val (.int p4), .val (.int (3 : Int32)), .val (.int (own_ks j0)), .val (.int (own_ks j1)), .val (.int (own_ks j2)), .val (.int (own_ks j3)), .val (.ref a1), .unset, .unset, .unset, .unset, .unset]) rfl ?_
      show Steps p.tables e below (T1.setTop (mkF m 59 #[.val (.int p0), .val (.int p1), .val (.int p2), .val (.int p3), .val (.int p4), .val (.int (3 : Int32)), .val (.int (own_ks j0)), .val (.int (own_ks j1)), .val (.int (own_ks j2)), .val (.int (own_ks j3)), .val (.ref a1), .unset, .unset, .unset, .unset, .unset] [])) _
      refine XS.iconst X1.here hx rfl (hb hby at_59) ?_
      show Steps p.tables e below (T1.setTop (mkF m 60 #[.val (.int p0), .val (.int p1), .val (.int p2), .val (.int p3), .val (.int p4), .val (.int (3 : Int32)), .val (.int (own_ks j0)), .val (.int (own_ks j1)), .val (.int (own_ks j2)), .val (.int (own_ks j3)), .val (.ref a1), .unset, .unset, .unset, .unset, .unset] [(.int (0 : Int32))])) _
      refine XS.istore X1.here hx rfl (hb hby at_60) rfl (l' := #[.val (.int p0), .val (.int p1), .val (.int p2), .val (.int p3), .val (.int p4), .val (.int (3 : Int32)), .val (.int (own_ks j0)), .val (.int (own_ks j1)), .val (.int (own_ks j2)), .val (.int (own_ks j3)), .val (.ref a1), .val (.int (0 : Int32)), .unset, .unset, .unset, .unset]) rfl ?_
      show Steps p.tables e below (T1.setTop (mkF m 62 #[.val (.int p0), .val (.int p1), .val (.int p2), .val (.int p3), .val (.int p4), .val (.int (3 : Int32)), .val (.int (own_ks j0)), .val (.int (own_ks j1)), .val (.int (own_ks j2)), .val (.int (own_ks j3)), .val (.ref a1), .val (.int (0 : Int32)), .unset, .unset, .unset, .unset] [])) _
      refine XS.iload X1.here hx rfl (hb hby at_62) rfl ?_
      show Steps p.tables e below (T1.setTop (mkF m 64 #[.val (.int p0), .val (.int p1), .val (.int p2), .val (.int p3), .val (.int p4), .val (.int (3 : Int32)), .val (.int (own_ks j0)), .val (.int (own_ks j1)), .val (.int (own_ks j2)), .val (.int (own_ks j3)), .val (.ref a1), .val (.int (0 : Int32)), .unset, .unset, .unset, .unset] [(.int (3 : Int32))])) _
      refine XS.ifNo X1.here hx rfl (hb hby at_64) rfl (by decide) ?_
      show Steps p.tables e below (T1.setTop (mkF m 67 #[.val (.int p0), .val (.int p1), .val (.int p2), .val (.int p3), .val (.int p4), .val (.int (3 : Int32)), .val (.int (own_ks j0)), .val (.int (own_ks j1)), .val (.int (own_ks j2)), .val (.int (own_ks j3)), .val (.ref a1), .val (.int (0 : Int32)), .unset, .unset, .unset, .unset] [])) _
      refine XS.aload X1.here hx rfl (hb hby at_67) rfl rfl ?_
      show Steps p.tables e below (T1.setTop (mkF m 69 #[.val (.int p0), .val (.int p1), .val (.int p2), .val (.int p3), .val (.int p4), .val (.int (3 : Int32)), .val (.int (own_ks j0)), .val (.int (own_ks j1)), .val (.int (own_ks j2)), .val (.int (own_ks j3)), .val (.ref a1), .val (.int (0 : Int32)), .unset, .unset, .unset, .unset] [(.ref a1)])) _
      refine XS.iconst X1.here hx rfl (hb hby at_69) ?_
      show Steps p.tables e below (T1.setTop (mkF m 70 #[.val (.int p0), .val (.int p1), .val (.int p2), .val (.int p3), .val (.int p4), .val (.int (3 : Int32)), .val (.int (own_ks j0)), .val (.int (own_ks j1)), .val (.int (own_ks j2)), .val (.int (own_ks j3)), .val (.ref a1), .val (.int (0 : Int32)), .unset, .unset, .unset, .unset] [(.int (0 : Int32)), (.ref a1)])) _
      refine XS.iload X1.here hx rfl (hb hby at_70) rfl ?_
      show Steps p.tables e below (T1.setTop (mkF m 72 #[.val (.int p0), .val (.int p1), .val (.int p2), .val (.int p3), .val (.int p4), .val (.int (3 : Int32)), .val (.int (own_ks j0)), .val (.int (own_ks j1)), .val (.int (own_ks j2)), .val (.int (own_ks j3)), .val (.ref a1), .val (.int (0 : Int32)), .unset, .unset, .unset, .unset] [(.int (own_ks j0)), (.int (0 : Int32)), (.ref a1)])) _
      refine XS.i2dS X1.here hx rfl (hb hby at_72) rfl rfl ?_
      show Steps p.tables e below (T1.setTop (mkF m 73 #[.val (.int p0), .val (.int p1), .val (.int p2), .val (.int p3), .val (.int p4), .val (.int (3 : Int32)), .val (.int (own_ks j0)), .val (.int (own_ks j1)), .val (.int (own_ks j2)), .val (.int (own_ks j3)), .val (.ref a1), .val (.int (0 : Int32)), .unset, .unset, .unset, .unset] [(.double (FP.i2d (own_ks j0))), (.int (0 : Int32)), (.ref a1)])) _
      refine X1.ldc2DoubleC hx hown (mvT hZ (hw _ (List.mem_of_getElem? (i := 7) rfl))) (g := (mkF m 73 #[.val (.int p0), .val (.int p1), .val (.int p2), .val (.int p3), .val (.int p4), .val (.int (3 : Int32)), .val (.int (own_ks j0)), .val (.int (own_ks j1)), .val (.int (own_ks j2)), .val (.int (own_ks j3)), .val (.ref a1), .val (.int (0 : Int32)), .unset, .unset, .unset, .unset] [(.double (FP.i2d (own_ks j0))), (.int (0 : Int32)), (.ref a1)])) rfl (hb hby at_73) _ ?_
      show Steps p.tables e below (T1.setTop (mkF m 76 #[.val (.int p0), .val (.int p1), .val (.int p2), .val (.int p3), .val (.int p4), .val (.int (3 : Int32)), .val (.int (own_ks j0)), .val (.int (own_ks j1)), .val (.int (own_ks j2)), .val (.int (own_ks j3)), .val (.ref a1), .val (.int (0 : Int32)), .unset, .unset, .unset, .unset] [(.double (4643211215818981376 : UInt64)), (.double (FP.i2d (own_ks j0))), (.int (0 : Int32)), (.ref a1)])) _
      refine XS.ddivS X1.here hx rfl (hb hby at_76) rfl (own_nn ((FP.Core.notNaN_iff _).mp (own_wnn j0))) rfl ?_
      exact kk_)
    obtain ⟨cl0, B0, b0, z0, y0, H0, F0⟩ := V0
    obtain ⟨U0, u0, Y0, f0, W0, su0⟩ := stD X1 hx hZ e1 B0 (j := (0 : Int32)) (inb_of z0 (by decide)) (g := (mkF m 77 #[.val (.int p0), .val (.int p1), .val (.int p2), .val (.int p3), .val (.int p4), .val (.int (3 : Int32)), .val (.int (own_ks j0)), .val (.int (own_ks j1)), .val (.int (own_ks j2)), .val (.int (own_ks j3)), .val (.ref a1), .val (.int (0 : Int32)), .unset, .unset, .unset, .unset] [(.double (own_w j0)), (.int (0 : Int32)), (.ref a1)])) rfl rfl (hb hby at_77)
    have S44 : own_Go p e below s₁ G U0 (mkF m 78 #[.val (.int p0), .val (.int p1), .val (.int p2), .val (.int p3), .val (.int p4), .val (.int (3 : Int32)), .val (.int (own_ks j0)), .val (.int (own_ks j1)), .val (.int (own_ks j2)), .val (.int (own_ks j3)), .val (.ref a1), .val (.int (0 : Int32)), .unset, .unset, .unset, .unset] []) := fun tg_ kk_ => S43 tg_ (su0 tg_ kk_)
    have V1 : Arv Z u0 a1 k1 .double (3 : Int32) [.double (own_w j0), .double 0, .double 0] (.double 0) := Arv.set B0 b0 z0 y0 H0 F0 rfl W0 0 rfl (by simp)
    have M1 := Fr.snoc Y0 N0 ha
    have S45 : own_Go p e below s₁ G U0 (mkF m 104 #[.val (.int p0), .val (.int p1), .val (.int p2), .val (.int p3), .val (.int p4), .val (.int (3 : Int32)), .val (.int (own_ks j0)), .val (.int (own_ks j1)), .val (.int (own_ks j2)), .val (.int (own_ks j3)), .val (.ref a1), .val (.int ((0 : Int32) + ((own_ks j0) * (own_ks j0)))), .unset, .unset, .unset, .unset] [(.double (own_w j1)), (.int (1 : Int32)), (.ref a1)]) := fun tg_ kk_ => S44 tg_ (by
      refine XS.iload Y0.here hx rfl (hb hby at_78) rfl ?_
      show Steps p.tables e below (U0.setTop (mkF m 80 #[.val (.int p0), .val (.int p1), .val (.int p2), .val (.int p3), .val (.int p4), .val (.int (3 : Int32)), .val (.int (own_ks j0)), .val (.int (own_ks j1)), .val (.int (own_ks j2)), .val (.int (own_ks j3)), .val (.ref a1), .val (.int (0 : Int32)), .unset, .unset, .unset, .unset] [(.int (0 : Int32))])) _
      refine XS.iload Y0.here hx rfl (hb hby at_80) rfl ?_
      show Steps p.tables e below (U0.setTop (mkF m 82 #[.val (.int p0), .val (.int p1), .val (.int p2), .val (.int p3), .val (.int p4), .val (.int (3 : Int32)), .val (.int (own_ks j0)), .val (.int (own_ks j1)), .val (.int (own_ks j2)), .val (.int (own_ks j3)), .val (.ref a1), .val (.int (0 : Int32)), .unset, .unset, .unset, .unset] [(.int (own_ks j0)), (.int (0 : Int32))])) _
      refine XS.iload Y0.here hx rfl (hb hby at_82) rfl ?_
      show Steps p.tables e below (U0.setTop (mkF m 84 #[.val (.int p0), .val (.int p1), .val (.int p2), .val (.int p3), .val (.int p4), .val (.int (3 : Int32)), .val (.int (own_ks j0)), .val (.int (own_ks j1)), .val (.int (own_ks j2)), .val (.int (own_ks j3)), .val (.ref a1), .val (.int (0 : Int32)), .unset, .unset, .unset, .unset] [(.int (own_ks j0)), (.int (own_ks j0)), (.int (0 : Int32))])) _
      refine XS.imul Y0.here hx rfl (hb hby at_84) rfl ?_
      show Steps p.tables e below (U0.setTop (mkF m 85 #[.val (.int p0), .val (.int p1), .val (.int p2), .val (.int p3), .val (.int p4), .val (.int (3 : Int32)), .val (.int (own_ks j0)), .val (.int (own_ks j1)), .val (.int (own_ks j2)), .val (.int (own_ks j3)), .val (.ref a1), .val (.int (0 : Int32)), .unset, .unset, .unset, .unset] [(.int ((own_ks j0) * (own_ks j0))), (.int (0 : Int32))])) _
      refine XS.iadd Y0.here hx rfl (hb hby at_85) rfl ?_
      show Steps p.tables e below (U0.setTop (mkF m 86 #[.val (.int p0), .val (.int p1), .val (.int p2), .val (.int p3), .val (.int p4), .val (.int (3 : Int32)), .val (.int (own_ks j0)), .val (.int (own_ks j1)), .val (.int (own_ks j2)), .val (.int (own_ks j3)), .val (.ref a1), .val (.int (0 : Int32)), .unset, .unset, .unset, .unset] [(.int ((0 : Int32) + ((own_ks j0) * (own_ks j0))))])) _
      refine XS.istore Y0.here hx rfl (hb hby at_86) rfl (l' := #[.val (.int p0), .val (.int p1), .val (.int p2), .val (.int p3), .val (.int p4), .val (.int (3 : Int32)), .val (.int (own_ks j0)), .val (.int (own_ks j1)), .val (.int (own_ks j2)), .val (.int (own_ks j3)), .val (.ref a1), .val (.int ((0 : Int32) + ((own_ks j0) * (own_ks j0)))), .unset, .unset, .unset, .unset]) rfl ?_
      show Steps p.tables e below (U0.setTop (mkF m 88 #[.val (.int p0), .val (.int p1), .val (.int p2), .val (.int p3), .val (.int p4), .val (.int (3 : Int32)), .val (.int (own_ks j0)), .val (.int (own_ks j1)), .val (.int (own_ks j2)), .val (.int (own_ks j3)), .val (.ref a1), .val (.int ((0 : Int32) + ((own_ks j0) * (own_ks j0)))), .unset, .unset, .unset, .unset] [])) _
      refine XS.iload Y0.here hx rfl (hb hby at_88) rfl ?_
      show Steps p.tables e below (U0.setTop (mkF m 90 #[.val (.int p0), .val (.int p1), .val (.int p2), .val (.int p3), .val (.int p4), .val (.int (3 : Int32)), .val (.int (own_ks j0)), .val (.int (own_ks j1)), .val (.int (own_ks j2)), .val (.int (own_ks j3)), .val (.ref a1), .val (.int ((0 : Int32) + ((own_ks j0) * (own_ks j0)))), .unset, .unset, .unset, .unset] [(.int (3 : Int32))])) _
      refine XS.iconst Y0.here hx rfl (hb hby at_90) ?_
      show Steps p.tables e below (U0.setTop (mkF m 91 #[.val (.int p0), .val (.int p1), .val (.int p2), .val (.int p3), .val (.int p4), .val (.int (3 : Int32)), .val (.int (own_ks j0)), .val (.int (own_ks j1)), .val (.int (own_ks j2)), .val (.int (own_ks j3)), .val (.ref a1), .val (.int ((0 : Int32) + ((own_ks j0) * (own_ks j0)))), .unset, .unset, .unset, .unset] [(.int (1 : Int32)), (.int (3 : Int32))])) _
      refine XS.icmpNo Y0.here hx rfl (hb hby at_91) rfl (by decide) ?_
      show Steps p.tables e below (U0.setTop (mkF m 94 #[.val (.int p0), .val (.int p1), .val (.int p2), .val (.int p3), .val (.int p4), .val (.int (3 : Int32)), .val (.int (own_ks j0)), .val (.int (own_ks j1)), .val (.int (own_ks j2)), .val (.int (own_ks j3)), .val (.ref a1), .val (.int ((0 : Int32) + ((own_ks j0) * (own_ks j0)))), .unset, .unset, .unset, .unset] [])) _
      refine XS.aload Y0.here hx rfl (hb hby at_94) rfl rfl ?_
      show Steps p.tables e below (U0.setTop (mkF m 96 #[.val (.int p0), .val (.int p1), .val (.int p2), .val (.int p3), .val (.int p4), .val (.int (3 : Int32)), .val (.int (own_ks j0)), .val (.int (own_ks j1)), .val (.int (own_ks j2)), .val (.int (own_ks j3)), .val (.ref a1), .val (.int ((0 : Int32) + ((own_ks j0) * (own_ks j0)))), .unset, .unset, .unset, .unset] [(.ref a1)])) _
      refine XS.iconst Y0.here hx rfl (hb hby at_96) ?_
      show Steps p.tables e below (U0.setTop (mkF m 97 #[.val (.int p0), .val (.int p1), .val (.int p2), .val (.int p3), .val (.int p4), .val (.int (3 : Int32)), .val (.int (own_ks j0)), .val (.int (own_ks j1)), .val (.int (own_ks j2)), .val (.int (own_ks j3)), .val (.ref a1), .val (.int ((0 : Int32) + ((own_ks j0) * (own_ks j0)))), .unset, .unset, .unset, .unset] [(.int (1 : Int32)), (.ref a1)])) _
      refine XS.iload Y0.here hx rfl (hb hby at_97) rfl ?_
      show Steps p.tables e below (U0.setTop (mkF m 99 #[.val (.int p0), .val (.int p1), .val (.int p2), .val (.int p3), .val (.int p4), .val (.int (3 : Int32)), .val (.int (own_ks j0)), .val (.int (own_ks j1)), .val (.int (own_ks j2)), .val (.int (own_ks j3)), .val (.ref a1), .val (.int ((0 : Int32) + ((own_ks j0) * (own_ks j0)))), .unset, .unset, .unset, .unset] [(.int (own_ks j1)), (.int (1 : Int32)), (.ref a1)])) _
      refine XS.i2dS Y0.here hx rfl (hb hby at_99) rfl rfl ?_
      show Steps p.tables e below (U0.setTop (mkF m 100 #[.val (.int p0), .val (.int p1), .val (.int p2), .val (.int p3), .val (.int p4), .val (.int (3 : Int32)), .val (.int (own_ks j0)), .val (.int (own_ks j1)), .val (.int (own_ks j2)), .val (.int (own_ks j3)), .val (.ref a1), .val (.int ((0 : Int32) + ((own_ks j0) * (own_ks j0)))), .unset, .unset, .unset, .unset] [(.double (FP.i2d (own_ks j1))), (.int (1 : Int32)), (.ref a1)])) _
      refine Y0.ldc2DoubleC hx hown (mvT hZ (hw _ (List.mem_of_getElem? (i := 7) rfl))) (g := (mkF m 100 #[.val (.int p0), .val (.int p1), .val (.int p2), .val (.int p3), .val (.int p4), .val (.int (3 : Int32)), .val (.int (own_ks j0)), .val (.int (own_ks j1)), .val (.int (own_ks j2)), .val (.int (own_ks j3)), .val (.ref a1), .val (.int ((0 : Int32) + ((own_ks j0) * (own_ks j0)))), .unset, .unset, .unset, .unset] [(.double (FP.i2d (own_ks j1))), (.int (1 : Int32)), (.ref a1)])) rfl (hb hby at_100) _ ?_
      show Steps p.tables e below (U0.setTop (mkF m 103 #[.val (.int p0), .val (.int p1), .val (.int p2), .val (.int p3), .val (.int p4), .val (.int (3 : Int32)), .val (.int (own_ks j0)), .val (.int (own_ks j1)), .val (.int (own_ks j2)), .val (.int (own_ks j3)), .val (.ref a1), .val (.int ((0 : Int32) + ((own_ks j0) * (own_ks j0)))), .unset, .unset, .unset, .unset] [(.double (4643211215818981376 : UInt64)), (.double (FP.i2d (own_ks j1))), (.int (1 : Int32)), (.ref a1)])) _
      refine XS.ddivS Y0.here hx rfl (hb hby at_103) rfl (own_nn ((FP.Core.notNaN_iff _).mp (own_wnn j1))) rfl ?_
      exact kk_)
    obtain ⟨cl1, B1, b1, z1, y1, H1, F1⟩ := V1
    obtain ⟨U1, u1, Y1, f1, W1, su1⟩ := stD Y0 hx hZ f0 B1 (j := (1 : Int32)) (inb_of z1 (by decide)) (g := (mkF m 104 #[.val (.int p0), .val (.int p1), .val (.int p2), .val (.int p3), .val (.int p4), .val (.int (3 : Int32)), .val (.int (own_ks j0)), .val (.int (own_ks j1)), .val (.int (own_ks j2)), .val (.int (own_ks j3)), .val (.ref a1), .val (.int ((0 : Int32) + ((own_ks j0) * (own_ks j0)))), .unset, .unset, .unset, .unset] [(.double (own_w j1)), (.int (1 : Int32)), (.ref a1)])) rfl rfl (hb hby at_104)
    have S46 : own_Go p e below s₁ G U1 (mkF m 105 #[.val (.int p0), .val (.int p1), .val (.int p2), .val (.int p3), .val (.int p4), .val (.int (3 : Int32)), .val (.int (own_ks j0)), .val (.int (own_ks j1)), .val (.int (own_ks j2)), .val (.int (own_ks j3)), .val (.ref a1), .val (.int ((0 : Int32) + ((own_ks j0) * (own_ks j0)))), .unset, .unset, .unset, .unset] []) := fun tg_ kk_ => S45 tg_ (su1 tg_ kk_)
    have V2 : Arv Z u1 a1 k1 .double (3 : Int32) [.double (own_w j0), .double (own_w j1), .double 0] (.double 0) := Arv.set B1 b1 z1 y1 H1 F1 rfl W1 1 rfl (by simp)
    have M2 := Fr.snoc Y1 M1 ha
    have S47 : own_Go p e below s₁ G U1 (mkF m 131 #[.val (.int p0), .val (.int p1), .val (.int p2), .val (.int p3), .val (.int p4), .val (.int (3 : Int32)), .val (.int (own_ks j0)), .val (.int (own_ks j1)), .val (.int (own_ks j2)), .val (.int (own_ks j3)), .val (.ref a1), .val (.int (((0 : Int32) + ((own_ks j0) * (own_ks j0))) + ((own_ks j1) * (own_ks j1)))), .unset, .unset, .unset, .unset] [(.double (own_w j2)), (.int (2 : Int32)), (.ref a1)]) := fun tg_ kk_ => S46 tg_ (by
      refine XS.iload Y1.here hx rfl (hb hby at_105) rfl ?_
      show Steps p.tables e below (U1.setTop (mkF m 107 #[.val (.int p0), .val (.int p1), .val (.int p2), .val (.int p3), .val (.int p4), .val (.int (3 : Int32)), .val (.int (own_ks j0)), .val (.int (own_ks j1)), .val (.int (own_ks j2)), .val (.int (own_ks j3)), .val (.ref a1), .val (.int ((0 : Int32) + ((own_ks j0) * (own_ks j0)))), .unset, .unset, .unset, .unset] [(.int ((0 : Int32) + ((own_ks j0) * (own_ks j0))))])) _
      refine XS.iload Y1.here hx rfl (hb hby at_107) rfl ?_
      show Steps p.tables e below (U1.setTop (mkF m 109 #[.val (.int p0), .val (.int p1), .val (.int p2), .val (.int p3), .val (.int p4), .val (.int (3 : Int32)), .val (.int (own_ks j0)), .val (.int (own_ks j1)), .val (.int (own_ks j2)), .val (.int (own_ks j3)), .val (.ref a1), .val (.int ((0 : Int32) + ((own_ks j0) * (own_ks j0)))), .unset, .unset, .unset, .unset] [(.int (own_ks j1)), (.int ((0 : Int32) + ((own_ks j0) * (own_ks j0))))])) _
      refine XS.iload Y1.here hx rfl (hb hby at_109) rfl ?_
      show Steps p.tables e below (U1.setTop (mkF m 111 #[.val (.int p0), .val (.int p1), .val (.int p2), .val (.int p3), .val (.int p4), .val (.int (3 : Int32)), .val (.int (own_ks j0)), .val (.int (own_ks j1)), .val (.int (own_ks j2)), .val (.int (own_ks j3)), .val (.ref a1), .val (.int ((0 : Int32) + ((own_ks j0) * (own_ks j0)))), .unset, .unset, .unset, .unset] [(.int (own_ks j1)), (.int (own_ks j1)), (.int ((0 : Int32) + ((own_ks j0) * (own_ks j0))))])) _
      refine XS.imul Y1.here hx rfl (hb hby at_111) rfl ?_
      show Steps p.tables e below (U1.setTop (mkF m 112 #[.val (.int p0), .val (.int p1), .val (.int p2), .val (.int p3), .val (.int p4), .val (.int (3 : Int32)), .val (.int (own_ks j0)), .val (.int (own_ks j1)), .val (.int (own_ks j2)), .val (.int (own_ks j3)), .val (.ref a1), .val (.int ((0 : Int32) + ((own_ks j0) * (own_ks j0)))), .unset, .unset, .unset, .unset] [(.int ((own_ks j1) * (own_ks j1))), (.int ((0 : Int32) + ((own_ks j0) * (own_ks j0))))])) _
      refine XS.iadd Y1.here hx rfl (hb hby at_112) rfl ?_
      show Steps p.tables e below (U1.setTop (mkF m 113 #[.val (.int p0), .val (.int p1), .val (.int p2), .val (.int p3), .val (.int p4), .val (.int (3 : Int32)), .val (.int (own_ks j0)), .val (.int (own_ks j1)), .val (.int (own_ks j2)), .val (.int (own_ks j3)), .val (.ref a1), .val (.int ((0 : Int32) + ((own_ks j0) * (own_ks j0)))), .unset, .unset, .unset, .unset] [(.int (((0 : Int32) + ((own_ks j0) * (own_ks j0))) + ((own_ks j1) * (own_ks j1))))])) _
      refine XS.istore Y1.here hx rfl (hb hby at_113) rfl (l' := #[.val (.int p0), .val (.int p1), .val (.int p2), .val (.int p3), .val (.int p4), .val (.int (3 : Int32)), .val (.int (own_ks j0)), .val (.int (own_ks j1)), .val (.int (own_ks j2)), .val (.int (own_ks j3)), .val (.ref a1), .val (.int (((0 : Int32) + ((own_ks j0) * (own_ks j0))) + ((own_ks j1) * (own_ks j1)))), .unset, .unset, .unset, .unset]) rfl ?_
      show Steps p.tables e below (U1.setTop (mkF m 115 #[.val (.int p0), .val (.int p1), .val (.int p2), .val (.int p3), .val (.int p4), .val (.int (3 : Int32)), .val (.int (own_ks j0)), .val (.int (own_ks j1)), .val (.int (own_ks j2)), .val (.int (own_ks j3)), .val (.ref a1), .val (.int (((0 : Int32) + ((own_ks j0) * (own_ks j0))) + ((own_ks j1) * (own_ks j1)))), .unset, .unset, .unset, .unset] [])) _
      refine XS.iload Y1.here hx rfl (hb hby at_115) rfl ?_
      show Steps p.tables e below (U1.setTop (mkF m 117 #[.val (.int p0), .val (.int p1), .val (.int p2), .val (.int p3), .val (.int p4), .val (.int (3 : Int32)), .val (.int (own_ks j0)), .val (.int (own_ks j1)), .val (.int (own_ks j2)), .val (.int (own_ks j3)), .val (.ref a1), .val (.int (((0 : Int32) + ((own_ks j0) * (own_ks j0))) + ((own_ks j1) * (own_ks j1)))), .unset, .unset, .unset, .unset] [(.int (3 : Int32))])) _
      refine XS.iconst Y1.here hx rfl (hb hby at_117) ?_
      show Steps p.tables e below (U1.setTop (mkF m 118 #[.val (.int p0), .val (.int p1), .val (.int p2), .val (.int p3), .val (.int p4), .val (.int (3 : Int32)), .val (.int (own_ks j0)), .val (.int (own_ks j1)), .val (.int (own_ks j2)), .val (.int (own_ks j3)), .val (.ref a1), .val (.int (((0 : Int32) + ((own_ks j0) * (own_ks j0))) + ((own_ks j1) * (own_ks j1)))), .unset, .unset, .unset, .unset] [(.int (2 : Int32)), (.int (3 : Int32))])) _
      refine XS.icmpNo Y1.here hx rfl (hb hby at_118) rfl (by decide) ?_
      show Steps p.tables e below (U1.setTop (mkF m 121 #[.val (.int p0), .val (.int p1), .val (.int p2), .val (.int p3), .val (.int p4), .val (.int (3 : Int32)), .val (.int (own_ks j0)), .val (.int (own_ks j1)), .val (.int (own_ks j2)), .val (.int (own_ks j3)), .val (.ref a1), .val (.int (((0 : Int32) + ((own_ks j0) * (own_ks j0))) + ((own_ks j1) * (own_ks j1)))), .unset, .unset, .unset, .unset] [])) _
      refine XS.aload Y1.here hx rfl (hb hby at_121) rfl rfl ?_
      show Steps p.tables e below (U1.setTop (mkF m 123 #[.val (.int p0), .val (.int p1), .val (.int p2), .val (.int p3), .val (.int p4), .val (.int (3 : Int32)), .val (.int (own_ks j0)), .val (.int (own_ks j1)), .val (.int (own_ks j2)), .val (.int (own_ks j3)), .val (.ref a1), .val (.int (((0 : Int32) + ((own_ks j0) * (own_ks j0))) + ((own_ks j1) * (own_ks j1)))), .unset, .unset, .unset, .unset] [(.ref a1)])) _
      refine XS.iconst Y1.here hx rfl (hb hby at_123) ?_
      show Steps p.tables e below (U1.setTop (mkF m 124 #[.val (.int p0), .val (.int p1), .val (.int p2), .val (.int p3), .val (.int p4), .val (.int (3 : Int32)), .val (.int (own_ks j0)), .val (.int (own_ks j1)), .val (.int (own_ks j2)), .val (.int (own_ks j3)), .val (.ref a1), .val (.int (((0 : Int32) + ((own_ks j0) * (own_ks j0))) + ((own_ks j1) * (own_ks j1)))), .unset, .unset, .unset, .unset] [(.int (2 : Int32)), (.ref a1)])) _
      refine XS.iload Y1.here hx rfl (hb hby at_124) rfl ?_
      show Steps p.tables e below (U1.setTop (mkF m 126 #[.val (.int p0), .val (.int p1), .val (.int p2), .val (.int p3), .val (.int p4), .val (.int (3 : Int32)), .val (.int (own_ks j0)), .val (.int (own_ks j1)), .val (.int (own_ks j2)), .val (.int (own_ks j3)), .val (.ref a1), .val (.int (((0 : Int32) + ((own_ks j0) * (own_ks j0))) + ((own_ks j1) * (own_ks j1)))), .unset, .unset, .unset, .unset] [(.int (own_ks j2)), (.int (2 : Int32)), (.ref a1)])) _
      refine XS.i2dS Y1.here hx rfl (hb hby at_126) rfl rfl ?_
      show Steps p.tables e below (U1.setTop (mkF m 127 #[.val (.int p0), .val (.int p1), .val (.int p2), .val (.int p3), .val (.int p4), .val (.int (3 : Int32)), .val (.int (own_ks j0)), .val (.int (own_ks j1)), .val (.int (own_ks j2)), .val (.int (own_ks j3)), .val (.ref a1), .val (.int (((0 : Int32) + ((own_ks j0) * (own_ks j0))) + ((own_ks j1) * (own_ks j1)))), .unset, .unset, .unset, .unset] [(.double (FP.i2d (own_ks j2))), (.int (2 : Int32)), (.ref a1)])) _
      refine Y1.ldc2DoubleC hx hown (mvT hZ (hw _ (List.mem_of_getElem? (i := 7) rfl))) (g := (mkF m 127 #[.val (.int p0), .val (.int p1), .val (.int p2), .val (.int p3), .val (.int p4), .val (.int (3 : Int32)), .val (.int (own_ks j0)), .val (.int (own_ks j1)), .val (.int (own_ks j2)), .val (.int (own_ks j3)), .val (.ref a1), .val (.int (((0 : Int32) + ((own_ks j0) * (own_ks j0))) + ((own_ks j1) * (own_ks j1)))), .unset, .unset, .unset, .unset] [(.double (FP.i2d (own_ks j2))), (.int (2 : Int32)), (.ref a1)])) rfl (hb hby at_127) _ ?_
      show Steps p.tables e below (U1.setTop (mkF m 130 #[.val (.int p0), .val (.int p1), .val (.int p2), .val (.int p3), .val (.int p4), .val (.int (3 : Int32)), .val (.int (own_ks j0)), .val (.int (own_ks j1)), .val (.int (own_ks j2)), .val (.int (own_ks j3)), .val (.ref a1), .val (.int (((0 : Int32) + ((own_ks j0) * (own_ks j0))) + ((own_ks j1) * (own_ks j1)))), .unset, .unset, .unset, .unset] [(.double (4643211215818981376 : UInt64)), (.double (FP.i2d (own_ks j2))), (.int (2 : Int32)), (.ref a1)])) _
      refine XS.ddivS Y1.here hx rfl (hb hby at_130) rfl (own_nn ((FP.Core.notNaN_iff _).mp (own_wnn j2))) rfl ?_
      exact kk_)
    obtain ⟨cl2, B2, b2, z2, y2, H2, F2⟩ := V2
    obtain ⟨U2, u2, Y2, f2, W2, su2⟩ := stD Y1 hx hZ f1 B2 (j := (2 : Int32)) (inb_of z2 (by decide)) (g := (mkF m 131 #[.val (.int p0), .val (.int p1), .val (.int p2), .val (.int p3), .val (.int p4), .val (.int (3 : Int32)), .val (.int (own_ks j0)), .val (.int (own_ks j1)), .val (.int (own_ks j2)), .val (.int (own_ks j3)), .val (.ref a1), .val (.int (((0 : Int32) + ((own_ks j0) * (own_ks j0))) + ((own_ks j1) * (own_ks j1)))), .unset, .unset, .unset, .unset] [(.double (own_w j2)), (.int (2 : Int32)), (.ref a1)])) rfl rfl (hb hby at_131)
    have S48 : own_Go p e below s₁ G U2 (mkF m 132 #[.val (.int p0), .val (.int p1), .val (.int p2), .val (.int p3), .val (.int p4), .val (.int (3 : Int32)), .val (.int (own_ks j0)), .val (.int (own_ks j1)), .val (.int (own_ks j2)), .val (.int (own_ks j3)), .val (.ref a1), .val (.int (((0 : Int32) + ((own_ks j0) * (own_ks j0))) + ((own_ks j1) * (own_ks j1)))), .unset, .unset, .unset, .unset] []) := fun tg_ kk_ => S47 tg_ (su2 tg_ kk_)
    have V3 : Arv Z u2 a1 k1 .double (3 : Int32) [.double (own_w j0), .double (own_w j1), .double (own_w j2)] (.double 0) := Arv.set B2 b2 z2 y2 H2 F2 rfl W2 2 rfl (by simp)
    have M3 := Fr.snoc Y2 M2 ha
    have S49 : own_Go p e below s₁ G U2 (mkF m 169 #[.val (.int p0), .val (.int p1), .val (.int p2), .val (.int p3), .val (.int p4), .val (.int (3 : Int32)), .val (.int (own_ks j0)), .val (.int (own_ks j1)), .val (.int (own_ks j2)), .val (.int (own_ks j3)), .val (.ref a1), .val (.int ((((0 : Int32) + ((own_ks j0) * (own_ks j0))) + ((own_ks j1) * (own_ks j1))) + ((own_ks j2) * (own_ks j2)))), .unset, .unset, .unset, .unset] []) := fun tg_ kk_ => S48 tg_ (by
      refine XS.iload Y2.here hx rfl (hb hby at_132) rfl ?_
      show Steps p.tables e below (U2.setTop (mkF m 134 #[.val (.int p0), .val (.int p1), .val (.int p2), .val (.int p3), .val (.int p4), .val (.int (3 : Int32)), .val (.int (own_ks j0)), .val (.int (own_ks j1)), .val (.int (own_ks j2)), .val (.int (own_ks j3)), .val (.ref a1), .val (.int (((0 : Int32) + ((own_ks j0) * (own_ks j0))) + ((own_ks j1) * (own_ks j1)))), .unset, .unset, .unset, .unset] [(.int (((0 : Int32) + ((own_ks j0) * (own_ks j0))) + ((own_ks j1) * (own_ks j1))))])) _
      refine XS.iload Y2.here hx rfl (hb hby at_134) rfl ?_
      show Steps p.tables e below (U2.setTop (mkF m 136 #[.val (.int p0), .val (.int p1), .val (.int p2), .val (.int p3), .val (.int p4), .val (.int (3 : Int32)), .val (.int (own_ks j0)), .val (.int (own_ks j1)), .val (.int (own_ks j2)), .val (.int (own_ks j3)), .val (.ref a1), .val (.int (((0 : Int32) + ((own_ks j0) * (own_ks j0))) + ((own_ks j1) * (own_ks j1)))), .unset, .unset, .unset, .unset] [(.int (own_ks j2)), (.int (((0 : Int32) + ((own_ks j0) * (own_ks j0))) + ((own_ks j1) * (own_ks j1))))])) _
      refine XS.iload Y2.here hx rfl (hb hby at_136) rfl ?_
      show Steps p.tables e below (U2.setTop (mkF m 138 #[.val (.int p0), .val (.int p1), .val (.int p2), .val (.int p3), .val (.int p4), .val (.int (3 : Int32)), .val (.int (own_ks j0)), .val (.int (own_ks j1)), .val (.int (own_ks j2)), .val (.int (own_ks j3)), .val (.ref a1), .val (.int (((0 : Int32) + ((own_ks j0) * (own_ks j0))) + ((own_ks j1) * (own_ks j1)))), .unset, .unset, .unset, .unset] [(.int (own_ks j2)), (.int (own_ks j2)), (.int (((0 : Int32) + ((own_ks j0) * (own_ks j0))) + ((own_ks j1) * (own_ks j1))))])) _
      refine XS.imul Y2.here hx rfl (hb hby at_138) rfl ?_
      show Steps p.tables e below (U2.setTop (mkF m 139 #[.val (.int p0), .val (.int p1), .val (.int p2), .val (.int p3), .val (.int p4), .val (.int (3 : Int32)), .val (.int (own_ks j0)), .val (.int (own_ks j1)), .val (.int (own_ks j2)), .val (.int (own_ks j3)), .val (.ref a1), .val (.int (((0 : Int32) + ((own_ks j0) * (own_ks j0))) + ((own_ks j1) * (own_ks j1)))), .unset, .unset, .unset, .unset] [(.int ((own_ks j2) * (own_ks j2))), (.int (((0 : Int32) + ((own_ks j0) * (own_ks j0))) + ((own_ks j1) * (own_ks j1))))])) _
      refine XS.iadd Y2.here hx rfl (hb hby at_139) rfl ?_
      show Steps p.tables e below (U2.setTop (mkF m 140 #[.val (.int p0), .val (.int p1), .val (.int p2), .val (.int p3), .val (.int p4), .val (.int (3 : Int32)), .val (.int (own_ks j0)), .val (.int (own_ks j1)), .val (.int (own_ks j2)), .val (.int (own_ks j3)), .val (.ref a1), .val (.int (((0 : Int32) + ((own_ks j0) * (own_ks j0))) + ((own_ks j1) * (own_ks j1)))), .unset, .unset, .unset, .unset] [(.int ((((0 : Int32) + ((own_ks j0) * (own_ks j0))) + ((own_ks j1) * (own_ks j1))) + ((own_ks j2) * (own_ks j2))))])) _
      refine XS.istore Y2.here hx rfl (hb hby at_140) rfl (l' := #[.val (.int p0), .val (.int p1), .val (.int p2), .val (.int p3), .val (.int p4), .val (.int (3 : Int32)), .val (.int (own_ks j0)), .val (.int (own_ks j1)), .val (.int (own_ks j2)), .val (.int (own_ks j3)), .val (.ref a1), .val (.int ((((0 : Int32) + ((own_ks j0) * (own_ks j0))) + ((own_ks j1) * (own_ks j1))) + ((own_ks j2) * (own_ks j2)))), .unset, .unset, .unset, .unset]) rfl ?_
      show Steps p.tables e below (U2.setTop (mkF m 142 #[.val (.int p0), .val (.int p1), .val (.int p2), .val (.int p3), .val (.int p4), .val (.int (3 : Int32)), .val (.int (own_ks j0)), .val (.int (own_ks j1)), .val (.int (own_ks j2)), .val (.int (own_ks j3)), .val (.ref a1), .val (.int ((((0 : Int32) + ((own_ks j0) * (own_ks j0))) + ((own_ks j1) * (own_ks j1))) + ((own_ks j2) * (own_ks j2)))), .unset, .unset, .unset, .unset] [])) _
      refine XS.iload Y2.here hx rfl (hb hby at_142) rfl ?_
      show Steps p.tables e below (U2.setTop (mkF m 144 #[.val (.int p0), .val (.int p1), .val (.int p2), .val (.int p3), .val (.int p4), .val (.int (3 : Int32)), .val (.int (own_ks j0)), .val (.int (own_ks j1)), .val (.int (own_ks j2)), .val (.int (own_ks j3)), .val (.ref a1), .val (.int ((((0 : Int32) + ((own_ks j0) * (own_ks j0))) + ((own_ks j1) * (own_ks j1))) + ((own_ks j2) * (own_ks j2)))), .unset, .unset, .unset, .unset] [(.int (3 : Int32))])) _
      refine XS.iconst Y2.here hx rfl (hb hby at_144) ?_
      show Steps p.tables e below (U2.setTop (mkF m 145 #[.val (.int p0), .val (.int p1), .val (.int p2), .val (.int p3), .val (.int p4), .val (.int (3 : Int32)), .val (.int (own_ks j0)), .val (.int (own_ks j1)), .val (.int (own_ks j2)), .val (.int (own_ks j3)), .val (.ref a1), .val (.int ((((0 : Int32) + ((own_ks j0) * (own_ks j0))) + ((own_ks j1) * (own_ks j1))) + ((own_ks j2) * (own_ks j2)))), .unset, .unset, .unset, .unset] [(.int (3 : Int32)), (.int (3 : Int32))])) _
      refine XS.icmpYes Y2.here hx rfl (pc0 := 145) (pc' := 169) rfl (hb hby at_145) rfl (by decide) (by decide) (by decide) ?_
      exact kk_)
    have S50 : own_Go p e below s₁ G U2 (mkF m 171 #[.val (.int p0), .val (.int p1), .val (.int p2), .val (.int p3), .val (.int p4), .val (.int (3 : Int32)), .val (.int (own_ks j0)), .val (.int (own_ks j1)), .val (.int (own_ks j2)), .val (.int (own_ks j3)), .val (.ref a1), .val (.int ((((0 : Int32) + ((own_ks j0) * (own_ks j0))) + ((own_ks j1) * (own_ks j1))) + ((own_ks j2) * (own_ks j2)))), .unset, .unset, .unset, .unset] [(.ref a1)]) := fun tg_ kk_ => S49 tg_ (by
      refine XS.aload Y2.here hx rfl (hb hby at_169) rfl rfl ?_
      exact kk_)
    obtain ⟨tot, htot⟩ : ∃ z, z = (own_T (fun j => own_q ((fun j => [j0, j1, j2].getD j 0) j)) 3) := ⟨_, rfl⟩
    have hle : tot ≤ 262144 := by rw [htot]; exact Nat.le_trans (own_T_le (fun j => own_qle _) 3) (by decide)
    have hsum := own_sum (f := (fun j => [j0, j1, j2].getD j 0)) 3 (by decide)
    rw [← htot] at hsum
    have hs : ((((0 : Int32) + ((own_ks j0) * (own_ks j0))) + ((own_ks j1) * (own_ks j1))) + ((own_ks j2) * (own_ks j2))) = Int32.ofNat tot := by
      rw [htot]
      simp only [own_ksq, own_T, Int32.ofNat_add]
      rfl
    rw [hs] at S50
    have hi := own_i2d (n := tot) (by omega)
    have hzn : Jvm.Free.Fl.NoNaN64 (FP.ddiv FP.dconst1 (own_S (fun j => own_w ((fun j => [j0, j1, j2].getD j 0) j)) 3)) := by
      by_cases ht0 : tot = 0
      · rw [ht0] at hsum; rw [own_zero hsum]; exact own_nn (by decide +kernel)
      · exact (own_div ht0 (by omega) hsum hi).2
    have Zc : n0 ≤ u2.size := by
      refine Nat.le_trans Z0 (Nat.le_trans E1.1 ?_)
      simp only [W2.size, W1.size, W0.size]
      exact Nat.le_refl _
    obtain ⟨_, T51, h51, L51, X51, e51, hQ51, st51⟩ := own_callS Y2 hx hZ (y := (⟨"com/example/cladewave/cladewave/samplers/Resampling", "effectiveSampleSize", "([D)D"⟩ : MethodName)) hown (hw _ (List.mem_of_getElem? (i := 1) rfl)) (hw _ (List.mem_of_getElem? (i := 2) rfl)) (hw _ (List.mem_of_getElem? (i := 3) rfl)) (hw _ (List.mem_of_getElem? (i := 4) rfl)) (by decide) 0 (g := (mkF m 171 #[.val (.int p0), .val (.int p1), .val (.int p2), .val (.int p3), .val (.int p4), .val (.int (3 : Int32)), .val (.int (own_ks j0)), .val (.int (own_ks j1)), .val (.int (own_ks j2)), .val (.int (own_ks j3)), .val (.ref a1), .val (.int (Int32.ofNat tot)), .unset, .unset, .unset, .unset] [(.ref a1)])) rfl (by rw [hml]; rfl) [(.ref a1)] [] (rm1 l Z a0 hw [] a1 (fun j => [j0, j1, j2].getD j 0) 3 u2 n0 Zc (by decide) k1 [.double (own_w j0), .double (own_w j1), .double (own_w j2)] (.double 0) V3 (fun j hj => by match j, hj with | 0, _ => rfl | 1, _ => rfl | 2, _ => rfl) hzn) (lenOf pd1 rfl) rfl (by show 2 * 0 + _ ≤ _; exact Nat.le_of_eq rfl) (hb hby at_171) (by decide) (by decide) f2 (by decide) (by decide)
    obtain ⟨rfl, M51, rfl⟩ := hQ51
    have S52 : own_Go p e below s₁ G T51 (mkF m 174 #[.val (.int p0), .val (.int p1), .val (.int p2), .val (.int p3), .val (.int p4), .val (.int (3 : Int32)), .val (.int (own_ks j0)), .val (.int (own_ks j1)), .val (.int (own_ks j2)), .val (.int (own_ks j3)), .val (.ref a1), .val (.int (Int32.ofNat tot)), .unset, .unset, .unset, .unset] [(.double (FP.ddiv FP.dconst1 (own_S (fun j => own_w ((fun j => [j0, j1, j2].getD j 0) j)) 3)))]) := fun tg_ kk_ => S50 tg_ (st51 tg_ kk_)
    have MM := Fr.app M3 M51
    obtain ⟨r, hr0⟩ : ∃ z : UInt64, z = (FP.ddiv FP.dconst1 (own_S (fun j => own_w ((fun j => [j0, j1, j2].getD j 0) j)) 3)) := ⟨_, rfl⟩
    rw [← hr0] at S52
    have S53 : own_Go p e below s₁ G T51 (mkF m 178 #[.val (.int p0), .val (.int p1), .val (.int p2), .val (.int p3), .val (.int p4), .val (.int (3 : Int32)), .val (.int (own_ks j0)), .val (.int (own_ks j1)), .val (.int (own_ks j2)), .val (.int (own_ks j3)), .val (.ref a1), .val (.int (Int32.ofNat tot)), .val (.double r), .second, .unset, .unset] [(.int (Int32.ofNat tot))]) := fun tg_ kk_ => S52 tg_ (by
      refine XS.dstore X51.here hx rfl (hb hby at_174) rfl (l' := #[.val (.int p0), .val (.int p1), .val (.int p2), .val (.int p3), .val (.int p4), .val (.int (3 : Int32)), .val (.int (own_ks j0)), .val (.int (own_ks j1)), .val (.int (own_ks j2)), .val (.int (own_ks j3)), .val (.ref a1), .val (.int (Int32.ofNat tot)), .val (.double r), .second, .unset, .unset]) rfl ?_
      show Steps p.tables e below (T51.setTop (mkF m 176 #[.val (.int p0), .val (.int p1), .val (.int p2), .val (.int p3), .val (.int p4), .val (.int (3 : Int32)), .val (.int (own_ks j0)), .val (.int (own_ks j1)), .val (.int (own_ks j2)), .val (.int (own_ks j3)), .val (.ref a1), .val (.int (Int32.ofNat tot)), .val (.double r), .second, .unset, .unset] [])) _
      refine XS.iload X51.here hx rfl (hb hby at_176) rfl ?_
      exact kk_)
    by_cases ht0 : tot = 0
    · have hr1 : r = 9218868437227405312 := by
        rw [hr0]; rw [ht0] at hsum; rw [own_zero hsum]; decide +kernel
      subst ht0
      rw [show Int32.ofNat 0 = Int32.ofNat 0 from rfl] at S53
      have S54 : own_Go p e below s₁ G T51 (mkF m 207 #[.val (.int p0), .val (.int p1), .val (.int p2), .val (.int p3), .val (.int p4), .val (.int (3 : Int32)), .val (.int (own_ks j0)), .val (.int (own_ks j1)), .val (.int (own_ks j2)), .val (.int (own_ks j3)), .val (.ref a1), .val (.int (Int32.ofNat 0)), .val (.double r), .second, .unset, .unset] [(.int (1 : Int32))]) := fun tg_ kk_ => S53 tg_ (by
        refine XS.ifNo X51.here hx rfl (hb hby at_178) rfl (by decide) ?_
        show Steps p.tables e below (T51.setTop (mkF m 181 #[.val (.int p0), .val (.int p1), .val (.int p2), .val (.int p3), .val (.int p4), .val (.int (3 : Int32)), .val (.int (own_ks j0)), .val (.int (own_ks j1)), .val (.int (own_ks j2)), .val (.int (own_ks j3)), .val (.ref a1), .val (.int (Int32.ofNat 0)), .val (.double r), .second, .unset, .unset] [])) _
        refine XS.dload X51.here hx rfl (hb hby at_181) rfl ?_
        show Steps p.tables e below (T51.setTop (mkF m 183 #[.val (.int p0), .val (.int p1), .val (.int p2), .val (.int p3), .val (.int p4), .val (.int (3 : Int32)), .val (.int (own_ks j0)), .val (.int (own_ks j1)), .val (.int (own_ks j2)), .val (.int (own_ks j3)), .val (.ref a1), .val (.int (Int32.ofNat 0)), .val (.double r), .second, .unset, .unset] [(.double r)])) _
        refine X51.ldc2DoubleC hx hown (mvT hZ (hw _ (List.mem_of_getElem? (i := 5) rfl))) (g := (mkF m 183 #[.val (.int p0), .val (.int p1), .val (.int p2), .val (.int p3), .val (.int p4), .val (.int (3 : Int32)), .val (.int (own_ks j0)), .val (.int (own_ks j1)), .val (.int (own_ks j2)), .val (.int (own_ks j3)), .val (.ref a1), .val (.int (Int32.ofNat 0)), .val (.double r), .second, .unset, .unset] [(.double r)])) rfl (hb hby at_183) _ ?_
        show Steps p.tables e below (T51.setTop (mkF m 186 #[.val (.int p0), .val (.int p1), .val (.int p2), .val (.int p3), .val (.int p4), .val (.int (3 : Int32)), .val (.int (own_ks j0)), .val (.int (own_ks j1)), .val (.int (own_ks j2)), .val (.int (own_ks j3)), .val (.ref a1), .val (.int (Int32.ofNat 0)), .val (.double r), .second, .unset, .unset] [(.double (9214871658872686752 : UInt64)), (.double r)])) _
        refine XS.dcmpS X51.here hx rfl (hb hby at_186) rfl (by rw [hr1] <;> decide +kernel) ?_
        show Steps p.tables e below (T51.setTop (mkF m 187 #[.val (.int p0), .val (.int p1), .val (.int p2), .val (.int p3), .val (.int p4), .val (.int (3 : Int32)), .val (.int (own_ks j0)), .val (.int (own_ks j1)), .val (.int (own_ks j2)), .val (.int (own_ks j3)), .val (.ref a1), .val (.int (Int32.ofNat 0)), .val (.double r), .second, .unset, .unset] [(.int (1 : Int32))])) _
        refine XS.ifNo X51.here hx rfl (hb hby at_187) rfl (by decide) ?_
        show Steps p.tables e below (T51.setTop (mkF m 190 #[.val (.int p0), .val (.int p1), .val (.int p2), .val (.int p3), .val (.int p4), .val (.int (3 : Int32)), .val (.int (own_ks j0)), .val (.int (own_ks j1)), .val (.int (own_ks j2)), .val (.int (own_ks j3)), .val (.ref a1), .val (.int (Int32.ofNat 0)), .val (.double r), .second, .unset, .unset] [])) _
        refine XS.dload X51.here hx rfl (hb hby at_190) rfl ?_
        show Steps p.tables e below (T51.setTop (mkF m 192 #[.val (.int p0), .val (.int p1), .val (.int p2), .val (.int p3), .val (.int p4), .val (.int (3 : Int32)), .val (.int (own_ks j0)), .val (.int (own_ks j1)), .val (.int (own_ks j2)), .val (.int (own_ks j3)), .val (.ref a1), .val (.int (Int32.ofNat 0)), .val (.double r), .second, .unset, .unset] [(.double r)])) _
        refine X51.ldc2DoubleC hx hown (mvT hZ (hw _ (List.mem_of_getElem? (i := 6) rfl))) (g := (mkF m 192 #[.val (.int p0), .val (.int p1), .val (.int p2), .val (.int p3), .val (.int p4), .val (.int (3 : Int32)), .val (.int (own_ks j0)), .val (.int (own_ks j1)), .val (.int (own_ks j2)), .val (.int (own_ks j3)), .val (.ref a1), .val (.int (Int32.ofNat 0)), .val (.double r), .second, .unset, .unset] [(.double r)])) rfl (hb hby at_192) _ ?_
        show Steps p.tables e below (T51.setTop (mkF m 195 #[.val (.int p0), .val (.int p1), .val (.int p2), .val (.int p3), .val (.int p4), .val (.int (3 : Int32)), .val (.int (own_ks j0)), .val (.int (own_ks j1)), .val (.int (own_ks j2)), .val (.int (own_ks j3)), .val (.ref a1), .val (.int (Int32.ofNat 0)), .val (.double r), .second, .unset, .unset] [(.double (4611686018427387904 : UInt64)), (.double r)])) _
        refine XS.dmulS X51.here hx rfl (hb hby at_195) rfl (by rw [hr1]; exact own_nn (by decide +kernel)) rfl ?_
        show Steps p.tables e below (T51.setTop (mkF m 196 #[.val (.int p0), .val (.int p1), .val (.int p2), .val (.int p3), .val (.int p4), .val (.int (3 : Int32)), .val (.int (own_ks j0)), .val (.int (own_ks j1)), .val (.int (own_ks j2)), .val (.int (own_ks j3)), .val (.ref a1), .val (.int (Int32.ofNat 0)), .val (.double r), .second, .unset, .unset] [(.double (FP.dmul r (4611686018427387904 : UInt64)))])) _
        refine XS.dload X51.here hx rfl (hb hby at_196) rfl ?_
        show Steps p.tables e below (T51.setTop (mkF m 198 #[.val (.int p0), .val (.int p1), .val (.int p2), .val (.int p3), .val (.int p4), .val (.int (3 : Int32)), .val (.int (own_ks j0)), .val (.int (own_ks j1)), .val (.int (own_ks j2)), .val (.int (own_ks j3)), .val (.ref a1), .val (.int (Int32.ofNat 0)), .val (.double r), .second, .unset, .unset] [(.double r), (.double (FP.dmul r (4611686018427387904 : UInt64)))])) _
        refine XS.dcmpS X51.here hx rfl (hb hby at_198) rfl (by rw [hr1] <;> decide +kernel) ?_
        show Steps p.tables e below (T51.setTop (mkF m 199 #[.val (.int p0), .val (.int p1), .val (.int p2), .val (.int p3), .val (.int p4), .val (.int (3 : Int32)), .val (.int (own_ks j0)), .val (.int (own_ks j1)), .val (.int (own_ks j2)), .val (.int (own_ks j3)), .val (.ref a1), .val (.int (Int32.ofNat 0)), .val (.double r), .second, .unset, .unset] [(.int (0 : Int32))])) _
        refine XS.ifNo X51.here hx rfl (hb hby at_199) rfl (by decide) ?_
        show Steps p.tables e below (T51.setTop (mkF m 202 #[.val (.int p0), .val (.int p1), .val (.int p2), .val (.int p3), .val (.int p4), .val (.int (3 : Int32)), .val (.int (own_ks j0)), .val (.int (own_ks j1)), .val (.int (own_ks j2)), .val (.int (own_ks j3)), .val (.ref a1), .val (.int (Int32.ofNat 0)), .val (.double r), .second, .unset, .unset] [])) _
        refine XS.iconst X51.here hx rfl (hb hby at_202) ?_
        show Steps p.tables e below (T51.setTop (mkF m 203 #[.val (.int p0), .val (.int p1), .val (.int p2), .val (.int p3), .val (.int p4), .val (.int (3 : Int32)), .val (.int (own_ks j0)), .val (.int (own_ks j1)), .val (.int (own_ks j2)), .val (.int (own_ks j3)), .val (.ref a1), .val (.int (Int32.ofNat 0)), .val (.double r), .second, .unset, .unset] [(.int (1 : Int32))])) _
        refine XS.goto X51.here hx rfl (pc0 := 203) (pc' := 207) rfl (hb hby at_203) (by decide) (by decide) ?_
        exact kk_)
      obtain ⟨fs, hr, hrun, hended, hW, hsame⟩ := X51.leave (v := some (.int (1 : Int32))) (fun h => by rw [Bd.returns] at h; cases h)
      refine ⟨_, _, ?_, hrun, hended, _, _, rfl, ?_, ⟨_, rfl⟩, hW, hsame.mono (by decide) (by decide)⟩
      · rw [← hG]; exact S54 _ (retN X51 hx (t := .boolean) Bd.returns (by simp) (hb hby at_207) hr)
      · show Q0 Z p0 p1 p2 p3 p4 h0 n0 _ T51.heap _
        rw [e51]
        exact ⟨rfl, MM⟩
    · obtain ⟨hd1, hd2⟩ := own_div ht0 (by omega) hsum hi
      rw [← hr0] at hd1 hd2
      have hne : ¬ Int32.ofNat tot = 0 := fun q => ht0 (by have q2 := congrArg Int32.toInt q; rw [Int32.toInt_ofNat_of_lt (by omega)] at q2; exact Int.ofNat.inj q2)
      have S55 : own_Go p e below s₁ G T51 (mkF m 230 #[.val (.int p0), .val (.int p1), .val (.int p2), .val (.int p3), .val (.int p4), .val (.int (3 : Int32)), .val (.int (own_ks j0)), .val (.int (own_ks j1)), .val (.int (own_ks j2)), .val (.int (own_ks j3)), .val (.ref a1), .val (.int (Int32.ofNat tot)), .val (.double r), .second, .val (.double r), .second] [(.int (1 : Int32))]) := fun tg_ kk_ => S53 tg_ (by
        refine XS.ifYes X51.here hx rfl (pc0 := 178) (pc' := 208) rfl (hb hby at_178) rfl (XT.i0_ne_t hne) (by decide) (by decide) ?_
        show Steps p.tables e below (T51.setTop (mkF m 208 #[.val (.int p0), .val (.int p1), .val (.int p2), .val (.int p3), .val (.int p4), .val (.int (3 : Int32)), .val (.int (own_ks j0)), .val (.int (own_ks j1)), .val (.int (own_ks j2)), .val (.int (own_ks j3)), .val (.ref a1), .val (.int (Int32.ofNat tot)), .val (.double r), .second, .unset, .unset] [])) _
        refine X51.ldc2DoubleC hx hown (mvT hZ (hw _ (List.mem_of_getElem? (i := 8) rfl))) (g := (mkF m 208 #[.val (.int p0), .val (.int p1), .val (.int p2), .val (.int p3), .val (.int p4), .val (.int (3 : Int32)), .val (.int (own_ks j0)), .val (.int (own_ks j1)), .val (.int (own_ks j2)), .val (.int (own_ks j3)), .val (.ref a1), .val (.int (Int32.ofNat tot)), .val (.double r), .second, .unset, .unset] [])) rfl (hb hby at_208) _ ?_
        show Steps p.tables e below (T51.setTop (mkF m 211 #[.val (.int p0), .val (.int p1), .val (.int p2), .val (.int p3), .val (.int p4), .val (.int (3 : Int32)), .val (.int (own_ks j0)), .val (.int (own_ks j1)), .val (.int (own_ks j2)), .val (.int (own_ks j3)), .val (.ref a1), .val (.int (Int32.ofNat tot)), .val (.double r), .second, .unset, .unset] [(.double (4679240012837945344 : UInt64))])) _
        refine XS.iload X51.here hx rfl (hb hby at_211) rfl ?_
        show Steps p.tables e below (T51.setTop (mkF m 213 #[.val (.int p0), .val (.int p1), .val (.int p2), .val (.int p3), .val (.int p4), .val (.int (3 : Int32)), .val (.int (own_ks j0)), .val (.int (own_ks j1)), .val (.int (own_ks j2)), .val (.int (own_ks j3)), .val (.ref a1), .val (.int (Int32.ofNat tot)), .val (.double r), .second, .unset, .unset] [(.int (Int32.ofNat tot)), (.double (4679240012837945344 : UInt64))])) _
        refine XS.i2dS X51.here hx rfl (hb hby at_213) rfl rfl ?_
        show Steps p.tables e below (T51.setTop (mkF m 214 #[.val (.int p0), .val (.int p1), .val (.int p2), .val (.int p3), .val (.int p4), .val (.int (3 : Int32)), .val (.int (own_ks j0)), .val (.int (own_ks j1)), .val (.int (own_ks j2)), .val (.int (own_ks j3)), .val (.ref a1), .val (.int (Int32.ofNat tot)), .val (.double r), .second, .unset, .unset] [(.double (FP.i2d (Int32.ofNat tot))), (.double (4679240012837945344 : UInt64))])) _
        refine XS.ddivS X51.here hx rfl (hb hby at_214) rfl (by rw [← hd1]; exact hd2) hd1.symm ?_
        show Steps p.tables e below (T51.setTop (mkF m 215 #[.val (.int p0), .val (.int p1), .val (.int p2), .val (.int p3), .val (.int p4), .val (.int (3 : Int32)), .val (.int (own_ks j0)), .val (.int (own_ks j1)), .val (.int (own_ks j2)), .val (.int (own_ks j3)), .val (.ref a1), .val (.int (Int32.ofNat tot)), .val (.double r), .second, .unset, .unset] [(.double r)])) _
        refine XS.dstore X51.here hx rfl (hb hby at_215) rfl (l' := #[.val (.int p0), .val (.int p1), .val (.int p2), .val (.int p3), .val (.int p4), .val (.int (3 : Int32)), .val (.int (own_ks j0)), .val (.int (own_ks j1)), .val (.int (own_ks j2)), .val (.int (own_ks j3)), .val (.ref a1), .val (.int (Int32.ofNat tot)), .val (.double r), .second, .val (.double r), .second]) rfl ?_
        show Steps p.tables e below (T51.setTop (mkF m 217 #[.val (.int p0), .val (.int p1), .val (.int p2), .val (.int p3), .val (.int p4), .val (.int (3 : Int32)), .val (.int (own_ks j0)), .val (.int (own_ks j1)), .val (.int (own_ks j2)), .val (.int (own_ks j3)), .val (.ref a1), .val (.int (Int32.ofNat tot)), .val (.double r), .second, .val (.double r), .second] [])) _
        refine XS.dload X51.here hx rfl (hb hby at_217) rfl ?_
        show Steps p.tables e below (T51.setTop (mkF m 219 #[.val (.int p0), .val (.int p1), .val (.int p2), .val (.int p3), .val (.int p4), .val (.int (3 : Int32)), .val (.int (own_ks j0)), .val (.int (own_ks j1)), .val (.int (own_ks j2)), .val (.int (own_ks j3)), .val (.ref a1), .val (.int (Int32.ofNat tot)), .val (.double r), .second, .val (.double r), .second] [(.double r)])) _
        refine XS.dload X51.here hx rfl (hb hby at_219) rfl ?_
        show Steps p.tables e below (T51.setTop (mkF m 221 #[.val (.int p0), .val (.int p1), .val (.int p2), .val (.int p3), .val (.int p4), .val (.int (3 : Int32)), .val (.int (own_ks j0)), .val (.int (own_ks j1)), .val (.int (own_ks j2)), .val (.int (own_ks j3)), .val (.ref a1), .val (.int (Int32.ofNat tot)), .val (.double r), .second, .val (.double r), .second] [(.double r), (.double r)])) _
        refine XS.dcmpS X51.here hx rfl (hb hby at_221) rfl (dcmpV_self hd2 _) ?_
        show Steps p.tables e below (T51.setTop (mkF m 222 #[.val (.int p0), .val (.int p1), .val (.int p2), .val (.int p3), .val (.int p4), .val (.int (3 : Int32)), .val (.int (own_ks j0)), .val (.int (own_ks j1)), .val (.int (own_ks j2)), .val (.int (own_ks j3)), .val (.ref a1), .val (.int (Int32.ofNat tot)), .val (.double r), .second, .val (.double r), .second] [(.int (0 : Int32))])) _
        refine XS.ifNo X51.here hx rfl (hb hby at_222) rfl (by decide) ?_
        show Steps p.tables e below (T51.setTop (mkF m 225 #[.val (.int p0), .val (.int p1), .val (.int p2), .val (.int p3), .val (.int p4), .val (.int (3 : Int32)), .val (.int (own_ks j0)), .val (.int (own_ks j1)), .val (.int (own_ks j2)), .val (.int (own_ks j3)), .val (.ref a1), .val (.int (Int32.ofNat tot)), .val (.double r), .second, .val (.double r), .second] [])) _
        refine XS.iconst X51.here hx rfl (hb hby at_225) ?_
        show Steps p.tables e below (T51.setTop (mkF m 226 #[.val (.int p0), .val (.int p1), .val (.int p2), .val (.int p3), .val (.int p4), .val (.int (3 : Int32)), .val (.int (own_ks j0)), .val (.int (own_ks j1)), .val (.int (own_ks j2)), .val (.int (own_ks j3)), .val (.ref a1), .val (.int (Int32.ofNat tot)), .val (.double r), .second, .val (.double r), .second] [(.int (1 : Int32))])) _
        refine XS.goto X51.here hx rfl (pc0 := 226) (pc' := 230) rfl (hb hby at_226) (by decide) (by decide) ?_
        exact kk_)
      obtain ⟨fs, hr, hrun, hended, hW, hsame⟩ := X51.leave (v := some (.int (1 : Int32))) (fun h => by rw [Bd.returns] at h; cases h)
      refine ⟨_, _, ?_, hrun, hended, _, _, rfl, ?_, ⟨_, rfl⟩, hW, hsame.mono (by decide) (by decide)⟩
      · rw [← hG]; exact S55 _ (retN X51 hx (t := .boolean) Bd.returns (by simp) (hb hby at_230) hr)
      · show Q0 Z p0 p1 p2 p3 p4 h0 n0 _ T51.heap _
        rw [e51]
        exact ⟨rfl, MM⟩
  · have _ := hn
    rw [hn] at S5
    obtain ⟨T1, h1, k1, X1, e1, E1, A1, st1⟩ := newP X0 hx hZ (hw _ (List.mem_of_getElem? (i := 0) rfl)) e0 (g := (mkF m 55 #[.val (.int p0), .val (.int p1), .val (.int p2), .val (.int p3), .val (.int p4), .val (.int (4 : Int32)), .val (.int (own_ks j0)), .val (.int (own_ks j1)), .val (.int (own_ks j2)), .val (.int (own_ks j3)), .unset, .unset, .unset, .unset, .unset, .unset] [(.int (4 : Int32))])) rfl (hb hby at_55) rfl (by decide) (cap := 4) (by decide) (by decide) (by decide) (by decide)
    have S56 : own_Go p e below s₁ G T1 (mkF m 57 #[.val (.int p0), .val (.int p1), .val (.int p2), .val (.int p3), .val (.int p4), .val (.int (4 : Int32)), .val (.int (own_ks j0)), .val (.int (own_ks j1)), .val (.int (own_ks j2)), .val (.int (own_ks j3)), .unset, .unset, .unset, .unset, .unset, .unset] [(.ref h0.size)]) := fun tg_ kk_ => S5 tg_ (st1 tg_ kk_)
    obtain ⟨a1, g1⟩ : ∃ z, z = h0.size := ⟨_, rfl⟩
    rw [← g1] at S56
    rw [← g1] at A1
    have ha : n0 ≤ a1 := Nat.le_trans Z0 (Nat.le_of_eq g1.symm)
    have V0 : Arv Z h1 a1 k1 .double (4 : Int32) [.double 0, .double 0, .double 0, .double 0] (.double 0) := (Arv.new A1 (by decide)).pad (pad_rep [] _ 4)
    have M0 : Fr n0 [] := N0
    have S57 : own_Go p e below s₁ G T1 (mkF m 77 #[.val (.int p0), .val (.int p1), .val (.int p2), .val (.int p3), .val (.int p4), .val (.int (4 : Int32)), .val (.int (own_ks j0)), .val (.int (own_ks j1)), .val (.int (own_ks j2)), .val (.int (own_ks j3)), .val (.ref a1), .val (.int (0 : Int32)), .unset, .unset, .unset, .unset] [(.double (own_w j0)), (.int (0 : Int32)), (.ref a1)]) := fun tg_ kk_ => S56 tg_ (by
      refine XS.astore X1.here hx rfl (hb hby at_57) rfl rfl (l' := #[.val (.int p0), .val (.int p1), .val (.int p2), .val (.int p3), .val (.int p4), .val (.int (4 : Int32)), .val (.int (own_ks j0)), .val (.int (own_ks j1)), .val (.int (own_ks j2)), .val (.int (own_ks j3)), .val (.ref a1), .unset, .unset, .unset, .unset, .unset]) rfl ?_
      show Steps p.tables e below (T1.setTop (mkF m 59 #[.val (.int p0), .val (.int p1), .val (.int p2), .val (.int p3), .val (.int p4), .val (.int (4 : Int32)), .val (.int (own_ks j0)), .val (.int (own_ks j1)), .val (.int (own_ks j2)), .val (.int (own_ks j3)), .val (.ref a1), .unset, .unset, .unset, .unset, .unset] [])) _
      refine XS.iconst X1.here hx rfl (hb hby at_59) ?_
      show Steps p.tables e below (T1.setTop (mkF m 60 #[.val (.int p0), .val (.int p1), .val (.int p2), .val (.int p3), .val (.int p4), .val (.int (4 : Int32)), .val (.int (own_ks j0)), .val (.int (own_ks j1)), .val (.int (own_ks j2)), .val (.int (own_ks j3)), .val (.ref a1), .unset, .unset, .unset, .unset, .unset] [(.int (0 : Int32))])) _
      refine XS.istore X1.here hx rfl (hb hby at_60) rfl (l' := #[.val (.int p0), .val (.int p1), .val (.int p2), .val (.int p3), .val (.int p4), .val (.int (4 : Int32)), .val (.int (own_ks j0)), .val (.int (own_ks j1)), .val (.int (own_ks j2)), .val (.int (own_ks j3)), .val (.ref a1), .val (.int (0 : Int32)), .unset, .unset, .unset, .unset]) rfl ?_
      show Steps p.tables e below (T1.setTop (mkF m 62 #[.val (.int p0), .val (.int p1), .val (.int p2), .val (.int p3), .val (.int p4), .val (.int (4 : Int32)), .val (.int (own_ks j0)), .val (.int (own_ks j1)), .val (.int (own_ks j2)), .val (.int (own_ks j3)), .val (.ref a1), .val (.int (0 : Int32)), .unset, .unset, .unset, .unset] [])) _
      refine XS.iload X1.here hx rfl (hb hby at_62) rfl ?_
      show Steps p.tables e below (T1.setTop (mkF m 64 #[.val (.int p0), .val (.int p1), .val (.int p2), .val (.int p3), .val (.int p4), .val (.int (4 : Int32)), .val (.int (own_ks j0)), .val (.int (own_ks j1)), .val (.int (own_ks j2)), .val (.int (own_ks j3)), .val (.ref a1), .val (.int (0 : Int32)), .unset, .unset, .unset, .unset] [(.int (4 : Int32))])) _
      refine XS.ifNo X1.here hx rfl (hb hby at_64) rfl (by decide) ?_
      show Steps p.tables e below (T1.setTop (mkF m 67 #[.val (.int p0), .val (.int p1), .val (.int p2), .val (.int p3), .val (.int p4), .val (.int (4 : Int32)), .val (.int (own_ks j0)), .val (.int (own_ks j1)), .val (.int (own_ks j2)), .val (.int (own_ks j3)), .val (.ref a1), .val (.int (0 : Int32)), .unset, .unset, .unset, .unset] [])) _
      refine XS.aload X1.here hx rfl (hb hby at_67) rfl rfl ?_
      show Steps p.tables e below (T1.setTop (mkF m 69 #[.val (.int p0), .val (.int p1), .val (.int p2), .val (.int p3), .val (.int p4), .val (.int (4 : Int32)), .val (.int (own_ks j0)), .val (.int (own_ks j1)), .val (.int (own_ks j2)), .val (.int (own_ks j3)), .val (.ref a1), .val (.int (0 : Int32)), .unset, .unset, .unset, .unset] [(.ref a1)])) _
      refine XS.iconst X1.here hx rfl (hb hby at_69) ?_
      show Steps p.tables e below (T1.setTop (mkF m 70 #[.val (.int p0), .val (.int p1), .val (.int p2), .val (.int p3), .val (.int p4), .val (.int (4 : Int32)), .val (.int (own_ks j0)), .val (.int (own_ks j1)), .val (.int (own_ks j2)), .val (.int (own_ks j3)), .val (.ref a1), .val (.int (0 : Int32)), .unset, .unset, .unset, .unset] [(.int (0 : Int32)), (.ref a1)])) _
      refine XS.iload X1.here hx rfl (hb hby at_70) rfl ?_
      show Steps p.tables e below (T1.setTop (mkF m 72 #[.val (.int p0), .val (.int p1), .val (.int p2), .val (.int p3), .val (.int p4), .val (.int (4 : Int32)), .val (.int (own_ks j0)), .val (.int (own_ks j1)), .val (.int (own_ks j2)), .val (.int (own_ks j3)), .val (.ref a1), .val (.int (0 : Int32)), .unset, .unset, .unset, .unset] [(.int (own_ks j0)), (.int (0 : Int32)), (.ref a1)])) _
      refine XS.i2dS X1.here hx rfl (hb hby at_72) rfl rfl ?_
      show Steps p.tables e below (T1.setTop (mkF m 73 #[.val (.int p0), .val (.int p1), .val (.int p2), .val (.int p3), .val (.int p4), .val (.int (4 : Int32)), .val (.int (own_ks j0)), .val (.int (own_ks j1)), .val (.int (own_ks j2)), .val (.int (own_ks j3)), .val (.ref a1), .val (.int (0 : Int32)), .unset, .unset, .unset, .unset] [(.double (FP.i2d (own_ks j0))), (.int (0 : Int32)), (.ref a1)])) _
      refine X1.ldc2DoubleC hx hown (mvT hZ (hw _ (List.mem_of_getElem? (i := 7) rfl))) (g := (mkF m 73 #[.val (.int p0), .val (.int p1), .val (.int p2), .val (.int p3), .val (.int p4), .val (.int (4 : Int32)), .val (.int (own_ks j0)), .val (.int (own_ks j1)), .val (.int (own_ks j2)), .val (.int (own_ks j3)), .val (.ref a1), .val (.int (0 : Int32)), .unset, .unset, .unset, .unset] [(.double (FP.i2d (own_ks j0))), (.int (0 : Int32)), (.ref a1)])) rfl (hb hby at_73) _ ?_
      show Steps p.tables e below (T1.setTop (mkF m 76 #[.val (.int p0), .val (.int p1), .val (.int p2), .val (.int p3), .val (.int p4), .val (.int (4 : Int32)), .val (.int (own_ks j0)), .val (.int (own_ks j1)), .val (.int (own_ks j2)), .val (.int (own_ks j3)), .val (.ref a1), .val (.int (0 : Int32)), .unset, .unset, .unset, .unset] [(.double (4643211215818981376 : UInt64)), (.double (FP.i2d (own_ks j0))), (.int (0 : Int32)), (.ref a1)])) _
      refine XS.ddivS X1.here hx rfl (hb hby at_76) rfl (own_nn ((FP.Core.notNaN_iff _).mp (own_wnn j0))) rfl ?_
      exact kk_)
    obtain ⟨cl0, B0, b0, z0, y0, H0, F0⟩ := V0
    obtain ⟨U0, u0, Y0, f0, W0, su0⟩ := stD X1 hx hZ e1 B0 (j := (0 : Int32)) (inb_of z0 (by decide)) (g := (mkF m 77 #[.val (.int p0), .val (.int p1), .val (.int p2), .val (.int p3), .val (.int p4), .val (.int (4 : Int32)), .val (.int (own_ks j0)), .val (.int (own_ks j1)), .val (.int (own_ks j2)), .val (.int (own_ks j3)), .val (.ref a1), .val (.int (0 : Int32)), .unset, .unset, .unset, .unset] [(.double (own_w j0)), (.int (0 : Int32)), (.ref a1)])) rfl rfl (hb hby at_77)
    have S58 : own_Go p e below s₁ G U0 (mkF m 78 #[.val (.int p0), .val (.int p1), .val (.int p2), .val (.int p3), .val (.int p4), .val (.int (4 : Int32)), .val (.int (own_ks j0)), .val (.int (own_ks j1)), .val (.int (own_ks j2)), .val (.int (own_ks j3)), .val (.ref a1), .val (.int (0 : Int32)), .unset, .unset, .unset, .unset] []) := fun tg_ kk_ => S57 tg_ (su0 tg_ kk_)
    have V1 : Arv Z u0 a1 k1 .double (4 : Int32) [.double (own_w j0), .double 0, .double 0, .double 0] (.double 0) := Arv.set B0 b0 z0 y0 H0 F0 rfl W0 0 rfl (by simp)
    have M1 := Fr.snoc Y0 N0 ha
    have S59 : own_Go p e below s₁ G U0 (mkF m 104 #[.val (.int p0), .val (.int p1), .val (.int p2), .val (.int p3), .val (.int p4), .val (.int (4 : Int32)), .val (.int (own_ks j0)), .val (.int (own_ks j1)), .val (.int (own_ks j2)), .val (.int (own_ks j3)), .val (.ref a1), .val (.int ((0 : Int32) + ((own_ks j0) * (own_ks j0)))), .unset, .unset, .unset, .unset] [(.double (own_w j1)), (.int (1 : Int32)), (.ref a1)]) := fun tg_ kk_ => S58 tg_ (by
      refine XS.iload Y0.here hx rfl (hb hby at_78) rfl ?_
      show Steps p.tables e below (U0.setTop (mkF m 80 #[.val (.int p0), .val (.int p1), .val (.int p2), .val (.int p3), .val (.int p4), .val (.int (4 : Int32)), .val (.int (own_ks j0)), .val (.int (own_ks j1)), .val (.int (own_ks j2)), .val (.int (own_ks j3)), .val (.ref a1), .val (.int (0 : Int32)), .unset, .unset, .unset, .unset] [(.int (0 : Int32))])) _
      refine XS.iload Y0.here hx rfl (hb hby at_80) rfl ?_
      show Steps p.tables e below (U0.setTop (mkF m 82 #[.val (.int p0), .val (.int p1), .val (.int p2), .val (.int p3), .val (.int p4), .val (.int (4 : Int32)), .val (.int (own_ks j0)), .val (.int (own_ks j1)), .val (.int (own_ks j2)), .val (.int (own_ks j3)), .val (.ref a1), .val (.int (0 : Int32)), .unset, .unset, .unset, .unset] [(.int (own_ks j0)), (.int (0 : Int32))])) _
      refine XS.iload Y0.here hx rfl (hb hby at_82) rfl ?_
      show Steps p.tables e below (U0.setTop (mkF m 84 #[.val (.int p0), .val (.int p1), .val (.int p2), .val (.int p3), .val (.int p4), .val (.int (4 : Int32)), .val (.int (own_ks j0)), .val (.int (own_ks j1)), .val (.int (own_ks j2)), .val (.int (own_ks j3)), .val (.ref a1), .val (.int (0 : Int32)), .unset, .unset, .unset, .unset] [(.int (own_ks j0)), (.int (own_ks j0)), (.int (0 : Int32))])) _
      refine XS.imul Y0.here hx rfl (hb hby at_84) rfl ?_
      show Steps p.tables e below (U0.setTop (mkF m 85 #[.val (.int p0), .val (.int p1), .val (.int p2), .val (.int p3), .val (.int p4), .val (.int (4 : Int32)), .val (.int (own_ks j0)), .val (.int (own_ks j1)), .val (.int (own_ks j2)), .val (.int (own_ks j3)), .val (.ref a1), .val (.int (0 : Int32)), .unset, .unset, .unset, .unset] [(.int ((own_ks j0) * (own_ks j0))), (.int (0 : Int32))])) _
      refine XS.iadd Y0.here hx rfl (hb hby at_85) rfl ?_
      show Steps p.tables e below (U0.setTop (mkF m 86 #[.val (.int p0), .val (.int p1), .val (.int p2), .val (.int p3), .val (.int p4), .val (.int (4 : Int32)), .val (.int (own_ks j0)), .val (.int (own_ks j1)), .val (.int (own_ks j2)), .val (.int (own_ks j3)), .val (.ref a1), .val (.int (0 : Int32)), .unset, .unset, .unset, .unset] [(.int ((0 : Int32) + ((own_ks j0) * (own_ks j0))))])) _
      refine XS.istore Y0.here hx rfl (hb hby at_86) rfl (l' := #[.val (.int p0), .val (.int p1), .val (.int p2), .val (.int p3), .val (.int p4), .val (.int (4 : Int32)), .val (.int (own_ks j0)), .val (.int (own_ks j1)), .val (.int (own_ks j2)), .val (.int (own_ks j3)), .val (.ref a1), .val (.int ((0 : Int32) + ((own_ks j0) * (own_ks j0)))), .unset, .unset, .unset, .unset]) rfl ?_
      show Steps p.tables e below (U0.setTop (mkF m 88 #[.val (.int p0), .val (.int p1), .val (.int p2), .val (.int p3), .val (.int p4), .val (.int (4 : Int32)), .val (.int (own_ks j0)), .val (.int (own_ks j1)), .val (.int (own_ks j2)), .val (.int (own_ks j3)), .val (.ref a1), .val (.int ((0 : Int32) + ((own_ks j0) * (own_ks j0)))), .unset, .unset, .unset, .unset] [])) _
      refine XS.iload Y0.here hx rfl (hb hby at_88) rfl ?_
      show Steps p.tables e below (U0.setTop (mkF m 90 #[.val (.int p0), .val (.int p1), .val (.int p2), .val (.int p3), .val (.int p4), .val (.int (4 : Int32)), .val (.int (own_ks j0)), .val (.int (own_ks j1)), .val (.int (own_ks j2)), .val (.int (own_ks j3)), .val (.ref a1), .val (.int ((0 : Int32) + ((own_ks j0) * (own_ks j0)))), .unset, .unset, .unset, .unset] [(.int (4 : Int32))])) _
      refine XS.iconst Y0.here hx rfl (hb hby at_90) ?_
      show Steps p.tables e below (U0.setTop (mkF m 91 #[.val (.int p0), .val (.int p1), .val (.int p2), .val (.int p3), .val (.int p4), .val (.int (4 : Int32)), .val (.int (own_ks j0)), .val (.int (own_ks j1)), .val (.int (own_ks j2)), .val (.int (own_ks j3)), .val (.ref a1), .val (.int ((0 : Int32) + ((own_ks j0) * (own_ks j0)))), .unset, .unset, .unset, .unset] [(.int (1 : Int32)), (.int (4 : Int32))])) _
      refine XS.icmpNo Y0.here hx rfl (hb hby at_91) rfl (by decide) ?_
      show Steps p.tables e below (U0.setTop (mkF m 94 #[.val (.int p0), .val (.int p1), .val (.int p2), .val (.int p3), .val (.int p4), .val (.int (4 : Int32)), .val (.int (own_ks j0)), .val (.int (own_ks j1)), .val (.int (own_ks j2)), .val (.int (own_ks j3)), .val (.ref a1), .val (.int ((0 : Int32) + ((own_ks j0) * (own_ks j0)))), .unset, .unset, .unset, .unset] [])) _
      refine XS.aload Y0.here hx rfl (hb hby at_94) rfl rfl ?_
      show Steps p.tables e below (U0.setTop (mkF m 96 #[.val (.int p0), .val (.int p1), .val (.int p2), .val (.int p3), .val (.int p4), .val (.int (4 : Int32)), .val (.int (own_ks j0)), .val (.int (own_ks j1)), .val (.int (own_ks j2)), .val (.int (own_ks j3)), .val (.ref a1), .val (.int ((0 : Int32) + ((own_ks j0) * (own_ks j0)))), .unset, .unset, .unset, .unset] [(.ref a1)])) _
      refine XS.iconst Y0.here hx rfl (hb hby at_96) ?_
      show Steps p.tables e below (U0.setTop (mkF m 97 #[.val (.int p0), .val (.int p1), .val (.int p2), .val (.int p3), .val (.int p4), .val (.int (4 : Int32)), .val (.int (own_ks j0)), .val (.int (own_ks j1)), .val (.int (own_ks j2)), .val (.int (own_ks j3)), .val (.ref a1), .val (.int ((0 : Int32) + ((own_ks j0) * (own_ks j0)))), .unset, .unset, .unset, .unset] [(.int (1 : Int32)), (.ref a1)])) _
      refine XS.iload Y0.here hx rfl (hb hby at_97) rfl ?_
      show Steps p.tables e below (U0.setTop (mkF m 99 #[.val (.int p0), .val (.int p1), .val (.int p2), .val (.int p3), .val (.int p4), .val (.int (4 : Int32)), .val (.int (own_ks j0)), .val (.int (own_ks j1)), .val (.int (own_ks j2)), .val (.int (own_ks j3)), .val (.ref a1), .val (.int ((0 : Int32) + ((own_ks j0) * (own_ks j0)))), .unset, .unset, .unset, .unset] [(.int (own_ks j1)), (.int (1 : Int32)), (.ref a1)])) _
      refine XS.i2dS Y0.here hx rfl (hb hby at_99) rfl rfl ?_
      show Steps p.tables e below (U0.setTop (mkF m 100 #[.val (.int p0), .val (.int p1), .val (.int p2), .val (.int p3), .val (.int p4), .val (.int (4 : Int32)), .val (.int (own_ks j0)), .val (.int (own_ks j1)), .val (.int (own_ks j2)), .val (.int (own_ks j3)), .val (.ref a1), .val (.int ((0 : Int32) + ((own_ks j0) * (own_ks j0)))), .unset, .unset, .unset, .unset] [(.double (FP.i2d (own_ks j1))), (.int (1 : Int32)), (.ref a1)])) _
      refine Y0.ldc2DoubleC hx hown (mvT hZ (hw _ (List.mem_of_getElem? (i := 7) rfl))) (g := (mkF m 100 #[.val (.int p0), .val (.int p1), .val (.int p2), .val (.int p3), .val (.int p4), .val (.int (4 : Int32)), .val (.int (own_ks j0)), .val (.int (own_ks j1)), .val (.int (own_ks j2)), .val (.int (own_ks j3)), .val (.ref a1), .val (.int ((0 : Int32) + ((own_ks j0) * (own_ks j0)))), .unset, .unset, .unset, .unset] [(.double (FP.i2d (own_ks j1))), (.int (1 : Int32)), (.ref a1)])) rfl (hb hby at_100) _ ?_
      show Steps p.tables e below (U0.setTop (mkF m 103 #[.val (.int p0), .val (.int p1), .val (.int p2), .val (.int p3), .val (.int p4), .val (.int (4 : Int32)), .val (.int (own_ks j0)), .val (.int (own_ks j1)), .val (.int (own_ks j2)), .val (.int (own_ks j3)), .val (.ref a1), .val (.int ((0 : Int32) + ((own_ks j0) * (own_ks j0)))), .unset, .unset, .unset, .unset] [(.double (4643211215818981376 : UInt64)), (.double (FP.i2d (own_ks j1))), (.int (1 : Int32)), (.ref a1)])) _
      refine XS.ddivS Y0.here hx rfl (hb hby at_103) rfl (own_nn ((FP.Core.notNaN_iff _).mp (own_wnn j1))) rfl ?_
      exact kk_)
    obtain ⟨cl1, B1, b1, z1, y1, H1, F1⟩ := V1
    obtain ⟨U1, u1, Y1, f1, W1, su1⟩ := stD Y0 hx hZ f0 B1 (j := (1 : Int32)) (inb_of z1 (by decide)) (g := (mkF m 104 #[.val (.int p0), .val (.int p1), .val (.int p2), .val (.int p3), .val (.int p4), .val (.int (4 : Int32)), .val (.int (own_ks j0)), .val (.int (own_ks j1)), .val (.int (own_ks j2)), .val (.int (own_ks j3)), .val (.ref a1), .val (.int ((0 : Int32) + ((own_ks j0) * (own_ks j0)))), .unset, .unset, .unset, .unset] [(.double (own_w j1)), (.int (1 : Int32)), (.ref a1)])) rfl rfl (hb hby at_104)
    have S60 : own_Go p e below s₁ G U1 (mkF m 105 #[.val (.int p0), .val (.int p1), .val (.int p2), .val (.int p3), .val (.int p4), .val (.int (4 : Int32)), .val (.int (own_ks j0)), .val (.int (own_ks j1)), .val (.int (own_ks j2)), .val (.int (own_ks j3)), .val (.ref a1), .val (.int ((0 : Int32) + ((own_ks j0) * (own_ks j0)))), .unset, .unset, .unset, .unset] []) := fun tg_ kk_ => S59 tg_ (su1 tg_ kk_)
    have V2 : Arv Z u1 a1 k1 .double (4 : Int32) [.double (own_w j0), .double (own_w j1), .double 0, .double 0] (.double 0) := Arv.set B1 b1 z1 y1 H1 F1 rfl W1 1 rfl (by simp)
    have M2 := Fr.snoc Y1 M1 ha
    have S61 : own_Go p e below s₁ G U1 (mkF m 131 #[.val (.int p0), .val (.int p1), .val (.int p2), .val (.int p3), .val (.int p4), .val (.int (4 : Int32)), .val (.int (own_ks j0)), .val (.int (own_ks j1)), .val (.int (own_ks j2)), .val (.int (own_ks j3)), .val (.ref a1), .val (.int (((0 : Int32) + ((own_ks j0) * (own_ks j0))) + ((own_ks j1) * (own_ks j1)))), .unset, .unset, .unset, .unset] [(.double (own_w j2)), (.int (2 : Int32)), (.ref a1)]) := fun tg_ kk_ => S60 tg_ (by
      refine XS.iload Y1.here hx rfl (hb hby at_105) rfl ?_
      show Steps p.tables e below (U1.setTop (mkF m 107 #[.val (.int p0), .val (.int p1), .val (.int p2), .val (.int p3), .val (.int p4), .val (.int (4 : Int32)), .val (.int (own_ks j0)), .val (.int (own_ks j1)), .val (.int (own_ks j2)), .val (.int (own_ks j3)), .val (.ref a1), .val (.int ((0 : Int32) + ((own_ks j0) * (own_ks j0)))), .unset, .unset, .unset, .unset] [(.int ((0 : Int32) + ((own_ks j0) * (own_ks j0))))])) _
      refine XS.iload Y1.here hx rfl (hb hby at_107) rfl ?_
      show Steps p.tables e below (U1.setTop (mkF m 109 #[.val (.int p0), .val (.int p1), .val (.int p2), .val (.int p3), .val (.int p4), .val (.int (4 : Int32)), .val (.int (own_ks j0)), .val (.int (own_ks j1)), .val (.int (own_ks j2)), .val (.int (own_ks j3)), .val (.ref a1), .val (.int ((0 : Int32) + ((own_ks j0) * (own_ks j0)))), .unset, .unset, .unset, .unset] [(.int (own_ks j1)), (.int ((0 : Int32) + ((own_ks j0) * (own_ks j0))))])) _
      refine XS.iload Y1.here hx rfl (hb hby at_109) rfl ?_
      show Steps p.tables e below (U1.setTop (mkF m 111 #[.val (.int p0), .val (.int p1), .val (.int p2), .val (.int p3), .val (.int p4), .val (.int (4 : Int32)), .val (.int (own_ks j0)), .val (.int (own_ks j1)), .val (.int (own_ks j2)), .val (.int (own_ks j3)), .val (.ref a1), .val (.int ((0 : Int32) + ((own_ks j0) * (own_ks j0)))), .unset, .unset, .unset, .unset] [(.int (own_ks j1)), (.int (own_ks j1)), (.int ((0 : Int32) + ((own_ks j0) * (own_ks j0))))])) _
      refine XS.imul Y1.here hx rfl (hb hby at_111) rfl ?_
      show Steps p.tables e below (U1.setTop (mkF m 112 #[.val (.int p0), .val (.int p1), .val (.int p2), .val (.int p3), .val (.int p4), .val (.int (4 : Int32)), .val (.int (own_ks j0)), .val (.int (own_ks j1)), .val (.int (own_ks j2)), .val (.int (own_ks j3)), .val (.ref a1), .val (.int ((0 : Int32) + ((own_ks j0) * (own_ks j0)))), .unset, .unset, .unset, .unset] [(.int ((own_ks j1) * (own_ks j1))), (.int ((0 : Int32) + ((own_ks j0) * (own_ks j0))))])) _
      refine XS.iadd Y1.here hx rfl (hb hby at_112) rfl ?_
      show Steps p.tables e below (U1.setTop (mkF m 113 #[.val (.int p0), .val (.int p1), .val (.int p2), .val (.int p3), .val (.int p4), .val (.int (4 : Int32)), .val (.int (own_ks j0)), .val (.int (own_ks j1)), .val (.int (own_ks j2)), .val (.int (own_ks j3)), .val (.ref a1), .val (.int ((0 : Int32) + ((own_ks j0) * (own_ks j0)))), .unset, .unset, .unset, .unset] [(.int (((0 : Int32) + ((own_ks j0) * (own_ks j0))) + ((own_ks j1) * (own_ks j1))))])) _
      refine XS.istore Y1.here hx rfl (hb hby at_113) rfl (l' := #[.val (.int p0), .val (.int p1), .val (.int p2), .val (.int p3), .val (.int p4), .val (.int (4 : Int32)), .val (.int (own_ks j0)), .val (.int (own_ks j1)), .val (.int (own_ks j2)), .val (.int (own_ks j3)), .val (.ref a1), .val (.int (((0 : Int32) + ((own_ks j0) * (own_ks j0))) + ((own_ks j1) * (own_ks j1)))), .unset, .unset, .unset, .unset]) rfl ?_
      show Steps p.tables e below (U1.setTop (mkF m 115 #[.val (.int p0), .val (.int p1), .val (.int p2), .val (.int p3), .val (.int p4), .val (.int (4 : Int32)), .val (.int (own_ks j0)), .val (.int (own_ks j1)), .val (.int (own_ks j2)), .val (.int (own_ks j3)), .val (.ref a1), .val (.int (((0 : Int32) + ((own_ks j0) * (own_ks j0))) + ((own_ks j1) * (own_ks j1)))), .unset, .unset, .unset, .unset] [])) _
      refine XS.iload Y1.here hx rfl (hb hby at_115) rfl ?_
      show Steps p.tables e below (U1.setTop (mkF m 117 #[.val (.int p0), .val (.int p1), .val (.int p2), .val (.int p3), .val (.int p4), .val (.int (4 : Int32)), .val (.int (own_ks j0)), .val (.int (own_ks j1)), .val (.int (own_ks j2)), .val (.int (own_ks j3)), .val (.ref a1), .val (.int (((0 : Int32) + ((own_ks j0) * (own_ks j0))) + ((own_ks j1) * (own_ks j1)))), .unset, .unset, .unset, .unset] [(.int (4 : Int32))])) _
      refine XS.iconst Y1.here hx rfl (hb hby at_117) ?_
      show Steps p.tables e below (U1.setTop (mkF m 118 #[.val (.int p0), .val (.int p1), .val (.int p2), .val (.int p3), .val (.int p4), .val (.int (4 : Int32)), .val (.int (own_ks j0)), .val (.int (own_ks j1)), .val (.int (own_ks j2)), .val (.int (own_ks j3)), .val (.ref a1), .val (.int (((0 : Int32) + ((own_ks j0) * (own_ks j0))) + ((own_ks j1) * (own_ks j1)))), .unset, .unset, .unset, .unset] [(.int (2 : Int32)), (.int (4 : Int32))])) _
      refine XS.icmpNo Y1.here hx rfl (hb hby at_118) rfl (by decide) ?_
      show Steps p.tables e below (U1.setTop (mkF m 121 #[.val (.int p0), .val (.int p1), .val (.int p2), .val (.int p3), .val (.int p4), .val (.int (4 : Int32)), .val (.int (own_ks j0)), .val (.int (own_ks j1)), .val (.int (own_ks j2)), .val (.int (own_ks j3)), .val (.ref a1), .val (.int (((0 : Int32) + ((own_ks j0) * (own_ks j0))) + ((own_ks j1) * (own_ks j1)))), .unset, .unset, .unset, .unset] [])) _
      refine XS.aload Y1.here hx rfl (hb hby at_121) rfl rfl ?_
      show Steps p.tables e below (U1.setTop (mkF m 123 #[.val (.int p0), .val (.int p1), .val (.int p2), .val (.int p3), .val (.int p4), .val (.int (4 : Int32)), .val (.int (own_ks j0)), .val (.int (own_ks j1)), .val (.int (own_ks j2)), .val (.int (own_ks j3)), .val (.ref a1), .val (.int (((0 : Int32) + ((own_ks j0) * (own_ks j0))) + ((own_ks j1) * (own_ks j1)))), .unset, .unset, .unset, .unset] [(.ref a1)])) _
      refine XS.iconst Y1.here hx rfl (hb hby at_123) ?_
      show Steps p.tables e below (U1.setTop (mkF m 124 #[.val (.int p0), .val (.int p1), .val (.int p2), .val (.int p3), .val (.int p4), .val (.int (4 : Int32)), .val (.int (own_ks j0)), .val (.int (own_ks j1)), .val (.int (own_ks j2)), .val (.int (own_ks j3)), .val (.ref a1), .val (.int (((0 : Int32) + ((own_ks j0) * (own_ks j0))) + ((own_ks j1) * (own_ks j1)))), .unset, .unset, .unset, .unset] [(.int (2 : Int32)), (.ref a1)])) _
      refine XS.iload Y1.here hx rfl (hb hby at_124) rfl ?_
      show Steps p.tables e below (U1.setTop (mkF m 126 #[.val (.int p0), .val (.int p1), .val (.int p2), .val (.int p3), .val (.int p4), .val (.int (4 : Int32)), .val (.int (own_ks j0)), .val (.int (own_ks j1)), .val (.int (own_ks j2)), .val (.int (own_ks j3)), .val (.ref a1), .val (.int (((0 : Int32) + ((own_ks j0) * (own_ks j0))) + ((own_ks j1) * (own_ks j1)))), .unset, .unset, .unset, .unset] [(.int (own_ks j2)), (.int (2 : Int32)), (.ref a1)])) _
      refine XS.i2dS Y1.here hx rfl (hb hby at_126) rfl rfl ?_
      show Steps p.tables e below (U1.setTop (mkF m 127 #[.val (.int p0), .val (.int p1), .val (.int p2), .val (.int p3), .val (.int p4), .val (.int (4 : Int32)), .val (.int (own_ks j0)), .val (.int (own_ks j1)), .val (.int (own_ks j2)), .val (.int (own_ks j3)), .val (.ref a1), .val (.int (((0 : Int32) + ((own_ks j0) * (own_ks j0))) + ((own_ks j1) * (own_ks j1)))), .unset, .unset, .unset, .unset] [(.double (FP.i2d (own_ks j2))), (.int (2 : Int32)), (.ref a1)])) _
      refine Y1.ldc2DoubleC hx hown (mvT hZ (hw _ (List.mem_of_getElem? (i := 7) rfl))) (g := (mkF m 127 #[.val (.int p0), .val (.int p1), .val (.int p2), .val (.int p3), .val (.int p4), .val (.int (4 : Int32)), .val (.int (own_ks j0)), .val (.int (own_ks j1)), .val (.int (own_ks j2)), .val (.int (own_ks j3)), .val (.ref a1), .val (.int (((0 : Int32) + ((own_ks j0) * (own_ks j0))) + ((own_ks j1) * (own_ks j1)))), .unset, .unset, .unset, .unset] [(.double (FP.i2d (own_ks j2))), (.int (2 : Int32)), (.ref a1)])) rfl (hb hby at_127) _ ?_
      show Steps p.tables e below (U1.setTop (mkF m 130 #[.val (.int p0), .val (.int p1), .val (.int p2), .val (.int p3), .val (.int p4), .val (.int (4 : Int32)), .val (.int (own_ks j0)), .val (.int (own_ks j1)), .val (.int (own_ks j2)), .val (.int (own_ks j3)), .val (.ref a1), .val (.int (((0 : Int32) + ((own_ks j0) * (own_ks j0))) + ((own_ks j1) * (own_ks j1)))), .unset, .unset, .unset, .unset] [(.double (4643211215818981376 : UInt64)), (.double (FP.i2d (own_ks j2))), (.int (2 : Int32)), (.ref a1)])) _
      refine XS.ddivS Y1.here hx rfl (hb hby at_130) rfl (own_nn ((FP.Core.notNaN_iff _).mp (own_wnn j2))) rfl ?_
      exact kk_)
    obtain ⟨cl2, B2, b2, z2, y2, H2, F2⟩ := V2
    obtain ⟨U2, u2, Y2, f2, W2, su2⟩ := stD Y1 hx hZ f1 B2 (j := (2 : Int32)) (inb_of z2 (by decide)) (g := (mkF m 131 #[.val (.int p0), .val (.int p1), .val (.int p2), .val (.int p3), .val (.int p4), .val (.int (4 : Int32)), .val (.int (own_ks j0)), .val (.int (own_ks j1)), .val (.int (own_ks j2)), .val (.int (own_ks j3)), .val (.ref a1), .val (.int (((0 : Int32) + ((own_ks j0) * (own_ks j0))) + ((own_ks j1) * (own_ks j1)))), .unset, .unset, .unset, .unset] [(.double (own_w j2)), (.int (2 : Int32)), (.ref a1)])) rfl rfl (hb hby at_131)
    have S62 : own_Go p e below s₁ G U2 (mkF m 132 #[.val (.int p0), .val (.int p1), .val (.int p2), .val (.int p3), .val (.int p4), .val (.int (4 : Int32)), .val (.int (own_ks j0)), .val (.int (own_ks j1)), .val (.int (own_ks j2)), .val (.int (own_ks j3)), .val (.ref a1), .val (.int (((0 : Int32) + ((own_ks j0) * (own_ks j0))) + ((own_ks j1) * (own_ks j1)))), .unset, .unset, .unset, .unset] []) := fun tg_ kk_ => S61 tg_ (su2 tg_ kk_)
    have V3 : Arv Z u2 a1 k1 .double (4 : Int32) [.double (own_w j0), .double (own_w j1), .double (own_w j2), .double 0] (.double 0) := Arv.set B2 b2 z2 y2 H2 F2 rfl W2 2 rfl (by simp)
    have M3 := Fr.snoc Y2 M2 ha
    have S63 : own_Go p e below s₁ G U2 (mkF m 158 #[.val (.int p0), .val (.int p1), .val (.int p2), .val (.int p3), .val (.int p4), .val (.int (4 : Int32)), .val (.int (own_ks j0)), .val (.int (own_ks j1)), .val (.int (own_ks j2)), .val (.int (own_ks j3)), .val (.ref a1), .val (.int ((((0 : Int32) + ((own_ks j0) * (own_ks j0))) + ((own_ks j1) * (own_ks j1))) + ((own_ks j2) * (own_ks j2)))), .unset, .unset, .unset, .unset] [(.double (own_w j3)), (.int (3 : Int32)), (.ref a1)]) := fun tg_ kk_ => S62 tg_ (by
      refine XS.iload Y2.here hx rfl (hb hby at_132) rfl ?_
      show Steps p.tables e below (U2.setTop (mkF m 134 #[.val (.int p0), .val (.int p1), .val (.int p2), .val (.int p3), .val (.int p4), .val (.int (4 : Int32)), .val (.int (own_ks j0)), .val (.int (own_ks j1)), .val (.int (own_ks j2)), .val (.int (own_ks j3)), .val (.ref a1), .val (.int (((0 : Int32) + ((own_ks j0) * (own_ks j0))) + ((own_ks j1) * (own_ks j1)))), .unset, .unset, .unset, .unset] [(.int (((0 : Int32) + ((own_ks j0) * (own_ks j0))) + ((own_ks j1) * (own_ks j1))))])) _
      refine XS.iload Y2.here hx rfl (hb hby at_134) rfl ?_
      show Steps p.tables e below (U2.setTop (mkF m 136 #[.val (.int p0), .val (.int p1), .val (.int p2), .val (.int p3), .val (.int p4), .val (.int (4 : Int32)), .val (.int (own_ks j0)), .val (.int (own_ks j1)), .val (.int (own_ks j2)), .val (.int (own_ks j3)), .val (.ref a1), .val (.int (((0 : Int32) + ((own_ks j0) * (own_ks j0))) + ((own_ks j1) * (own_ks j1)))), .unset, .unset, .unset, .unset] [(.int (own_ks j2)), (.int (((0 : Int32) + ((own_ks j0) * (own_ks j0))) + ((own_ks j1) * (own_ks j1))))])) _
      refine XS.iload Y2.here hx rfl (hb hby at_136) rfl ?_
      show Steps p.tables e below (U2.setTop (mkF m 138 #[.val (.int p0), .val (.int p1), .val (.int p2), .val (.int p3), .val (.int p4), .val (.int (4 : Int32)), .val (.int (own_ks j0)), .val (.int (own_ks j1)), .val (.int (own_ks j2)), .val (.int (own_ks j3)), .val (.ref a1), .val (.int (((0 : Int32) + ((own_ks j0) * (own_ks j0))) + ((own_ks j1) * (own_ks j1)))), .unset, .unset, .unset, .unset] [(.int (own_ks j2)), (.int (own_ks j2)), (.int (((0 : Int32) + ((own_ks j0) * (own_ks j0))) + ((own_ks j1) * (own_ks j1))))])) _
      refine XS.imul Y2.here hx rfl (hb hby at_138) rfl ?_
      show Steps p.tables e below (U2.setTop (mkF m 139 #[.val (.int p0), .val (.int p1), .val (.int p2), .val (.int p3), .val (.int p4), .val (.int (4 : Int32)), .val (.int (own_ks j0)), .val (.int (own_ks j1)), .val (.int (own_ks j2)), .val (.int (own_ks j3)), .val (.ref a1), .val (.int (((0 : Int32) + ((own_ks j0) * (own_ks j0))) + ((own_ks j1) * (own_ks j1)))), .unset, .unset, .unset, .unset] [(.int ((own_ks j2) * (own_ks j2))), (.int (((0 : Int32) + ((own_ks j0) * (own_ks j0))) + ((own_ks j1) * (own_ks j1))))])) _
      refine XS.iadd Y2.here hx rfl (hb hby at_139) rfl ?_
      show Steps p.tables e below (U2.setTop (mkF m 140 #[.val (.int p0), .val (.int p1), .val (.int p2), .val (.int p3), .val (.int p4), .val (.int (4 : Int32)), .val (.int (own_ks j0)), .val (.int (own_ks j1)), .val (.int (own_ks j2)), .val (.int (own_ks j3)), .val (.ref a1), .val (.int (((0 : Int32) + ((own_ks j0) * (own_ks j0))) + ((own_ks j1) * (own_ks j1)))), .unset, .unset, .unset, .unset] [(.int ((((0 : Int32) + ((own_ks j0) * (own_ks j0))) + ((own_ks j1) * (own_ks j1))) + ((own_ks j2) * (own_ks j2))))])) _
      refine XS.istore Y2.here hx rfl (hb hby at_140) rfl (l' := #[.val (.int p0), .val (.int p1), .val (.int p2), .val (.int p3), .val (.int p4), .val (.int (4 : Int32)), .val (.int (own_ks j0)), .val (.int (own_ks j1)), .val (.int (own_ks j2)), .val (.int (own_ks j3)), .val (.ref a1), .val (.int ((((0 : Int32) + ((own_ks j0) * (own_ks j0))) + ((own_ks j1) * (own_ks j1))) + ((own_ks j2) * (own_ks j2)))), .unset, .unset, .unset, .unset]) rfl ?_
      show Steps p.tables e below (U2.setTop (mkF m 142 #[.val (.int p0), .val (.int p1), .val (.int p2), .val (.int p3), .val (.int p4), .val (.int (4 : Int32)), .val (.int (own_ks j0)), .val (.int (own_ks j1)), .val (.int (own_ks j2)), .val (.int (own_ks j3)), .val (.ref a1), .val (.int ((((0 : Int32) + ((own_ks j0) * (own_ks j0))) + ((own_ks j1) * (own_ks j1))) + ((own_ks j2) * (own_ks j2)))), .unset, .unset, .unset, .unset] [])) _
      refine XS.iload Y2.here hx rfl (hb hby at_142) rfl ?_
      show Steps p.tables e below (U2.setTop (mkF m 144 #[.val (.int p0), .val (.int p1), .val (.int p2), .val (.int p3), .val (.int p4), .val (.int (4 : Int32)), .val (.int (own_ks j0)), .val (.int (own_ks j1)), .val (.int (own_ks j2)), .val (.int (own_ks j3)), .val (.ref a1), .val (.int ((((0 : Int32) + ((own_ks j0) * (own_ks j0))) + ((own_ks j1) * (own_ks j1))) + ((own_ks j2) * (own_ks j2)))), .unset, .unset, .unset, .unset] [(.int (4 : Int32))])) _
      refine XS.iconst Y2.here hx rfl (hb hby at_144) ?_
      show Steps p.tables e below (U2.setTop (mkF m 145 #[.val (.int p0), .val (.int p1), .val (.int p2), .val (.int p3), .val (.int p4), .val (.int (4 : Int32)), .val (.int (own_ks j0)), .val (.int (own_ks j1)), .val (.int (own_ks j2)), .val (.int (own_ks j3)), .val (.ref a1), .val (.int ((((0 : Int32) + ((own_ks j0) * (own_ks j0))) + ((own_ks j1) * (own_ks j1))) + ((own_ks j2) * (own_ks j2)))), .unset, .unset, .unset, .unset] [(.int (3 : Int32)), (.int (4 : Int32))])) _
      refine XS.icmpNo Y2.here hx rfl (hb hby at_145) rfl (by decide) ?_
      show Steps p.tables e below (U2.setTop (mkF m 148 #[.val (.int p0), .val (.int p1), .val (.int p2), .val (.int p3), .val (.int p4), .val (.int (4 : Int32)), .val (.int (own_ks j0)), .val (.int (own_ks j1)), .val (.int (own_ks j2)), .val (.int (own_ks j3)), .val (.ref a1), .val (.int ((((0 : Int32) + ((own_ks j0) * (own_ks j0))) + ((own_ks j1) * (own_ks j1))) + ((own_ks j2) * (own_ks j2)))), .unset, .unset, .unset, .unset] [])) _
      refine XS.aload Y2.here hx rfl (hb hby at_148) rfl rfl ?_
      show Steps p.tables e below (U2.setTop (mkF m 150 #[.val (.int p0), .val (.int p1), .val (.int p2), .val (.int p3), .val (.int p4), .val (.int (4 : Int32)), .val (.int (own_ks j0)), .val (.int (own_ks j1)), .val (.int (own_ks j2)), .val (.int (own_ks j3)), .val (.ref a1), .val (.int ((((0 : Int32) + ((own_ks j0) * (own_ks j0))) + ((own_ks j1) * (own_ks j1))) + ((own_ks j2) * (own_ks j2)))), .unset, .unset, .unset, .unset] [(.ref a1)])) _
      refine XS.iconst Y2.here hx rfl (hb hby at_150) ?_
      show Steps p.tables e below (U2.setTop (mkF m 151 #[.val (.int p0), .val (.int p1), .val (.int p2), .val (.int p3), .val (.int p4), .val (.int (4 : Int32)), .val (.int (own_ks j0)), .val (.int (own_ks j1)), .val (.int (own_ks j2)), .val (.int (own_ks j3)), .val (.ref a1), .val (.int ((((0 : Int32) + ((own_ks j0) * (own_ks j0))) + ((own_ks j1) * (own_ks j1))) + ((own_ks j2) * (own_ks j2)))), .unset, .unset, .unset, .unset] [(.int (3 : Int32)), (.ref a1)])) _
      refine XS.iload Y2.here hx rfl (hb hby at_151) rfl ?_
      show Steps p.tables e below (U2.setTop (mkF m 153 #[.val (.int p0), .val (.int p1), .val (.int p2), .val (.int p3), .val (.int p4), .val (.int (4 : Int32)), .val (.int (own_ks j0)), .val (.int (own_ks j1)), .val (.int (own_ks j2)), .val (.int (own_ks j3)), .val (.ref a1), .val (.int ((((0 : Int32) + ((own_ks j0) * (own_ks j0))) + ((own_ks j1) * (own_ks j1))) + ((own_ks j2) * (own_ks j2)))), .unset, .unset, .unset, .unset] [(.int (own_ks j3)), (.int (3 : Int32)), (.ref a1)])) _
      refine XS.i2dS Y2.here hx rfl (hb hby at_153) rfl rfl ?_
      show Steps p.tables e below (U2.setTop (mkF m 154 #[.val (.int p0), .val (.int p1), .val (.int p2), .val (.int p3), .val (.int p4), .val (.int (4 : Int32)), .val (.int (own_ks j0)), .val (.int (own_ks j1)), .val (.int (own_ks j2)), .val (.int (own_ks j3)), .val (.ref a1), .val (.int ((((0 : Int32) + ((own_ks j0) * (own_ks j0))) + ((own_ks j1) * (own_ks j1))) + ((own_ks j2) * (own_ks j2)))), .unset, .unset, .unset, .unset] [(.double (FP.i2d (own_ks j3))), (.int (3 : Int32)), (.ref a1)])) _
      refine Y2.ldc2DoubleC hx hown (mvT hZ (hw _ (List.mem_of_getElem? (i := 7) rfl))) (g := (mkF m 154 #[.val (.int p0), .val (.int p1), .val (.int p2), .val (.int p3), .val (.int p4), .val (.int (4 : Int32)), .val (.int (own_ks j0)), .val (.int (own_ks j1)), .val (.int (own_ks j2)), .val (.int (own_ks j3)), .val (.ref a1), .val (.int ((((0 : Int32) + ((own_ks j0) * (own_ks j0))) + ((own_ks j1) * (own_ks j1))) + ((own_ks j2) * (own_ks j2)))), .unset, .unset, .unset, .unset] [(.double (FP.i2d (own_ks j3))), (.int (3 : Int32)), (.ref a1)])) rfl (hb hby at_154) _ ?_
      show Steps p.tables e below (U2.setTop (mkF m 157 #[.val (.int p0), .val (.int p1), .val (.int p2), .val (.int p3), .val (.int p4), .val (.int (4 : Int32)), .val (.int (own_ks j0)), .val (.int (own_ks j1)), .val (.int (own_ks j2)), .val (.int (own_ks j3)), .val (.ref a1), .val (.int ((((0 : Int32) + ((own_ks j0) * (own_ks j0))) + ((own_ks j1) * (own_ks j1))) + ((own_ks j2) * (own_ks j2)))), .unset, .unset, .unset, .unset] [(.double (4643211215818981376 : UInt64)), (.double (FP.i2d (own_ks j3))), (.int (3 : Int32)), (.ref a1)])) _
      refine XS.ddivS Y2.here hx rfl (hb hby at_157) rfl (own_nn ((FP.Core.notNaN_iff _).mp (own_wnn j3))) rfl ?_
      exact kk_)
    obtain ⟨cl3, B3, b3, z3, y3, H3, F3⟩ := V3
    obtain ⟨U3, u3, Y3, f3, W3, su3⟩ := stD Y2 hx hZ f2 B3 (j := (3 : Int32)) (inb_of z3 (by decide)) (g := (mkF m 158 #[.val (.int p0), .val (.int p1), .val (.int p2), .val (.int p3), .val (.int p4), .val (.int (4 : Int32)), .val (.int (own_ks j0)), .val (.int (own_ks j1)), .val (.int (own_ks j2)), .val (.int (own_ks j3)), .val (.ref a1), .val (.int ((((0 : Int32) + ((own_ks j0) * (own_ks j0))) + ((own_ks j1) * (own_ks j1))) + ((own_ks j2) * (own_ks j2)))), .unset, .unset, .unset, .unset] [(.double (own_w j3)), (.int (3 : Int32)), (.ref a1)])) rfl rfl (hb hby at_158)
    have S64 : own_Go p e below s₁ G U3 (mkF m 159 #[.val (.int p0), .val (.int p1), .val (.int p2), .val (.int p3), .val (.int p4), .val (.int (4 : Int32)), .val (.int (own_ks j0)), .val (.int (own_ks j1)), .val (.int (own_ks j2)), .val (.int (own_ks j3)), .val (.ref a1), .val (.int ((((0 : Int32) + ((own_ks j0) * (own_ks j0))) + ((own_ks j1) * (own_ks j1))) + ((own_ks j2) * (own_ks j2)))), .unset, .unset, .unset, .unset] []) := fun tg_ kk_ => S63 tg_ (su3 tg_ kk_)
    have V4 : Arv Z u3 a1 k1 .double (4 : Int32) [.double (own_w j0), .double (own_w j1), .double (own_w j2), .double (own_w j3)] (.double 0) := Arv.set B3 b3 z3 y3 H3 F3 rfl W3 3 rfl (by simp)
    have M4 := Fr.snoc Y3 M3 ha
    have S65 : own_Go p e below s₁ G U3 (mkF m 171 #[.val (.int p0), .val (.int p1), .val (.int p2), .val (.int p3), .val (.int p4), .val (.int (4 : Int32)), .val (.int (own_ks j0)), .val (.int (own_ks j1)), .val (.int (own_ks j2)), .val (.int (own_ks j3)), .val (.ref a1), .val (.int (((((0 : Int32) + ((own_ks j0) * (own_ks j0))) + ((own_ks j1) * (own_ks j1))) + ((own_ks j2) * (own_ks j2))) + ((own_ks j3) * (own_ks j3)))), .unset, .unset, .unset, .unset] [(.ref a1)]) := fun tg_ kk_ => S64 tg_ (by
      refine XS.iload Y3.here hx rfl (hb hby at_159) rfl ?_
      show Steps p.tables e below (U3.setTop (mkF m 161 #[.val (.int p0), .val (.int p1), .val (.int p2), .val (.int p3), .val (.int p4), .val (.int (4 : Int32)), .val (.int (own_ks j0)), .val (.int (own_ks j1)), .val (.int (own_ks j2)), .val (.int (own_ks j3)), .val (.ref a1), .val (.int ((((0 : Int32) + ((own_ks j0) * (own_ks j0))) + ((own_ks j1) * (own_ks j1))) + ((own_ks j2) * (own_ks j2)))), .unset, .unset, .unset, .unset] [(.int ((((0 : Int32) + ((own_ks j0) * (own_ks j0))) + ((own_ks j1) * (own_ks j1))) + ((own_ks j2) * (own_ks j2))))])) _
      refine XS.iload Y3.here hx rfl (hb hby at_161) rfl ?_
      show Steps p.tables e below (U3.setTop (mkF m 163 #[.val (.int p0), .val (.int p1), .val (.int p2), .val (.int p3), .val (.int p4), .val (.int (4 : Int32)), .val (.int (own_ks j0)), .val (.int (own_ks j1)), .val (.int (own_ks j2)), .val (.int (own_ks j3)), .val (.ref a1), .val (.int ((((0 : Int32) + ((own_ks j0) * (own_ks j0))) + ((own_ks j1) * (own_ks j1))) + ((own_ks j2) * (own_ks j2)))), .unset, .unset, .unset, .unset] [(.int (own_ks j3)), (.int ((((0 : Int32) + ((own_ks j0) * (own_ks j0))) + ((own_ks j1) * (own_ks j1))) + ((own_ks j2) * (own_ks j2))))])) _
      refine XS.iload Y3.here hx rfl (hb hby at_163) rfl ?_
      show Steps p.tables e below (U3.setTop (mkF m 165 #[.val (.int p0), .val (.int p1), .val (.int p2), .val (.int p3), .val (.int p4), .val (.int (4 : Int32)), .val (.int (own_ks j0)), .val (.int (own_ks j1)), .val (.int (own_ks j2)), .val (.int (own_ks j3)), .val (.ref a1), .val (.int ((((0 : Int32) + ((own_ks j0) * (own_ks j0))) + ((own_ks j1) * (own_ks j1))) + ((own_ks j2) * (own_ks j2)))), .unset, .unset, .unset, .unset] [(.int (own_ks j3)), (.int (own_ks j3)), (.int ((((0 : Int32) + ((own_ks j0) * (own_ks j0))) + ((own_ks j1) * (own_ks j1))) + ((own_ks j2) * (own_ks j2))))])) _
      refine XS.imul Y3.here hx rfl (hb hby at_165) rfl ?_
      show Steps p.tables e below (U3.setTop (mkF m 166 #[.val (.int p0), .val (.int p1), .val (.int p2), .val (.int p3), .val (.int p4), .val (.int (4 : Int32)), .val (.int (own_ks j0)), .val (.int (own_ks j1)), .val (.int (own_ks j2)), .val (.int (own_ks j3)), .val (.ref a1), .val (.int ((((0 : Int32) + ((own_ks j0) * (own_ks j0))) + ((own_ks j1) * (own_ks j1))) + ((own_ks j2) * (own_ks j2)))), .unset, .unset, .unset, .unset] [(.int ((own_ks j3) * (own_ks j3))), (.int ((((0 : Int32) + ((own_ks j0) * (own_ks j0))) + ((own_ks j1) * (own_ks j1))) + ((own_ks j2) * (own_ks j2))))])) _
      refine XS.iadd Y3.here hx rfl (hb hby at_166) rfl ?_
      show Steps p.tables e below (U3.setTop (mkF m 167 #[.val (.int p0), .val (.int p1), .val (.int p2), .val (.int p3), .val (.int p4), .val (.int (4 : Int32)), .val (.int (own_ks j0)), .val (.int (own_ks j1)), .val (.int (own_ks j2)), .val (.int (own_ks j3)), .val (.ref a1), .val (.int ((((0 : Int32) + ((own_ks j0) * (own_ks j0))) + ((own_ks j1) * (own_ks j1))) + ((own_ks j2) * (own_ks j2)))), .unset, .unset, .unset, .unset] [(.int (((((0 : Int32) + ((own_ks j0) * (own_ks j0))) + ((own_ks j1) * (own_ks j1))) + ((own_ks j2) * (own_ks j2))) + ((own_ks j3) * (own_ks j3))))])) _
      refine XS.istore Y3.here hx rfl (hb hby at_167) rfl (l' := #[.val (.int p0), .val (.int p1), .val (.int p2), .val (.int p3), .val (.int p4), .val (.int (4 : Int32)), .val (.int (own_ks j0)), .val (.int (own_ks j1)), .val (.int (own_ks j2)), .val (.int (own_ks j3)), .val (.ref a1), .val (.int (((((0 : Int32) + ((own_ks j0) * (own_ks j0))) + ((own_ks j1) * (own_ks j1))) + ((own_ks j2) * (own_ks j2))) + ((own_ks j3) * (own_ks j3)))), .unset, .unset, .unset, .unset]) rfl ?_
      show Steps p.tables e below (U3.setTop (mkF m 169 #[.val (.int p0), .val (.int p1), .val (.int p2), .val (.int p3), .val (.int p4), .val (.int (4 : Int32)), .val (.int (own_ks j0)), .val (.int (own_ks j1)), .val (.int (own_ks j2)), .val (.int (own_ks j3)), .val (.ref a1), .val (.int (((((0 : Int32) + ((own_ks j0) * (own_ks j0))) + ((own_ks j1) * (own_ks j1))) + ((own_ks j2) * (own_ks j2))) + ((own_ks j3) * (own_ks j3)))), .unset, .unset, .unset, .unset] [])) _
      refine XS.aload Y3.here hx rfl (hb hby at_169) rfl rfl ?_
      exact kk_)
    obtain ⟨tot, htot⟩ : ∃ z, z = (own_T (fun j => own_q ((fun j => [j0, j1, j2, j3].getD j 0) j)) 4) := ⟨_, rfl⟩
    have hle : tot ≤ 262144 := by rw [htot]; exact Nat.le_trans (own_T_le (fun j => own_qle _) 4) (by decide)
    have hsum := own_sum (f := (fun j => [j0, j1, j2, j3].getD j 0)) 4 (by decide)
    rw [← htot] at hsum
    have hs : (((((0 : Int32) + ((own_ks j0) * (own_ks j0))) + ((own_ks j1) * (own_ks j1))) + ((own_ks j2) * (own_ks j2))) + ((own_ks j3) * (own_ks j3))) = Int32.ofNat tot := by
      rw [htot]
      simp only [own_ksq, own_T, Int32.ofNat_add]
      rfl
    rw [hs] at S65
    have hi := own_i2d (n := tot) (by omega)
    have hzn : Jvm.Free.Fl.NoNaN64 (FP.ddiv FP.dconst1 (own_S (fun j => own_w ((fun j => [j0, j1, j2, j3].getD j 0) j)) 4)) := by
      by_cases ht0 : tot = 0
      · rw [ht0] at hsum; rw [own_zero hsum]; exact own_nn (by decide +kernel)
      · exact (own_div ht0 (by omega) hsum hi).2
    have Zc : n0 ≤ u3.size := by
      refine Nat.le_trans Z0 (Nat.le_trans E1.1 ?_)
      simp only [W3.size, W2.size, W1.size, W0.size]
      exact Nat.le_refl _
    obtain ⟨_, T66, h66, L66, X66, e66, hQ66, st66⟩ := own_callS Y3 hx hZ (y := (⟨"com/example/cladewave/cladewave/samplers/Resampling", "effectiveSampleSize", "([D)D"⟩ : MethodName)) hown (hw _ (List.mem_of_getElem? (i := 1) rfl)) (hw _ (List.mem_of_getElem? (i := 2) rfl)) (hw _ (List.mem_of_getElem? (i := 3) rfl)) (hw _ (List.mem_of_getElem? (i := 4) rfl)) (by decide) 0 (g := (mkF m 171 #[.val (.int p0), .val (.int p1), .val (.int p2), .val (.int p3), .val (.int p4), .val (.int (4 : Int32)), .val (.int (own_ks j0)), .val (.int (own_ks j1)), .val (.int (own_ks j2)), .val (.int (own_ks j3)), .val (.ref a1), .val (.int (Int32.ofNat tot)), .unset, .unset, .unset, .unset] [(.ref a1)])) rfl (by rw [hml]; rfl) [(.ref a1)] [] (rm1 l Z a0 hw [] a1 (fun j => [j0, j1, j2, j3].getD j 0) 4 u3 n0 Zc (by decide) k1 [.double (own_w j0), .double (own_w j1), .double (own_w j2), .double (own_w j3)] (.double 0) V4 (fun j hj => by match j, hj with | 0, _ => rfl | 1, _ => rfl | 2, _ => rfl | 3, _ => rfl) hzn) (lenOf pd1 rfl) rfl (by show 2 * 0 + _ ≤ _; exact Nat.le_of_eq rfl) (hb hby at_171) (by decide) (by decide) f3 (by decide) (by decide)
    obtain ⟨rfl, M66, rfl⟩ := hQ66
    have S67 : own_Go p e below s₁ G T66 (mkF m 174 #[.val (.int p0), .val (.int p1), .val (.int p2), .val (.int p3), .val (.int p4), .val (.int (4 : Int32)), .val (.int (own_ks j0)), .val (.int (own_ks j1)), .val (.int (own_ks j2)), .val (.int (own_ks j3)), .val (.ref a1), .val (.int (Int32.ofNat tot)), .unset, .unset, .unset, .unset] [(.double (FP.ddiv FP.dconst1 (own_S (fun j => own_w ((fun j => [j0, j1, j2, j3].getD j 0) j)) 4)))]) := fun tg_ kk_ => S65 tg_ (st66 tg_ kk_)
    have MM := Fr.app M4 M66
    obtain ⟨r, hr0⟩ : ∃ z : UInt64, z = (FP.ddiv FP.dconst1 (own_S (fun j => own_w ((fun j => [j0, j1, j2, j3].getD j 0) j)) 4)) := ⟨_, rfl⟩
    rw [← hr0] at S67
    have S68 : own_Go p e below s₁ G T66 (mkF m 178 #[.val (.int p0), .val (.int p1), .val (.int p2), .val (.int p3), .val (.int p4), .val (.int (4 : Int32)), .val (.int (own_ks j0)), .val (.int (own_ks j1)), .val (.int (own_ks j2)), .val (.int (own_ks j3)), .val (.ref a1), .val (.int (Int32.ofNat tot)), .val (.double r), .second, .unset, .unset] [(.int (Int32.ofNat tot))]) := fun tg_ kk_ => S67 tg_ (by
      refine XS.dstore X66.here hx rfl (hb hby at_174) rfl (l' := #[.val (.int p0), .val (.int p1), .val (.int p2), .val (.int p3), .val (.int p4), .val (.int (4 : Int32)), .val (.int (own_ks j0)), .val (.int (own_ks j1)), .val (.int (own_ks j2)), .val (.int (own_ks j3)), .val (.ref a1), .val (.int (Int32.ofNat tot)), .val (.double r), .second, .unset, .unset]) rfl ?_
      show Steps p.tables e below (T66.setTop (mkF m 176 #[.val (.int p0), .val (.int p1), .val (.int p2), .val (.int p3), .val (.int p4), .val (.int (4 : Int32)), .val (.int (own_ks j0)), .val (.int (own_ks j1)), .val (.int (own_ks j2)), .val (.int (own_ks j3)), .val (.ref a1), .val (.int (Int32.ofNat tot)), .val (.double r), .second, .unset, .unset] [])) _
      refine XS.iload X66.here hx rfl (hb hby at_176) rfl ?_
      exact kk_)
    by_cases ht0 : tot = 0
    · have hr1 : r = 9218868437227405312 := by
        rw [hr0]; rw [ht0] at hsum; rw [own_zero hsum]; decide +kernel
      subst ht0
      rw [show Int32.ofNat 0 = Int32.ofNat 0 from rfl] at S68
      have S69 : own_Go p e below s₁ G T66 (mkF m 207 #[.val (.int p0), .val (.int p1), .val (.int p2), .val (.int p3), .val (.int p4), .val (.int (4 : Int32)), .val (.int (own_ks j0)), .val (.int (own_ks j1)), .val (.int (own_ks j2)), .val (.int (own_ks j3)), .val (.ref a1), .val (.int (Int32.ofNat 0)), .val (.double r), .second, .unset, .unset] [(.int (1 : Int32))]) := fun tg_ kk_ => S68 tg_ (by
        refine XS.ifNo X66.here hx rfl (hb hby at_178) rfl (by decide) ?_
        show Steps p.tables e below (T66.setTop (mkF m 181 #[.val (.int p0), .val (.int p1), .val (.int p2), .val (.int p3), .val (.int p4), .val (.int (4 : Int32)), .val (.int (own_ks j0)), .val (.int (own_ks j1)), .val (.int (own_ks j2)), .val (.int (own_ks j3)), .val (.ref a1), .val (.int (Int32.ofNat 0)), .val (.double r), .second, .unset, .unset] [])) _
        refine XS.dload X66.here hx rfl (hb hby at_181) rfl ?_
        show Steps p.tables e below (T66.setTop (mkF m 183 #[.val (.int p0), .val (.int p1), .val (.int p2), .val (.int p3), .val (.int p4), .val (.int (4 : Int32)), .val (.int (own_ks j0)), .val (.int (own_ks j1)), .val (.int (own_ks j2)), .val (.int (own_ks j3)), .val (.ref a1), .val (.int (Int32.ofNat 0)), .val (.double r), .second, .unset, .unset] [(.double r)])) _
        refine X66.ldc2DoubleC hx hown (mvT hZ (hw _ (List.mem_of_getElem? (i := 5) rfl))) (g := (mkF m 183 #[.val (.int p0), .val (.int p1), .val (.int p2), .val (.int p3), .val (.int p4), .val (.int (4 : Int32)), .val (.int (own_ks j0)), .val (.int (own_ks j1)), .val (.int (own_ks j2)), .val (.int (own_ks j3)), .val (.ref a1), .val (.int (Int32.ofNat 0)), .val (.double r), .second, .unset, .unset] [(.double r)])) rfl (hb hby at_183) _ ?_
        show Steps p.tables e below (T66.setTop (mkF m 186 #[.val (.int p0), .val (.int p1), .val (.int p2), .val (.int p3), .val (.int p4), .val (.int (4 : Int32)), .val (.int (own_ks j0)), .val (.int (own_ks j1)), .val (.int (own_ks j2)), .val (.int (own_ks j3)), .val (.ref a1), .val (.int (Int32.ofNat 0)), .val (.double r), .second, .unset, .unset] [(.double (9214871658872686752 : UInt64)), (.double r)])) _
        refine XS.dcmpS X66.here hx rfl (hb hby at_186) rfl (by rw [hr1] <;> decide +kernel) ?_
        show Steps p.tables e below (T66.setTop (mkF m 187 #[.val (.int p0), .val (.int p1), .val (.int p2), .val (.int p3), .val (.int p4), .val (.int (4 : Int32)), .val (.int (own_ks j0)), .val (.int (own_ks j1)), .val (.int (own_ks j2)), .val (.int (own_ks j3)), .val (.ref a1), .val (.int (Int32.ofNat 0)), .val (.double r), .second, .unset, .unset] [(.int (1 : Int32))])) _
        refine XS.ifNo X66.here hx rfl (hb hby at_187) rfl (by decide) ?_
        show Steps p.tables e below (T66.setTop (mkF m 190 #[.val (.int p0), .val (.int p1), .val (.int p2), .val (.int p3), .val (.int p4), .val (.int (4 : Int32)), .val (.int (own_ks j0)), .val (.int (own_ks j1)), .val (.int (own_ks j2)), .val (.int (own_ks j3)), .val (.ref a1), .val (.int (Int32.ofNat 0)), .val (.double r), .second, .unset, .unset] [])) _
        refine XS.dload X66.here hx rfl (hb hby at_190) rfl ?_
        show Steps p.tables e below (T66.setTop (mkF m 192 #[.val (.int p0), .val (.int p1), .val (.int p2), .val (.int p3), .val (.int p4), .val (.int (4 : Int32)), .val (.int (own_ks j0)), .val (.int (own_ks j1)), .val (.int (own_ks j2)), .val (.int (own_ks j3)), .val (.ref a1), .val (.int (Int32.ofNat 0)), .val (.double r), .second, .unset, .unset] [(.double r)])) _
        refine X66.ldc2DoubleC hx hown (mvT hZ (hw _ (List.mem_of_getElem? (i := 6) rfl))) (g := (mkF m 192 #[.val (.int p0), .val (.int p1), .val (.int p2), .val (.int p3), .val (.int p4), .val (.int (4 : Int32)), .val (.int (own_ks j0)), .val (.int (own_ks j1)), .val (.int (own_ks j2)), .val (.int (own_ks j3)), .val (.ref a1), .val (.int (Int32.ofNat 0)), .val (.double r), .second, .unset, .unset] [(.double r)])) rfl (hb hby at_192) _ ?_
        show Steps p.tables e below (T66.setTop (mkF m 195 #[.val (.int p0), .val (.int p1), .val (.int p2), .val (.int p3), .val (.int p4), .val (.int (4 : Int32)), .val (.int (own_ks j0)), .val (.int (own_ks j1)), .val (.int (own_ks j2)), .val (.int (own_ks j3)), .val (.ref a1), .val (.int (Int32.ofNat 0)), .val (.double r), .second, .unset, .unset] [(.double (4611686018427387904 : UInt64)), (.double r)])) _
        refine XS.dmulS X66.here hx rfl (hb hby at_195) rfl (by rw [hr1]; exact own_nn (by decide +kernel)) rfl ?_
        show Steps p.tables e below (T66.setTop (mkF m 196 #[.val (.int p0), .val (.int p1), .val (.int p2), .val (.int p3), .val (.int p4), .val (.int (4 : Int32)), .val (.int (own_ks j0)), .val (.int (own_ks j1)), .val (.int (own_ks j2)), .val (.int (own_ks j3)), .val (.ref a1), .val (.int (Int32.ofNat 0)), .val (.double r), .second, .unset, .unset] [(.double (FP.dmul r (4611686018427387904 : UInt64)))])) _
        refine XS.dload X66.here hx rfl (hb hby at_196) rfl ?_
        show Steps p.tables e below (T66.setTop (mkF m 198 #[.val (.int p0), .val (.int p1), .val (.int p2), .val (.int p3), .val (.int p4), .val (.int (4 : Int32)), .val (.int (own_ks j0)), .val (.int (own_ks j1)), .val (.int (own_ks j2)), .val (.int (own_ks j3)), .val (.ref a1), .val (.int (Int32.ofNat 0)), .val (.double r), .second, .unset, .unset] [(.double r), (.double (FP.dmul r (4611686018427387904 : UInt64)))])) _
        refine XS.dcmpS X66.here hx rfl (hb hby at_198) rfl (by rw [hr1] <;> decide +kernel) ?_
        show Steps p.tables e below (T66.setTop (mkF m 199 #[.val (.int p0), .val (.int p1), .val (.int p2), .val (.int p3), .val (.int p4), .val (.int (4 : Int32)), .val (.int (own_ks j0)), .val (.int (own_ks j1)), .val (.int (own_ks j2)), .val (.int (own_ks j3)), .val (.ref a1), .val (.int (Int32.ofNat 0)), .val (.double r), .second, .unset, .unset] [(.int (0 : Int32))])) _
        refine XS.ifNo X66.here hx rfl (hb hby at_199) rfl (by decide) ?_
        show Steps p.tables e below (T66.setTop (mkF m 202 #[.val (.int p0), .val (.int p1), .val (.int p2), .val (.int p3), .val (.int p4), .val (.int (4 : Int32)), .val (.int (own_ks j0)), .val (.int (own_ks j1)), .val (.int (own_ks j2)), .val (.int (own_ks j3)), .val (.ref a1), .val (.int (Int32.ofNat 0)), .val (.double r), .second, .unset, .unset] [])) _
        refine XS.iconst X66.here hx rfl (hb hby at_202) ?_
        show Steps p.tables e below (T66.setTop (mkF m 203 #[.val (.int p0), .val (.int p1), .val (.int p2), .val (.int p3), .val (.int p4), .val (.int (4 : Int32)), .val (.int (own_ks j0)), .val (.int (own_ks j1)), .val (.int (own_ks j2)), .val (.int (own_ks j3)), .val (.ref a1), .val (.int (Int32.ofNat 0)), .val (.double r), .second, .unset, .unset] [(.int (1 : Int32))])) _
        refine XS.goto X66.here hx rfl (pc0 := 203) (pc' := 207) rfl (hb hby at_203) (by decide) (by decide) ?_
        exact kk_)
      obtain ⟨fs, hr, hrun, hended, hW, hsame⟩ := X66.leave (v := some (.int (1 : Int32))) (fun h => by rw [Bd.returns] at h; cases h)
      refine ⟨_, _, ?_, hrun, hended, _, _, rfl, ?_, ⟨_, rfl⟩, hW, hsame.mono (by decide) (by decide)⟩
      · rw [← hG]; exact S69 _ (retN X66 hx (t := .boolean) Bd.returns (by simp) (hb hby at_207) hr)
      · show Q0 Z p0 p1 p2 p3 p4 h0 n0 _ T66.heap _
        rw [e66]
        exact ⟨rfl, MM⟩
    · obtain ⟨hd1, hd2⟩ := own_div ht0 (by omega) hsum hi
      rw [← hr0] at hd1 hd2
      have hne : ¬ Int32.ofNat tot = 0 := fun q => ht0 (by have q2 := congrArg Int32.toInt q; rw [Int32.toInt_ofNat_of_lt (by omega)] at q2; exact Int.ofNat.inj q2)
      have S70 : own_Go p e below s₁ G T66 (mkF m 230 #[.val (.int p0), .val (.int p1), .val (.int p2), .val (.int p3), .val (.int p4), .val (.int (4 : Int32)), .val (.int (own_ks j0)), .val (.int (own_ks j1)), .val (.int (own_ks j2)), .val (.int (own_ks j3)), .val (.ref a1), .val (.int (Int32.ofNat tot)), .val (.double r), .second, .val (.double r), .second] [(.int (1 : Int32))]) := fun tg_ kk_ => S68 tg_ (by
        refine XS.ifYes X66.here hx rfl (pc0 := 178) (pc' := 208) rfl (hb hby at_178) rfl (XT.i0_ne_t hne) (by decide) (by decide) ?_
        show Steps p.tables e below (T66.setTop (mkF m 208 #[.val (.int p0), .val (.int p1), .val (.int p2), .val (.int p3), .val (.int p4), .val (.int (4 : Int32)), .val (.int (own_ks j0)), .val (.int (own_ks j1)), .val (.int (own_ks j2)), .val (.int (own_ks j3)), .val (.ref a1), .val (.int (Int32.ofNat tot)), .val (.double r), .second, .unset, .unset] [])) _
        refine X66.ldc2DoubleC hx hown (mvT hZ (hw _ (List.mem_of_getElem? (i := 8) rfl))) (g := (mkF m 208 #[.val (.int p0), .val (.int p1), .val (.int p2), .val (.int p3), .val (.int p4), .val (.int (4 : Int32)), .val (.int (own_ks j0)), .val (.int (own_ks j1)), .val (.int (own_ks j2)), .val (.int (own_ks j3)), .val (.ref a1), .val (.int (Int32.ofNat tot)), .val (.double r), .second, .unset, .unset] [])) rfl (hb hby at_208) _ ?_
        show Steps p.tables e below (T66.setTop (mkF m 211 #[.val (.int p0), .val (.int p1), .val (.int p2), .val (.int p3), .val (.int p4), .val (.int (4 : Int32)), .val (.int (own_ks j0)), .val (.int (own_ks j1)), .val (.int (own_ks j2)), .val (.int (own_ks j3)), .val (.ref a1), .val (.int (Int32.ofNat tot)), .val (.double r), .second, .unset, .unset] [(.double (4679240012837945344 : UInt64))])) _
        refine XS.iload X66.here hx rfl (hb hby at_211) rfl ?_
        show Steps p.tables e below (T66.setTop (mkF m 213 #[.val (.int p0), .val (.int p1), .val (.int p2), .val (.int p3), .val (.int p4), .val (.int (4 : Int32)), .val (.int (own_ks j0)), .val (.int (own_ks j1)), .val (.int (own_ks j2)), .val (.int (own_ks j3)), .val (.ref a1), .val (.int (Int32.ofNat tot)), .val (.double r), .second, .unset, .unset] [(.int (Int32.ofNat tot)), (.double (4679240012837945344 : UInt64))])) _
        refine XS.i2dS X66.here hx rfl (hb hby at_213) rfl rfl ?_
        show Steps p.tables e below (T66.setTop (mkF m 214 #[.val (.int p0), .val (.int p1), .val (.int p2), .val (.int p3), .val (.int p4), .val (.int (4 : Int32)), .val (.int (own_ks j0)), .val (.int (own_ks j1)), .val (.int (own_ks j2)), .val (.int (own_ks j3)), .val (.ref a1), .val (.int (Int32.ofNat tot)), .val (.double r), .second, .unset, .unset] [(.double (FP.i2d (Int32.ofNat tot))), (.double (4679240012837945344 : UInt64))])) _
        refine XS.ddivS X66.here hx rfl (hb hby at_214) rfl (by rw [← hd1]; exact hd2) hd1.symm ?_
        show Steps p.tables e below (T66.setTop (mkF m 215 #[.val (.int p0), .val (.int p1), .val (.int p2), .val (.int p3), .val (.int p4), .val (.int (4 : Int32)), .val (.int (own_ks j0)), .val (.int (own_ks j1)), .val (.int (own_ks j2)), .val (.int (own_ks j3)), .val (.ref a1), .val (.int (Int32.ofNat tot)), .val (.double r), .second, .unset, .unset] [(.double r)])) _
        refine XS.dstore X66.here hx rfl (hb hby at_215) rfl (l' := #[.val (.int p0), .val (.int p1), .val (.int p2), .val (.int p3), .val (.int p4), .val (.int (4 : Int32)), .val (.int (own_ks j0)), .val (.int (own_ks j1)), .val (.int (own_ks j2)), .val (.int (own_ks j3)), .val (.ref a1), .val (.int (Int32.ofNat tot)), .val (.double r), .second, .val (.double r), .second]) rfl ?_
        show Steps p.tables e below (T66.setTop (mkF m 217 #[.val (.int p0), .val (.int p1), .val (.int p2), .val (.int p3), .val (.int p4), .val (.int (4 : Int32)), .val (.int (own_ks j0)), .val (.int (own_ks j1)), .val (.int (own_ks j2)), .val (.int (own_ks j3)), .val (.ref a1), .val (.int (Int32.ofNat tot)), .val (.double r), .second, .val (.double r), .second] [])) _
        refine XS.dload X66.here hx rfl (hb hby at_217) rfl ?_
        show Steps p.tables e below (T66.setTop (mkF m 219 #[.val (.int p0), .val (.int p1), .val (.int p2), .val (.int p3), .val (.int p4), .val (.int (4 : Int32)), .val (.int (own_ks j0)), .val (.int (own_ks j1)), .val (.int (own_ks j2)), .val (.int (own_ks j3)), .val (.ref a1), .val (.int (Int32.ofNat tot)), .val (.double r), .second, .val (.double r), .second] [(.double r)])) _
        refine XS.dload X66.here hx rfl (hb hby at_219) rfl ?_
        show Steps p.tables e below (T66.setTop (mkF m 221 #[.val (.int p0), .val (.int p1), .val (.int p2), .val (.int p3), .val (.int p4), .val (.int (4 : Int32)), .val (.int (own_ks j0)), .val (.int (own_ks j1)), .val (.int (own_ks j2)), .val (.int (own_ks j3)), .val (.ref a1), .val (.int (Int32.ofNat tot)), .val (.double r), .second, .val (.double r), .second] [(.double r), (.double r)])) _
        refine XS.dcmpS X66.here hx rfl (hb hby at_221) rfl (dcmpV_self hd2 _) ?_
        show Steps p.tables e below (T66.setTop (mkF m 222 #[.val (.int p0), .val (.int p1), .val (.int p2), .val (.int p3), .val (.int p4), .val (.int (4 : Int32)), .val (.int (own_ks j0)), .val (.int (own_ks j1)), .val (.int (own_ks j2)), .val (.int (own_ks j3)), .val (.ref a1), .val (.int (Int32.ofNat tot)), .val (.double r), .second, .val (.double r), .second] [(.int (0 : Int32))])) _
        refine XS.ifNo X66.here hx rfl (hb hby at_222) rfl (by decide) ?_
        show Steps p.tables e below (T66.setTop (mkF m 225 #[.val (.int p0), .val (.int p1), .val (.int p2), .val (.int p3), .val (.int p4), .val (.int (4 : Int32)), .val (.int (own_ks j0)), .val (.int (own_ks j1)), .val (.int (own_ks j2)), .val (.int (own_ks j3)), .val (.ref a1), .val (.int (Int32.ofNat tot)), .val (.double r), .second, .val (.double r), .second] [])) _
        refine XS.iconst X66.here hx rfl (hb hby at_225) ?_
        show Steps p.tables e below (T66.setTop (mkF m 226 #[.val (.int p0), .val (.int p1), .val (.int p2), .val (.int p3), .val (.int p4), .val (.int (4 : Int32)), .val (.int (own_ks j0)), .val (.int (own_ks j1)), .val (.int (own_ks j2)), .val (.int (own_ks j3)), .val (.ref a1), .val (.int (Int32.ofNat tot)), .val (.double r), .second, .val (.double r), .second] [(.int (1 : Int32))])) _
        refine XS.goto X66.here hx rfl (pc0 := 226) (pc' := 230) rfl (hb hby at_226) (by decide) (by decide) ?_
        exact kk_)
      obtain ⟨fs, hr, hrun, hended, hW, hsame⟩ := X66.leave (v := some (.int (1 : Int32))) (fun h => by rw [Bd.returns] at h; cases h)
      refine ⟨_, _, ?_, hrun, hended, _, _, rfl, ?_, ⟨_, rfl⟩, hW, hsame.mono (by decide) (by decide)⟩
      · rw [← hG]; exact S70 _ (retN X66 hx (t := .boolean) Bd.returns (by simp) (hb hby at_230) hr)
      · show Q0 Z p0 p1 p2 p3 p4 h0 n0 _ T66.heap _
        rw [e66]
        exact ⟨rfl, MM⟩
set_option maxRecDepth 65536 in
set_option maxHeartbeats 40000000 in
theorem comes_1 {Post : Tables → Env → Array Value → State → Outcome → State → Prop} (hpost : ∀ tb e args s v u, (limb_1_1.after args s (.returned v) u = true ∧ limb_1_2.after args s (.returned v) u = true ∧ True) → FrameEnd s (.returned v) u (Jvm.fieldLocs frame_1_writes args s ++ Jvm.arrayLocs frame_1_arrays args s ++ Jvm.staticLocs frame_1_statics s) 16 128 → Post tb e args s (.returned v) u) :
    ArmFor flags0 classFile x code maxLocals ret World_1 tables_1 room_1 Calls_1 rest_1 Pre_1 Post := by
  intro l hfl _ _ p e ha hc hk s m args below hf hA hF happ hP
  obtain ⟨hcalls, hrest, hpre⟩ := hP
  obtain ⟨-, -, -, hnamed, -, -, -, hat⟩ := (Spec.applies_iff hf).mp happ
  obtain ⟨hg, hn⟩ := and_e (Cond.before_iff.mp (show (Jvm.Cond.and given_1 narrow_1).before args s = true from hpre))
  obtain ⟨gc, gg0⟩ := and_e hg
  obtain ⟨ga0, gg1⟩ := and_e gg0
  obtain ⟨ga1, gg2⟩ := and_e gg1
  obtain ⟨ga2, gg3⟩ := and_e gg2
  obtain ⟨ga3, gg4⟩ := and_e gg3
  have ga4 := gg4
  obtain ⟨w0, w1, w2, w3, w4, rfl⟩ : ∃ w0 w1 w2 w3 w4 : Value, args = #[w0, w1, w2, w3, w4] := by
    have hs : args.size = 5 := by simpa [Cond.value, given_1] using gc
    obtain ⟨L⟩ := args
    match L, hs with
    | [w0, w1, w2, w3, w4], _ => exact ⟨w0, w1, w2, w3, w4, rfl⟩
  have hw := fun d (hd : d ∈ tables_1) => atoms_spec (ws := Jvm.Cond.code x code maxLocals ret :: tables_1) hat d (List.mem_cons_of_mem _ hd)
  have hfit : Fit s := fun {y c} hc i hi => by
    obtain ⟨ha, rfl⟩ := Array.getElem?_eq_some_iff.mp hc
    have q := List.all_eq_true.mp ((Array.all_eq_true_iff_forall_mem.mp hF) _ (Array.getElem_mem ha)) i (List.mem_range.mpr hi)
    simpa [Array.getElem?_eq_getElem hi] using q
  obtain ⟨i0, ei0⟩ := is_v ga0
  obtain rfl : w0 = (.int i0) := Option.some.inj ei0
  obtain ⟨i1, ei1⟩ := is_v ga1
  obtain rfl : w1 = (.int i1) := Option.some.inj ei1
  obtain ⟨i2, ei2⟩ := is_v ga2
  obtain rfl : w2 = (.int i2) := Option.some.inj ei2
  obtain ⟨i3, ei3⟩ := is_v ga3
  obtain rfl : w3 = (.int i3) := Option.some.inj ei3
  obtain ⟨i4, ei4⟩ := is_v ga4
  obtain rfl : w4 = (.int i4) := Option.some.inj ei4
  obtain ⟨n, o, h1, h2, h3, _, L, rfl, ⟨rfl, N⟩, hq⟩ := rm0 l s _ hw tables_1 i0 i1 i2 i3 i4 s.heap s.heap.size (Nat.le_refl _)  p e ha hc hk s m _ below hf ((Spec.applies_iff_loose hf).mp happ).1 ⟨rfl, State.Warmed39.refl s, rfl⟩ trivial
  refine ⟨n, _, h1, h2, h3, hpost _ _ _ _ _ _ ⟨Cond.after_iff.mpr rfl, Cond.after_iff.mpr (eq_i res_at (Term.int_eval (1)) rfl), trivial⟩ ⟨hq.1, hq.2.1, (hq.2.2.sift fun y hy => Or.inr (N y hy)).mono (by decide) (by decide)⟩⟩
theorem main_1_1 : Claimed_1_1 := comes_1 fun _ _ _ _ _ _ h hF => ⟨h.1, hF⟩
theorem main_1_2 : Claimed_1_2 := comes_1 fun _ _ _ _ _ _ h hF => ⟨h.2.1, hF⟩
end Jvm.Pilot.@@N@@
namespace Jvm.Pilot.@@N@@
open Jvm Jvm.ClassFile Sem Op Lib Jvm.Free Jvm.Stand Jvm.Pilot.@@N@@.Jvm.D
/-! MADE BY PROGRAM (witnessworld.py) out of the Statement's table words and the real class files: 11 classes; the members and pool entries that the words name. The judged class is class 1, her method 1. -/
namespace start1
open Jvm.ClassFile
def u (s : String) : CpInfo := .utf8 (stringToUtf16 s)
/-- a pool by its gaps: so many unusable entries, then the entry; so many at the end -/
def gap : Nat → List CpInfo → List CpInfo
  | 0, r => r
  | n + 1, r => .unusable :: gap n r
def poolList (es : List (Nat × CpInfo)) (last : Nat) : List CpInfo := es.foldr (fun e r => gap e.1 (e.2 :: r)) (gap last [])
def pool (es : List (Nat × CpInfo)) (last : Nat) : Array CpInfo := ⟨poolList es last⟩
def fileOf (pool : Array CpInfo) (this : Nat) (attrs : Array Attribute := #[]) (ms : Array MethodInfo := #[]) (fl : Nat := 33) (sup : Nat := 0) (ifs : Array Nat := #[]) (fds : Array FieldInfo := #[]) : ClassFile where
  minorVersion := 0
  majorVersion := 65
  constantPool := pool
  accessFlags := fl
  thisClass := this
  superClass := sup
  interfaces := ifs
  fields := fds
  methods := ms
  attributes := attrs
def plain (name : String) (sup : Option ClassId) : Class where
  name := name
  kind := .ordinary
  loader := none
  accessFlags := 33
  super := sup
  interfaces := #[]
  cf := none
  fields := #[]
  methods := #[]
  instanceTypes := #[]
  staticTypes := #[]
  resolved := #[]
  callSites := []
  init := .initialized
  statics := none
  mirror := none

def pool0 : Array CpInfo := pool [(5, u "<init>"), (0, u "()V"), (1, .class_ 10), (1, u "java/lang/Object")] 113

def k0m0 : Method := { name := "<init>", desc := "()V", sig := { parameters := [], returnType := none }, accessFlags := 1, code := none }
/-- java/lang/Object -/
def k0 : Class := { plain "java/lang/Object" none with
  accessFlags := 33
  interfaces := #[]
  cf := some (fileOf pool0 8 #[] #[{ accessFlags := 1, nameIndex := 5, descriptorIndex := 6, attributes := #[] }] 33 0 #[] #[])
  fields := #[]
  methods := #[k0m0]
  instanceTypes := #[]
  staticTypes := #[]
  resolved := Array.replicate 124 none
  statics := none }

def pool1 : Array CpInfo := pool [(2, .class_ 4), (1, u "java/lang/Object"), (0, u "<init>"), (0, u "()V"), (0, .double 4643211215818981376), (1, .methodref 10 11), (0, .class_ 12), (0, .nameAndType 13 14), (0, u "com/example/cladewave/cladewave/samplers/Resampling"), (0, u "effectiveSampleSize"), (0, u "([D)D"), (0, .double 9214871658872686752), (1, .double 4611686018427387904), (1, .double 4679240012837945344), (1, .class_ 22), (0, u "com/example/cladewave/cladewave/samplers/ResamplingEffectiveSampleSizePinLaw"), (2, u "law"), (0, u "(IIIII)Z")] 5

def k1m0 : Method := { name := "<init>", desc := "()V", sig := { parameters := [], returnType := none }, accessFlags := 2, code := none }
def k1c1 : Code := { maxStack := 6, maxLocals := 16, code := code, exceptionTable := #[], attributes := #[] }
def k1m1 : Method := { name := "law", desc := "(IIIII)Z", sig := { parameters := [.int, .int, .int, .int, .int], returnType := some .boolean }, accessFlags := 9, code := some k1c1 }
/-- com/example/cladewave/cladewave/samplers/ResamplingEffectiveSampleSizePinLaw -/
def k1 : Class := { plain "com/example/cladewave/cladewave/samplers/ResamplingEffectiveSampleSizePinLaw" (some 0) with
  accessFlags := 49
  interfaces := #[]
  cf := some (fileOf pool1 21 #[] #[{ accessFlags := 2, nameIndex := 5, descriptorIndex := 6, attributes := #[] }, { accessFlags := 9, nameIndex := 25, descriptorIndex := 26, attributes := #[] }] 49 2 #[] #[])
  fields := #[]
  methods := #[k1m0, k1m1]
  instanceTypes := #[]
  staticTypes := #[]
  resolved := Array.replicate 32 none
  statics := none }

def pool2 : Array CpInfo := pool [(2, .class_ 4), (1, u "java/lang/Object"), (0, u "<init>"), (0, u "()V"), (1, .class_ 10), (1, u "com/example/cladewave/cladewave/samplers/Resampling"), (0, u "effectiveSampleSize"), (0, u "([D)D"), (7, .class_ 22), (1, u "com/example/cladewave/cladewave/samplers/Resampling$Copier")] 28

def k2m0 : Method := { name := "<init>", desc := "()V", sig := { parameters := [], returnType := none }, accessFlags := 2, code := none }
def k2c1 : Code := { maxStack := 6, maxLocals := 8, code := prog_47_method_3_code, exceptionTable := #[], attributes := #[] }
def k2m1 : Method := { name := "effectiveSampleSize", desc := "([D)D", sig := { parameters := [(.array .double)], returnType := some .double }, accessFlags := 8, code := some k2c1 }
/-- com/example/cladewave/cladewave/samplers/Resampling -/
def k2 : Class := { plain "com/example/cladewave/cladewave/samplers/Resampling" (some 0) with
  accessFlags := 48
  interfaces := #[]
  cf := some (fileOf pool2 8 #[.nestMembers #[20]] #[{ accessFlags := 2, nameIndex := 5, descriptorIndex := 6, attributes := #[] }, { accessFlags := 8, nameIndex := 11, descriptorIndex := 12, attributes := #[] }] 48 2 #[] #[])
  fields := #[]
  methods := #[k2m0, k2m1]
  instanceTypes := #[]
  staticTypes := #[]
  resolved := Array.replicate 51 none
  statics := none }

def pool3 : Array CpInfo := pool [(1, u "java/lang/Cloneable"), (0, .class_ 1), (0, u "java/lang/Object"), (0, .class_ 3)] 3

/-- java/lang/Cloneable -/
def k3 : Class := { plain "java/lang/Cloneable" (some 0) with
  accessFlags := 1537
  interfaces := #[]
  cf := some (fileOf pool3 2 #[] #[] 1537 4 #[] #[])
  fields := #[]
  methods := #[]
  instanceTypes := #[]
  staticTypes := #[]
  resolved := Array.replicate 8 none
  statics := none }

def pool4 : Array CpInfo := pool [(1, u "java/io/Serializable"), (0, .class_ 1), (0, u "java/lang/Object"), (0, .class_ 3)] 3

/-- java/io/Serializable -/
def k4 : Class := { plain "java/io/Serializable" (some 0) with
  accessFlags := 1537
  interfaces := #[]
  cf := some (fileOf pool4 2 #[] #[] 1537 4 #[] #[])
  fields := #[]
  methods := #[]
  instanceTypes := #[]
  staticTypes := #[]
  resolved := Array.replicate 8 none
  statics := none }

/-- the primitive byte -/
def k5 : Class := { plain "byte" none with kind := .primitive 'B', accessFlags := 0x411 }
/-- [B -/
def k6 : Class := { plain "[B" (some 0) with kind := .array 5 .byte, interfaces := #[3, 4], accessFlags := 1041 }

/-- the primitive double -/
def k7 : Class := { plain "double" none with kind := .primitive 'D', accessFlags := 0x411 }
/-- [D -/
def k8 : Class := { plain "[D" (some 0) with kind := .array 7 .double, interfaces := #[3, 4], accessFlags := 1041 }

/-- the primitive int -/
def k9 : Class := { plain "int" none with kind := .primitive 'I', accessFlags := 0x411 }
/-- [I -/
def k10 : Class := { plain "[I" (some 0) with kind := .array 9 .int, interfaces := #[3, 4], accessFlags := 1041 }

def heap : Heap := #[]
def classes : Array Class := #[k0, k1, k2, k3, k4, k5, k6, k7, k8, k9, k10]
def interned : List (Array UInt16 × Addr) := []
def slotsUsed : Nat := 0
def theMethod : MethodId := ⟨1, 1⟩
def args0 : Array Value := #[.int 5, .int 6, .int 7, .int 8, .int 9]
def aboutOver (below : List Frame) : State where
  vm := { classes := classes, interned := interned.toArray }
  heap := heap
  slotsUsed := slotsUsed
  threads := #[{ frames := .invoking theMethod args0 :: below }]
def below0 : List Frame := [.native { method := ⟨0, 0⟩, args := #[] }]
def about1 : State := aboutOver below0
def p0 : Program := .bare "" "" ""
def e0 : Env := launch0.env 0 0 0
theorem w_frames : about1.frames = Frame.invoking theMethod args0 :: below0 := rfl
set_option maxRecDepth 65536 in
theorem w_args : argsFit about1.vm theMethod args0 = true := by decide +kernel
set_option maxRecDepth 65536 in
theorem w_heap : heapFits about1 = true := by decide +kernel
set_option maxRecDepth 65536 in
theorem w_runnable : about1.curStatus? = some .runnable := by decide +kernel
set_option maxRecDepth 65536 in
theorem w_alone : about1.alone = true := by decide +kernel
set_option maxRecDepth 65536 in
theorem w_named : about1.methodNamed? x = some theMethod := by decide +kernel
set_option maxRecDepth 65536 in
theorem w_hears : about1.hears theMethod below0 = true := by decide +kernel
set_option maxRecDepth 65536 in
theorem w_ripe : about1.ripe theMethod args0 below0 = true := by decide +kernel
theorem w_running : about1.status = .running := rfl
set_option maxRecDepth 65536 in
theorem w_room : about1.hasRoom e0.platform room_1 = true :=
  launch0.hasRoom_least _ room_1 (by decide +kernel) (by decide +kernel) (by decide +kernel) (by decide +kernel) (by decide +kernel) (by decide +kernel)
theorem allAtoms_all (ts : List Jvm.Cond) (a : Array Jvm.Value) (st : Jvm.State) : (allAtoms ts).before a st = ts.all (fun c => c.before a st) := by
  induction ts with
  | nil => rfl
  | cons c t ih =>
    show (Jvm.Cond.and c (allAtoms t)).before a st = _
    rw [Jvm.Cond.before_and, ih, List.all_cons]
def words1 : List Jvm.Cond := Jvm.Cond.code x code maxLocals ret :: tables_1
/-- a 'code' word, met by the world's own term for the bytes: nothing is compared byte by byte -/
theorem code_word {y : MethodName} {bytes : ByteArray} {mx : Nat} {rt : Option FieldType} {a : Array Value} {s : State} {m : MethodId} {meth : Method} {c : Code} (h1 : s.methodNamed? y = some m) (h2 : s.vm.method? m = some meth) (h3 : meth.code = some c) (h4 : c.code = bytes)
    (h5 : (c.maxLocals == mx && c.exceptionTable.isEmpty && decide (c.maxStack ≤ mostOperands) && decide (meth.sig.returnType = rt) && !meth.locks && decide (parseMethodDescriptor y.desc = some meth.sig)) = true) : (Jvm.Cond.code y bytes mx rt).before a s = true := by
  simp only [Bool.and_eq_true, beq_iff_eq, Bool.not_eq_true', decide_eq_true_eq] at h5
  obtain ⟨⟨⟨⟨⟨g1, g2⟩, g3⟩, g4⟩, g5⟩, g6⟩ := h5
  simp [Cond.before, Cond.holds, Cond.value, h1, h2, h3, h4, g1, g2, g3, g4, g5, g6]
def isCode : Jvm.Cond → Bool
  | .code _ _ _ _ => true
  | _ => false
theorem all_split {L : List Jvm.Cond} {P : Jvm.Cond → Bool} (h1 : L.all (fun c => isCode c || P c) = true) (h2 : ∀ c ∈ L.filter isCode, P c = true) : L.all P = true := by
  refine List.all_eq_true.mpr fun c hc => ?_
  have h := List.all_eq_true.mp h1 c hc
  rcases Bool.eq_false_or_eq_true (isCode c) with hi | hi
  · exact h2 c (List.mem_filter.mpr ⟨hc, hi⟩)
  · simpa [hi] using h
set_option maxRecDepth 65536 in
theorem w_c0 : (Jvm.Cond.code x code maxLocals ret).before args0 about1 = true := code_word (m := ⟨1, 1⟩) (meth := k1m1) (c := k1c1) (by decide +kernel) rfl rfl rfl (by decide +kernel)
set_option maxRecDepth 65536 in
theorem w_c1 : (Jvm.Cond.code ({ cls := "com/example/cladewave/cladewave/samplers/Resampling", name := "effectiveSampleSize", desc := "([D)D" } : Jvm.MethodName) prog_47_method_3_code (8 : Nat) (Option.some Jvm.ClassFile.FieldType.double)).before args0 about1 = true := code_word (m := ⟨2, 1⟩) (meth := k2m1) (c := k2c1) (by decide +kernel) rfl rfl rfl (by decide +kernel)
def codes1 : List Jvm.Cond := [Jvm.Cond.code x code maxLocals ret, Jvm.Cond.code ({ cls := "com/example/cladewave/cladewave/samplers/Resampling", name := "effectiveSampleSize", desc := "([D)D" } : Jvm.MethodName) prog_47_method_3_code (8 : Nat) (Option.some Jvm.ClassFile.FieldType.double)]
set_option maxRecDepth 65536 in
theorem codes_eq : words1.filter isCode = codes1 := rfl
theorem w_codes : ∀ c ∈ words1.filter isCode, c.before args0 about1 = true := by
  rw [codes_eq]
  intro c hc
  simp only [codes1, List.mem_cons, List.not_mem_nil, or_false] at hc
  rcases hc with rfl | rfl
  · exact w_c0
  · exact w_c1
set_option maxRecDepth 65536 in
theorem w_t1 : words1.all (fun c => isCode c || c.before args0 about1) = true := by decide +kernel
theorem w_tables : (allAtoms (Jvm.Cond.code x code maxLocals ret :: tables_1)).before args0 about1 = true := by
  rw [allAtoms_all]
  show words1.all (fun c => c.before args0 about1) = true
  refine all_split ?_ w_codes
  rw [w_t1]
set_option maxRecDepth 65536 in
theorem w_case : (Jvm.Cond.and given_1 narrow_1).before args0 about1 = true := by decide +kernel
theorem w_applies : (headSpec (Jvm.Cond.code x code maxLocals ret :: tables_1) room_1).applies x e0.platform about1 = true :=
  (Spec.applies_iff w_frames).mpr ⟨w_running, w_runnable, w_alone, w_named, w_hears, w_ripe, w_room, w_tables⟩
theorem atStart : AtStart classFile x code maxLocals ret World_1 tables_1 room_1 Calls_1 rest_1 Pre_1 launch0 p0 e0 about1 theMethod args0 below0 :=
  ⟨lists_1, trivial, launch0.admits_env _ _ _, launch0.least_env, fairChoices_fair.cas, fairChoices_fair.clock, w_frames, w_args, w_heap, w_applies, trivial, trivial, w_case⟩
end start1
theorem witness_1 : WitnessClaimed_1 := ⟨start1.p0, start1.e0, start1.about1, start1.theMethod, start1.args0, start1.below0, start1.atStart⟩
end Jvm.Pilot.@@N@@
