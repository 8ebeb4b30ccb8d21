import JvmDerived
import JvmDerived.Pilot.@@N@@Statement
import JvmDerived.Pilot.@@N@@Code
set_option linter.unusedVariables false
set_option linter.unusedSimpArgs false
namespace Jvm.RoadKit
open Sem ClassFile Op Lib Jvm.Stand Jvm.Free Jvm.LawKit
section OwnWalk
variable {p : Program} {l : Launch} {e : Env} {R : Room} {s : State} {m : MethodId} {args : Array Value} {below : List Frame} {meth : Method} {c : Code} {T : State} {locs : List Loc} {cells slots : Nat} {Z : State} {a0 : Array Value} {h : Heap}
theorem retI (X : Stand p l e R s m args below meth c T locs cells slots) (hx : p.tables.exec = Jvm.exec) {pc : Nat} {Ls : Array Slot} {z : Int32} {rest : List Value} (hret : meth.sig.returnType = some .int) (hd : decode c.code pc = .ok (.ireturn, 1)) {fs : List Frame}
    (hl : ∀ (f : JFrame) (acts : List Action), f.method = m → f.locked = none → f.entered = [] → (doReturn e (T.setTop f) acts (some (.int z))).1 = T.setFrames fs) : Steps p.tables e below (T.setTop (mkF m pc Ls (.int z :: rest))) (T.setFrames fs) := by
  have hm' : T.vm.method? m = some meth := X.method'
  have hn : narrow .int (.int z) = .int z := rfl
  show Steps p.tables e below (T.setTop { method := m, pc := pc, locals := Ls, stack := _ :: rest, locked := none }) _
  jvm_step X.here [X.here.top, hx, hd, hm', hret, hn]
  first | (intro acts; rw [hl _ acts rfl rfl rfl]) | rw [hl _ _ rfl rfl rfl]
  exact Steps.refl _
/-- a body's contract at given arguments and a given heap -/
abbrev own_Met (l : Launch) (y : MethodName) (bytes : ByteArray) (maxL : Nat) (ret : Option FieldType) (ws : List Cond) (rm : Room) (Z : State) (as' : Array Value) (h : Heap) (Q : Option Value → Heap → List Loc → Prop) : Prop :=
  MetFree l y (head1 (Cond.code y bytes maxL ret :: ws) rm) (fun a U => a = as' ∧ Z.Warmed39 U.vm ∧ U.heap = h) (fun _ _ _ _ _ => True) (fun _ U o U' => ∃ v L, o = .returned v ∧ Q v U'.heap L ∧ FrameEnd U o U' L rm.cells rm.slots)
/-- from here the walk comes to its end, and Q holds there -/
def own_Go (p : Program) (e : Env) (below : List Frame) (s T : State) (g : JFrame) (k n : Nat) (Q : Option Value → Heap → List Loc → Prop) : Prop :=
  ∃ s₂ o, Steps p.tables e below (T.setTop g) s₂ ∧ s₂.status = .running ∧ Ended s₂ below o ∧ ∃ v L, o = .returned v ∧ Q v s₂.heap L ∧ FrameEnd s o s₂ L k n
variable {k n : Nat} {Q : Option Value → Heap → List Loc → Prop}
theorem own_in {g g' : JFrame} (ef : g = g') (q : own_Go p e below s T g' k n Q) : ∃ s₂ o, Steps p.tables e below (T.setTop g) s₂ ∧ s₂.status = .running ∧ Ended s₂ below o ∧ ∃ v L, o = .returned v ∧ Q v s₂.heap L ∧ FrameEnd s o s₂ L k n := by
  subst ef; exact q
theorem own_go {T' : State} {g g' : JFrame} (f : ∀ t, Steps p.tables e below (T'.setTop g') t → Steps p.tables e below (T.setTop g) t) (q : own_Go p e below s T' g' k n Q) : own_Go p e below s T g k n Q := by
  obtain ⟨s₂, o, h1, h2⟩ := q; exact ⟨s₂, o, f _ h1, h2⟩
theorem own_outI (X : Stand p l e R s m args below meth c T locs cells slots) (hx : p.tables.exec = Jvm.exec) (hlk : meth.locks = false) (hret : meth.sig.returnType = some .int) {pc : Nat} {Ls : Array Slot} {z : Int32} {rest : List Value} (hd : decode c.code pc = .ok (.ireturn, 1))
    (q : Q (some (.int z)) T.heap locs) (hk : cells ≤ k) (hn : slots ≤ n) : own_Go p e below s T (mkF m pc Ls (.int z :: rest)) k n Q := by
  obtain ⟨fs, hr, hrun, hended, hW, hsame⟩ := X.leave (v := some (.int z)) (fun h => by rw [hret] at h; cases h) hlk
  exact ⟨_, _, retI X hx hret hd hr, hrun, hended, _, _, rfl, q, ⟨_, rfl⟩, hW, hsame.mono hk hn⟩
theorem own_outN (X : Stand p l e R s m args below meth c T locs cells slots) (hx : p.tables.exec = Jvm.exec) (hlk : meth.locks = false) {t : FieldType} (hret : meth.sig.returnType = some t) (ht : t = .boolean ∨ t = .byte ∨ t = .char ∨ t = .short) {pc : Nat} {Ls : Array Slot} {z w : Int32} {rest : List Value} (hd : decode c.code pc = .ok (.ireturn, 1))
    (hw : nar t z = w) (q : Q (some (.int w)) T.heap locs) (hk : cells ≤ k) (hn : slots ≤ n) : own_Go p e below s T (mkF m pc Ls (.int z :: rest)) k n Q := by
  subst hw
  obtain ⟨fs, hr, hrun, hended, hW, hsame⟩ := X.leave (v := some (.int (nar t z))) (fun h => by rw [hret] at h; cases h) hlk
  exact ⟨_, _, retN X hx hret ht hd hr, hrun, hended, _, _, rfl, q, ⟨_, rfl⟩, hW, hsame.mono hk hn⟩
theorem own_outJ (X : Stand p l e R s m args below meth c T locs cells slots) (hx : p.tables.exec = Jvm.exec) (hlk : meth.locks = false) (hret : meth.sig.returnType = some .long) {pc : Nat} {Ls : Array Slot} {z : Int64} {rest : List Value} (hd : decode c.code pc = .ok (.lreturn, 1))
    (q : Q (some (.long z)) T.heap locs) (hk : cells ≤ k) (hn : slots ≤ n) : own_Go p e below s T (mkF m pc Ls (.long z :: rest)) k n Q := by
  obtain ⟨fs, hr, hrun, hended, hW, hsame⟩ := X.leave (v := some (.long z)) (fun h => by rw [hret] at h; cases h) hlk
  exact ⟨_, _, retOut X hx hret rfl (Or.inr (Or.inl ⟨rfl, rfl, _, rfl⟩)) hd hr, hrun, hended, _, _, rfl, q, ⟨_, rfl⟩, hW, hsame.mono hk hn⟩
theorem own_outD (X : Stand p l e R s m args below meth c T locs cells slots) (hx : p.tables.exec = Jvm.exec) (hlk : meth.locks = false) (hret : meth.sig.returnType = some .double) {pc : Nat} {Ls : Array Slot} {z : UInt64} {rest : List Value} (hd : decode c.code pc = .ok (.dreturn, 1))
    (q : Q (some (.double z)) T.heap locs) (hk : cells ≤ k) (hn : slots ≤ n) : own_Go p e below s T (mkF m pc Ls (.double z :: rest)) k n Q := by
  obtain ⟨fs, hr, hrun, hended, hW, hsame⟩ := X.leave (v := some (.double z)) (fun h => by rw [hret] at h; cases h) hlk
  exact ⟨_, _, retOut X hx hret rfl (Or.inr (Or.inr (Or.inl ⟨rfl, rfl, _, rfl⟩))) hd hr, hrun, hended, _, _, rfl, q, ⟨_, rfl⟩, hW, hsame.mono hk hn⟩
theorem own_outA (X : Stand p l e R s m args below meth c T locs cells slots) (hx : p.tables.exec = Jvm.exec) (hlk : meth.locks = false) {t : FieldType} (hret : meth.sig.returnType = some t) (ht : t.isReference = true) {pc : Nat} {Ls : Array Slot} {w : Value} {rest : List Value} (hwr : w.isRef = true) (hd : decode c.code pc = .ok (.areturn, 1))
    (q : Q (some w) T.heap locs) (hk : cells ≤ k) (hn : slots ≤ n) : own_Go p e below s T (mkF m pc Ls (w :: rest)) k n Q := by
  obtain ⟨fs, hr, hrun, hended, hW, hsame⟩ := X.leave (v := some w) (fun h => by rw [hret] at h; cases h) hlk
  have hnw : narrow t w = w := by rcases ref_cases hwr with rfl | ⟨a, rfl⟩ <;> cases t <;> first | rfl | cases ht
  exact ⟨_, _, retOut X hx hret hnw (Or.inr (Or.inr (Or.inr (Or.inr ⟨rfl, ht, hwr⟩)))) hd hr, hrun, hended, _, _, rfl, q, ⟨_, rfl⟩, hW, hsame.mono hk hn⟩
theorem own_outV (X : Stand p l e R s m args below meth c T locs cells slots) (hx : p.tables.exec = Jvm.exec) (hlk : meth.locks = false) (hret : meth.sig.returnType = none) {pc : Nat} {Ls : Array Slot} (hd : decode c.code pc = .ok (.return_, 1))
    (q : Q none T.heap locs) (hk : cells ≤ k) (hn : slots ≤ n) : own_Go p e below s T (mkF m pc Ls []) k n Q := by
  obtain ⟨fs, hr, hrun, hended, hW, hsame⟩ := X.leave (v := none) (fun _ => rfl) hlk
  exact ⟨_, _, X.returnOut hx hret hd hr, hrun, hended, _, _, rfl, q, ⟨_, rfl⟩, hW, hsame.mono hk hn⟩
theorem own_callS (X : Stand p l e R s m args below meth c T locs cells slots) (hx : p.tables.exec = Jvm.exec) (hZ : Z.Warmed39 s.vm) {own : String} {index : Nat} {y : MethodName} {bytes : ByteArray} {maxL : Nat} {ret : Option FieldType} {rm : Room} {argsL rest : List Value}
    (hown : s.vm.findClass own = some m.cls) (w1 : (Cond.methodLink own index y).before a0 Z = true) (w2 : (Cond.static y).before a0 Z = true) (w3 : (Cond.initialized y.cls).before a0 Z = true) (w4 : (Cond.code y bytes maxL ret).before a0 Z = true)
    (hM : own_Met l y bytes maxL ret [] rm Z argsL.toArray h Q) (eT : T.heap = h) (hy : y.cls ≠ "java/lang/invoke/MethodHandle" ∧ y.cls ≠ "java/lang/invoke/VarHandle") (hf : rm.frames + 1 ≤ R.frames) (W : Nat) (hl : W + (maxL + 11) + rm.locals ≤ R.locals) (hc : cells + rm.cells ≤ R.cells) (hs : slots + rm.slots ≤ R.slots)
    {g : JFrame} (hg : g.method = m) (hsize : g.locals.size = c.maxLocals) (hlen : ∀ sig, parseMethodDescriptor y.desc = some sig → argsL.length = sig.parameters.length) (hstack : g.stack = argsL.reverse ++ rest) (hW : 2 * g.monitorRoom + (rest.map fun v => v.category).sum ≤ W) (hd : decode c.code g.pc = .ok (.invokestatic index, 3)) :
    ∃ v T' L, Stand p l e R s m args below meth c T' (locs ++ L) (cells + rm.cells) (slots + rm.slots) ∧ Q v T'.heap L ∧ ∀ t, Steps p.tables e below (T'.setTop { g with pc := g.pc + 3, stack := v.toList ++ rest }) t → Steps p.tables e below (T.setTop g) t := by
  obtain ⟨v, _, ⟨T', L', k', n'⟩, -, X', ⟨Lc, hQ, l1, l2, l3⟩, st⟩ := Jvm.LawKit.callS X hx (y := y) hown (mvT hZ w1) (mvT hZ w2) (mvT hZ w3) (mvT hZ w4) hy (backOf (W := W) hM hZ w4 w3 hf hl) hg hsize (argsL := argsL) (rest := rest) hlen hstack hW hd (fun _ _ => ⟨rfl, eT, hc, hs⟩)
  dsimp only [Pt.U, Pt.locs, Pt.cells, Pt.slots] at X' l1 l2 l3 st hQ
  subst l1 l2 l3
  exact ⟨v, T', Lc, X', hQ, st⟩
theorem own_callV (X : Stand p l e R s m args below meth c T locs cells slots) (hx : p.tables.exec = Jvm.exec) (hZ : Z.Warmed39 s.vm) {own C : String} {index : Nat} {y : MethodName} {bytes : ByteArray} {maxL : Nat} {ret : Option FieldType} {rm : Room} {b : Addr} {argsL rest : List Value}
    (hown : s.vm.findClass own = some m.cls) (w1 : (Cond.methodLink own index y).before a0 Z = true) (w2 : (Cond.declares y).before a0 Z = true) (w3 : (Cond.selects C y y).before a0 Z = true) (w4 : (Cond.instanceMethod y).before a0 Z = true) (w5 : (Cond.initialized y.cls).before a0 Z = true) (w6 : (Cond.code y bytes maxL ret).before a0 Z = true)
    (hM : own_Met l y bytes maxL ret [] rm Z (.ref b :: argsL).toArray h Q) (eT : T.heap = h) (E : Exa Z h b C) (hy : y.cls ≠ "java/lang/invoke/MethodHandle" ∧ y.cls ≠ "java/lang/invoke/VarHandle") (hf : rm.frames + 1 ≤ R.frames) (W : Nat) (hl : W + (maxL + 11) + rm.locals ≤ R.locals) (hc : cells + rm.cells ≤ R.cells) (hs : slots + rm.slots ≤ R.slots)
    {g : JFrame} (hg : g.method = m) (hsize : g.locals.size = c.maxLocals) (hlen : ∀ sig, parseMethodDescriptor y.desc = some sig → argsL.length = sig.parameters.length) (hstack : g.stack = argsL.reverse ++ .ref b :: rest) (hW : 2 * g.monitorRoom + (rest.map fun v => v.category).sum ≤ W) (hd : decode c.code g.pc = .ok (.invokevirtual index, 3)) :
    ∃ v T' L, Stand p l e R s m args below meth c T' (locs ++ L) (cells + rm.cells) (slots + rm.slots) ∧ Q v T'.heap L ∧ ∀ t, Steps p.tables e below (T'.setTop { g with pc := g.pc + 3, stack := v.toList ++ rest }) t → Steps p.tables e below (T.setTop g) t := by
  obtain ⟨cq, kq, qa, qb, qc⟩ := isOf hZ eT E
  obtain ⟨v, _, ⟨T', L', k', n'⟩, -, X', ⟨Lc, hQ, l1, l2, l3⟩, st⟩ := X.virtualBack hx (y := y) (z := y) hown (mvT hZ w1) (mvT hZ w2) (notFace_of_selects (args := #[]) (mvT hZ w3)) (mvT hZ w3) (mvT hZ w4) hy (backOf (W := W) hM hZ w6 w5 hf hl) qa qc hg hsize (Steps.refl _) (argsL := argsL) (rest := rest) hlen hstack hW hd (fun _ _ => ⟨rfl, eT, hc, hs⟩)
  dsimp only [Pt.U, Pt.locs, Pt.cells, Pt.slots] at X' l1 l2 l3 st hQ
  subst l1 l2 l3
  exact ⟨v, T', Lc, X', hQ, fun t q => st.trans q⟩
theorem own_callP (X : Stand p l e R s m args below meth c T locs cells slots) (hx : p.tables.exec = Jvm.exec) (hZ : Z.Warmed39 s.vm) {own : String} {index : Nat} {y : MethodName} {bytes : ByteArray} {maxL : Nat} {rm : Room} {a : Addr} {argsL rest : List Value}
    (hown : s.vm.findClass own = some m.cls) (hy1 : y.name = "<init>") (w1 : (Cond.methodLink own index y).before a0 Z = true) (w2 : (Cond.instanceMethod y).before a0 Z = true) (w3 : (Cond.initialized y.cls).before a0 Z = true) (w4 : (Cond.code y bytes maxL none).before a0 Z = true)
    (hM : own_Met l y bytes maxL none [] rm Z (.ref a :: argsL).toArray h Q) (eT : T.heap = h) (hy : y.cls ≠ "java/lang/invoke/MethodHandle" ∧ y.cls ≠ "java/lang/invoke/VarHandle") (hf : rm.frames + 1 ≤ R.frames) (W : Nat) (hl : W + (maxL + 11) + rm.locals ≤ R.locals) (hc : cells + rm.cells ≤ R.cells) (hs : slots + rm.slots ≤ R.slots)
    {g : JFrame} (hg : g.method = m) (hsize : g.locals.size = c.maxLocals) (hlen : ∀ sig, parseMethodDescriptor y.desc = some sig → argsL.length = sig.parameters.length) (hstack : g.stack = argsL.reverse ++ .ref a :: rest) (hW : 2 * g.monitorRoom + (rest.map fun v => v.category).sum ≤ W) (hd : decode c.code g.pc = .ok (.invokespecial index, 3)) :
    ∃ v T' L, Stand p l e R s m args below meth c T' (locs ++ L) (cells + rm.cells) (slots + rm.slots) ∧ Q v T'.heap L ∧ ∀ t, Steps p.tables e below (T'.setTop { g with pc := g.pc + 3, stack := v.toList ++ rest }) t → Steps p.tables e below (T.setTop g) t := by
  obtain ⟨v, _, ⟨T', L', k', n'⟩, -, X', ⟨Lc, hQ, l1, l2, l3⟩, st⟩ := X.specialBack hx (y := y) hy1 hown (mvT hZ w1) (mvT hZ w2) (mvT hZ w4) hy (backOf (W := W) hM hZ w4 w3 hf hl) hg hsize (Steps.refl _) (a := a) (argsL := argsL) (rest := rest) hlen hstack hW hd (fun _ _ => ⟨rfl, eT, hc, hs⟩)
  dsimp only [Pt.U, Pt.locs, Pt.cells, Pt.slots] at X' l1 l2 l3 st hQ
  subst l1 l2 l3
  exact ⟨v, T', Lc, X', hQ, fun t q => st.trans q⟩
end OwnWalk
theorem own_llt (x y : Int64) : XT.cmpL x y < 0 ↔ x < y := by
  show (if y < x then (1 : Int32) else if x = y then 0 else -1) < 0 ↔ _
  split
  · rename_i h; exact ⟨fun q => absurd q (by decide), fun q => by rw [Int64.lt_iff_toInt_lt] at h q; omega⟩
  · rename_i h; split
    · rename_i h2; subst h2; exact ⟨fun q => absurd q (by decide), fun q => absurd q h⟩
    · rename_i h2; refine ⟨fun _ => ?_, fun _ => by decide⟩
      rw [← Int64.toInt_inj] at h2; rw [Int64.lt_iff_toInt_lt] at h ⊢; omega
theorem own_lgt (x y : Int64) : 0 < XT.cmpL x y ↔ y < x := by
  show 0 < (if y < x then (1 : Int32) else if x = y then 0 else -1) ↔ _
  split
  · rename_i h; exact ⟨fun _ => h, fun _ => by decide⟩
  · rename_i h; split
    · exact ⟨fun q => absurd q (by decide), fun q => absurd q h⟩
    · exact ⟨fun q => absurd q (by decide), fun q => absurd q h⟩
theorem own_leq (x y : Int64) : XT.cmpL x y = 0 ↔ x = y := by
  show (if y < x then (1 : Int32) else if x = y then 0 else -1) = 0 ↔ _
  split
  · rename_i h; refine ⟨fun q => absurd q (by decide), fun q => ?_⟩; subst q; exact absurd h (by simp only [Int64.lt_iff_toInt_lt]; omega)
  · split
    · rename_i h; exact ⟨fun _ => h, fun _ => rfl⟩
    · rename_i h; exact ⟨fun q => absurd q (by decide), fun q => absurd q h⟩
theorem own_at {x y : Value} (h : x = y) : XT.acmp .eq x y = true ∧ XT.acmp .ne x y = false := by subst h; exact ⟨decide_eq_true rfl, decide_eq_false fun q => q rfl⟩
theorem own_af {x y : Value} (h : ¬ (x = y)) : XT.acmp .eq x y = false ∧ XT.acmp .ne x y = true := ⟨decide_eq_false h, decide_eq_true h⟩
theorem own_fld {s : State} {args : Array Value} {t u : Term} {C n d : String} {a : Addr} {v : Value} (ev : t.eval args s none [] s = some (.ref a)) (hu : u.eval args s none [] s = some v) (hq : (Cond.eq (.field t C n d) u).value args s none s [] = some true) : Fld s s.heap a C n d v := by
  refine Fld.start ?_
  obtain ⟨x, y, h1, h2, -, -⟩ := cmp_v (Or.inl hq)
  cases hu.symm.trans h2
  have h3 := h1
  rw [fld_at ev] at h3
  simp only [Cond.value, h1, h2] at hq
  rw [h3]
  cases x <;> cases v <;> simp at hq ⊢ <;> exact hq
end Jvm.RoadKit
namespace Jvm.Pilot.@@N@@
open Jvm Jvm.ClassFile Sem Op Lib Jvm.Free Jvm.Stand Jvm.LawKit Jvm.RoadKit Bundle Jvm.Pilot.@@N@@.Jvm.D
theorem own_mod (p n : Int32) (hn : 0 < n.toInt) : 0 ≤ ((p &&& 2147483647) % n).toInt ∧ ((p &&& 2147483647) % n).toInt < n.toInt := by
  have h1 : (p &&& 2147483647).toInt = p.toInt % ((2 ^ 31 : Nat) : Int) := c_mask p 2147483647 31 (by decide) (by decide)
  rw [Int32.toInt_mod, h1]
  have h2 : 0 ≤ p.toInt % ((2 ^ 31 : Nat) : Int) := Int.emod_nonneg _ (by decide)
  exact ⟨Int.tmod_nonneg _ h2, Int.tmod_lt_of_pos _ hn⟩
theorem own_ne {k n : Int32} (h : k ≠ n) : k.toInt ≠ n.toInt := fun q => h (Int32.toInt_inj.mp q)
def own_F (Z : State) (h : Heap) (w_TRUE w_UNKNOWN w_FALSE : Addr) : Prop := Sta Z h "com/example/steady_broker/steadybroker/selector/Condition$Truth" "TRUE" "Lcom/example/steady_broker/steadybroker/selector/Condition$Truth;" (.ref w_TRUE) ∧ Exa Z h w_TRUE "com/example/steady_broker/steadybroker/selector/Condition$Truth" ∧ Sta Z h "com/example/steady_broker/steadybroker/selector/Condition$Truth" "UNKNOWN" "Lcom/example/steady_broker/steadybroker/selector/Condition$Truth;" (.ref w_UNKNOWN) ∧ Exa Z h w_UNKNOWN "com/example/steady_broker/steadybroker/selector/Condition$Truth" ∧ Sta Z h "com/example/steady_broker/steadybroker/selector/Condition$Truth" "FALSE" "Lcom/example/steady_broker/steadybroker/selector/Condition$Truth;" (.ref w_FALSE) ∧ Exa Z h w_FALSE "com/example/steady_broker/steadybroker/selector/Condition$Truth" ∧ Fld Z h w_UNKNOWN "java/lang/Enum" "ordinal" "I" (.int (2 : Int32)) ∧ Fld Z h w_TRUE "java/lang/Enum" "ordinal" "I" (.int (0 : Int32)) ∧ Fld Z h w_FALSE "java/lang/Enum" "ordinal" "I" (.int (1 : Int32)) ∧ w_UNKNOWN ≠ w_TRUE ∧ w_UNKNOWN ≠ w_FALSE ∧ w_TRUE ≠ w_FALSE
theorem d1_0 : decode method_2_code 0 = .ok (.iload_n 0, 1) := by decide +kernel
theorem d1_1 : decode method_2_code 1 = .ok (.ifCond .ne 7, 3) := by decide +kernel
theorem d1_4 : decode method_2_code 4 = .ok (.getstatic 7, 3) := by decide +kernel
theorem d1_7 : decode method_2_code 7 = .ok (.areturn, 1) := by decide +kernel
theorem d1_8 : decode method_2_code 8 = .ok (.iload_n 0, 1) := by decide +kernel
theorem d1_9 : decode method_2_code 9 = .ok (.iconst 1, 1) := by decide +kernel
theorem d1_10 : decode method_2_code 10 = .ok (.if_icmp .ne 7, 3) := by decide +kernel
theorem d1_13 : decode method_2_code 13 = .ok (.getstatic 13, 3) := by decide +kernel
theorem d1_16 : decode method_2_code 16 = .ok (.areturn, 1) := by decide +kernel
theorem d1_17 : decode method_2_code 17 = .ok (.getstatic 16, 3) := by decide +kernel
theorem d1_20 : decode method_2_code 20 = .ok (.areturn, 1) := by decide +kernel
set_option maxRecDepth 65536 in
set_option maxHeartbeats 40000000 in
theorem rm_pick (l : Launch) (Z : State) (a0 : Array Value) (hw : ∀ d ∈ tables_1, d.before a0 Z = true) (ws : List Jvm.Cond) (p1 : Int32) (w_TRUE w_UNKNOWN w_FALSE : Addr) (h0 : Heap) (FX : own_F Z h0 w_TRUE w_UNKNOWN w_FALSE) :
    own_Met l (⟨"com/example/steady_broker/steadybroker/selector/TruthOrPinLaw", "pick", "(I)Lcom/example/steady_broker/steadybroker/selector/Condition$Truth;"⟩ : MethodName) method_2_code 1 (some (.object "com/example/steady_broker/steadybroker/selector/Condition$Truth")) ws ({ frames := 0, cells := 0, slots := 0, locals := 0 } : Room) Z #[(.int p1)] h0 (fun v h L => (v = some (.ref w_TRUE) ∨ v = some (.ref w_FALSE) ∨ v = some (.ref w_UNKNOWN)) ∧ h = h0 ∧ L = []) := by
  refine MetFree.of_bodySF (plainFor_of_name (by first | (simp [plainName, overriddenIn]; done) | decide +kernel)) hisR ?_
  intro p e s m args below meth c s₁ Bd hml0 hP hK
  obtain ⟨rfl, hZ, hh⟩ := hP
  have hx := Bd.exec
  have hby := Bd.bytes
  have hml : c.maxLocals = 1 := hml0
  have hown : s.vm.findClass "com/example/steady_broker/steadybroker/selector/TruthOrPinLaw" = some m.cls := findClass_of_methodNamed Bd.named
  have hnm := (name_of_methodNamed Bd.named Bd.method).1
  have hlk : meth.locks = false := Bd.notSynchronized
  have hret := Bd.returns
  have X0 : Stand p l e ({ frames := 0, cells := 0, slots := 0, locals := 0 } : Room) s m #[(.int p1)] below meth c s₁ [] 0 0 := Stand.of_body Bd
  have e0 : s₁.heap = h0 := by rw [← hh, Bd.state]; rfl
  refine own_in (Q := fun v h L => (v = some (.ref w_TRUE) ∨ v = some (.ref w_FALSE) ∨ v = some (.ref w_UNKNOWN)) ∧ h = h0 ∧ L = []) (ef := by first | (simp [entryFrame, mkF, argsToLocals, Value.category, maxLocals]; done) | rfl) (g' := (mkF m 0 #[.val (.int p1)] [])) ?_
  obtain ⟨S_TRUE, E_TRUE, S_UNKNOWN, E_UNKNOWN, S_FALSE, E_FALSE, F_UNKNOWN_ordinal, F_TRUE_ordinal, F_FALSE_ordinal, ne_UNKNOWN_TRUE, ne_UNKNOWN_FALSE, ne_TRUE_FALSE⟩ := id FX
  refine own_go (T' := s₁) (g' := (mkF m 1 #[.val (.int p1)] [(.int p1)])) (fun t q => XS.iloadN X0.here hx rfl (hb hby d1_0) rfl q) ?_
  by_cases c1 : p1 = (0 : Int32)
  · refine own_go (T' := s₁) (g' := (mkF m 4 #[.val (.int p1)] [])) (fun t q => XS.ifNo X0.here hx rfl (hb hby d1_1) rfl ((if0 _ _).trans (teq c1).2) q) ?_
    obtain ⟨T2, X2, e2, st2⟩ := getS2 X0 hx hZ hown (host := "") (Or.inl (hw _ (List.mem_of_getElem? (i := 5) rfl))) Via.refl e0 S_TRUE (g := (mkF m 4 #[.val (.int p1)] [])) rfl (hb hby d1_4)
    refine own_go (T' := T2) (g' := (mkF m 7 #[.val (.int p1)] [(.ref w_TRUE)])) (fun t q => st2 t q) ?_
    refine own_outA X2 hx hlk hret rfl rfl (hb hby d1_7) ?_ (by decide) (by decide)
    exact ⟨Or.inl rfl, e2, rfl⟩
  · refine own_go (T' := s₁) (g' := (mkF m 8 #[.val (.int p1)] [])) (fun t q => XS.ifYes X0.here hx rfl (pc0 := 1) (pc' := 8) rfl (hb hby d1_1) rfl ((if0 _ _).trans (feq c1).2) (by decide) (by decide) q) ?_
    refine own_go (T' := s₁) (g' := (mkF m 9 #[.val (.int p1)] [(.int p1)])) (fun t q => XS.iloadN X0.here hx rfl (hb hby d1_8) rfl q) ?_
    refine own_go (T' := s₁) (g' := (mkF m 10 #[.val (.int p1)] [(.int (1 : Int32)), (.int p1)])) (fun t q => XS.iconst X0.here hx rfl (hb hby d1_9) q) ?_
    by_cases c3 : p1 = (1 : Int32)
    · refine own_go (T' := s₁) (g' := (mkF m 13 #[.val (.int p1)] [])) (fun t q => XS.icmpNo X0.here hx rfl (hb hby d1_10) rfl (teq c3).2 q) ?_
      obtain ⟨T4, X4, e4, st4⟩ := getS2 X0 hx hZ hown (host := "") (Or.inl (hw _ (List.mem_of_getElem? (i := 23) rfl))) Via.refl e0 S_FALSE (g := (mkF m 13 #[.val (.int p1)] [])) rfl (hb hby d1_13)
      refine own_go (T' := T4) (g' := (mkF m 16 #[.val (.int p1)] [(.ref w_FALSE)])) (fun t q => st4 t q) ?_
      refine own_outA X4 hx hlk hret rfl rfl (hb hby d1_16) ?_ (by decide) (by decide)
      exact ⟨Or.inr (Or.inl rfl), e4, rfl⟩
    · refine own_go (T' := s₁) (g' := (mkF m 17 #[.val (.int p1)] [])) (fun t q => XS.icmpYes X0.here hx rfl (pc0 := 10) (pc' := 17) rfl (hb hby d1_10) rfl (feq c3).2 (by decide) (by decide) q) ?_
      obtain ⟨T5, X5, e5, st5⟩ := getS2 X0 hx hZ hown (host := "") (Or.inl (hw _ (List.mem_of_getElem? (i := 21) rfl))) Via.refl e0 S_UNKNOWN (g := (mkF m 17 #[.val (.int p1)] [])) rfl (hb hby d1_17)
      refine own_go (T' := T5) (g' := (mkF m 20 #[.val (.int p1)] [(.ref w_UNKNOWN)])) (fun t q => st5 t q) ?_
      refine own_outA X5 hx hlk hret rfl rfl (hb hby d1_20) ?_ (by decide) (by decide)
      exact ⟨Or.inr (Or.inr rfl), e5, rfl⟩
theorem d3_0 : decode method_3_code 0 = .ok (.aload_n 0, 1) := by decide +kernel
theorem d3_1 : decode method_3_code 1 = .ok (.getstatic 7, 3) := by decide +kernel
theorem d3_4 : decode method_3_code 4 = .ok (.if_acmp .ne 5, 3) := by decide +kernel
theorem d3_7 : decode method_3_code 7 = .ok (.iconst 2, 1) := by decide +kernel
theorem d3_8 : decode method_3_code 8 = .ok (.ireturn, 1) := by decide +kernel
set_option maxRecDepth 65536 in
set_option maxHeartbeats 40000000 in
theorem rm_rank_TRUE (l : Launch) (Z : State) (a0 : Array Value) (hw : ∀ d ∈ tables_1, d.before a0 Z = true) (ws : List Jvm.Cond) (w_TRUE w_UNKNOWN w_FALSE : Addr) (h0 : Heap) (FX : own_F Z h0 w_TRUE w_UNKNOWN w_FALSE) :
    own_Met l (⟨"com/example/steady_broker/steadybroker/selector/TruthOrPinLaw", "rank", "(Lcom/example/steady_broker/steadybroker/selector/Condition$Truth;)I"⟩ : MethodName) method_3_code 1 (some .int) ws ({ frames := 0, cells := 0, slots := 0, locals := 0 } : Room) Z #[(.ref w_TRUE)] h0 (fun v h L => v = some (.int (2 : Int32)) ∧ h = h0 ∧ L = []) := by
  refine MetFree.of_bodySF (plainFor_of_name (by first | (simp [plainName, overriddenIn]; done) | decide +kernel)) hisR ?_
  intro p e s m args below meth c s₁ Bd hml0 hP hK
  obtain ⟨rfl, hZ, hh⟩ := hP
  have hx := Bd.exec
  have hby := Bd.bytes
  have hml : c.maxLocals = 1 := hml0
  have hown : s.vm.findClass "com/example/steady_broker/steadybroker/selector/TruthOrPinLaw" = some m.cls := findClass_of_methodNamed Bd.named
  have hnm := (name_of_methodNamed Bd.named Bd.method).1
  have hlk : meth.locks = false := Bd.notSynchronized
  have hret := Bd.returns
  have X0 : Stand p l e ({ frames := 0, cells := 0, slots := 0, locals := 0 } : Room) s m #[(.ref w_TRUE)] below meth c s₁ [] 0 0 := Stand.of_body Bd
  have e0 : s₁.heap = h0 := by rw [← hh, Bd.state]; rfl
  refine own_in (Q := fun v h L => v = some (.int (2 : Int32)) ∧ h = h0 ∧ L = []) (ef := by first | (simp [entryFrame, mkF, argsToLocals, Value.category, maxLocals]; done) | rfl) (g' := (mkF m 0 #[.val (.ref w_TRUE)] [])) ?_
  obtain ⟨S_TRUE, E_TRUE, S_UNKNOWN, E_UNKNOWN, S_FALSE, E_FALSE, F_UNKNOWN_ordinal, F_TRUE_ordinal, F_FALSE_ordinal, ne_UNKNOWN_TRUE, ne_UNKNOWN_FALSE, ne_TRUE_FALSE⟩ := id FX
  refine own_go (T' := s₁) (g' := (mkF m 1 #[.val (.ref w_TRUE)] [(.ref w_TRUE)])) (fun t q => XS.aloadN X0.here hx rfl (hb hby d3_0) rfl rfl q) ?_
  obtain ⟨T1, X1, e1, st1⟩ := getS2 X0 hx hZ hown (host := "") (Or.inl (hw _ (List.mem_of_getElem? (i := 5) rfl))) Via.refl e0 S_TRUE (g := (mkF m 1 #[.val (.ref w_TRUE)] [(.ref w_TRUE)])) rfl (hb hby d3_1)
  refine own_go (T' := T1) (g' := (mkF m 4 #[.val (.ref w_TRUE)] [(.ref w_TRUE), (.ref w_TRUE)])) (fun t q => st1 t q) ?_
  have c2 : (Value.ref w_TRUE) = (Value.ref w_TRUE) := rfl
  refine own_go (T' := T1) (g' := (mkF m 7 #[.val (.ref w_TRUE)] [])) (fun t q => XT.acmpNo X1.here hx rfl (hb hby d3_4) rfl rfl rfl (own_at c2).2 q) ?_
  refine own_go (T' := T1) (g' := (mkF m 8 #[.val (.ref w_TRUE)] [(.int (2 : Int32))])) (fun t q => XS.iconst X1.here hx rfl (hb hby d3_7) q) ?_
  refine own_outI X1 hx hlk hret (hb hby d3_8) ?_ (by decide) (by decide)
  exact ⟨rfl, e1, rfl⟩
theorem d2_0 : decode prog_13_method_5_code 0 = .ok (.aload_n 0, 1) := by decide +kernel
theorem d2_1 : decode prog_13_method_5_code 1 = .ok (.getstatic 3, 3) := by decide +kernel
theorem d2_4 : decode prog_13_method_5_code 4 = .ok (.if_acmp .eq 10, 3) := by decide +kernel
theorem d2_14 : decode prog_13_method_5_code 14 = .ok (.getstatic 3, 3) := by decide +kernel
theorem d2_17 : decode prog_13_method_5_code 17 = .ok (.astore_n 2, 1) := by decide +kernel
theorem d2_18 : decode prog_13_method_5_code 18 = .ok (.goto 28, 3) := by decide +kernel
theorem d2_46 : decode prog_13_method_5_code 46 = .ok (.aload_n 2, 1) := by decide +kernel
theorem d2_47 : decode prog_13_method_5_code 47 = .ok (.areturn, 1) := by decide +kernel
set_option maxRecDepth 65536 in
set_option maxHeartbeats 40000000 in
theorem rm_op_TRUE_TRUE (l : Launch) (Z : State) (a0 : Array Value) (hw : ∀ d ∈ tables_1, d.before a0 Z = true) (ws : List Jvm.Cond) (w_TRUE w_UNKNOWN w_FALSE : Addr) (h0 : Heap) (FX : own_F Z h0 w_TRUE w_UNKNOWN w_FALSE) :
    own_Met l (⟨"com/example/steady_broker/steadybroker/selector/Condition$Truth", "or", "(Lcom/example/steady_broker/steadybroker/selector/Condition$Truth;)Lcom/example/steady_broker/steadybroker/selector/Condition$Truth;"⟩ : MethodName) prog_13_method_5_code 3 (some (.object "com/example/steady_broker/steadybroker/selector/Condition$Truth")) ws ({ frames := 0, cells := 0, slots := 0, locals := 0 } : Room) Z #[(.ref w_TRUE), (.ref w_TRUE)] h0 (fun v h L => v = some (.ref w_TRUE) ∧ h = h0 ∧ L = []) := by
  refine MetFree.of_bodySF (plainFor_of_name (by first | (simp [plainName, overriddenIn]; done) | decide +kernel)) hisR ?_
  intro p e s m args below meth c s₁ Bd hml0 hP hK
  obtain ⟨rfl, hZ, hh⟩ := hP
  have hx := Bd.exec
  have hby := Bd.bytes
  have hml : c.maxLocals = 3 := hml0
  have hown : s.vm.findClass "com/example/steady_broker/steadybroker/selector/Condition$Truth" = some m.cls := findClass_of_methodNamed Bd.named
  have hnm := (name_of_methodNamed Bd.named Bd.method).1
  have hlk : meth.locks = false := Bd.notSynchronized
  have hret := Bd.returns
  have X0 : Stand p l e ({ frames := 0, cells := 0, slots := 0, locals := 0 } : Room) s m #[(.ref w_TRUE), (.ref w_TRUE)] below meth c s₁ [] 0 0 := Stand.of_body Bd
  have e0 : s₁.heap = h0 := by rw [← hh, Bd.state]; rfl
  refine own_in (Q := fun v h L => v = some (.ref w_TRUE) ∧ h = h0 ∧ L = []) (ef := by first | (simp [entryFrame, mkF, argsToLocals, Value.category, maxLocals]; done) | rfl) (g' := (mkF m 0 #[.val (.ref w_TRUE), .val (.ref w_TRUE), .unset] [])) ?_
  obtain ⟨S_TRUE, E_TRUE, S_UNKNOWN, E_UNKNOWN, S_FALSE, E_FALSE, F_UNKNOWN_ordinal, F_TRUE_ordinal, F_FALSE_ordinal, ne_UNKNOWN_TRUE, ne_UNKNOWN_FALSE, ne_TRUE_FALSE⟩ := id FX
  refine own_go (T' := s₁) (g' := (mkF m 1 #[.val (.ref w_TRUE), .val (.ref w_TRUE), .unset] [(.ref w_TRUE)])) (fun t q => XS.aloadN X0.here hx rfl (hb hby d2_0) rfl rfl q) ?_
  obtain ⟨T1, X1, e1, st1⟩ := getS2 X0 hx hZ hown (host := "") (Or.inl (hw _ (List.mem_of_getElem? (i := 13) rfl))) Via.refl e0 S_TRUE (g := (mkF m 1 #[.val (.ref w_TRUE), .val (.ref w_TRUE), .unset] [(.ref w_TRUE)])) rfl (hb hby d2_1)
  refine own_go (T' := T1) (g' := (mkF m 4 #[.val (.ref w_TRUE), .val (.ref w_TRUE), .unset] [(.ref w_TRUE), (.ref w_TRUE)])) (fun t q => st1 t q) ?_
  have c2 : (Value.ref w_TRUE) = (Value.ref w_TRUE) := rfl
  refine own_go (T' := T1) (g' := (mkF m 14 #[.val (.ref w_TRUE), .val (.ref w_TRUE), .unset] [])) (fun t q => XT.acmpYes X1.here hx rfl (pc0 := 4) (pc' := 14) rfl (hb hby d2_4) rfl rfl rfl (own_at c2).1 (by decide) (by decide) q) ?_
  obtain ⟨T3, X3, e3, st3⟩ := getS2 X1 hx hZ hown (host := "") (Or.inl (hw _ (List.mem_of_getElem? (i := 13) rfl))) Via.refl e1 S_TRUE (g := (mkF m 14 #[.val (.ref w_TRUE), .val (.ref w_TRUE), .unset] [])) rfl (hb hby d2_14)
  refine own_go (T' := T3) (g' := (mkF m 17 #[.val (.ref w_TRUE), .val (.ref w_TRUE), .unset] [(.ref w_TRUE)])) (fun t q => st3 t q) ?_
  refine own_go (T' := T3) (g' := (mkF m 18 #[.val (.ref w_TRUE), .val (.ref w_TRUE), .val (.ref w_TRUE)] [])) (fun t q => XS.astoreN X3.here hx rfl (hb hby d2_17) rfl rfl (l' := #[.val (.ref w_TRUE), .val (.ref w_TRUE), .val (.ref w_TRUE)]) rfl q) ?_
  refine own_go (T' := T3) (g' := (mkF m 46 #[.val (.ref w_TRUE), .val (.ref w_TRUE), .val (.ref w_TRUE)] [])) (fun t q => XS.goto X3.here hx rfl (pc0 := 18) (pc' := 46) rfl (hb hby d2_18) (by decide) (by decide) q) ?_
  refine own_go (T' := T3) (g' := (mkF m 47 #[.val (.ref w_TRUE), .val (.ref w_TRUE), .val (.ref w_TRUE)] [(.ref w_TRUE)])) (fun t q => XS.aloadN X3.here hx rfl (hb hby d2_46) rfl rfl q) ?_
  refine own_outA X3 hx hlk hret rfl rfl (hb hby d2_47) ?_ (by decide) (by decide)
  exact ⟨rfl, e3, rfl⟩
theorem d4_0 : decode jdk_29_method_65_code 0 = .ok (.iload_n 0, 1) := by decide +kernel
theorem d4_1 : decode jdk_29_method_65_code 1 = .ok (.iload_n 1, 1) := by decide +kernel
theorem d4_2 : decode jdk_29_method_65_code 2 = .ok (.if_icmp .lt 7, 3) := by decide +kernel
theorem d4_5 : decode jdk_29_method_65_code 5 = .ok (.iload_n 0, 1) := by decide +kernel
theorem d4_6 : decode jdk_29_method_65_code 6 = .ok (.goto 4, 3) := by decide +kernel
theorem d4_10 : decode jdk_29_method_65_code 10 = .ok (.ireturn, 1) := by decide +kernel
set_option maxRecDepth 65536 in
set_option maxHeartbeats 40000000 in
theorem rm_m_2_2 (l : Launch) (Z : State) (a0 : Array Value) (hw : ∀ d ∈ tables_1, d.before a0 Z = true) (ws : List Jvm.Cond)  (h0 : Heap)  :
    own_Met l (⟨"java/lang/Math", "max", "(II)I"⟩ : MethodName) jdk_29_method_65_code 2 (some .int) ws ({ frames := 0, cells := 0, slots := 0, locals := 0 } : Room) Z #[(.int (2 : Int32)), (.int (2 : Int32))] h0 (fun v h L => v = some (.int (2 : Int32)) ∧ h = h0 ∧ L = []) := by
  refine MetFree.of_bodySF (by decide +kernel) hisR ?_
  intro p e s m args below meth c s₁ Bd hml0 hP hK
  obtain ⟨rfl, hZ, hh⟩ := hP
  have hx := Bd.exec
  have hby := Bd.bytes
  have hml : c.maxLocals = 2 := hml0
  have hown : s.vm.findClass "java/lang/Math" = some m.cls := findClass_of_methodNamed Bd.named
  have hnm := (name_of_methodNamed Bd.named Bd.method).1
  have hlk : meth.locks = false := Bd.notSynchronized
  have hret := Bd.returns
  have X0 : Stand p l e ({ frames := 0, cells := 0, slots := 0, locals := 0 } : Room) s m #[(.int (2 : Int32)), (.int (2 : Int32))] below meth c s₁ [] 0 0 := Stand.of_body Bd
  have e0 : s₁.heap = h0 := by rw [← hh, Bd.state]; rfl
  refine own_in (Q := fun v h L => v = some (.int (2 : Int32)) ∧ h = h0 ∧ L = []) (ef := by first | (simp [entryFrame, mkF, argsToLocals, Value.category, maxLocals]; done) | rfl) (g' := (mkF m 0 #[.val (.int (2 : Int32)), .val (.int (2 : Int32))] [])) ?_
  refine own_go (T' := s₁) (g' := (mkF m 1 #[.val (.int (2 : Int32)), .val (.int (2 : Int32))] [(.int (2 : Int32))])) (fun t q => XS.iloadN X0.here hx rfl (hb hby d4_0) rfl q) ?_
  refine own_go (T' := s₁) (g' := (mkF m 2 #[.val (.int (2 : Int32)), .val (.int (2 : Int32))] [(.int (2 : Int32)), (.int (2 : Int32))])) (fun t q => XS.iloadN X0.here hx rfl (hb hby d4_1) rfl q) ?_
  have c1 : ¬ ((2 : Int32) < (2 : Int32)) := by decide
  refine own_go (T' := s₁) (g' := (mkF m 5 #[.val (.int (2 : Int32)), .val (.int (2 : Int32))] [])) (fun t q => XS.icmpNo X0.here hx rfl (hb hby d4_2) rfl (flt c1).1 q) ?_
  refine own_go (T' := s₁) (g' := (mkF m 6 #[.val (.int (2 : Int32)), .val (.int (2 : Int32))] [(.int (2 : Int32))])) (fun t q => XS.iloadN X0.here hx rfl (hb hby d4_5) rfl q) ?_
  refine own_go (T' := s₁) (g' := (mkF m 10 #[.val (.int (2 : Int32)), .val (.int (2 : Int32))] [(.int (2 : Int32))])) (fun t q => XS.goto X0.here hx rfl (pc0 := 6) (pc' := 10) rfl (hb hby d4_6) (by decide) (by decide) q) ?_
  refine own_outI X0 hx hlk hret (hb hby d4_10) ?_ (by decide) (by decide)
  exact ⟨rfl, e0, rfl⟩
set_option maxRecDepth 65536 in
set_option maxHeartbeats 40000000 in
theorem rm_op_TRUE_FALSE (l : Launch) (Z : State) (a0 : Array Value) (hw : ∀ d ∈ tables_1, d.before a0 Z = true) (ws : List Jvm.Cond) (w_TRUE w_UNKNOWN w_FALSE : Addr) (h0 : Heap) (FX : own_F Z h0 w_TRUE w_UNKNOWN w_FALSE) :
    own_Met l (⟨"com/example/steady_broker/steadybroker/selector/Condition$Truth", "or", "(Lcom/example/steady_broker/steadybroker/selector/Condition$Truth;)Lcom/example/steady_broker/steadybroker/selector/Condition$Truth;"⟩ : MethodName) prog_13_method_5_code 3 (some (.object "com/example/steady_broker/steadybroker/selector/Condition$Truth")) ws ({ frames := 0, cells := 0, slots := 0, locals := 0 } : Room) Z #[(.ref w_TRUE), (.ref w_FALSE)] h0 (fun v h L => v = some (.ref w_TRUE) ∧ h = h0 ∧ L = []) := by
  refine MetFree.of_bodySF (plainFor_of_name (by first | (simp [plainName, overriddenIn]; done) | decide +kernel)) hisR ?_
  intro p e s m args below meth c s₁ Bd hml0 hP hK
  obtain ⟨rfl, hZ, hh⟩ := hP
  have hx := Bd.exec
  have hby := Bd.bytes
  have hml : c.maxLocals = 3 := hml0
  have hown : s.vm.findClass "com/example/steady_broker/steadybroker/selector/Condition$Truth" = some m.cls := findClass_of_methodNamed Bd.named
  have hnm := (name_of_methodNamed Bd.named Bd.method).1
  have hlk : meth.locks = false := Bd.notSynchronized
  have hret := Bd.returns
  have X0 : Stand p l e ({ frames := 0, cells := 0, slots := 0, locals := 0 } : Room) s m #[(.ref w_TRUE), (.ref w_FALSE)] below meth c s₁ [] 0 0 := Stand.of_body Bd
  have e0 : s₁.heap = h0 := by rw [← hh, Bd.state]; rfl
  refine own_in (Q := fun v h L => v = some (.ref w_TRUE) ∧ h = h0 ∧ L = []) (ef := by first | (simp [entryFrame, mkF, argsToLocals, Value.category, maxLocals]; done) | rfl) (g' := (mkF m 0 #[.val (.ref w_TRUE), .val (.ref w_FALSE), .unset] [])) ?_
  obtain ⟨S_TRUE, E_TRUE, S_UNKNOWN, E_UNKNOWN, S_FALSE, E_FALSE, F_UNKNOWN_ordinal, F_TRUE_ordinal, F_FALSE_ordinal, ne_UNKNOWN_TRUE, ne_UNKNOWN_FALSE, ne_TRUE_FALSE⟩ := id FX
  refine own_go (T' := s₁) (g' := (mkF m 1 #[.val (.ref w_TRUE), .val (.ref w_FALSE), .unset] [(.ref w_TRUE)])) (fun t q => XS.aloadN X0.here hx rfl (hb hby d2_0) rfl rfl q) ?_
  obtain ⟨T1, X1, e1, st1⟩ := getS2 X0 hx hZ hown (host := "") (Or.inl (hw _ (List.mem_of_getElem? (i := 13) rfl))) Via.refl e0 S_TRUE (g := (mkF m 1 #[.val (.ref w_TRUE), .val (.ref w_FALSE), .unset] [(.ref w_TRUE)])) rfl (hb hby d2_1)
  refine own_go (T' := T1) (g' := (mkF m 4 #[.val (.ref w_TRUE), .val (.ref w_FALSE), .unset] [(.ref w_TRUE), (.ref w_TRUE)])) (fun t q => st1 t q) ?_
  have c2 : (Value.ref w_TRUE) = (Value.ref w_TRUE) := rfl
  refine own_go (T' := T1) (g' := (mkF m 14 #[.val (.ref w_TRUE), .val (.ref w_FALSE), .unset] [])) (fun t q => XT.acmpYes X1.here hx rfl (pc0 := 4) (pc' := 14) rfl (hb hby d2_4) rfl rfl rfl (own_at c2).1 (by decide) (by decide) q) ?_
  obtain ⟨T3, X3, e3, st3⟩ := getS2 X1 hx hZ hown (host := "") (Or.inl (hw _ (List.mem_of_getElem? (i := 13) rfl))) Via.refl e1 S_TRUE (g := (mkF m 14 #[.val (.ref w_TRUE), .val (.ref w_FALSE), .unset] [])) rfl (hb hby d2_14)
  refine own_go (T' := T3) (g' := (mkF m 17 #[.val (.ref w_TRUE), .val (.ref w_FALSE), .unset] [(.ref w_TRUE)])) (fun t q => st3 t q) ?_
  refine own_go (T' := T3) (g' := (mkF m 18 #[.val (.ref w_TRUE), .val (.ref w_FALSE), .val (.ref w_TRUE)] [])) (fun t q => XS.astoreN X3.here hx rfl (hb hby d2_17) rfl rfl (l' := #[.val (.ref w_TRUE), .val (.ref w_FALSE), .val (.ref w_TRUE)]) rfl q) ?_
  refine own_go (T' := T3) (g' := (mkF m 46 #[.val (.ref w_TRUE), .val (.ref w_FALSE), .val (.ref w_TRUE)] [])) (fun t q => XS.goto X3.here hx rfl (pc0 := 18) (pc' := 46) rfl (hb hby d2_18) (by decide) (by decide) q) ?_
  refine own_go (T' := T3) (g' := (mkF m 47 #[.val (.ref w_TRUE), .val (.ref w_FALSE), .val (.ref w_TRUE)] [(.ref w_TRUE)])) (fun t q => XS.aloadN X3.here hx rfl (hb hby d2_46) rfl rfl q) ?_
  refine own_outA X3 hx hlk hret rfl rfl (hb hby d2_47) ?_ (by decide) (by decide)
  exact ⟨rfl, e3, rfl⟩
set_option maxRecDepth 65536 in
set_option maxHeartbeats 40000000 in
theorem rm_m_2_0 (l : Launch) (Z : State) (a0 : Array Value) (hw : ∀ d ∈ tables_1, d.before a0 Z = true) (ws : List Jvm.Cond)  (h0 : Heap)  :
    own_Met l (⟨"java/lang/Math", "max", "(II)I"⟩ : MethodName) jdk_29_method_65_code 2 (some .int) ws ({ frames := 0, cells := 0, slots := 0, locals := 0 } : Room) Z #[(.int (2 : Int32)), (.int (0 : Int32))] h0 (fun v h L => v = some (.int (2 : Int32)) ∧ h = h0 ∧ L = []) := by
  refine MetFree.of_bodySF (by decide +kernel) hisR ?_
  intro p e s m args below meth c s₁ Bd hml0 hP hK
  obtain ⟨rfl, hZ, hh⟩ := hP
  have hx := Bd.exec
  have hby := Bd.bytes
  have hml : c.maxLocals = 2 := hml0
  have hown : s.vm.findClass "java/lang/Math" = some m.cls := findClass_of_methodNamed Bd.named
  have hnm := (name_of_methodNamed Bd.named Bd.method).1
  have hlk : meth.locks = false := Bd.notSynchronized
  have hret := Bd.returns
  have X0 : Stand p l e ({ frames := 0, cells := 0, slots := 0, locals := 0 } : Room) s m #[(.int (2 : Int32)), (.int (0 : Int32))] below meth c s₁ [] 0 0 := Stand.of_body Bd
  have e0 : s₁.heap = h0 := by rw [← hh, Bd.state]; rfl
  refine own_in (Q := fun v h L => v = some (.int (2 : Int32)) ∧ h = h0 ∧ L = []) (ef := by first | (simp [entryFrame, mkF, argsToLocals, Value.category, maxLocals]; done) | rfl) (g' := (mkF m 0 #[.val (.int (2 : Int32)), .val (.int (0 : Int32))] [])) ?_
  refine own_go (T' := s₁) (g' := (mkF m 1 #[.val (.int (2 : Int32)), .val (.int (0 : Int32))] [(.int (2 : Int32))])) (fun t q => XS.iloadN X0.here hx rfl (hb hby d4_0) rfl q) ?_
  refine own_go (T' := s₁) (g' := (mkF m 2 #[.val (.int (2 : Int32)), .val (.int (0 : Int32))] [(.int (0 : Int32)), (.int (2 : Int32))])) (fun t q => XS.iloadN X0.here hx rfl (hb hby d4_1) rfl q) ?_
  have c1 : ¬ ((2 : Int32) < (0 : Int32)) := by decide
  refine own_go (T' := s₁) (g' := (mkF m 5 #[.val (.int (2 : Int32)), .val (.int (0 : Int32))] [])) (fun t q => XS.icmpNo X0.here hx rfl (hb hby d4_2) rfl (flt c1).1 q) ?_
  refine own_go (T' := s₁) (g' := (mkF m 6 #[.val (.int (2 : Int32)), .val (.int (0 : Int32))] [(.int (2 : Int32))])) (fun t q => XS.iloadN X0.here hx rfl (hb hby d4_5) rfl q) ?_
  refine own_go (T' := s₁) (g' := (mkF m 10 #[.val (.int (2 : Int32)), .val (.int (0 : Int32))] [(.int (2 : Int32))])) (fun t q => XS.goto X0.here hx rfl (pc0 := 6) (pc' := 10) rfl (hb hby d4_6) (by decide) (by decide) q) ?_
  refine own_outI X0 hx hlk hret (hb hby d4_10) ?_ (by decide) (by decide)
  exact ⟨rfl, e0, rfl⟩
set_option maxRecDepth 65536 in
set_option maxHeartbeats 40000000 in
theorem rm_op_TRUE_UNKNOWN (l : Launch) (Z : State) (a0 : Array Value) (hw : ∀ d ∈ tables_1, d.before a0 Z = true) (ws : List Jvm.Cond) (w_TRUE w_UNKNOWN w_FALSE : Addr) (h0 : Heap) (FX : own_F Z h0 w_TRUE w_UNKNOWN w_FALSE) :
    own_Met l (⟨"com/example/steady_broker/steadybroker/selector/Condition$Truth", "or", "(Lcom/example/steady_broker/steadybroker/selector/Condition$Truth;)Lcom/example/steady_broker/steadybroker/selector/Condition$Truth;"⟩ : MethodName) prog_13_method_5_code 3 (some (.object "com/example/steady_broker/steadybroker/selector/Condition$Truth")) ws ({ frames := 0, cells := 0, slots := 0, locals := 0 } : Room) Z #[(.ref w_TRUE), (.ref w_UNKNOWN)] h0 (fun v h L => v = some (.ref w_TRUE) ∧ h = h0 ∧ L = []) := by
  refine MetFree.of_bodySF (plainFor_of_name (by first | (simp [plainName, overriddenIn]; done) | decide +kernel)) hisR ?_
  intro p e s m args below meth c s₁ Bd hml0 hP hK
  obtain ⟨rfl, hZ, hh⟩ := hP
  have hx := Bd.exec
  have hby := Bd.bytes
  have hml : c.maxLocals = 3 := hml0
  have hown : s.vm.findClass "com/example/steady_broker/steadybroker/selector/Condition$Truth" = some m.cls := findClass_of_methodNamed Bd.named
  have hnm := (name_of_methodNamed Bd.named Bd.method).1
  have hlk : meth.locks = false := Bd.notSynchronized
  have hret := Bd.returns
  have X0 : Stand p l e ({ frames := 0, cells := 0, slots := 0, locals := 0 } : Room) s m #[(.ref w_TRUE), (.ref w_UNKNOWN)] below meth c s₁ [] 0 0 := Stand.of_body Bd
  have e0 : s₁.heap = h0 := by rw [← hh, Bd.state]; rfl
  refine own_in (Q := fun v h L => v = some (.ref w_TRUE) ∧ h = h0 ∧ L = []) (ef := by first | (simp [entryFrame, mkF, argsToLocals, Value.category, maxLocals]; done) | rfl) (g' := (mkF m 0 #[.val (.ref w_TRUE), .val (.ref w_UNKNOWN), .unset] [])) ?_
  obtain ⟨S_TRUE, E_TRUE, S_UNKNOWN, E_UNKNOWN, S_FALSE, E_FALSE, F_UNKNOWN_ordinal, F_TRUE_ordinal, F_FALSE_ordinal, ne_UNKNOWN_TRUE, ne_UNKNOWN_FALSE, ne_TRUE_FALSE⟩ := id FX
  refine own_go (T' := s₁) (g' := (mkF m 1 #[.val (.ref w_TRUE), .val (.ref w_UNKNOWN), .unset] [(.ref w_TRUE)])) (fun t q => XS.aloadN X0.here hx rfl (hb hby d2_0) rfl rfl q) ?_
  obtain ⟨T1, X1, e1, st1⟩ := getS2 X0 hx hZ hown (host := "") (Or.inl (hw _ (List.mem_of_getElem? (i := 13) rfl))) Via.refl e0 S_TRUE (g := (mkF m 1 #[.val (.ref w_TRUE), .val (.ref w_UNKNOWN), .unset] [(.ref w_TRUE)])) rfl (hb hby d2_1)
  refine own_go (T' := T1) (g' := (mkF m 4 #[.val (.ref w_TRUE), .val (.ref w_UNKNOWN), .unset] [(.ref w_TRUE), (.ref w_TRUE)])) (fun t q => st1 t q) ?_
  have c2 : (Value.ref w_TRUE) = (Value.ref w_TRUE) := rfl
  refine own_go (T' := T1) (g' := (mkF m 14 #[.val (.ref w_TRUE), .val (.ref w_UNKNOWN), .unset] [])) (fun t q => XT.acmpYes X1.here hx rfl (pc0 := 4) (pc' := 14) rfl (hb hby d2_4) rfl rfl rfl (own_at c2).1 (by decide) (by decide) q) ?_
  obtain ⟨T3, X3, e3, st3⟩ := getS2 X1 hx hZ hown (host := "") (Or.inl (hw _ (List.mem_of_getElem? (i := 13) rfl))) Via.refl e1 S_TRUE (g := (mkF m 14 #[.val (.ref w_TRUE), .val (.ref w_UNKNOWN), .unset] [])) rfl (hb hby d2_14)
  refine own_go (T' := T3) (g' := (mkF m 17 #[.val (.ref w_TRUE), .val (.ref w_UNKNOWN), .unset] [(.ref w_TRUE)])) (fun t q => st3 t q) ?_
  refine own_go (T' := T3) (g' := (mkF m 18 #[.val (.ref w_TRUE), .val (.ref w_UNKNOWN), .val (.ref w_TRUE)] [])) (fun t q => XS.astoreN X3.here hx rfl (hb hby d2_17) rfl rfl (l' := #[.val (.ref w_TRUE), .val (.ref w_UNKNOWN), .val (.ref w_TRUE)]) rfl q) ?_
  refine own_go (T' := T3) (g' := (mkF m 46 #[.val (.ref w_TRUE), .val (.ref w_UNKNOWN), .val (.ref w_TRUE)] [])) (fun t q => XS.goto X3.here hx rfl (pc0 := 18) (pc' := 46) rfl (hb hby d2_18) (by decide) (by decide) q) ?_
  refine own_go (T' := T3) (g' := (mkF m 47 #[.val (.ref w_TRUE), .val (.ref w_UNKNOWN), .val (.ref w_TRUE)] [(.ref w_TRUE)])) (fun t q => XS.aloadN X3.here hx rfl (hb hby d2_46) rfl rfl q) ?_
  refine own_outA X3 hx hlk hret rfl rfl (hb hby d2_47) ?_ (by decide) (by decide)
  exact ⟨rfl, e3, rfl⟩
set_option maxRecDepth 65536 in
set_option maxHeartbeats 40000000 in
theorem rm_m_2_1 (l : Launch) (Z : State) (a0 : Array Value) (hw : ∀ d ∈ tables_1, d.before a0 Z = true) (ws : List Jvm.Cond)  (h0 : Heap)  :
    own_Met l (⟨"java/lang/Math", "max", "(II)I"⟩ : MethodName) jdk_29_method_65_code 2 (some .int) ws ({ frames := 0, cells := 0, slots := 0, locals := 0 } : Room) Z #[(.int (2 : Int32)), (.int (1 : Int32))] h0 (fun v h L => v = some (.int (2 : Int32)) ∧ h = h0 ∧ L = []) := by
  refine MetFree.of_bodySF (by decide +kernel) hisR ?_
  intro p e s m args below meth c s₁ Bd hml0 hP hK
  obtain ⟨rfl, hZ, hh⟩ := hP
  have hx := Bd.exec
  have hby := Bd.bytes
  have hml : c.maxLocals = 2 := hml0
  have hown : s.vm.findClass "java/lang/Math" = some m.cls := findClass_of_methodNamed Bd.named
  have hnm := (name_of_methodNamed Bd.named Bd.method).1
  have hlk : meth.locks = false := Bd.notSynchronized
  have hret := Bd.returns
  have X0 : Stand p l e ({ frames := 0, cells := 0, slots := 0, locals := 0 } : Room) s m #[(.int (2 : Int32)), (.int (1 : Int32))] below meth c s₁ [] 0 0 := Stand.of_body Bd
  have e0 : s₁.heap = h0 := by rw [← hh, Bd.state]; rfl
  refine own_in (Q := fun v h L => v = some (.int (2 : Int32)) ∧ h = h0 ∧ L = []) (ef := by first | (simp [entryFrame, mkF, argsToLocals, Value.category, maxLocals]; done) | rfl) (g' := (mkF m 0 #[.val (.int (2 : Int32)), .val (.int (1 : Int32))] [])) ?_
  refine own_go (T' := s₁) (g' := (mkF m 1 #[.val (.int (2 : Int32)), .val (.int (1 : Int32))] [(.int (2 : Int32))])) (fun t q => XS.iloadN X0.here hx rfl (hb hby d4_0) rfl q) ?_
  refine own_go (T' := s₁) (g' := (mkF m 2 #[.val (.int (2 : Int32)), .val (.int (1 : Int32))] [(.int (1 : Int32)), (.int (2 : Int32))])) (fun t q => XS.iloadN X0.here hx rfl (hb hby d4_1) rfl q) ?_
  have c1 : ¬ ((2 : Int32) < (1 : Int32)) := by decide
  refine own_go (T' := s₁) (g' := (mkF m 5 #[.val (.int (2 : Int32)), .val (.int (1 : Int32))] [])) (fun t q => XS.icmpNo X0.here hx rfl (hb hby d4_2) rfl (flt c1).1 q) ?_
  refine own_go (T' := s₁) (g' := (mkF m 6 #[.val (.int (2 : Int32)), .val (.int (1 : Int32))] [(.int (2 : Int32))])) (fun t q => XS.iloadN X0.here hx rfl (hb hby d4_5) rfl q) ?_
  refine own_go (T' := s₁) (g' := (mkF m 10 #[.val (.int (2 : Int32)), .val (.int (1 : Int32))] [(.int (2 : Int32))])) (fun t q => XS.goto X0.here hx rfl (pc0 := 6) (pc' := 10) rfl (hb hby d4_6) (by decide) (by decide) q) ?_
  refine own_outI X0 hx hlk hret (hb hby d4_10) ?_ (by decide) (by decide)
  exact ⟨rfl, e0, rfl⟩
theorem d3_9 : decode method_3_code 9 = .ok (.aload_n 0, 1) := by decide +kernel
theorem d3_10 : decode method_3_code 10 = .ok (.getstatic 16, 3) := by decide +kernel
theorem d3_13 : decode method_3_code 13 = .ok (.if_acmp .ne 5, 3) := by decide +kernel
theorem d3_18 : decode method_3_code 18 = .ok (.aload_n 0, 1) := by decide +kernel
theorem d3_19 : decode method_3_code 19 = .ok (.getstatic 13, 3) := by decide +kernel
theorem d3_22 : decode method_3_code 22 = .ok (.if_acmp .ne 5, 3) := by decide +kernel
theorem d3_25 : decode method_3_code 25 = .ok (.iconst 0, 1) := by decide +kernel
theorem d3_26 : decode method_3_code 26 = .ok (.ireturn, 1) := by decide +kernel
set_option maxRecDepth 65536 in
set_option maxHeartbeats 40000000 in
theorem rm_rank_FALSE (l : Launch) (Z : State) (a0 : Array Value) (hw : ∀ d ∈ tables_1, d.before a0 Z = true) (ws : List Jvm.Cond) (w_TRUE w_UNKNOWN w_FALSE : Addr) (h0 : Heap) (FX : own_F Z h0 w_TRUE w_UNKNOWN w_FALSE) :
    own_Met l (⟨"com/example/steady_broker/steadybroker/selector/TruthOrPinLaw", "rank", "(Lcom/example/steady_broker/steadybroker/selector/Condition$Truth;)I"⟩ : MethodName) method_3_code 1 (some .int) ws ({ frames := 0, cells := 0, slots := 0, locals := 0 } : Room) Z #[(.ref w_FALSE)] h0 (fun v h L => v = some (.int (0 : Int32)) ∧ h = h0 ∧ L = []) := by
  refine MetFree.of_bodySF (plainFor_of_name (by first | (simp [plainName, overriddenIn]; done) | decide +kernel)) hisR ?_
  intro p e s m args below meth c s₁ Bd hml0 hP hK
  obtain ⟨rfl, hZ, hh⟩ := hP
  have hx := Bd.exec
  have hby := Bd.bytes
  have hml : c.maxLocals = 1 := hml0
  have hown : s.vm.findClass "com/example/steady_broker/steadybroker/selector/TruthOrPinLaw" = some m.cls := findClass_of_methodNamed Bd.named
  have hnm := (name_of_methodNamed Bd.named Bd.method).1
  have hlk : meth.locks = false := Bd.notSynchronized
  have hret := Bd.returns
  have X0 : Stand p l e ({ frames := 0, cells := 0, slots := 0, locals := 0 } : Room) s m #[(.ref w_FALSE)] below meth c s₁ [] 0 0 := Stand.of_body Bd
  have e0 : s₁.heap = h0 := by rw [← hh, Bd.state]; rfl
  refine own_in (Q := fun v h L => v = some (.int (0 : Int32)) ∧ h = h0 ∧ L = []) (ef := by first | (simp [entryFrame, mkF, argsToLocals, Value.category, maxLocals]; done) | rfl) (g' := (mkF m 0 #[.val (.ref w_FALSE)] [])) ?_
  obtain ⟨S_TRUE, E_TRUE, S_UNKNOWN, E_UNKNOWN, S_FALSE, E_FALSE, F_UNKNOWN_ordinal, F_TRUE_ordinal, F_FALSE_ordinal, ne_UNKNOWN_TRUE, ne_UNKNOWN_FALSE, ne_TRUE_FALSE⟩ := id FX
  refine own_go (T' := s₁) (g' := (mkF m 1 #[.val (.ref w_FALSE)] [(.ref w_FALSE)])) (fun t q => XS.aloadN X0.here hx rfl (hb hby d3_0) rfl rfl q) ?_
  obtain ⟨T1, X1, e1, st1⟩ := getS2 X0 hx hZ hown (host := "") (Or.inl (hw _ (List.mem_of_getElem? (i := 5) rfl))) Via.refl e0 S_TRUE (g := (mkF m 1 #[.val (.ref w_FALSE)] [(.ref w_FALSE)])) rfl (hb hby d3_1)
  refine own_go (T' := T1) (g' := (mkF m 4 #[.val (.ref w_FALSE)] [(.ref w_TRUE), (.ref w_FALSE)])) (fun t q => st1 t q) ?_
  have c2 : ¬ ((Value.ref w_FALSE) = (Value.ref w_TRUE)) := fun z => ne_TRUE_FALSE (Value.ref.inj z).symm
  refine own_go (T' := T1) (g' := (mkF m 9 #[.val (.ref w_FALSE)] [])) (fun t q => XT.acmpYes X1.here hx rfl (pc0 := 4) (pc' := 9) rfl (hb hby d3_4) rfl rfl rfl (own_af c2).2 (by decide) (by decide) q) ?_
  refine own_go (T' := T1) (g' := (mkF m 10 #[.val (.ref w_FALSE)] [(.ref w_FALSE)])) (fun t q => XS.aloadN X1.here hx rfl (hb hby d3_9) rfl rfl q) ?_
  obtain ⟨T3, X3, e3, st3⟩ := getS2 X1 hx hZ hown (host := "") (Or.inl (hw _ (List.mem_of_getElem? (i := 21) rfl))) Via.refl e1 S_UNKNOWN (g := (mkF m 10 #[.val (.ref w_FALSE)] [(.ref w_FALSE)])) rfl (hb hby d3_10)
  refine own_go (T' := T3) (g' := (mkF m 13 #[.val (.ref w_FALSE)] [(.ref w_UNKNOWN), (.ref w_FALSE)])) (fun t q => st3 t q) ?_
  have c4 : ¬ ((Value.ref w_FALSE) = (Value.ref w_UNKNOWN)) := fun z => ne_UNKNOWN_FALSE (Value.ref.inj z).symm
  refine own_go (T' := T3) (g' := (mkF m 18 #[.val (.ref w_FALSE)] [])) (fun t q => XT.acmpYes X3.here hx rfl (pc0 := 13) (pc' := 18) rfl (hb hby d3_13) rfl rfl rfl (own_af c4).2 (by decide) (by decide) q) ?_
  refine own_go (T' := T3) (g' := (mkF m 19 #[.val (.ref w_FALSE)] [(.ref w_FALSE)])) (fun t q => XS.aloadN X3.here hx rfl (hb hby d3_18) rfl rfl q) ?_
  obtain ⟨T5, X5, e5, st5⟩ := getS2 X3 hx hZ hown (host := "") (Or.inl (hw _ (List.mem_of_getElem? (i := 23) rfl))) Via.refl e3 S_FALSE (g := (mkF m 19 #[.val (.ref w_FALSE)] [(.ref w_FALSE)])) rfl (hb hby d3_19)
  refine own_go (T' := T5) (g' := (mkF m 22 #[.val (.ref w_FALSE)] [(.ref w_FALSE), (.ref w_FALSE)])) (fun t q => st5 t q) ?_
  have c6 : (Value.ref w_FALSE) = (Value.ref w_FALSE) := rfl
  refine own_go (T' := T5) (g' := (mkF m 25 #[.val (.ref w_FALSE)] [])) (fun t q => XT.acmpNo X5.here hx rfl (hb hby d3_22) rfl rfl rfl (own_at c6).2 q) ?_
  refine own_go (T' := T5) (g' := (mkF m 26 #[.val (.ref w_FALSE)] [(.int (0 : Int32))])) (fun t q => XS.iconst X5.here hx rfl (hb hby d3_25) q) ?_
  refine own_outI X5 hx hlk hret (hb hby d3_26) ?_ (by decide) (by decide)
  exact ⟨rfl, e5, rfl⟩
theorem d2_7 : decode prog_13_method_5_code 7 = .ok (.aload_n 1, 1) := by decide +kernel
theorem d2_8 : decode prog_13_method_5_code 8 = .ok (.getstatic 3, 3) := by decide +kernel
theorem d2_11 : decode prog_13_method_5_code 11 = .ok (.if_acmp .ne 10, 3) := by decide +kernel
set_option maxRecDepth 65536 in
set_option maxHeartbeats 40000000 in
theorem rm_op_FALSE_TRUE (l : Launch) (Z : State) (a0 : Array Value) (hw : ∀ d ∈ tables_1, d.before a0 Z = true) (ws : List Jvm.Cond) (w_TRUE w_UNKNOWN w_FALSE : Addr) (h0 : Heap) (FX : own_F Z h0 w_TRUE w_UNKNOWN w_FALSE) :
    own_Met l (⟨"com/example/steady_broker/steadybroker/selector/Condition$Truth", "or", "(Lcom/example/steady_broker/steadybroker/selector/Condition$Truth;)Lcom/example/steady_broker/steadybroker/selector/Condition$Truth;"⟩ : MethodName) prog_13_method_5_code 3 (some (.object "com/example/steady_broker/steadybroker/selector/Condition$Truth")) ws ({ frames := 0, cells := 0, slots := 0, locals := 0 } : Room) Z #[(.ref w_FALSE), (.ref w_TRUE)] h0 (fun v h L => v = some (.ref w_TRUE) ∧ h = h0 ∧ L = []) := by
  refine MetFree.of_bodySF (plainFor_of_name (by first | (simp [plainName, overriddenIn]; done) | decide +kernel)) hisR ?_
  intro p e s m args below meth c s₁ Bd hml0 hP hK
  obtain ⟨rfl, hZ, hh⟩ := hP
  have hx := Bd.exec
  have hby := Bd.bytes
  have hml : c.maxLocals = 3 := hml0
  have hown : s.vm.findClass "com/example/steady_broker/steadybroker/selector/Condition$Truth" = some m.cls := findClass_of_methodNamed Bd.named
  have hnm := (name_of_methodNamed Bd.named Bd.method).1
  have hlk : meth.locks = false := Bd.notSynchronized
  have hret := Bd.returns
  have X0 : Stand p l e ({ frames := 0, cells := 0, slots := 0, locals := 0 } : Room) s m #[(.ref w_FALSE), (.ref w_TRUE)] below meth c s₁ [] 0 0 := Stand.of_body Bd
  have e0 : s₁.heap = h0 := by rw [← hh, Bd.state]; rfl
  refine own_in (Q := fun v h L => v = some (.ref w_TRUE) ∧ h = h0 ∧ L = []) (ef := by first | (simp [entryFrame, mkF, argsToLocals, Value.category, maxLocals]; done) | rfl) (g' := (mkF m 0 #[.val (.ref w_FALSE), .val (.ref w_TRUE), .unset] [])) ?_
  obtain ⟨S_TRUE, E_TRUE, S_UNKNOWN, E_UNKNOWN, S_FALSE, E_FALSE, F_UNKNOWN_ordinal, F_TRUE_ordinal, F_FALSE_ordinal, ne_UNKNOWN_TRUE, ne_UNKNOWN_FALSE, ne_TRUE_FALSE⟩ := id FX
  refine own_go (T' := s₁) (g' := (mkF m 1 #[.val (.ref w_FALSE), .val (.ref w_TRUE), .unset] [(.ref w_FALSE)])) (fun t q => XS.aloadN X0.here hx rfl (hb hby d2_0) rfl rfl q) ?_
  obtain ⟨T1, X1, e1, st1⟩ := getS2 X0 hx hZ hown (host := "") (Or.inl (hw _ (List.mem_of_getElem? (i := 13) rfl))) Via.refl e0 S_TRUE (g := (mkF m 1 #[.val (.ref w_FALSE), .val (.ref w_TRUE), .unset] [(.ref w_FALSE)])) rfl (hb hby d2_1)
  refine own_go (T' := T1) (g' := (mkF m 4 #[.val (.ref w_FALSE), .val (.ref w_TRUE), .unset] [(.ref w_TRUE), (.ref w_FALSE)])) (fun t q => st1 t q) ?_
  have c2 : ¬ ((Value.ref w_FALSE) = (Value.ref w_TRUE)) := fun z => ne_TRUE_FALSE (Value.ref.inj z).symm
  refine own_go (T' := T1) (g' := (mkF m 7 #[.val (.ref w_FALSE), .val (.ref w_TRUE), .unset] [])) (fun t q => XT.acmpNo X1.here hx rfl (hb hby d2_4) rfl rfl rfl (own_af c2).1 q) ?_
  refine own_go (T' := T1) (g' := (mkF m 8 #[.val (.ref w_FALSE), .val (.ref w_TRUE), .unset] [(.ref w_TRUE)])) (fun t q => XS.aloadN X1.here hx rfl (hb hby d2_7) rfl rfl q) ?_
  obtain ⟨T3, X3, e3, st3⟩ := getS2 X1 hx hZ hown (host := "") (Or.inl (hw _ (List.mem_of_getElem? (i := 13) rfl))) Via.refl e1 S_TRUE (g := (mkF m 8 #[.val (.ref w_FALSE), .val (.ref w_TRUE), .unset] [(.ref w_TRUE)])) rfl (hb hby d2_8)
  refine own_go (T' := T3) (g' := (mkF m 11 #[.val (.ref w_FALSE), .val (.ref w_TRUE), .unset] [(.ref w_TRUE), (.ref w_TRUE)])) (fun t q => st3 t q) ?_
  have c4 : (Value.ref w_TRUE) = (Value.ref w_TRUE) := rfl
  refine own_go (T' := T3) (g' := (mkF m 14 #[.val (.ref w_FALSE), .val (.ref w_TRUE), .unset] [])) (fun t q => XT.acmpNo X3.here hx rfl (hb hby d2_11) rfl rfl rfl (own_at c4).2 q) ?_
  obtain ⟨T5, X5, e5, st5⟩ := getS2 X3 hx hZ hown (host := "") (Or.inl (hw _ (List.mem_of_getElem? (i := 13) rfl))) Via.refl e3 S_TRUE (g := (mkF m 14 #[.val (.ref w_FALSE), .val (.ref w_TRUE), .unset] [])) rfl (hb hby d2_14)
  refine own_go (T' := T5) (g' := (mkF m 17 #[.val (.ref w_FALSE), .val (.ref w_TRUE), .unset] [(.ref w_TRUE)])) (fun t q => st5 t q) ?_
  refine own_go (T' := T5) (g' := (mkF m 18 #[.val (.ref w_FALSE), .val (.ref w_TRUE), .val (.ref w_TRUE)] [])) (fun t q => XS.astoreN X5.here hx rfl (hb hby d2_17) rfl rfl (l' := #[.val (.ref w_FALSE), .val (.ref w_TRUE), .val (.ref w_TRUE)]) rfl q) ?_
  refine own_go (T' := T5) (g' := (mkF m 46 #[.val (.ref w_FALSE), .val (.ref w_TRUE), .val (.ref w_TRUE)] [])) (fun t q => XS.goto X5.here hx rfl (pc0 := 18) (pc' := 46) rfl (hb hby d2_18) (by decide) (by decide) q) ?_
  refine own_go (T' := T5) (g' := (mkF m 47 #[.val (.ref w_FALSE), .val (.ref w_TRUE), .val (.ref w_TRUE)] [(.ref w_TRUE)])) (fun t q => XS.aloadN X5.here hx rfl (hb hby d2_46) rfl rfl q) ?_
  refine own_outA X5 hx hlk hret rfl rfl (hb hby d2_47) ?_ (by decide) (by decide)
  exact ⟨rfl, e5, rfl⟩
theorem d4_9 : decode jdk_29_method_65_code 9 = .ok (.iload_n 1, 1) := by decide +kernel
set_option maxRecDepth 65536 in
set_option maxHeartbeats 40000000 in
theorem rm_m_0_2 (l : Launch) (Z : State) (a0 : Array Value) (hw : ∀ d ∈ tables_1, d.before a0 Z = true) (ws : List Jvm.Cond)  (h0 : Heap)  :
    own_Met l (⟨"java/lang/Math", "max", "(II)I"⟩ : MethodName) jdk_29_method_65_code 2 (some .int) ws ({ frames := 0, cells := 0, slots := 0, locals := 0 } : Room) Z #[(.int (0 : Int32)), (.int (2 : Int32))] h0 (fun v h L => v = some (.int (2 : Int32)) ∧ h = h0 ∧ L = []) := by
  refine MetFree.of_bodySF (by decide +kernel) hisR ?_
  intro p e s m args below meth c s₁ Bd hml0 hP hK
  obtain ⟨rfl, hZ, hh⟩ := hP
  have hx := Bd.exec
  have hby := Bd.bytes
  have hml : c.maxLocals = 2 := hml0
  have hown : s.vm.findClass "java/lang/Math" = some m.cls := findClass_of_methodNamed Bd.named
  have hnm := (name_of_methodNamed Bd.named Bd.method).1
  have hlk : meth.locks = false := Bd.notSynchronized
  have hret := Bd.returns
  have X0 : Stand p l e ({ frames := 0, cells := 0, slots := 0, locals := 0 } : Room) s m #[(.int (0 : Int32)), (.int (2 : Int32))] below meth c s₁ [] 0 0 := Stand.of_body Bd
  have e0 : s₁.heap = h0 := by rw [← hh, Bd.state]; rfl
  refine own_in (Q := fun v h L => v = some (.int (2 : Int32)) ∧ h = h0 ∧ L = []) (ef := by first | (simp [entryFrame, mkF, argsToLocals, Value.category, maxLocals]; done) | rfl) (g' := (mkF m 0 #[.val (.int (0 : Int32)), .val (.int (2 : Int32))] [])) ?_
  refine own_go (T' := s₁) (g' := (mkF m 1 #[.val (.int (0 : Int32)), .val (.int (2 : Int32))] [(.int (0 : Int32))])) (fun t q => XS.iloadN X0.here hx rfl (hb hby d4_0) rfl q) ?_
  refine own_go (T' := s₁) (g' := (mkF m 2 #[.val (.int (0 : Int32)), .val (.int (2 : Int32))] [(.int (2 : Int32)), (.int (0 : Int32))])) (fun t q => XS.iloadN X0.here hx rfl (hb hby d4_1) rfl q) ?_
  have c1 : (0 : Int32) < (2 : Int32) := by decide
  refine own_go (T' := s₁) (g' := (mkF m 9 #[.val (.int (0 : Int32)), .val (.int (2 : Int32))] [])) (fun t q => XS.icmpYes X0.here hx rfl (pc0 := 2) (pc' := 9) rfl (hb hby d4_2) rfl (tlt c1).1 (by decide) (by decide) q) ?_
  refine own_go (T' := s₁) (g' := (mkF m 10 #[.val (.int (0 : Int32)), .val (.int (2 : Int32))] [(.int (2 : Int32))])) (fun t q => XS.iloadN X0.here hx rfl (hb hby d4_9) rfl q) ?_
  refine own_outI X0 hx hlk hret (hb hby d4_10) ?_ (by decide) (by decide)
  exact ⟨rfl, e0, rfl⟩
theorem d2_21 : decode prog_13_method_5_code 21 = .ok (.aload_n 0, 1) := by decide +kernel
theorem d2_22 : decode prog_13_method_5_code 22 = .ok (.getstatic 10, 3) := by decide +kernel
theorem d2_25 : decode prog_13_method_5_code 25 = .ok (.if_acmp .eq 10, 3) := by decide +kernel
theorem d2_28 : decode prog_13_method_5_code 28 = .ok (.aload_n 1, 1) := by decide +kernel
theorem d2_29 : decode prog_13_method_5_code 29 = .ok (.getstatic 10, 3) := by decide +kernel
theorem d2_32 : decode prog_13_method_5_code 32 = .ok (.if_acmp .ne 10, 3) := by decide +kernel
theorem d2_42 : decode prog_13_method_5_code 42 = .ok (.getstatic 7, 3) := by decide +kernel
theorem d2_45 : decode prog_13_method_5_code 45 = .ok (.astore_n 2, 1) := by decide +kernel
set_option maxRecDepth 65536 in
set_option maxHeartbeats 40000000 in
theorem rm_op_FALSE_FALSE (l : Launch) (Z : State) (a0 : Array Value) (hw : ∀ d ∈ tables_1, d.before a0 Z = true) (ws : List Jvm.Cond) (w_TRUE w_UNKNOWN w_FALSE : Addr) (h0 : Heap) (FX : own_F Z h0 w_TRUE w_UNKNOWN w_FALSE) :
    own_Met l (⟨"com/example/steady_broker/steadybroker/selector/Condition$Truth", "or", "(Lcom/example/steady_broker/steadybroker/selector/Condition$Truth;)Lcom/example/steady_broker/steadybroker/selector/Condition$Truth;"⟩ : MethodName) prog_13_method_5_code 3 (some (.object "com/example/steady_broker/steadybroker/selector/Condition$Truth")) ws ({ frames := 0, cells := 0, slots := 0, locals := 0 } : Room) Z #[(.ref w_FALSE), (.ref w_FALSE)] h0 (fun v h L => v = some (.ref w_FALSE) ∧ h = h0 ∧ L = []) := by
  refine MetFree.of_bodySF (plainFor_of_name (by first | (simp [plainName, overriddenIn]; done) | decide +kernel)) hisR ?_
  intro p e s m args below meth c s₁ Bd hml0 hP hK
  obtain ⟨rfl, hZ, hh⟩ := hP
  have hx := Bd.exec
  have hby := Bd.bytes
  have hml : c.maxLocals = 3 := hml0
  have hown : s.vm.findClass "com/example/steady_broker/steadybroker/selector/Condition$Truth" = some m.cls := findClass_of_methodNamed Bd.named
  have hnm := (name_of_methodNamed Bd.named Bd.method).1
  have hlk : meth.locks = false := Bd.notSynchronized
  have hret := Bd.returns
  have X0 : Stand p l e ({ frames := 0, cells := 0, slots := 0, locals := 0 } : Room) s m #[(.ref w_FALSE), (.ref w_FALSE)] below meth c s₁ [] 0 0 := Stand.of_body Bd
  have e0 : s₁.heap = h0 := by rw [← hh, Bd.state]; rfl
  refine own_in (Q := fun v h L => v = some (.ref w_FALSE) ∧ h = h0 ∧ L = []) (ef := by first | (simp [entryFrame, mkF, argsToLocals, Value.category, maxLocals]; done) | rfl) (g' := (mkF m 0 #[.val (.ref w_FALSE), .val (.ref w_FALSE), .unset] [])) ?_
  obtain ⟨S_TRUE, E_TRUE, S_UNKNOWN, E_UNKNOWN, S_FALSE, E_FALSE, F_UNKNOWN_ordinal, F_TRUE_ordinal, F_FALSE_ordinal, ne_UNKNOWN_TRUE, ne_UNKNOWN_FALSE, ne_TRUE_FALSE⟩ := id FX
  refine own_go (T' := s₁) (g' := (mkF m 1 #[.val (.ref w_FALSE), .val (.ref w_FALSE), .unset] [(.ref w_FALSE)])) (fun t q => XS.aloadN X0.here hx rfl (hb hby d2_0) rfl rfl q) ?_
  obtain ⟨T1, X1, e1, st1⟩ := getS2 X0 hx hZ hown (host := "") (Or.inl (hw _ (List.mem_of_getElem? (i := 13) rfl))) Via.refl e0 S_TRUE (g := (mkF m 1 #[.val (.ref w_FALSE), .val (.ref w_FALSE), .unset] [(.ref w_FALSE)])) rfl (hb hby d2_1)
  refine own_go (T' := T1) (g' := (mkF m 4 #[.val (.ref w_FALSE), .val (.ref w_FALSE), .unset] [(.ref w_TRUE), (.ref w_FALSE)])) (fun t q => st1 t q) ?_
  have c2 : ¬ ((Value.ref w_FALSE) = (Value.ref w_TRUE)) := fun z => ne_TRUE_FALSE (Value.ref.inj z).symm
  refine own_go (T' := T1) (g' := (mkF m 7 #[.val (.ref w_FALSE), .val (.ref w_FALSE), .unset] [])) (fun t q => XT.acmpNo X1.here hx rfl (hb hby d2_4) rfl rfl rfl (own_af c2).1 q) ?_
  refine own_go (T' := T1) (g' := (mkF m 8 #[.val (.ref w_FALSE), .val (.ref w_FALSE), .unset] [(.ref w_FALSE)])) (fun t q => XS.aloadN X1.here hx rfl (hb hby d2_7) rfl rfl q) ?_
  obtain ⟨T3, X3, e3, st3⟩ := getS2 X1 hx hZ hown (host := "") (Or.inl (hw _ (List.mem_of_getElem? (i := 13) rfl))) Via.refl e1 S_TRUE (g := (mkF m 8 #[.val (.ref w_FALSE), .val (.ref w_FALSE), .unset] [(.ref w_FALSE)])) rfl (hb hby d2_8)
  refine own_go (T' := T3) (g' := (mkF m 11 #[.val (.ref w_FALSE), .val (.ref w_FALSE), .unset] [(.ref w_TRUE), (.ref w_FALSE)])) (fun t q => st3 t q) ?_
  have c4 : ¬ ((Value.ref w_FALSE) = (Value.ref w_TRUE)) := fun z => ne_TRUE_FALSE (Value.ref.inj z).symm
  refine own_go (T' := T3) (g' := (mkF m 21 #[.val (.ref w_FALSE), .val (.ref w_FALSE), .unset] [])) (fun t q => XT.acmpYes X3.here hx rfl (pc0 := 11) (pc' := 21) rfl (hb hby d2_11) rfl rfl rfl (own_af c4).2 (by decide) (by decide) q) ?_
  refine own_go (T' := T3) (g' := (mkF m 22 #[.val (.ref w_FALSE), .val (.ref w_FALSE), .unset] [(.ref w_FALSE)])) (fun t q => XS.aloadN X3.here hx rfl (hb hby d2_21) rfl rfl q) ?_
  obtain ⟨T5, X5, e5, st5⟩ := getS2 X3 hx hZ hown (host := "") (Or.inl (hw _ (List.mem_of_getElem? (i := 25) rfl))) Via.refl e3 S_UNKNOWN (g := (mkF m 22 #[.val (.ref w_FALSE), .val (.ref w_FALSE), .unset] [(.ref w_FALSE)])) rfl (hb hby d2_22)
  refine own_go (T' := T5) (g' := (mkF m 25 #[.val (.ref w_FALSE), .val (.ref w_FALSE), .unset] [(.ref w_UNKNOWN), (.ref w_FALSE)])) (fun t q => st5 t q) ?_
  have c6 : ¬ ((Value.ref w_FALSE) = (Value.ref w_UNKNOWN)) := fun z => ne_UNKNOWN_FALSE (Value.ref.inj z).symm
  refine own_go (T' := T5) (g' := (mkF m 28 #[.val (.ref w_FALSE), .val (.ref w_FALSE), .unset] [])) (fun t q => XT.acmpNo X5.here hx rfl (hb hby d2_25) rfl rfl rfl (own_af c6).1 q) ?_
  refine own_go (T' := T5) (g' := (mkF m 29 #[.val (.ref w_FALSE), .val (.ref w_FALSE), .unset] [(.ref w_FALSE)])) (fun t q => XS.aloadN X5.here hx rfl (hb hby d2_28) rfl rfl q) ?_
  obtain ⟨T7, X7, e7, st7⟩ := getS2 X5 hx hZ hown (host := "") (Or.inl (hw _ (List.mem_of_getElem? (i := 25) rfl))) Via.refl e5 S_UNKNOWN (g := (mkF m 29 #[.val (.ref w_FALSE), .val (.ref w_FALSE), .unset] [(.ref w_FALSE)])) rfl (hb hby d2_29)
  refine own_go (T' := T7) (g' := (mkF m 32 #[.val (.ref w_FALSE), .val (.ref w_FALSE), .unset] [(.ref w_UNKNOWN), (.ref w_FALSE)])) (fun t q => st7 t q) ?_
  have c8 : ¬ ((Value.ref w_FALSE) = (Value.ref w_UNKNOWN)) := fun z => ne_UNKNOWN_FALSE (Value.ref.inj z).symm
  refine own_go (T' := T7) (g' := (mkF m 42 #[.val (.ref w_FALSE), .val (.ref w_FALSE), .unset] [])) (fun t q => XT.acmpYes X7.here hx rfl (pc0 := 32) (pc' := 42) rfl (hb hby d2_32) rfl rfl rfl (own_af c8).2 (by decide) (by decide) q) ?_
  obtain ⟨T9, X9, e9, st9⟩ := getS2 X7 hx hZ hown (host := "") (Or.inl (hw _ (List.mem_of_getElem? (i := 26) rfl))) Via.refl e7 S_FALSE (g := (mkF m 42 #[.val (.ref w_FALSE), .val (.ref w_FALSE), .unset] [])) rfl (hb hby d2_42)
  refine own_go (T' := T9) (g' := (mkF m 45 #[.val (.ref w_FALSE), .val (.ref w_FALSE), .unset] [(.ref w_FALSE)])) (fun t q => st9 t q) ?_
  refine own_go (T' := T9) (g' := (mkF m 46 #[.val (.ref w_FALSE), .val (.ref w_FALSE), .val (.ref w_FALSE)] [])) (fun t q => XS.astoreN X9.here hx rfl (hb hby d2_45) rfl rfl (l' := #[.val (.ref w_FALSE), .val (.ref w_FALSE), .val (.ref w_FALSE)]) rfl q) ?_
  refine own_go (T' := T9) (g' := (mkF m 47 #[.val (.ref w_FALSE), .val (.ref w_FALSE), .val (.ref w_FALSE)] [(.ref w_FALSE)])) (fun t q => XS.aloadN X9.here hx rfl (hb hby d2_46) rfl rfl q) ?_
  refine own_outA X9 hx hlk hret rfl rfl (hb hby d2_47) ?_ (by decide) (by decide)
  exact ⟨rfl, e9, rfl⟩
set_option maxRecDepth 65536 in
set_option maxHeartbeats 40000000 in
theorem rm_m_0_0 (l : Launch) (Z : State) (a0 : Array Value) (hw : ∀ d ∈ tables_1, d.before a0 Z = true) (ws : List Jvm.Cond)  (h0 : Heap)  :
    own_Met l (⟨"java/lang/Math", "max", "(II)I"⟩ : MethodName) jdk_29_method_65_code 2 (some .int) ws ({ frames := 0, cells := 0, slots := 0, locals := 0 } : Room) Z #[(.int (0 : Int32)), (.int (0 : Int32))] h0 (fun v h L => v = some (.int (0 : Int32)) ∧ h = h0 ∧ L = []) := by
  refine MetFree.of_bodySF (by decide +kernel) hisR ?_
  intro p e s m args below meth c s₁ Bd hml0 hP hK
  obtain ⟨rfl, hZ, hh⟩ := hP
  have hx := Bd.exec
  have hby := Bd.bytes
  have hml : c.maxLocals = 2 := hml0
  have hown : s.vm.findClass "java/lang/Math" = some m.cls := findClass_of_methodNamed Bd.named
  have hnm := (name_of_methodNamed Bd.named Bd.method).1
  have hlk : meth.locks = false := Bd.notSynchronized
  have hret := Bd.returns
  have X0 : Stand p l e ({ frames := 0, cells := 0, slots := 0, locals := 0 } : Room) s m #[(.int (0 : Int32)), (.int (0 : Int32))] below meth c s₁ [] 0 0 := Stand.of_body Bd
  have e0 : s₁.heap = h0 := by rw [← hh, Bd.state]; rfl
  refine own_in (Q := fun v h L => v = some (.int (0 : Int32)) ∧ h = h0 ∧ L = []) (ef := by first | (simp [entryFrame, mkF, argsToLocals, Value.category, maxLocals]; done) | rfl) (g' := (mkF m 0 #[.val (.int (0 : Int32)), .val (.int (0 : Int32))] [])) ?_
  refine own_go (T' := s₁) (g' := (mkF m 1 #[.val (.int (0 : Int32)), .val (.int (0 : Int32))] [(.int (0 : Int32))])) (fun t q => XS.iloadN X0.here hx rfl (hb hby d4_0) rfl q) ?_
  refine own_go (T' := s₁) (g' := (mkF m 2 #[.val (.int (0 : Int32)), .val (.int (0 : Int32))] [(.int (0 : Int32)), (.int (0 : Int32))])) (fun t q => XS.iloadN X0.here hx rfl (hb hby d4_1) rfl q) ?_
  have c1 : ¬ ((0 : Int32) < (0 : Int32)) := by decide
  refine own_go (T' := s₁) (g' := (mkF m 5 #[.val (.int (0 : Int32)), .val (.int (0 : Int32))] [])) (fun t q => XS.icmpNo X0.here hx rfl (hb hby d4_2) rfl (flt c1).1 q) ?_
  refine own_go (T' := s₁) (g' := (mkF m 6 #[.val (.int (0 : Int32)), .val (.int (0 : Int32))] [(.int (0 : Int32))])) (fun t q => XS.iloadN X0.here hx rfl (hb hby d4_5) rfl q) ?_
  refine own_go (T' := s₁) (g' := (mkF m 10 #[.val (.int (0 : Int32)), .val (.int (0 : Int32))] [(.int (0 : Int32))])) (fun t q => XS.goto X0.here hx rfl (pc0 := 6) (pc' := 10) rfl (hb hby d4_6) (by decide) (by decide) q) ?_
  refine own_outI X0 hx hlk hret (hb hby d4_10) ?_ (by decide) (by decide)
  exact ⟨rfl, e0, rfl⟩
theorem d2_35 : decode prog_13_method_5_code 35 = .ok (.getstatic 10, 3) := by decide +kernel
theorem d2_38 : decode prog_13_method_5_code 38 = .ok (.astore_n 2, 1) := by decide +kernel
theorem d2_39 : decode prog_13_method_5_code 39 = .ok (.goto 7, 3) := by decide +kernel
set_option maxRecDepth 65536 in
set_option maxHeartbeats 40000000 in
theorem rm_op_FALSE_UNKNOWN (l : Launch) (Z : State) (a0 : Array Value) (hw : ∀ d ∈ tables_1, d.before a0 Z = true) (ws : List Jvm.Cond) (w_TRUE w_UNKNOWN w_FALSE : Addr) (h0 : Heap) (FX : own_F Z h0 w_TRUE w_UNKNOWN w_FALSE) :
    own_Met l (⟨"com/example/steady_broker/steadybroker/selector/Condition$Truth", "or", "(Lcom/example/steady_broker/steadybroker/selector/Condition$Truth;)Lcom/example/steady_broker/steadybroker/selector/Condition$Truth;"⟩ : MethodName) prog_13_method_5_code 3 (some (.object "com/example/steady_broker/steadybroker/selector/Condition$Truth")) ws ({ frames := 0, cells := 0, slots := 0, locals := 0 } : Room) Z #[(.ref w_FALSE), (.ref w_UNKNOWN)] h0 (fun v h L => v = some (.ref w_UNKNOWN) ∧ h = h0 ∧ L = []) := by
  refine MetFree.of_bodySF (plainFor_of_name (by first | (simp [plainName, overriddenIn]; done) | decide +kernel)) hisR ?_
  intro p e s m args below meth c s₁ Bd hml0 hP hK
  obtain ⟨rfl, hZ, hh⟩ := hP
  have hx := Bd.exec
  have hby := Bd.bytes
  have hml : c.maxLocals = 3 := hml0
  have hown : s.vm.findClass "com/example/steady_broker/steadybroker/selector/Condition$Truth" = some m.cls := findClass_of_methodNamed Bd.named
  have hnm := (name_of_methodNamed Bd.named Bd.method).1
  have hlk : meth.locks = false := Bd.notSynchronized
  have hret := Bd.returns
  have X0 : Stand p l e ({ frames := 0, cells := 0, slots := 0, locals := 0 } : Room) s m #[(.ref w_FALSE), (.ref w_UNKNOWN)] below meth c s₁ [] 0 0 := Stand.of_body Bd
  have e0 : s₁.heap = h0 := by rw [← hh, Bd.state]; rfl
  refine own_in (Q := fun v h L => v = some (.ref w_UNKNOWN) ∧ h = h0 ∧ L = []) (ef := by first | (simp [entryFrame, mkF, argsToLocals, Value.category, maxLocals]; done) | rfl) (g' := (mkF m 0 #[.val (.ref w_FALSE), .val (.ref w_UNKNOWN), .unset] [])) ?_
  obtain ⟨S_TRUE, E_TRUE, S_UNKNOWN, E_UNKNOWN, S_FALSE, E_FALSE, F_UNKNOWN_ordinal, F_TRUE_ordinal, F_FALSE_ordinal, ne_UNKNOWN_TRUE, ne_UNKNOWN_FALSE, ne_TRUE_FALSE⟩ := id FX
  refine own_go (T' := s₁) (g' := (mkF m 1 #[.val (.ref w_FALSE), .val (.ref w_UNKNOWN), .unset] [(.ref w_FALSE)])) (fun t q => XS.aloadN X0.here hx rfl (hb hby d2_0) rfl rfl q) ?_
  obtain ⟨T1, X1, e1, st1⟩ := getS2 X0 hx hZ hown (host := "") (Or.inl (hw _ (List.mem_of_getElem? (i := 13) rfl))) Via.refl e0 S_TRUE (g := (mkF m 1 #[.val (.ref w_FALSE), .val (.ref w_UNKNOWN), .unset] [(.ref w_FALSE)])) rfl (hb hby d2_1)
  refine own_go (T' := T1) (g' := (mkF m 4 #[.val (.ref w_FALSE), .val (.ref w_UNKNOWN), .unset] [(.ref w_TRUE), (.ref w_FALSE)])) (fun t q => st1 t q) ?_
  have c2 : ¬ ((Value.ref w_FALSE) = (Value.ref w_TRUE)) := fun z => ne_TRUE_FALSE (Value.ref.inj z).symm
  refine own_go (T' := T1) (g' := (mkF m 7 #[.val (.ref w_FALSE), .val (.ref w_UNKNOWN), .unset] [])) (fun t q => XT.acmpNo X1.here hx rfl (hb hby d2_4) rfl rfl rfl (own_af c2).1 q) ?_
  refine own_go (T' := T1) (g' := (mkF m 8 #[.val (.ref w_FALSE), .val (.ref w_UNKNOWN), .unset] [(.ref w_UNKNOWN)])) (fun t q => XS.aloadN X1.here hx rfl (hb hby d2_7) rfl rfl q) ?_
  obtain ⟨T3, X3, e3, st3⟩ := getS2 X1 hx hZ hown (host := "") (Or.inl (hw _ (List.mem_of_getElem? (i := 13) rfl))) Via.refl e1 S_TRUE (g := (mkF m 8 #[.val (.ref w_FALSE), .val (.ref w_UNKNOWN), .unset] [(.ref w_UNKNOWN)])) rfl (hb hby d2_8)
  refine own_go (T' := T3) (g' := (mkF m 11 #[.val (.ref w_FALSE), .val (.ref w_UNKNOWN), .unset] [(.ref w_TRUE), (.ref w_UNKNOWN)])) (fun t q => st3 t q) ?_
  have c4 : ¬ ((Value.ref w_UNKNOWN) = (Value.ref w_TRUE)) := fun z => ne_UNKNOWN_TRUE (Value.ref.inj z)
  refine own_go (T' := T3) (g' := (mkF m 21 #[.val (.ref w_FALSE), .val (.ref w_UNKNOWN), .unset] [])) (fun t q => XT.acmpYes X3.here hx rfl (pc0 := 11) (pc' := 21) rfl (hb hby d2_11) rfl rfl rfl (own_af c4).2 (by decide) (by decide) q) ?_
  refine own_go (T' := T3) (g' := (mkF m 22 #[.val (.ref w_FALSE), .val (.ref w_UNKNOWN), .unset] [(.ref w_FALSE)])) (fun t q => XS.aloadN X3.here hx rfl (hb hby d2_21) rfl rfl q) ?_
  obtain ⟨T5, X5, e5, st5⟩ := getS2 X3 hx hZ hown (host := "") (Or.inl (hw _ (List.mem_of_getElem? (i := 25) rfl))) Via.refl e3 S_UNKNOWN (g := (mkF m 22 #[.val (.ref w_FALSE), .val (.ref w_UNKNOWN), .unset] [(.ref w_FALSE)])) rfl (hb hby d2_22)
  refine own_go (T' := T5) (g' := (mkF m 25 #[.val (.ref w_FALSE), .val (.ref w_UNKNOWN), .unset] [(.ref w_UNKNOWN), (.ref w_FALSE)])) (fun t q => st5 t q) ?_
  have c6 : ¬ ((Value.ref w_FALSE) = (Value.ref w_UNKNOWN)) := fun z => ne_UNKNOWN_FALSE (Value.ref.inj z).symm
  refine own_go (T' := T5) (g' := (mkF m 28 #[.val (.ref w_FALSE), .val (.ref w_UNKNOWN), .unset] [])) (fun t q => XT.acmpNo X5.here hx rfl (hb hby d2_25) rfl rfl rfl (own_af c6).1 q) ?_
  refine own_go (T' := T5) (g' := (mkF m 29 #[.val (.ref w_FALSE), .val (.ref w_UNKNOWN), .unset] [(.ref w_UNKNOWN)])) (fun t q => XS.aloadN X5.here hx rfl (hb hby d2_28) rfl rfl q) ?_
  obtain ⟨T7, X7, e7, st7⟩ := getS2 X5 hx hZ hown (host := "") (Or.inl (hw _ (List.mem_of_getElem? (i := 25) rfl))) Via.refl e5 S_UNKNOWN (g := (mkF m 29 #[.val (.ref w_FALSE), .val (.ref w_UNKNOWN), .unset] [(.ref w_UNKNOWN)])) rfl (hb hby d2_29)
  refine own_go (T' := T7) (g' := (mkF m 32 #[.val (.ref w_FALSE), .val (.ref w_UNKNOWN), .unset] [(.ref w_UNKNOWN), (.ref w_UNKNOWN)])) (fun t q => st7 t q) ?_
  have c8 : (Value.ref w_UNKNOWN) = (Value.ref w_UNKNOWN) := rfl
  refine own_go (T' := T7) (g' := (mkF m 35 #[.val (.ref w_FALSE), .val (.ref w_UNKNOWN), .unset] [])) (fun t q => XT.acmpNo X7.here hx rfl (hb hby d2_32) rfl rfl rfl (own_at c8).2 q) ?_
  obtain ⟨T9, X9, e9, st9⟩ := getS2 X7 hx hZ hown (host := "") (Or.inl (hw _ (List.mem_of_getElem? (i := 25) rfl))) Via.refl e7 S_UNKNOWN (g := (mkF m 35 #[.val (.ref w_FALSE), .val (.ref w_UNKNOWN), .unset] [])) rfl (hb hby d2_35)
  refine own_go (T' := T9) (g' := (mkF m 38 #[.val (.ref w_FALSE), .val (.ref w_UNKNOWN), .unset] [(.ref w_UNKNOWN)])) (fun t q => st9 t q) ?_
  refine own_go (T' := T9) (g' := (mkF m 39 #[.val (.ref w_FALSE), .val (.ref w_UNKNOWN), .val (.ref w_UNKNOWN)] [])) (fun t q => XS.astoreN X9.here hx rfl (hb hby d2_38) rfl rfl (l' := #[.val (.ref w_FALSE), .val (.ref w_UNKNOWN), .val (.ref w_UNKNOWN)]) rfl q) ?_
  refine own_go (T' := T9) (g' := (mkF m 46 #[.val (.ref w_FALSE), .val (.ref w_UNKNOWN), .val (.ref w_UNKNOWN)] [])) (fun t q => XS.goto X9.here hx rfl (pc0 := 39) (pc' := 46) rfl (hb hby d2_39) (by decide) (by decide) q) ?_
  refine own_go (T' := T9) (g' := (mkF m 47 #[.val (.ref w_FALSE), .val (.ref w_UNKNOWN), .val (.ref w_UNKNOWN)] [(.ref w_UNKNOWN)])) (fun t q => XS.aloadN X9.here hx rfl (hb hby d2_46) rfl rfl q) ?_
  refine own_outA X9 hx hlk hret rfl rfl (hb hby d2_47) ?_ (by decide) (by decide)
  exact ⟨rfl, e9, rfl⟩
set_option maxRecDepth 65536 in
set_option maxHeartbeats 40000000 in
theorem rm_m_0_1 (l : Launch) (Z : State) (a0 : Array Value) (hw : ∀ d ∈ tables_1, d.before a0 Z = true) (ws : List Jvm.Cond)  (h0 : Heap)  :
    own_Met l (⟨"java/lang/Math", "max", "(II)I"⟩ : MethodName) jdk_29_method_65_code 2 (some .int) ws ({ frames := 0, cells := 0, slots := 0, locals := 0 } : Room) Z #[(.int (0 : Int32)), (.int (1 : Int32))] h0 (fun v h L => v = some (.int (1 : Int32)) ∧ h = h0 ∧ L = []) := by
  refine MetFree.of_bodySF (by decide +kernel) hisR ?_
  intro p e s m args below meth c s₁ Bd hml0 hP hK
  obtain ⟨rfl, hZ, hh⟩ := hP
  have hx := Bd.exec
  have hby := Bd.bytes
  have hml : c.maxLocals = 2 := hml0
  have hown : s.vm.findClass "java/lang/Math" = some m.cls := findClass_of_methodNamed Bd.named
  have hnm := (name_of_methodNamed Bd.named Bd.method).1
  have hlk : meth.locks = false := Bd.notSynchronized
  have hret := Bd.returns
  have X0 : Stand p l e ({ frames := 0, cells := 0, slots := 0, locals := 0 } : Room) s m #[(.int (0 : Int32)), (.int (1 : Int32))] below meth c s₁ [] 0 0 := Stand.of_body Bd
  have e0 : s₁.heap = h0 := by rw [← hh, Bd.state]; rfl
  refine own_in (Q := fun v h L => v = some (.int (1 : Int32)) ∧ h = h0 ∧ L = []) (ef := by first | (simp [entryFrame, mkF, argsToLocals, Value.category, maxLocals]; done) | rfl) (g' := (mkF m 0 #[.val (.int (0 : Int32)), .val (.int (1 : Int32))] [])) ?_
  refine own_go (T' := s₁) (g' := (mkF m 1 #[.val (.int (0 : Int32)), .val (.int (1 : Int32))] [(.int (0 : Int32))])) (fun t q => XS.iloadN X0.here hx rfl (hb hby d4_0) rfl q) ?_
  refine own_go (T' := s₁) (g' := (mkF m 2 #[.val (.int (0 : Int32)), .val (.int (1 : Int32))] [(.int (1 : Int32)), (.int (0 : Int32))])) (fun t q => XS.iloadN X0.here hx rfl (hb hby d4_1) rfl q) ?_
  have c1 : (0 : Int32) < (1 : Int32) := by decide
  refine own_go (T' := s₁) (g' := (mkF m 9 #[.val (.int (0 : Int32)), .val (.int (1 : Int32))] [])) (fun t q => XS.icmpYes X0.here hx rfl (pc0 := 2) (pc' := 9) rfl (hb hby d4_2) rfl (tlt c1).1 (by decide) (by decide) q) ?_
  refine own_go (T' := s₁) (g' := (mkF m 10 #[.val (.int (0 : Int32)), .val (.int (1 : Int32))] [(.int (1 : Int32))])) (fun t q => XS.iloadN X0.here hx rfl (hb hby d4_9) rfl q) ?_
  refine own_outI X0 hx hlk hret (hb hby d4_10) ?_ (by decide) (by decide)
  exact ⟨rfl, e0, rfl⟩
theorem d3_16 : decode method_3_code 16 = .ok (.iconst 1, 1) := by decide +kernel
theorem d3_17 : decode method_3_code 17 = .ok (.ireturn, 1) := by decide +kernel
set_option maxRecDepth 65536 in
set_option maxHeartbeats 40000000 in
theorem rm_rank_UNKNOWN (l : Launch) (Z : State) (a0 : Array Value) (hw : ∀ d ∈ tables_1, d.before a0 Z = true) (ws : List Jvm.Cond) (w_TRUE w_UNKNOWN w_FALSE : Addr) (h0 : Heap) (FX : own_F Z h0 w_TRUE w_UNKNOWN w_FALSE) :
    own_Met l (⟨"com/example/steady_broker/steadybroker/selector/TruthOrPinLaw", "rank", "(Lcom/example/steady_broker/steadybroker/selector/Condition$Truth;)I"⟩ : MethodName) method_3_code 1 (some .int) ws ({ frames := 0, cells := 0, slots := 0, locals := 0 } : Room) Z #[(.ref w_UNKNOWN)] h0 (fun v h L => v = some (.int (1 : Int32)) ∧ h = h0 ∧ L = []) := by
  refine MetFree.of_bodySF (plainFor_of_name (by first | (simp [plainName, overriddenIn]; done) | decide +kernel)) hisR ?_
  intro p e s m args below meth c s₁ Bd hml0 hP hK
  obtain ⟨rfl, hZ, hh⟩ := hP
  have hx := Bd.exec
  have hby := Bd.bytes
  have hml : c.maxLocals = 1 := hml0
  have hown : s.vm.findClass "com/example/steady_broker/steadybroker/selector/TruthOrPinLaw" = some m.cls := findClass_of_methodNamed Bd.named
  have hnm := (name_of_methodNamed Bd.named Bd.method).1
  have hlk : meth.locks = false := Bd.notSynchronized
  have hret := Bd.returns
  have X0 : Stand p l e ({ frames := 0, cells := 0, slots := 0, locals := 0 } : Room) s m #[(.ref w_UNKNOWN)] below meth c s₁ [] 0 0 := Stand.of_body Bd
  have e0 : s₁.heap = h0 := by rw [← hh, Bd.state]; rfl
  refine own_in (Q := fun v h L => v = some (.int (1 : Int32)) ∧ h = h0 ∧ L = []) (ef := by first | (simp [entryFrame, mkF, argsToLocals, Value.category, maxLocals]; done) | rfl) (g' := (mkF m 0 #[.val (.ref w_UNKNOWN)] [])) ?_
  obtain ⟨S_TRUE, E_TRUE, S_UNKNOWN, E_UNKNOWN, S_FALSE, E_FALSE, F_UNKNOWN_ordinal, F_TRUE_ordinal, F_FALSE_ordinal, ne_UNKNOWN_TRUE, ne_UNKNOWN_FALSE, ne_TRUE_FALSE⟩ := id FX
  refine own_go (T' := s₁) (g' := (mkF m 1 #[.val (.ref w_UNKNOWN)] [(.ref w_UNKNOWN)])) (fun t q => XS.aloadN X0.here hx rfl (hb hby d3_0) rfl rfl q) ?_
  obtain ⟨T1, X1, e1, st1⟩ := getS2 X0 hx hZ hown (host := "") (Or.inl (hw _ (List.mem_of_getElem? (i := 5) rfl))) Via.refl e0 S_TRUE (g := (mkF m 1 #[.val (.ref w_UNKNOWN)] [(.ref w_UNKNOWN)])) rfl (hb hby d3_1)
  refine own_go (T' := T1) (g' := (mkF m 4 #[.val (.ref w_UNKNOWN)] [(.ref w_TRUE), (.ref w_UNKNOWN)])) (fun t q => st1 t q) ?_
  have c2 : ¬ ((Value.ref w_UNKNOWN) = (Value.ref w_TRUE)) := fun z => ne_UNKNOWN_TRUE (Value.ref.inj z)
  refine own_go (T' := T1) (g' := (mkF m 9 #[.val (.ref w_UNKNOWN)] [])) (fun t q => XT.acmpYes X1.here hx rfl (pc0 := 4) (pc' := 9) rfl (hb hby d3_4) rfl rfl rfl (own_af c2).2 (by decide) (by decide) q) ?_
  refine own_go (T' := T1) (g' := (mkF m 10 #[.val (.ref w_UNKNOWN)] [(.ref w_UNKNOWN)])) (fun t q => XS.aloadN X1.here hx rfl (hb hby d3_9) rfl rfl q) ?_
  obtain ⟨T3, X3, e3, st3⟩ := getS2 X1 hx hZ hown (host := "") (Or.inl (hw _ (List.mem_of_getElem? (i := 21) rfl))) Via.refl e1 S_UNKNOWN (g := (mkF m 10 #[.val (.ref w_UNKNOWN)] [(.ref w_UNKNOWN)])) rfl (hb hby d3_10)
  refine own_go (T' := T3) (g' := (mkF m 13 #[.val (.ref w_UNKNOWN)] [(.ref w_UNKNOWN), (.ref w_UNKNOWN)])) (fun t q => st3 t q) ?_
  have c4 : (Value.ref w_UNKNOWN) = (Value.ref w_UNKNOWN) := rfl
  refine own_go (T' := T3) (g' := (mkF m 16 #[.val (.ref w_UNKNOWN)] [])) (fun t q => XT.acmpNo X3.here hx rfl (hb hby d3_13) rfl rfl rfl (own_at c4).2 q) ?_
  refine own_go (T' := T3) (g' := (mkF m 17 #[.val (.ref w_UNKNOWN)] [(.int (1 : Int32))])) (fun t q => XS.iconst X3.here hx rfl (hb hby d3_16) q) ?_
  refine own_outI X3 hx hlk hret (hb hby d3_17) ?_ (by decide) (by decide)
  exact ⟨rfl, e3, rfl⟩
set_option maxRecDepth 65536 in
set_option maxHeartbeats 40000000 in
theorem rm_op_UNKNOWN_TRUE (l : Launch) (Z : State) (a0 : Array Value) (hw : ∀ d ∈ tables_1, d.before a0 Z = true) (ws : List Jvm.Cond) (w_TRUE w_UNKNOWN w_FALSE : Addr) (h0 : Heap) (FX : own_F Z h0 w_TRUE w_UNKNOWN w_FALSE) :
    own_Met l (⟨"com/example/steady_broker/steadybroker/selector/Condition$Truth", "or", "(Lcom/example/steady_broker/steadybroker/selector/Condition$Truth;)Lcom/example/steady_broker/steadybroker/selector/Condition$Truth;"⟩ : MethodName) prog_13_method_5_code 3 (some (.object "com/example/steady_broker/steadybroker/selector/Condition$Truth")) ws ({ frames := 0, cells := 0, slots := 0, locals := 0 } : Room) Z #[(.ref w_UNKNOWN), (.ref w_TRUE)] h0 (fun v h L => v = some (.ref w_TRUE) ∧ h = h0 ∧ L = []) := by
  refine MetFree.of_bodySF (plainFor_of_name (by first | (simp [plainName, overriddenIn]; done) | decide +kernel)) hisR ?_
  intro p e s m args below meth c s₁ Bd hml0 hP hK
  obtain ⟨rfl, hZ, hh⟩ := hP
  have hx := Bd.exec
  have hby := Bd.bytes
  have hml : c.maxLocals = 3 := hml0
  have hown : s.vm.findClass "com/example/steady_broker/steadybroker/selector/Condition$Truth" = some m.cls := findClass_of_methodNamed Bd.named
  have hnm := (name_of_methodNamed Bd.named Bd.method).1
  have hlk : meth.locks = false := Bd.notSynchronized
  have hret := Bd.returns
  have X0 : Stand p l e ({ frames := 0, cells := 0, slots := 0, locals := 0 } : Room) s m #[(.ref w_UNKNOWN), (.ref w_TRUE)] below meth c s₁ [] 0 0 := Stand.of_body Bd
  have e0 : s₁.heap = h0 := by rw [← hh, Bd.state]; rfl
  refine own_in (Q := fun v h L => v = some (.ref w_TRUE) ∧ h = h0 ∧ L = []) (ef := by first | (simp [entryFrame, mkF, argsToLocals, Value.category, maxLocals]; done) | rfl) (g' := (mkF m 0 #[.val (.ref w_UNKNOWN), .val (.ref w_TRUE), .unset] [])) ?_
  obtain ⟨S_TRUE, E_TRUE, S_UNKNOWN, E_UNKNOWN, S_FALSE, E_FALSE, F_UNKNOWN_ordinal, F_TRUE_ordinal, F_FALSE_ordinal, ne_UNKNOWN_TRUE, ne_UNKNOWN_FALSE, ne_TRUE_FALSE⟩ := id FX
  refine own_go (T' := s₁) (g' := (mkF m 1 #[.val (.ref w_UNKNOWN), .val (.ref w_TRUE), .unset] [(.ref w_UNKNOWN)])) (fun t q => XS.aloadN X0.here hx rfl (hb hby d2_0) rfl rfl q) ?_
  obtain ⟨T1, X1, e1, st1⟩ := getS2 X0 hx hZ hown (host := "") (Or.inl (hw _ (List.mem_of_getElem? (i := 13) rfl))) Via.refl e0 S_TRUE (g := (mkF m 1 #[.val (.ref w_UNKNOWN), .val (.ref w_TRUE), .unset] [(.ref w_UNKNOWN)])) rfl (hb hby d2_1)
  refine own_go (T' := T1) (g' := (mkF m 4 #[.val (.ref w_UNKNOWN), .val (.ref w_TRUE), .unset] [(.ref w_TRUE), (.ref w_UNKNOWN)])) (fun t q => st1 t q) ?_
  have c2 : ¬ ((Value.ref w_UNKNOWN) = (Value.ref w_TRUE)) := fun z => ne_UNKNOWN_TRUE (Value.ref.inj z)
  refine own_go (T' := T1) (g' := (mkF m 7 #[.val (.ref w_UNKNOWN), .val (.ref w_TRUE), .unset] [])) (fun t q => XT.acmpNo X1.here hx rfl (hb hby d2_4) rfl rfl rfl (own_af c2).1 q) ?_
  refine own_go (T' := T1) (g' := (mkF m 8 #[.val (.ref w_UNKNOWN), .val (.ref w_TRUE), .unset] [(.ref w_TRUE)])) (fun t q => XS.aloadN X1.here hx rfl (hb hby d2_7) rfl rfl q) ?_
  obtain ⟨T3, X3, e3, st3⟩ := getS2 X1 hx hZ hown (host := "") (Or.inl (hw _ (List.mem_of_getElem? (i := 13) rfl))) Via.refl e1 S_TRUE (g := (mkF m 8 #[.val (.ref w_UNKNOWN), .val (.ref w_TRUE), .unset] [(.ref w_TRUE)])) rfl (hb hby d2_8)
  refine own_go (T' := T3) (g' := (mkF m 11 #[.val (.ref w_UNKNOWN), .val (.ref w_TRUE), .unset] [(.ref w_TRUE), (.ref w_TRUE)])) (fun t q => st3 t q) ?_
  have c4 : (Value.ref w_TRUE) = (Value.ref w_TRUE) := rfl
  refine own_go (T' := T3) (g' := (mkF m 14 #[.val (.ref w_UNKNOWN), .val (.ref w_TRUE), .unset] [])) (fun t q => XT.acmpNo X3.here hx rfl (hb hby d2_11) rfl rfl rfl (own_at c4).2 q) ?_
  obtain ⟨T5, X5, e5, st5⟩ := getS2 X3 hx hZ hown (host := "") (Or.inl (hw _ (List.mem_of_getElem? (i := 13) rfl))) Via.refl e3 S_TRUE (g := (mkF m 14 #[.val (.ref w_UNKNOWN), .val (.ref w_TRUE), .unset] [])) rfl (hb hby d2_14)
  refine own_go (T' := T5) (g' := (mkF m 17 #[.val (.ref w_UNKNOWN), .val (.ref w_TRUE), .unset] [(.ref w_TRUE)])) (fun t q => st5 t q) ?_
  refine own_go (T' := T5) (g' := (mkF m 18 #[.val (.ref w_UNKNOWN), .val (.ref w_TRUE), .val (.ref w_TRUE)] [])) (fun t q => XS.astoreN X5.here hx rfl (hb hby d2_17) rfl rfl (l' := #[.val (.ref w_UNKNOWN), .val (.ref w_TRUE), .val (.ref w_TRUE)]) rfl q) ?_
  refine own_go (T' := T5) (g' := (mkF m 46 #[.val (.ref w_UNKNOWN), .val (.ref w_TRUE), .val (.ref w_TRUE)] [])) (fun t q => XS.goto X5.here hx rfl (pc0 := 18) (pc' := 46) rfl (hb hby d2_18) (by decide) (by decide) q) ?_
  refine own_go (T' := T5) (g' := (mkF m 47 #[.val (.ref w_UNKNOWN), .val (.ref w_TRUE), .val (.ref w_TRUE)] [(.ref w_TRUE)])) (fun t q => XS.aloadN X5.here hx rfl (hb hby d2_46) rfl rfl q) ?_
  refine own_outA X5 hx hlk hret rfl rfl (hb hby d2_47) ?_ (by decide) (by decide)
  exact ⟨rfl, e5, rfl⟩
set_option maxRecDepth 65536 in
set_option maxHeartbeats 40000000 in
theorem rm_m_1_2 (l : Launch) (Z : State) (a0 : Array Value) (hw : ∀ d ∈ tables_1, d.before a0 Z = true) (ws : List Jvm.Cond)  (h0 : Heap)  :
    own_Met l (⟨"java/lang/Math", "max", "(II)I"⟩ : MethodName) jdk_29_method_65_code 2 (some .int) ws ({ frames := 0, cells := 0, slots := 0, locals := 0 } : Room) Z #[(.int (1 : Int32)), (.int (2 : Int32))] h0 (fun v h L => v = some (.int (2 : Int32)) ∧ h = h0 ∧ L = []) := by
  refine MetFree.of_bodySF (by decide +kernel) hisR ?_
  intro p e s m args below meth c s₁ Bd hml0 hP hK
  obtain ⟨rfl, hZ, hh⟩ := hP
  have hx := Bd.exec
  have hby := Bd.bytes
  have hml : c.maxLocals = 2 := hml0
  have hown : s.vm.findClass "java/lang/Math" = some m.cls := findClass_of_methodNamed Bd.named
  have hnm := (name_of_methodNamed Bd.named Bd.method).1
  have hlk : meth.locks = false := Bd.notSynchronized
  have hret := Bd.returns
  have X0 : Stand p l e ({ frames := 0, cells := 0, slots := 0, locals := 0 } : Room) s m #[(.int (1 : Int32)), (.int (2 : Int32))] below meth c s₁ [] 0 0 := Stand.of_body Bd
  have e0 : s₁.heap = h0 := by rw [← hh, Bd.state]; rfl
  refine own_in (Q := fun v h L => v = some (.int (2 : Int32)) ∧ h = h0 ∧ L = []) (ef := by first | (simp [entryFrame, mkF, argsToLocals, Value.category, maxLocals]; done) | rfl) (g' := (mkF m 0 #[.val (.int (1 : Int32)), .val (.int (2 : Int32))] [])) ?_
  refine own_go (T' := s₁) (g' := (mkF m 1 #[.val (.int (1 : Int32)), .val (.int (2 : Int32))] [(.int (1 : Int32))])) (fun t q => XS.iloadN X0.here hx rfl (hb hby d4_0) rfl q) ?_
  refine own_go (T' := s₁) (g' := (mkF m 2 #[.val (.int (1 : Int32)), .val (.int (2 : Int32))] [(.int (2 : Int32)), (.int (1 : Int32))])) (fun t q => XS.iloadN X0.here hx rfl (hb hby d4_1) rfl q) ?_
  have c1 : (1 : Int32) < (2 : Int32) := by decide
  refine own_go (T' := s₁) (g' := (mkF m 9 #[.val (.int (1 : Int32)), .val (.int (2 : Int32))] [])) (fun t q => XS.icmpYes X0.here hx rfl (pc0 := 2) (pc' := 9) rfl (hb hby d4_2) rfl (tlt c1).1 (by decide) (by decide) q) ?_
  refine own_go (T' := s₁) (g' := (mkF m 10 #[.val (.int (1 : Int32)), .val (.int (2 : Int32))] [(.int (2 : Int32))])) (fun t q => XS.iloadN X0.here hx rfl (hb hby d4_9) rfl q) ?_
  refine own_outI X0 hx hlk hret (hb hby d4_10) ?_ (by decide) (by decide)
  exact ⟨rfl, e0, rfl⟩
set_option maxRecDepth 65536 in
set_option maxHeartbeats 40000000 in
theorem rm_op_UNKNOWN_FALSE (l : Launch) (Z : State) (a0 : Array Value) (hw : ∀ d ∈ tables_1, d.before a0 Z = true) (ws : List Jvm.Cond) (w_TRUE w_UNKNOWN w_FALSE : Addr) (h0 : Heap) (FX : own_F Z h0 w_TRUE w_UNKNOWN w_FALSE) :
    own_Met l (⟨"com/example/steady_broker/steadybroker/selector/Condition$Truth", "or", "(Lcom/example/steady_broker/steadybroker/selector/Condition$Truth;)Lcom/example/steady_broker/steadybroker/selector/Condition$Truth;"⟩ : MethodName) prog_13_method_5_code 3 (some (.object "com/example/steady_broker/steadybroker/selector/Condition$Truth")) ws ({ frames := 0, cells := 0, slots := 0, locals := 0 } : Room) Z #[(.ref w_UNKNOWN), (.ref w_FALSE)] h0 (fun v h L => v = some (.ref w_UNKNOWN) ∧ h = h0 ∧ L = []) := by
  refine MetFree.of_bodySF (plainFor_of_name (by first | (simp [plainName, overriddenIn]; done) | decide +kernel)) hisR ?_
  intro p e s m args below meth c s₁ Bd hml0 hP hK
  obtain ⟨rfl, hZ, hh⟩ := hP
  have hx := Bd.exec
  have hby := Bd.bytes
  have hml : c.maxLocals = 3 := hml0
  have hown : s.vm.findClass "com/example/steady_broker/steadybroker/selector/Condition$Truth" = some m.cls := findClass_of_methodNamed Bd.named
  have hnm := (name_of_methodNamed Bd.named Bd.method).1
  have hlk : meth.locks = false := Bd.notSynchronized
  have hret := Bd.returns
  have X0 : Stand p l e ({ frames := 0, cells := 0, slots := 0, locals := 0 } : Room) s m #[(.ref w_UNKNOWN), (.ref w_FALSE)] below meth c s₁ [] 0 0 := Stand.of_body Bd
  have e0 : s₁.heap = h0 := by rw [← hh, Bd.state]; rfl
  refine own_in (Q := fun v h L => v = some (.ref w_UNKNOWN) ∧ h = h0 ∧ L = []) (ef := by first | (simp [entryFrame, mkF, argsToLocals, Value.category, maxLocals]; done) | rfl) (g' := (mkF m 0 #[.val (.ref w_UNKNOWN), .val (.ref w_FALSE), .unset] [])) ?_
  obtain ⟨S_TRUE, E_TRUE, S_UNKNOWN, E_UNKNOWN, S_FALSE, E_FALSE, F_UNKNOWN_ordinal, F_TRUE_ordinal, F_FALSE_ordinal, ne_UNKNOWN_TRUE, ne_UNKNOWN_FALSE, ne_TRUE_FALSE⟩ := id FX
  refine own_go (T' := s₁) (g' := (mkF m 1 #[.val (.ref w_UNKNOWN), .val (.ref w_FALSE), .unset] [(.ref w_UNKNOWN)])) (fun t q => XS.aloadN X0.here hx rfl (hb hby d2_0) rfl rfl q) ?_
  obtain ⟨T1, X1, e1, st1⟩ := getS2 X0 hx hZ hown (host := "") (Or.inl (hw _ (List.mem_of_getElem? (i := 13) rfl))) Via.refl e0 S_TRUE (g := (mkF m 1 #[.val (.ref w_UNKNOWN), .val (.ref w_FALSE), .unset] [(.ref w_UNKNOWN)])) rfl (hb hby d2_1)
  refine own_go (T' := T1) (g' := (mkF m 4 #[.val (.ref w_UNKNOWN), .val (.ref w_FALSE), .unset] [(.ref w_TRUE), (.ref w_UNKNOWN)])) (fun t q => st1 t q) ?_
  have c2 : ¬ ((Value.ref w_UNKNOWN) = (Value.ref w_TRUE)) := fun z => ne_UNKNOWN_TRUE (Value.ref.inj z)
  refine own_go (T' := T1) (g' := (mkF m 7 #[.val (.ref w_UNKNOWN), .val (.ref w_FALSE), .unset] [])) (fun t q => XT.acmpNo X1.here hx rfl (hb hby d2_4) rfl rfl rfl (own_af c2).1 q) ?_
  refine own_go (T' := T1) (g' := (mkF m 8 #[.val (.ref w_UNKNOWN), .val (.ref w_FALSE), .unset] [(.ref w_FALSE)])) (fun t q => XS.aloadN X1.here hx rfl (hb hby d2_7) rfl rfl q) ?_
  obtain ⟨T3, X3, e3, st3⟩ := getS2 X1 hx hZ hown (host := "") (Or.inl (hw _ (List.mem_of_getElem? (i := 13) rfl))) Via.refl e1 S_TRUE (g := (mkF m 8 #[.val (.ref w_UNKNOWN), .val (.ref w_FALSE), .unset] [(.ref w_FALSE)])) rfl (hb hby d2_8)
  refine own_go (T' := T3) (g' := (mkF m 11 #[.val (.ref w_UNKNOWN), .val (.ref w_FALSE), .unset] [(.ref w_TRUE), (.ref w_FALSE)])) (fun t q => st3 t q) ?_
  have c4 : ¬ ((Value.ref w_FALSE) = (Value.ref w_TRUE)) := fun z => ne_TRUE_FALSE (Value.ref.inj z).symm
  refine own_go (T' := T3) (g' := (mkF m 21 #[.val (.ref w_UNKNOWN), .val (.ref w_FALSE), .unset] [])) (fun t q => XT.acmpYes X3.here hx rfl (pc0 := 11) (pc' := 21) rfl (hb hby d2_11) rfl rfl rfl (own_af c4).2 (by decide) (by decide) q) ?_
  refine own_go (T' := T3) (g' := (mkF m 22 #[.val (.ref w_UNKNOWN), .val (.ref w_FALSE), .unset] [(.ref w_UNKNOWN)])) (fun t q => XS.aloadN X3.here hx rfl (hb hby d2_21) rfl rfl q) ?_
  obtain ⟨T5, X5, e5, st5⟩ := getS2 X3 hx hZ hown (host := "") (Or.inl (hw _ (List.mem_of_getElem? (i := 25) rfl))) Via.refl e3 S_UNKNOWN (g := (mkF m 22 #[.val (.ref w_UNKNOWN), .val (.ref w_FALSE), .unset] [(.ref w_UNKNOWN)])) rfl (hb hby d2_22)
  refine own_go (T' := T5) (g' := (mkF m 25 #[.val (.ref w_UNKNOWN), .val (.ref w_FALSE), .unset] [(.ref w_UNKNOWN), (.ref w_UNKNOWN)])) (fun t q => st5 t q) ?_
  have c6 : (Value.ref w_UNKNOWN) = (Value.ref w_UNKNOWN) := rfl
  refine own_go (T' := T5) (g' := (mkF m 35 #[.val (.ref w_UNKNOWN), .val (.ref w_FALSE), .unset] [])) (fun t q => XT.acmpYes X5.here hx rfl (pc0 := 25) (pc' := 35) rfl (hb hby d2_25) rfl rfl rfl (own_at c6).1 (by decide) (by decide) q) ?_
  obtain ⟨T7, X7, e7, st7⟩ := getS2 X5 hx hZ hown (host := "") (Or.inl (hw _ (List.mem_of_getElem? (i := 25) rfl))) Via.refl e5 S_UNKNOWN (g := (mkF m 35 #[.val (.ref w_UNKNOWN), .val (.ref w_FALSE), .unset] [])) rfl (hb hby d2_35)
  refine own_go (T' := T7) (g' := (mkF m 38 #[.val (.ref w_UNKNOWN), .val (.ref w_FALSE), .unset] [(.ref w_UNKNOWN)])) (fun t q => st7 t q) ?_
  refine own_go (T' := T7) (g' := (mkF m 39 #[.val (.ref w_UNKNOWN), .val (.ref w_FALSE), .val (.ref w_UNKNOWN)] [])) (fun t q => XS.astoreN X7.here hx rfl (hb hby d2_38) rfl rfl (l' := #[.val (.ref w_UNKNOWN), .val (.ref w_FALSE), .val (.ref w_UNKNOWN)]) rfl q) ?_
  refine own_go (T' := T7) (g' := (mkF m 46 #[.val (.ref w_UNKNOWN), .val (.ref w_FALSE), .val (.ref w_UNKNOWN)] [])) (fun t q => XS.goto X7.here hx rfl (pc0 := 39) (pc' := 46) rfl (hb hby d2_39) (by decide) (by decide) q) ?_
  refine own_go (T' := T7) (g' := (mkF m 47 #[.val (.ref w_UNKNOWN), .val (.ref w_FALSE), .val (.ref w_UNKNOWN)] [(.ref w_UNKNOWN)])) (fun t q => XS.aloadN X7.here hx rfl (hb hby d2_46) rfl rfl q) ?_
  refine own_outA X7 hx hlk hret rfl rfl (hb hby d2_47) ?_ (by decide) (by decide)
  exact ⟨rfl, e7, rfl⟩
set_option maxRecDepth 65536 in
set_option maxHeartbeats 40000000 in
theorem rm_m_1_0 (l : Launch) (Z : State) (a0 : Array Value) (hw : ∀ d ∈ tables_1, d.before a0 Z = true) (ws : List Jvm.Cond)  (h0 : Heap)  :
    own_Met l (⟨"java/lang/Math", "max", "(II)I"⟩ : MethodName) jdk_29_method_65_code 2 (some .int) ws ({ frames := 0, cells := 0, slots := 0, locals := 0 } : Room) Z #[(.int (1 : Int32)), (.int (0 : Int32))] h0 (fun v h L => v = some (.int (1 : Int32)) ∧ h = h0 ∧ L = []) := by
  refine MetFree.of_bodySF (by decide +kernel) hisR ?_
  intro p e s m args below meth c s₁ Bd hml0 hP hK
  obtain ⟨rfl, hZ, hh⟩ := hP
  have hx := Bd.exec
  have hby := Bd.bytes
  have hml : c.maxLocals = 2 := hml0
  have hown : s.vm.findClass "java/lang/Math" = some m.cls := findClass_of_methodNamed Bd.named
  have hnm := (name_of_methodNamed Bd.named Bd.method).1
  have hlk : meth.locks = false := Bd.notSynchronized
  have hret := Bd.returns
  have X0 : Stand p l e ({ frames := 0, cells := 0, slots := 0, locals := 0 } : Room) s m #[(.int (1 : Int32)), (.int (0 : Int32))] below meth c s₁ [] 0 0 := Stand.of_body Bd
  have e0 : s₁.heap = h0 := by rw [← hh, Bd.state]; rfl
  refine own_in (Q := fun v h L => v = some (.int (1 : Int32)) ∧ h = h0 ∧ L = []) (ef := by first | (simp [entryFrame, mkF, argsToLocals, Value.category, maxLocals]; done) | rfl) (g' := (mkF m 0 #[.val (.int (1 : Int32)), .val (.int (0 : Int32))] [])) ?_
  refine own_go (T' := s₁) (g' := (mkF m 1 #[.val (.int (1 : Int32)), .val (.int (0 : Int32))] [(.int (1 : Int32))])) (fun t q => XS.iloadN X0.here hx rfl (hb hby d4_0) rfl q) ?_
  refine own_go (T' := s₁) (g' := (mkF m 2 #[.val (.int (1 : Int32)), .val (.int (0 : Int32))] [(.int (0 : Int32)), (.int (1 : Int32))])) (fun t q => XS.iloadN X0.here hx rfl (hb hby d4_1) rfl q) ?_
  have c1 : ¬ ((1 : Int32) < (0 : Int32)) := by decide
  refine own_go (T' := s₁) (g' := (mkF m 5 #[.val (.int (1 : Int32)), .val (.int (0 : Int32))] [])) (fun t q => XS.icmpNo X0.here hx rfl (hb hby d4_2) rfl (flt c1).1 q) ?_
  refine own_go (T' := s₁) (g' := (mkF m 6 #[.val (.int (1 : Int32)), .val (.int (0 : Int32))] [(.int (1 : Int32))])) (fun t q => XS.iloadN X0.here hx rfl (hb hby d4_5) rfl q) ?_
  refine own_go (T' := s₁) (g' := (mkF m 10 #[.val (.int (1 : Int32)), .val (.int (0 : Int32))] [(.int (1 : Int32))])) (fun t q => XS.goto X0.here hx rfl (pc0 := 6) (pc' := 10) rfl (hb hby d4_6) (by decide) (by decide) q) ?_
  refine own_outI X0 hx hlk hret (hb hby d4_10) ?_ (by decide) (by decide)
  exact ⟨rfl, e0, rfl⟩
set_option maxRecDepth 65536 in
set_option maxHeartbeats 40000000 in
theorem rm_op_UNKNOWN_UNKNOWN (l : Launch) (Z : State) (a0 : Array Value) (hw : ∀ d ∈ tables_1, d.before a0 Z = true) (ws : List Jvm.Cond) (w_TRUE w_UNKNOWN w_FALSE : Addr) (h0 : Heap) (FX : own_F Z h0 w_TRUE w_UNKNOWN w_FALSE) :
    own_Met l (⟨"com/example/steady_broker/steadybroker/selector/Condition$Truth", "or", "(Lcom/example/steady_broker/steadybroker/selector/Condition$Truth;)Lcom/example/steady_broker/steadybroker/selector/Condition$Truth;"⟩ : MethodName) prog_13_method_5_code 3 (some (.object "com/example/steady_broker/steadybroker/selector/Condition$Truth")) ws ({ frames := 0, cells := 0, slots := 0, locals := 0 } : Room) Z #[(.ref w_UNKNOWN), (.ref w_UNKNOWN)] h0 (fun v h L => v = some (.ref w_UNKNOWN) ∧ h = h0 ∧ L = []) := by
  refine MetFree.of_bodySF (plainFor_of_name (by first | (simp [plainName, overriddenIn]; done) | decide +kernel)) hisR ?_
  intro p e s m args below meth c s₁ Bd hml0 hP hK
  obtain ⟨rfl, hZ, hh⟩ := hP
  have hx := Bd.exec
  have hby := Bd.bytes
  have hml : c.maxLocals = 3 := hml0
  have hown : s.vm.findClass "com/example/steady_broker/steadybroker/selector/Condition$Truth" = some m.cls := findClass_of_methodNamed Bd.named
  have hnm := (name_of_methodNamed Bd.named Bd.method).1
  have hlk : meth.locks = false := Bd.notSynchronized
  have hret := Bd.returns
  have X0 : Stand p l e ({ frames := 0, cells := 0, slots := 0, locals := 0 } : Room) s m #[(.ref w_UNKNOWN), (.ref w_UNKNOWN)] below meth c s₁ [] 0 0 := Stand.of_body Bd
  have e0 : s₁.heap = h0 := by rw [← hh, Bd.state]; rfl
  refine own_in (Q := fun v h L => v = some (.ref w_UNKNOWN) ∧ h = h0 ∧ L = []) (ef := by first | (simp [entryFrame, mkF, argsToLocals, Value.category, maxLocals]; done) | rfl) (g' := (mkF m 0 #[.val (.ref w_UNKNOWN), .val (.ref w_UNKNOWN), .unset] [])) ?_
  obtain ⟨S_TRUE, E_TRUE, S_UNKNOWN, E_UNKNOWN, S_FALSE, E_FALSE, F_UNKNOWN_ordinal, F_TRUE_ordinal, F_FALSE_ordinal, ne_UNKNOWN_TRUE, ne_UNKNOWN_FALSE, ne_TRUE_FALSE⟩ := id FX
  refine own_go (T' := s₁) (g' := (mkF m 1 #[.val (.ref w_UNKNOWN), .val (.ref w_UNKNOWN), .unset] [(.ref w_UNKNOWN)])) (fun t q => XS.aloadN X0.here hx rfl (hb hby d2_0) rfl rfl q) ?_
  obtain ⟨T1, X1, e1, st1⟩ := getS2 X0 hx hZ hown (host := "") (Or.inl (hw _ (List.mem_of_getElem? (i := 13) rfl))) Via.refl e0 S_TRUE (g := (mkF m 1 #[.val (.ref w_UNKNOWN), .val (.ref w_UNKNOWN), .unset] [(.ref w_UNKNOWN)])) rfl (hb hby d2_1)
  refine own_go (T' := T1) (g' := (mkF m 4 #[.val (.ref w_UNKNOWN), .val (.ref w_UNKNOWN), .unset] [(.ref w_TRUE), (.ref w_UNKNOWN)])) (fun t q => st1 t q) ?_
  have c2 : ¬ ((Value.ref w_UNKNOWN) = (Value.ref w_TRUE)) := fun z => ne_UNKNOWN_TRUE (Value.ref.inj z)
  refine own_go (T' := T1) (g' := (mkF m 7 #[.val (.ref w_UNKNOWN), .val (.ref w_UNKNOWN), .unset] [])) (fun t q => XT.acmpNo X1.here hx rfl (hb hby d2_4) rfl rfl rfl (own_af c2).1 q) ?_
  refine own_go (T' := T1) (g' := (mkF m 8 #[.val (.ref w_UNKNOWN), .val (.ref w_UNKNOWN), .unset] [(.ref w_UNKNOWN)])) (fun t q => XS.aloadN X1.here hx rfl (hb hby d2_7) rfl rfl q) ?_
  obtain ⟨T3, X3, e3, st3⟩ := getS2 X1 hx hZ hown (host := "") (Or.inl (hw _ (List.mem_of_getElem? (i := 13) rfl))) Via.refl e1 S_TRUE (g := (mkF m 8 #[.val (.ref w_UNKNOWN), .val (.ref w_UNKNOWN), .unset] [(.ref w_UNKNOWN)])) rfl (hb hby d2_8)
  refine own_go (T' := T3) (g' := (mkF m 11 #[.val (.ref w_UNKNOWN), .val (.ref w_UNKNOWN), .unset] [(.ref w_TRUE), (.ref w_UNKNOWN)])) (fun t q => st3 t q) ?_
  have c4 : ¬ ((Value.ref w_UNKNOWN) = (Value.ref w_TRUE)) := fun z => ne_UNKNOWN_TRUE (Value.ref.inj z)
  refine own_go (T' := T3) (g' := (mkF m 21 #[.val (.ref w_UNKNOWN), .val (.ref w_UNKNOWN), .unset] [])) (fun t q => XT.acmpYes X3.here hx rfl (pc0 := 11) (pc' := 21) rfl (hb hby d2_11) rfl rfl rfl (own_af c4).2 (by decide) (by decide) q) ?_
  refine own_go (T' := T3) (g' := (mkF m 22 #[.val (.ref w_UNKNOWN), .val (.ref w_UNKNOWN), .unset] [(.ref w_UNKNOWN)])) (fun t q => XS.aloadN X3.here hx rfl (hb hby d2_21) rfl rfl q) ?_
  obtain ⟨T5, X5, e5, st5⟩ := getS2 X3 hx hZ hown (host := "") (Or.inl (hw _ (List.mem_of_getElem? (i := 25) rfl))) Via.refl e3 S_UNKNOWN (g := (mkF m 22 #[.val (.ref w_UNKNOWN), .val (.ref w_UNKNOWN), .unset] [(.ref w_UNKNOWN)])) rfl (hb hby d2_22)
  refine own_go (T' := T5) (g' := (mkF m 25 #[.val (.ref w_UNKNOWN), .val (.ref w_UNKNOWN), .unset] [(.ref w_UNKNOWN), (.ref w_UNKNOWN)])) (fun t q => st5 t q) ?_
  have c6 : (Value.ref w_UNKNOWN) = (Value.ref w_UNKNOWN) := rfl
  refine own_go (T' := T5) (g' := (mkF m 35 #[.val (.ref w_UNKNOWN), .val (.ref w_UNKNOWN), .unset] [])) (fun t q => XT.acmpYes X5.here hx rfl (pc0 := 25) (pc' := 35) rfl (hb hby d2_25) rfl rfl rfl (own_at c6).1 (by decide) (by decide) q) ?_
  obtain ⟨T7, X7, e7, st7⟩ := getS2 X5 hx hZ hown (host := "") (Or.inl (hw _ (List.mem_of_getElem? (i := 25) rfl))) Via.refl e5 S_UNKNOWN (g := (mkF m 35 #[.val (.ref w_UNKNOWN), .val (.ref w_UNKNOWN), .unset] [])) rfl (hb hby d2_35)
  refine own_go (T' := T7) (g' := (mkF m 38 #[.val (.ref w_UNKNOWN), .val (.ref w_UNKNOWN), .unset] [(.ref w_UNKNOWN)])) (fun t q => st7 t q) ?_
  refine own_go (T' := T7) (g' := (mkF m 39 #[.val (.ref w_UNKNOWN), .val (.ref w_UNKNOWN), .val (.ref w_UNKNOWN)] [])) (fun t q => XS.astoreN X7.here hx rfl (hb hby d2_38) rfl rfl (l' := #[.val (.ref w_UNKNOWN), .val (.ref w_UNKNOWN), .val (.ref w_UNKNOWN)]) rfl q) ?_
  refine own_go (T' := T7) (g' := (mkF m 46 #[.val (.ref w_UNKNOWN), .val (.ref w_UNKNOWN), .val (.ref w_UNKNOWN)] [])) (fun t q => XS.goto X7.here hx rfl (pc0 := 39) (pc' := 46) rfl (hb hby d2_39) (by decide) (by decide) q) ?_
  refine own_go (T' := T7) (g' := (mkF m 47 #[.val (.ref w_UNKNOWN), .val (.ref w_UNKNOWN), .val (.ref w_UNKNOWN)] [(.ref w_UNKNOWN)])) (fun t q => XS.aloadN X7.here hx rfl (hb hby d2_46) rfl rfl q) ?_
  refine own_outA X7 hx hlk hret rfl rfl (hb hby d2_47) ?_ (by decide) (by decide)
  exact ⟨rfl, e7, rfl⟩
set_option maxRecDepth 65536 in
set_option maxHeartbeats 40000000 in
theorem rm_m_1_1 (l : Launch) (Z : State) (a0 : Array Value) (hw : ∀ d ∈ tables_1, d.before a0 Z = true) (ws : List Jvm.Cond)  (h0 : Heap)  :
    own_Met l (⟨"java/lang/Math", "max", "(II)I"⟩ : MethodName) jdk_29_method_65_code 2 (some .int) ws ({ frames := 0, cells := 0, slots := 0, locals := 0 } : Room) Z #[(.int (1 : Int32)), (.int (1 : Int32))] h0 (fun v h L => v = some (.int (1 : Int32)) ∧ h = h0 ∧ L = []) := by
  refine MetFree.of_bodySF (by decide +kernel) hisR ?_
  intro p e s m args below meth c s₁ Bd hml0 hP hK
  obtain ⟨rfl, hZ, hh⟩ := hP
  have hx := Bd.exec
  have hby := Bd.bytes
  have hml : c.maxLocals = 2 := hml0
  have hown : s.vm.findClass "java/lang/Math" = some m.cls := findClass_of_methodNamed Bd.named
  have hnm := (name_of_methodNamed Bd.named Bd.method).1
  have hlk : meth.locks = false := Bd.notSynchronized
  have hret := Bd.returns
  have X0 : Stand p l e ({ frames := 0, cells := 0, slots := 0, locals := 0 } : Room) s m #[(.int (1 : Int32)), (.int (1 : Int32))] below meth c s₁ [] 0 0 := Stand.of_body Bd
  have e0 : s₁.heap = h0 := by rw [← hh, Bd.state]; rfl
  refine own_in (Q := fun v h L => v = some (.int (1 : Int32)) ∧ h = h0 ∧ L = []) (ef := by first | (simp [entryFrame, mkF, argsToLocals, Value.category, maxLocals]; done) | rfl) (g' := (mkF m 0 #[.val (.int (1 : Int32)), .val (.int (1 : Int32))] [])) ?_
  refine own_go (T' := s₁) (g' := (mkF m 1 #[.val (.int (1 : Int32)), .val (.int (1 : Int32))] [(.int (1 : Int32))])) (fun t q => XS.iloadN X0.here hx rfl (hb hby d4_0) rfl q) ?_
  refine own_go (T' := s₁) (g' := (mkF m 2 #[.val (.int (1 : Int32)), .val (.int (1 : Int32))] [(.int (1 : Int32)), (.int (1 : Int32))])) (fun t q => XS.iloadN X0.here hx rfl (hb hby d4_1) rfl q) ?_
  have c1 : ¬ ((1 : Int32) < (1 : Int32)) := by decide
  refine own_go (T' := s₁) (g' := (mkF m 5 #[.val (.int (1 : Int32)), .val (.int (1 : Int32))] [])) (fun t q => XS.icmpNo X0.here hx rfl (hb hby d4_2) rfl (flt c1).1 q) ?_
  refine own_go (T' := s₁) (g' := (mkF m 6 #[.val (.int (1 : Int32)), .val (.int (1 : Int32))] [(.int (1 : Int32))])) (fun t q => XS.iloadN X0.here hx rfl (hb hby d4_5) rfl q) ?_
  refine own_go (T' := s₁) (g' := (mkF m 10 #[.val (.int (1 : Int32)), .val (.int (1 : Int32))] [(.int (1 : Int32))])) (fun t q => XS.goto X0.here hx rfl (pc0 := 6) (pc' := 10) rfl (hb hby d4_6) (by decide) (by decide) q) ?_
  refine own_outI X0 hx hlk hret (hb hby d4_10) ?_ (by decide) (by decide)
  exact ⟨rfl, e0, rfl⟩
set_option maxRecDepth 65536 in
set_option maxHeartbeats 40000000 in
theorem rm0 (l : Launch) (Z : State) (a0 : Array Value) (hw : ∀ d ∈ tables_1, d.before a0 Z = true) (ws : List Jvm.Cond) (p1 p2 : Int32) (w_TRUE w_UNKNOWN w_FALSE : Addr) (h0 : Heap) (FX : own_F Z h0 w_TRUE w_UNKNOWN w_FALSE) :
    own_Met l x code maxLocals ret ws room_1 Z #[(.int p1), (.int p2)] h0 (fun v _ L => v = some (.int (1 : Int32)) ∧ Fr h0.size L) := by
  refine MetFree.of_bodySF (plainFor_of_name (by first | (simp [plainName, overriddenIn]; done) | decide +kernel)) hisR ?_
  intro p e s m args below meth c s₁ Bd hml0 hP hK
  obtain ⟨rfl, hZ, hh⟩ := hP
  have hx := Bd.exec
  have hby := Bd.bytes
  have hml : c.maxLocals = 5 := hml0
  have hown : s.vm.findClass "com/example/steady_broker/steadybroker/selector/TruthOrPinLaw" = some m.cls := findClass_of_methodNamed Bd.named
  have hnm := (name_of_methodNamed Bd.named Bd.method).1
  have hlk : meth.locks = false := Bd.notSynchronized
  have hret := Bd.returns
  have X0 : Stand p l e room_1 s m #[(.int p1), (.int p2)] below meth c s₁ [] 0 0 := Stand.of_body Bd
  have e0 : s₁.heap = h0 := by rw [← hh, Bd.state]; rfl
  refine own_in (Q := fun v _ L => v = some (.int (1 : Int32)) ∧ Fr h0.size L) (ef := by first | (simp [entryFrame, mkF, argsToLocals, Value.category, maxLocals]; done) | rfl) (g' := (mkF m 0 #[.val (.int p1), .val (.int p2), .unset, .unset, .unset] [])) ?_
  obtain ⟨S_TRUE, E_TRUE, S_UNKNOWN, E_UNKNOWN, S_FALSE, E_FALSE, F_UNKNOWN_ordinal, F_TRUE_ordinal, F_FALSE_ordinal, ne_UNKNOWN_TRUE, ne_UNKNOWN_FALSE, ne_TRUE_FALSE⟩ := id FX
  refine own_go (T' := s₁) (g' := (mkF m 1 #[.val (.int p1), .val (.int p2), .unset, .unset, .unset] [(.int p1)])) (fun t q => XS.iloadN X0.here hx rfl (hb hby at_0) rfl q) ?_
  refine own_go (T' := s₁) (g' := (mkF m 3 #[.val (.int p1), .val (.int p2), .unset, .unset, .unset] [(.int (2147483647 : Int32)), (.int p1)])) (fun t q => X0.ldcInt hx hown (mvT hZ (hw _ (List.mem_of_getElem? (i := 0) rfl))) (g := (mkF m 1 #[.val (.int p1), .val (.int p2), .unset, .unset, .unset] [(.int p1)])) rfl (hb hby at_1) t q) ?_
  refine own_go (T' := s₁) (g' := (mkF m 4 #[.val (.int p1), .val (.int p2), .unset, .unset, .unset] [(.int (p1 &&& (2147483647 : Int32)))])) (fun t q => XS.iand X0.here hx rfl (hb hby at_3) rfl q) ?_
  refine own_go (T' := s₁) (g' := (mkF m 5 #[.val (.int p1), .val (.int p2), .unset, .unset, .unset] [(.int (3 : Int32)), (.int (p1 &&& (2147483647 : Int32)))])) (fun t q => XS.iconst X0.here hx rfl (hb hby at_4) q) ?_
  refine own_go (T' := s₁) (g' := (mkF m 6 #[.val (.int p1), .val (.int p2), .unset, .unset, .unset] [(.int ((p1 &&& (2147483647 : Int32)) % (3 : Int32)))])) (fun t q => iremM X0 hx rfl (hb hby at_5) rfl (by decide) q) ?_
  obtain ⟨z1, hz1⟩ : ∃ z : Int32, z = ((p1 &&& (2147483647 : Int32)) % (3 : Int32)) := ⟨_, rfl⟩
  rw [← hz1]
  obtain ⟨v2, T2, L2, X2, Q2, st2⟩ := own_callS X0 hx hZ (y := (⟨"com/example/steady_broker/steadybroker/selector/TruthOrPinLaw", "pick", "(I)Lcom/example/steady_broker/steadybroker/selector/Condition$Truth;"⟩ : MethodName)) (argsL := [(.int z1)]) (rest := []) hown (hw _ (List.mem_of_getElem? (i := 1) rfl)) (hw _ (List.mem_of_getElem? (i := 2) rfl)) (hw _ (List.mem_of_getElem? (i := 3) rfl)) (hw _ (List.mem_of_getElem? (i := 4) rfl)) (rm_pick l Z a0 hw [] z1 w_TRUE w_UNKNOWN w_FALSE h0 FX) e0 (by decide) (by decide) 0 (by decide) (by decide) (by decide) (g := (mkF m 6 #[.val (.int p1), .val (.int p2), .unset, .unset, .unset] [(.int z1)])) rfl (by rw [hml]; rfl) (lenOf (ps := [.int]) (r := (some (.object "com/example/steady_broker/steadybroker/selector/Condition$Truth"))) (by decide +kernel) rfl) rfl (by show 2 * 0 + _ ≤ _; exact Nat.le_of_eq rfl) (hb hby at_6)
  obtain ⟨Q2, e2, rfl⟩ := Q2
  rcases Q2 with rfl | rfl | rfl
  · refine own_go (T' := T2) (g' := (mkF m 9 #[.val (.int p1), .val (.int p2), .unset, .unset, .unset] [(.ref w_TRUE)])) (fun t q => st2 t q) ?_
    refine own_go (T' := T2) (g' := (mkF m 10 #[.val (.int p1), .val (.int p2), .val (.ref w_TRUE), .unset, .unset] [])) (fun t q => XS.astoreN X2.here hx rfl (hb hby at_9) rfl rfl (l' := #[.val (.int p1), .val (.int p2), .val (.ref w_TRUE), .unset, .unset]) rfl q) ?_
    refine own_go (T' := T2) (g' := (mkF m 11 #[.val (.int p1), .val (.int p2), .val (.ref w_TRUE), .unset, .unset] [(.int p2)])) (fun t q => XS.iloadN X2.here hx rfl (hb hby at_10) rfl q) ?_
    refine own_go (T' := T2) (g' := (mkF m 13 #[.val (.int p1), .val (.int p2), .val (.ref w_TRUE), .unset, .unset] [(.int (2147483647 : Int32)), (.int p2)])) (fun t q => X2.ldcInt hx hown (mvT hZ (hw _ (List.mem_of_getElem? (i := 0) rfl))) (g := (mkF m 11 #[.val (.int p1), .val (.int p2), .val (.ref w_TRUE), .unset, .unset] [(.int p2)])) rfl (hb hby at_11) t q) ?_
    refine own_go (T' := T2) (g' := (mkF m 14 #[.val (.int p1), .val (.int p2), .val (.ref w_TRUE), .unset, .unset] [(.int (p2 &&& (2147483647 : Int32)))])) (fun t q => XS.iand X2.here hx rfl (hb hby at_13) rfl q) ?_
    refine own_go (T' := T2) (g' := (mkF m 15 #[.val (.int p1), .val (.int p2), .val (.ref w_TRUE), .unset, .unset] [(.int (3 : Int32)), (.int (p2 &&& (2147483647 : Int32)))])) (fun t q => XS.iconst X2.here hx rfl (hb hby at_14) q) ?_
    refine own_go (T' := T2) (g' := (mkF m 16 #[.val (.int p1), .val (.int p2), .val (.ref w_TRUE), .unset, .unset] [(.int ((p2 &&& (2147483647 : Int32)) % (3 : Int32)))])) (fun t q => iremM X2 hx rfl (hb hby at_15) rfl (by decide) q) ?_
    obtain ⟨z3, hz3⟩ : ∃ z : Int32, z = ((p2 &&& (2147483647 : Int32)) % (3 : Int32)) := ⟨_, rfl⟩
    rw [← hz3]
    obtain ⟨v4, T4, L4, X4, Q4, st4⟩ := own_callS X2 hx hZ (y := (⟨"com/example/steady_broker/steadybroker/selector/TruthOrPinLaw", "pick", "(I)Lcom/example/steady_broker/steadybroker/selector/Condition$Truth;"⟩ : MethodName)) (argsL := [(.int z3)]) (rest := []) hown (hw _ (List.mem_of_getElem? (i := 1) rfl)) (hw _ (List.mem_of_getElem? (i := 2) rfl)) (hw _ (List.mem_of_getElem? (i := 3) rfl)) (hw _ (List.mem_of_getElem? (i := 4) rfl)) (rm_pick l Z a0 hw [] z3 w_TRUE w_UNKNOWN w_FALSE h0 FX) e2 (by decide) (by decide) 0 (by decide) (by decide) (by decide) (g := (mkF m 16 #[.val (.int p1), .val (.int p2), .val (.ref w_TRUE), .unset, .unset] [(.int z3)])) rfl (by rw [hml]; rfl) (lenOf (ps := [.int]) (r := (some (.object "com/example/steady_broker/steadybroker/selector/Condition$Truth"))) (by decide +kernel) rfl) rfl (by show 2 * 0 + _ ≤ _; exact Nat.le_of_eq rfl) (hb hby at_16)
    obtain ⟨Q4, e4, rfl⟩ := Q4
    rcases Q4 with rfl | rfl | rfl
    · refine own_go (T' := T4) (g' := (mkF m 19 #[.val (.int p1), .val (.int p2), .val (.ref w_TRUE), .unset, .unset] [(.ref w_TRUE)])) (fun t q => st4 t q) ?_
      refine own_go (T' := T4) (g' := (mkF m 20 #[.val (.int p1), .val (.int p2), .val (.ref w_TRUE), .val (.ref w_TRUE), .unset] [])) (fun t q => XS.astoreN X4.here hx rfl (hb hby at_19) rfl rfl (l' := #[.val (.int p1), .val (.int p2), .val (.ref w_TRUE), .val (.ref w_TRUE), .unset]) rfl q) ?_
      refine own_go (T' := T4) (g' := (mkF m 21 #[.val (.int p1), .val (.int p2), .val (.ref w_TRUE), .val (.ref w_TRUE), .unset] [(.ref w_TRUE)])) (fun t q => XS.aloadN X4.here hx rfl (hb hby at_20) rfl rfl q) ?_
      refine own_go (T' := T4) (g' := (mkF m 22 #[.val (.int p1), .val (.int p2), .val (.ref w_TRUE), .val (.ref w_TRUE), .unset] [(.ref w_TRUE), (.ref w_TRUE)])) (fun t q => XS.aloadN X4.here hx rfl (hb hby at_21) rfl rfl q) ?_
      obtain ⟨v5, T5, L5, X5, Q5, st5⟩ := own_callV X4 hx hZ (y := (⟨"com/example/steady_broker/steadybroker/selector/Condition$Truth", "or", "(Lcom/example/steady_broker/steadybroker/selector/Condition$Truth;)Lcom/example/steady_broker/steadybroker/selector/Condition$Truth;"⟩ : MethodName)) (b := w_TRUE) (argsL := [(.ref w_TRUE)]) (rest := []) hown (hw _ (List.mem_of_getElem? (i := 8) rfl)) (hw _ (List.mem_of_getElem? (i := 9) rfl)) (hw _ (List.mem_of_getElem? (i := 11) rfl)) (hw _ (List.mem_of_getElem? (i := 10) rfl)) (hw _ (List.mem_of_getElem? (i := 6) rfl)) (hw _ (List.mem_of_getElem? (i := 12) rfl)) (rm_op_TRUE_TRUE l Z a0 hw [] w_TRUE w_UNKNOWN w_FALSE h0 FX) e4 E_TRUE (by decide) (by decide) 0 (by decide) (by decide) (by decide) (g := (mkF m 22 #[.val (.int p1), .val (.int p2), .val (.ref w_TRUE), .val (.ref w_TRUE), .unset] [(.ref w_TRUE), (.ref w_TRUE)])) rfl (by rw [hml]; rfl) (lenOf (ps := [(.object "com/example/steady_broker/steadybroker/selector/Condition$Truth")]) (r := (some (.object "com/example/steady_broker/steadybroker/selector/Condition$Truth"))) (by decide +kernel) rfl) rfl (by show 2 * 0 + _ ≤ _; exact Nat.le_of_eq rfl) (hb hby at_22)
      obtain ⟨rfl, e5, rfl⟩ := Q5
      refine own_go (T' := T5) (g' := (mkF m 25 #[.val (.int p1), .val (.int p2), .val (.ref w_TRUE), .val (.ref w_TRUE), .unset] [(.ref w_TRUE)])) (fun t q => st5 t q) ?_
      refine own_go (T' := T5) (g' := (mkF m 27 #[.val (.int p1), .val (.int p2), .val (.ref w_TRUE), .val (.ref w_TRUE), .val (.ref w_TRUE)] [])) (fun t q => XS.astore X5.here hx rfl (hb hby at_25) rfl rfl (l' := #[.val (.int p1), .val (.int p2), .val (.ref w_TRUE), .val (.ref w_TRUE), .val (.ref w_TRUE)]) rfl q) ?_
      refine own_go (T' := T5) (g' := (mkF m 29 #[.val (.int p1), .val (.int p2), .val (.ref w_TRUE), .val (.ref w_TRUE), .val (.ref w_TRUE)] [(.ref w_TRUE)])) (fun t q => XS.aload X5.here hx rfl (hb hby at_27) rfl rfl q) ?_
      obtain ⟨v6, T6, L6, X6, Q6, st6⟩ := own_callS X5 hx hZ (y := (⟨"com/example/steady_broker/steadybroker/selector/TruthOrPinLaw", "rank", "(Lcom/example/steady_broker/steadybroker/selector/Condition$Truth;)I"⟩ : MethodName)) (argsL := [(.ref w_TRUE)]) (rest := []) hown (hw _ (List.mem_of_getElem? (i := 14) rfl)) (hw _ (List.mem_of_getElem? (i := 15) rfl)) (hw _ (List.mem_of_getElem? (i := 3) rfl)) (hw _ (List.mem_of_getElem? (i := 16) rfl)) (rm_rank_TRUE l Z a0 hw [] w_TRUE w_UNKNOWN w_FALSE h0 FX) e5 (by decide) (by decide) 0 (by decide) (by decide) (by decide) (g := (mkF m 29 #[.val (.int p1), .val (.int p2), .val (.ref w_TRUE), .val (.ref w_TRUE), .val (.ref w_TRUE)] [(.ref w_TRUE)])) rfl (by rw [hml]; rfl) (lenOf (ps := [(.object "com/example/steady_broker/steadybroker/selector/Condition$Truth")]) (r := (some .int)) (by decide +kernel) rfl) rfl (by show 2 * 0 + _ ≤ _; exact Nat.le_of_eq rfl) (hb hby at_29)
      obtain ⟨rfl, e6, rfl⟩ := Q6
      refine own_go (T' := T6) (g' := (mkF m 32 #[.val (.int p1), .val (.int p2), .val (.ref w_TRUE), .val (.ref w_TRUE), .val (.ref w_TRUE)] [(.int (2 : Int32))])) (fun t q => st6 t q) ?_
      refine own_go (T' := T6) (g' := (mkF m 33 #[.val (.int p1), .val (.int p2), .val (.ref w_TRUE), .val (.ref w_TRUE), .val (.ref w_TRUE)] [(.ref w_TRUE), (.int (2 : Int32))])) (fun t q => XS.aloadN X6.here hx rfl (hb hby at_32) rfl rfl q) ?_
      obtain ⟨v7, T7, L7, X7, Q7, st7⟩ := own_callS X6 hx hZ (y := (⟨"com/example/steady_broker/steadybroker/selector/TruthOrPinLaw", "rank", "(Lcom/example/steady_broker/steadybroker/selector/Condition$Truth;)I"⟩ : MethodName)) (argsL := [(.ref w_TRUE)]) (rest := [(.int (2 : Int32))]) hown (hw _ (List.mem_of_getElem? (i := 14) rfl)) (hw _ (List.mem_of_getElem? (i := 15) rfl)) (hw _ (List.mem_of_getElem? (i := 3) rfl)) (hw _ (List.mem_of_getElem? (i := 16) rfl)) (rm_rank_TRUE l Z a0 hw [] w_TRUE w_UNKNOWN w_FALSE h0 FX) e6 (by decide) (by decide) 1 (by decide) (by decide) (by decide) (g := (mkF m 33 #[.val (.int p1), .val (.int p2), .val (.ref w_TRUE), .val (.ref w_TRUE), .val (.ref w_TRUE)] [(.ref w_TRUE), (.int (2 : Int32))])) rfl (by rw [hml]; rfl) (lenOf (ps := [(.object "com/example/steady_broker/steadybroker/selector/Condition$Truth")]) (r := (some .int)) (by decide +kernel) rfl) rfl (by show 2 * 0 + _ ≤ _; exact Nat.le_of_eq rfl) (hb hby at_33)
      obtain ⟨rfl, e7, rfl⟩ := Q7
      refine own_go (T' := T7) (g' := (mkF m 36 #[.val (.int p1), .val (.int p2), .val (.ref w_TRUE), .val (.ref w_TRUE), .val (.ref w_TRUE)] [(.int (2 : Int32)), (.int (2 : Int32))])) (fun t q => st7 t q) ?_
      refine own_go (T' := T7) (g' := (mkF m 37 #[.val (.int p1), .val (.int p2), .val (.ref w_TRUE), .val (.ref w_TRUE), .val (.ref w_TRUE)] [(.ref w_TRUE), (.int (2 : Int32)), (.int (2 : Int32))])) (fun t q => XS.aloadN X7.here hx rfl (hb hby at_36) rfl rfl q) ?_
      obtain ⟨v8, T8, L8, X8, Q8, st8⟩ := own_callS X7 hx hZ (y := (⟨"com/example/steady_broker/steadybroker/selector/TruthOrPinLaw", "rank", "(Lcom/example/steady_broker/steadybroker/selector/Condition$Truth;)I"⟩ : MethodName)) (argsL := [(.ref w_TRUE)]) (rest := [(.int (2 : Int32)), (.int (2 : Int32))]) hown (hw _ (List.mem_of_getElem? (i := 14) rfl)) (hw _ (List.mem_of_getElem? (i := 15) rfl)) (hw _ (List.mem_of_getElem? (i := 3) rfl)) (hw _ (List.mem_of_getElem? (i := 16) rfl)) (rm_rank_TRUE l Z a0 hw [] w_TRUE w_UNKNOWN w_FALSE h0 FX) e7 (by decide) (by decide) 2 (by decide) (by decide) (by decide) (g := (mkF m 37 #[.val (.int p1), .val (.int p2), .val (.ref w_TRUE), .val (.ref w_TRUE), .val (.ref w_TRUE)] [(.ref w_TRUE), (.int (2 : Int32)), (.int (2 : Int32))])) rfl (by rw [hml]; rfl) (lenOf (ps := [(.object "com/example/steady_broker/steadybroker/selector/Condition$Truth")]) (r := (some .int)) (by decide +kernel) rfl) rfl (by show 2 * 0 + _ ≤ _; exact Nat.le_of_eq rfl) (hb hby at_37)
      obtain ⟨rfl, e8, rfl⟩ := Q8
      refine own_go (T' := T8) (g' := (mkF m 40 #[.val (.int p1), .val (.int p2), .val (.ref w_TRUE), .val (.ref w_TRUE), .val (.ref w_TRUE)] [(.int (2 : Int32)), (.int (2 : Int32)), (.int (2 : Int32))])) (fun t q => st8 t q) ?_
      obtain ⟨v9, T9, L9, X9, Q9, st9⟩ := own_callS X8 hx hZ (y := (⟨"java/lang/Math", "max", "(II)I"⟩ : MethodName)) (argsL := [(.int (2 : Int32)), (.int (2 : Int32))]) (rest := [(.int (2 : Int32))]) hown (hw _ (List.mem_of_getElem? (i := 17) rfl)) (hw _ (List.mem_of_getElem? (i := 18) rfl)) (hw _ (List.mem_of_getElem? (i := 19) rfl)) (hw _ (List.mem_of_getElem? (i := 20) rfl)) (rm_m_2_2 l Z a0 hw [] h0) e8 (by decide) (by decide) 1 (by decide) (by decide) (by decide) (g := (mkF m 40 #[.val (.int p1), .val (.int p2), .val (.ref w_TRUE), .val (.ref w_TRUE), .val (.ref w_TRUE)] [(.int (2 : Int32)), (.int (2 : Int32)), (.int (2 : Int32))])) rfl (by rw [hml]; rfl) (lenOf (ps := [.int, .int]) (r := (some .int)) (by decide +kernel) rfl) rfl (by show 2 * 0 + _ ≤ _; exact Nat.le_of_eq rfl) (hb hby at_40)
      obtain ⟨rfl, e9, rfl⟩ := Q9
      refine own_go (T' := T9) (g' := (mkF m 43 #[.val (.int p1), .val (.int p2), .val (.ref w_TRUE), .val (.ref w_TRUE), .val (.ref w_TRUE)] [(.int (2 : Int32)), (.int (2 : Int32))])) (fun t q => st9 t q) ?_
      have c10 : (2 : Int32) = (2 : Int32) := by decide
      refine own_go (T' := T9) (g' := (mkF m 46 #[.val (.int p1), .val (.int p2), .val (.ref w_TRUE), .val (.ref w_TRUE), .val (.ref w_TRUE)] [])) (fun t q => XS.icmpNo X9.here hx rfl (hb hby at_43) rfl (teq c10).2 q) ?_
      refine own_go (T' := T9) (g' := (mkF m 47 #[.val (.int p1), .val (.int p2), .val (.ref w_TRUE), .val (.ref w_TRUE), .val (.ref w_TRUE)] [(.int (1 : Int32))])) (fun t q => XS.iconst X9.here hx rfl (hb hby at_46) q) ?_
      refine own_go (T' := T9) (g' := (mkF m 51 #[.val (.int p1), .val (.int p2), .val (.ref w_TRUE), .val (.ref w_TRUE), .val (.ref w_TRUE)] [(.int (1 : Int32))])) (fun t q => XS.goto X9.here hx rfl (pc0 := 47) (pc' := 51) rfl (hb hby at_47) (by decide) (by decide) q) ?_
      refine own_outN X9 hx hlk hret (t := .boolean) (by simp) (hb hby at_51) (w := (1 : Int32)) (by decide) ?_ (by decide) (by decide)
      exact ⟨rfl, Fr.nil _⟩
    · refine own_go (T' := T4) (g' := (mkF m 19 #[.val (.int p1), .val (.int p2), .val (.ref w_TRUE), .unset, .unset] [(.ref w_FALSE)])) (fun t q => st4 t q) ?_
      refine own_go (T' := T4) (g' := (mkF m 20 #[.val (.int p1), .val (.int p2), .val (.ref w_TRUE), .val (.ref w_FALSE), .unset] [])) (fun t q => XS.astoreN X4.here hx rfl (hb hby at_19) rfl rfl (l' := #[.val (.int p1), .val (.int p2), .val (.ref w_TRUE), .val (.ref w_FALSE), .unset]) rfl q) ?_
      refine own_go (T' := T4) (g' := (mkF m 21 #[.val (.int p1), .val (.int p2), .val (.ref w_TRUE), .val (.ref w_FALSE), .unset] [(.ref w_TRUE)])) (fun t q => XS.aloadN X4.here hx rfl (hb hby at_20) rfl rfl q) ?_
      refine own_go (T' := T4) (g' := (mkF m 22 #[.val (.int p1), .val (.int p2), .val (.ref w_TRUE), .val (.ref w_FALSE), .unset] [(.ref w_FALSE), (.ref w_TRUE)])) (fun t q => XS.aloadN X4.here hx rfl (hb hby at_21) rfl rfl q) ?_
      obtain ⟨v11, T11, L11, X11, Q11, st11⟩ := own_callV X4 hx hZ (y := (⟨"com/example/steady_broker/steadybroker/selector/Condition$Truth", "or", "(Lcom/example/steady_broker/steadybroker/selector/Condition$Truth;)Lcom/example/steady_broker/steadybroker/selector/Condition$Truth;"⟩ : MethodName)) (b := w_TRUE) (argsL := [(.ref w_FALSE)]) (rest := []) hown (hw _ (List.mem_of_getElem? (i := 8) rfl)) (hw _ (List.mem_of_getElem? (i := 9) rfl)) (hw _ (List.mem_of_getElem? (i := 11) rfl)) (hw _ (List.mem_of_getElem? (i := 10) rfl)) (hw _ (List.mem_of_getElem? (i := 6) rfl)) (hw _ (List.mem_of_getElem? (i := 12) rfl)) (rm_op_TRUE_FALSE l Z a0 hw [] w_TRUE w_UNKNOWN w_FALSE h0 FX) e4 E_TRUE (by decide) (by decide) 0 (by decide) (by decide) (by decide) (g := (mkF m 22 #[.val (.int p1), .val (.int p2), .val (.ref w_TRUE), .val (.ref w_FALSE), .unset] [(.ref w_FALSE), (.ref w_TRUE)])) rfl (by rw [hml]; rfl) (lenOf (ps := [(.object "com/example/steady_broker/steadybroker/selector/Condition$Truth")]) (r := (some (.object "com/example/steady_broker/steadybroker/selector/Condition$Truth"))) (by decide +kernel) rfl) rfl (by show 2 * 0 + _ ≤ _; exact Nat.le_of_eq rfl) (hb hby at_22)
      obtain ⟨rfl, e11, rfl⟩ := Q11
      refine own_go (T' := T11) (g' := (mkF m 25 #[.val (.int p1), .val (.int p2), .val (.ref w_TRUE), .val (.ref w_FALSE), .unset] [(.ref w_TRUE)])) (fun t q => st11 t q) ?_
      refine own_go (T' := T11) (g' := (mkF m 27 #[.val (.int p1), .val (.int p2), .val (.ref w_TRUE), .val (.ref w_FALSE), .val (.ref w_TRUE)] [])) (fun t q => XS.astore X11.here hx rfl (hb hby at_25) rfl rfl (l' := #[.val (.int p1), .val (.int p2), .val (.ref w_TRUE), .val (.ref w_FALSE), .val (.ref w_TRUE)]) rfl q) ?_
      refine own_go (T' := T11) (g' := (mkF m 29 #[.val (.int p1), .val (.int p2), .val (.ref w_TRUE), .val (.ref w_FALSE), .val (.ref w_TRUE)] [(.ref w_TRUE)])) (fun t q => XS.aload X11.here hx rfl (hb hby at_27) rfl rfl q) ?_
      obtain ⟨v12, T12, L12, X12, Q12, st12⟩ := own_callS X11 hx hZ (y := (⟨"com/example/steady_broker/steadybroker/selector/TruthOrPinLaw", "rank", "(Lcom/example/steady_broker/steadybroker/selector/Condition$Truth;)I"⟩ : MethodName)) (argsL := [(.ref w_TRUE)]) (rest := []) hown (hw _ (List.mem_of_getElem? (i := 14) rfl)) (hw _ (List.mem_of_getElem? (i := 15) rfl)) (hw _ (List.mem_of_getElem? (i := 3) rfl)) (hw _ (List.mem_of_getElem? (i := 16) rfl)) (rm_rank_TRUE l Z a0 hw [] w_TRUE w_UNKNOWN w_FALSE h0 FX) e11 (by decide) (by decide) 0 (by decide) (by decide) (by decide) (g := (mkF m 29 #[.val (.int p1), .val (.int p2), .val (.ref w_TRUE), .val (.ref w_FALSE), .val (.ref w_TRUE)] [(.ref w_TRUE)])) rfl (by rw [hml]; rfl) (lenOf (ps := [(.object "com/example/steady_broker/steadybroker/selector/Condition$Truth")]) (r := (some .int)) (by decide +kernel) rfl) rfl (by show 2 * 0 + _ ≤ _; exact Nat.le_of_eq rfl) (hb hby at_29)
      obtain ⟨rfl, e12, rfl⟩ := Q12
      refine own_go (T' := T12) (g' := (mkF m 32 #[.val (.int p1), .val (.int p2), .val (.ref w_TRUE), .val (.ref w_FALSE), .val (.ref w_TRUE)] [(.int (2 : Int32))])) (fun t q => st12 t q) ?_
      refine own_go (T' := T12) (g' := (mkF m 33 #[.val (.int p1), .val (.int p2), .val (.ref w_TRUE), .val (.ref w_FALSE), .val (.ref w_TRUE)] [(.ref w_TRUE), (.int (2 : Int32))])) (fun t q => XS.aloadN X12.here hx rfl (hb hby at_32) rfl rfl q) ?_
      obtain ⟨v13, T13, L13, X13, Q13, st13⟩ := own_callS X12 hx hZ (y := (⟨"com/example/steady_broker/steadybroker/selector/TruthOrPinLaw", "rank", "(Lcom/example/steady_broker/steadybroker/selector/Condition$Truth;)I"⟩ : MethodName)) (argsL := [(.ref w_TRUE)]) (rest := [(.int (2 : Int32))]) hown (hw _ (List.mem_of_getElem? (i := 14) rfl)) (hw _ (List.mem_of_getElem? (i := 15) rfl)) (hw _ (List.mem_of_getElem? (i := 3) rfl)) (hw _ (List.mem_of_getElem? (i := 16) rfl)) (rm_rank_TRUE l Z a0 hw [] w_TRUE w_UNKNOWN w_FALSE h0 FX) e12 (by decide) (by decide) 1 (by decide) (by decide) (by decide) (g := (mkF m 33 #[.val (.int p1), .val (.int p2), .val (.ref w_TRUE), .val (.ref w_FALSE), .val (.ref w_TRUE)] [(.ref w_TRUE), (.int (2 : Int32))])) rfl (by rw [hml]; rfl) (lenOf (ps := [(.object "com/example/steady_broker/steadybroker/selector/Condition$Truth")]) (r := (some .int)) (by decide +kernel) rfl) rfl (by show 2 * 0 + _ ≤ _; exact Nat.le_of_eq rfl) (hb hby at_33)
      obtain ⟨rfl, e13, rfl⟩ := Q13
      refine own_go (T' := T13) (g' := (mkF m 36 #[.val (.int p1), .val (.int p2), .val (.ref w_TRUE), .val (.ref w_FALSE), .val (.ref w_TRUE)] [(.int (2 : Int32)), (.int (2 : Int32))])) (fun t q => st13 t q) ?_
      refine own_go (T' := T13) (g' := (mkF m 37 #[.val (.int p1), .val (.int p2), .val (.ref w_TRUE), .val (.ref w_FALSE), .val (.ref w_TRUE)] [(.ref w_FALSE), (.int (2 : Int32)), (.int (2 : Int32))])) (fun t q => XS.aloadN X13.here hx rfl (hb hby at_36) rfl rfl q) ?_
      obtain ⟨v14, T14, L14, X14, Q14, st14⟩ := own_callS X13 hx hZ (y := (⟨"com/example/steady_broker/steadybroker/selector/TruthOrPinLaw", "rank", "(Lcom/example/steady_broker/steadybroker/selector/Condition$Truth;)I"⟩ : MethodName)) (argsL := [(.ref w_FALSE)]) (rest := [(.int (2 : Int32)), (.int (2 : Int32))]) hown (hw _ (List.mem_of_getElem? (i := 14) rfl)) (hw _ (List.mem_of_getElem? (i := 15) rfl)) (hw _ (List.mem_of_getElem? (i := 3) rfl)) (hw _ (List.mem_of_getElem? (i := 16) rfl)) (rm_rank_FALSE l Z a0 hw [] w_TRUE w_UNKNOWN w_FALSE h0 FX) e13 (by decide) (by decide) 2 (by decide) (by decide) (by decide) (g := (mkF m 37 #[.val (.int p1), .val (.int p2), .val (.ref w_TRUE), .val (.ref w_FALSE), .val (.ref w_TRUE)] [(.ref w_FALSE), (.int (2 : Int32)), (.int (2 : Int32))])) rfl (by rw [hml]; rfl) (lenOf (ps := [(.object "com/example/steady_broker/steadybroker/selector/Condition$Truth")]) (r := (some .int)) (by decide +kernel) rfl) rfl (by show 2 * 0 + _ ≤ _; exact Nat.le_of_eq rfl) (hb hby at_37)
      obtain ⟨rfl, e14, rfl⟩ := Q14
      refine own_go (T' := T14) (g' := (mkF m 40 #[.val (.int p1), .val (.int p2), .val (.ref w_TRUE), .val (.ref w_FALSE), .val (.ref w_TRUE)] [(.int (0 : Int32)), (.int (2 : Int32)), (.int (2 : Int32))])) (fun t q => st14 t q) ?_
      obtain ⟨v15, T15, L15, X15, Q15, st15⟩ := own_callS X14 hx hZ (y := (⟨"java/lang/Math", "max", "(II)I"⟩ : MethodName)) (argsL := [(.int (2 : Int32)), (.int (0 : Int32))]) (rest := [(.int (2 : Int32))]) hown (hw _ (List.mem_of_getElem? (i := 17) rfl)) (hw _ (List.mem_of_getElem? (i := 18) rfl)) (hw _ (List.mem_of_getElem? (i := 19) rfl)) (hw _ (List.mem_of_getElem? (i := 20) rfl)) (rm_m_2_0 l Z a0 hw [] h0) e14 (by decide) (by decide) 1 (by decide) (by decide) (by decide) (g := (mkF m 40 #[.val (.int p1), .val (.int p2), .val (.ref w_TRUE), .val (.ref w_FALSE), .val (.ref w_TRUE)] [(.int (0 : Int32)), (.int (2 : Int32)), (.int (2 : Int32))])) rfl (by rw [hml]; rfl) (lenOf (ps := [.int, .int]) (r := (some .int)) (by decide +kernel) rfl) rfl (by show 2 * 0 + _ ≤ _; exact Nat.le_of_eq rfl) (hb hby at_40)
      obtain ⟨rfl, e15, rfl⟩ := Q15
      refine own_go (T' := T15) (g' := (mkF m 43 #[.val (.int p1), .val (.int p2), .val (.ref w_TRUE), .val (.ref w_FALSE), .val (.ref w_TRUE)] [(.int (2 : Int32)), (.int (2 : Int32))])) (fun t q => st15 t q) ?_
      have c16 : (2 : Int32) = (2 : Int32) := by decide
      refine own_go (T' := T15) (g' := (mkF m 46 #[.val (.int p1), .val (.int p2), .val (.ref w_TRUE), .val (.ref w_FALSE), .val (.ref w_TRUE)] [])) (fun t q => XS.icmpNo X15.here hx rfl (hb hby at_43) rfl (teq c16).2 q) ?_
      refine own_go (T' := T15) (g' := (mkF m 47 #[.val (.int p1), .val (.int p2), .val (.ref w_TRUE), .val (.ref w_FALSE), .val (.ref w_TRUE)] [(.int (1 : Int32))])) (fun t q => XS.iconst X15.here hx rfl (hb hby at_46) q) ?_
      refine own_go (T' := T15) (g' := (mkF m 51 #[.val (.int p1), .val (.int p2), .val (.ref w_TRUE), .val (.ref w_FALSE), .val (.ref w_TRUE)] [(.int (1 : Int32))])) (fun t q => XS.goto X15.here hx rfl (pc0 := 47) (pc' := 51) rfl (hb hby at_47) (by decide) (by decide) q) ?_
      refine own_outN X15 hx hlk hret (t := .boolean) (by simp) (hb hby at_51) (w := (1 : Int32)) (by decide) ?_ (by decide) (by decide)
      exact ⟨rfl, Fr.nil _⟩
    · refine own_go (T' := T4) (g' := (mkF m 19 #[.val (.int p1), .val (.int p2), .val (.ref w_TRUE), .unset, .unset] [(.ref w_UNKNOWN)])) (fun t q => st4 t q) ?_
      refine own_go (T' := T4) (g' := (mkF m 20 #[.val (.int p1), .val (.int p2), .val (.ref w_TRUE), .val (.ref w_UNKNOWN), .unset] [])) (fun t q => XS.astoreN X4.here hx rfl (hb hby at_19) rfl rfl (l' := #[.val (.int p1), .val (.int p2), .val (.ref w_TRUE), .val (.ref w_UNKNOWN), .unset]) rfl q) ?_
      refine own_go (T' := T4) (g' := (mkF m 21 #[.val (.int p1), .val (.int p2), .val (.ref w_TRUE), .val (.ref w_UNKNOWN), .unset] [(.ref w_TRUE)])) (fun t q => XS.aloadN X4.here hx rfl (hb hby at_20) rfl rfl q) ?_
      refine own_go (T' := T4) (g' := (mkF m 22 #[.val (.int p1), .val (.int p2), .val (.ref w_TRUE), .val (.ref w_UNKNOWN), .unset] [(.ref w_UNKNOWN), (.ref w_TRUE)])) (fun t q => XS.aloadN X4.here hx rfl (hb hby at_21) rfl rfl q) ?_
      obtain ⟨v17, T17, L17, X17, Q17, st17⟩ := own_callV X4 hx hZ (y := (⟨"com/example/steady_broker/steadybroker/selector/Condition$Truth", "or", "(Lcom/example/steady_broker/steadybroker/selector/Condition$Truth;)Lcom/example/steady_broker/steadybroker/selector/Condition$Truth;"⟩ : MethodName)) (b := w_TRUE) (argsL := [(.ref w_UNKNOWN)]) (rest := []) hown (hw _ (List.mem_of_getElem? (i := 8) rfl)) (hw _ (List.mem_of_getElem? (i := 9) rfl)) (hw _ (List.mem_of_getElem? (i := 11) rfl)) (hw _ (List.mem_of_getElem? (i := 10) rfl)) (hw _ (List.mem_of_getElem? (i := 6) rfl)) (hw _ (List.mem_of_getElem? (i := 12) rfl)) (rm_op_TRUE_UNKNOWN l Z a0 hw [] w_TRUE w_UNKNOWN w_FALSE h0 FX) e4 E_TRUE (by decide) (by decide) 0 (by decide) (by decide) (by decide) (g := (mkF m 22 #[.val (.int p1), .val (.int p2), .val (.ref w_TRUE), .val (.ref w_UNKNOWN), .unset] [(.ref w_UNKNOWN), (.ref w_TRUE)])) rfl (by rw [hml]; rfl) (lenOf (ps := [(.object "com/example/steady_broker/steadybroker/selector/Condition$Truth")]) (r := (some (.object "com/example/steady_broker/steadybroker/selector/Condition$Truth"))) (by decide +kernel) rfl) rfl (by show 2 * 0 + _ ≤ _; exact Nat.le_of_eq rfl) (hb hby at_22)
      obtain ⟨rfl, e17, rfl⟩ := Q17
      refine own_go (T' := T17) (g' := (mkF m 25 #[.val (.int p1), .val (.int p2), .val (.ref w_TRUE), .val (.ref w_UNKNOWN), .unset] [(.ref w_TRUE)])) (fun t q => st17 t q) ?_
      refine own_go (T' := T17) (g' := (mkF m 27 #[.val (.int p1), .val (.int p2), .val (.ref w_TRUE), .val (.ref w_UNKNOWN), .val (.ref w_TRUE)] [])) (fun t q => XS.astore X17.here hx rfl (hb hby at_25) rfl rfl (l' := #[.val (.int p1), .val (.int p2), .val (.ref w_TRUE), .val (.ref w_UNKNOWN), .val (.ref w_TRUE)]) rfl q) ?_
      refine own_go (T' := T17) (g' := (mkF m 29 #[.val (.int p1), .val (.int p2), .val (.ref w_TRUE), .val (.ref w_UNKNOWN), .val (.ref w_TRUE)] [(.ref w_TRUE)])) (fun t q => XS.aload X17.here hx rfl (hb hby at_27) rfl rfl q) ?_
      obtain ⟨v18, T18, L18, X18, Q18, st18⟩ := own_callS X17 hx hZ (y := (⟨"com/example/steady_broker/steadybroker/selector/TruthOrPinLaw", "rank", "(Lcom/example/steady_broker/steadybroker/selector/Condition$Truth;)I"⟩ : MethodName)) (argsL := [(.ref w_TRUE)]) (rest := []) hown (hw _ (List.mem_of_getElem? (i := 14) rfl)) (hw _ (List.mem_of_getElem? (i := 15) rfl)) (hw _ (List.mem_of_getElem? (i := 3) rfl)) (hw _ (List.mem_of_getElem? (i := 16) rfl)) (rm_rank_TRUE l Z a0 hw [] w_TRUE w_UNKNOWN w_FALSE h0 FX) e17 (by decide) (by decide) 0 (by decide) (by decide) (by decide) (g := (mkF m 29 #[.val (.int p1), .val (.int p2), .val (.ref w_TRUE), .val (.ref w_UNKNOWN), .val (.ref w_TRUE)] [(.ref w_TRUE)])) rfl (by rw [hml]; rfl) (lenOf (ps := [(.object "com/example/steady_broker/steadybroker/selector/Condition$Truth")]) (r := (some .int)) (by decide +kernel) rfl) rfl (by show 2 * 0 + _ ≤ _; exact Nat.le_of_eq rfl) (hb hby at_29)
      obtain ⟨rfl, e18, rfl⟩ := Q18
      refine own_go (T' := T18) (g' := (mkF m 32 #[.val (.int p1), .val (.int p2), .val (.ref w_TRUE), .val (.ref w_UNKNOWN), .val (.ref w_TRUE)] [(.int (2 : Int32))])) (fun t q => st18 t q) ?_
      refine own_go (T' := T18) (g' := (mkF m 33 #[.val (.int p1), .val (.int p2), .val (.ref w_TRUE), .val (.ref w_UNKNOWN), .val (.ref w_TRUE)] [(.ref w_TRUE), (.int (2 : Int32))])) (fun t q => XS.aloadN X18.here hx rfl (hb hby at_32) rfl rfl q) ?_
      obtain ⟨v19, T19, L19, X19, Q19, st19⟩ := own_callS X18 hx hZ (y := (⟨"com/example/steady_broker/steadybroker/selector/TruthOrPinLaw", "rank", "(Lcom/example/steady_broker/steadybroker/selector/Condition$Truth;)I"⟩ : MethodName)) (argsL := [(.ref w_TRUE)]) (rest := [(.int (2 : Int32))]) hown (hw _ (List.mem_of_getElem? (i := 14) rfl)) (hw _ (List.mem_of_getElem? (i := 15) rfl)) (hw _ (List.mem_of_getElem? (i := 3) rfl)) (hw _ (List.mem_of_getElem? (i := 16) rfl)) (rm_rank_TRUE l Z a0 hw [] w_TRUE w_UNKNOWN w_FALSE h0 FX) e18 (by decide) (by decide) 1 (by decide) (by decide) (by decide) (g := (mkF m 33 #[.val (.int p1), .val (.int p2), .val (.ref w_TRUE), .val (.ref w_UNKNOWN), .val (.ref w_TRUE)] [(.ref w_TRUE), (.int (2 : Int32))])) rfl (by rw [hml]; rfl) (lenOf (ps := [(.object "com/example/steady_broker/steadybroker/selector/Condition$Truth")]) (r := (some .int)) (by decide +kernel) rfl) rfl (by show 2 * 0 + _ ≤ _; exact Nat.le_of_eq rfl) (hb hby at_33)
      obtain ⟨rfl, e19, rfl⟩ := Q19
      refine own_go (T' := T19) (g' := (mkF m 36 #[.val (.int p1), .val (.int p2), .val (.ref w_TRUE), .val (.ref w_UNKNOWN), .val (.ref w_TRUE)] [(.int (2 : Int32)), (.int (2 : Int32))])) (fun t q => st19 t q) ?_
      refine own_go (T' := T19) (g' := (mkF m 37 #[.val (.int p1), .val (.int p2), .val (.ref w_TRUE), .val (.ref w_UNKNOWN), .val (.ref w_TRUE)] [(.ref w_UNKNOWN), (.int (2 : Int32)), (.int (2 : Int32))])) (fun t q => XS.aloadN X19.here hx rfl (hb hby at_36) rfl rfl q) ?_
      obtain ⟨v20, T20, L20, X20, Q20, st20⟩ := own_callS X19 hx hZ (y := (⟨"com/example/steady_broker/steadybroker/selector/TruthOrPinLaw", "rank", "(Lcom/example/steady_broker/steadybroker/selector/Condition$Truth;)I"⟩ : MethodName)) (argsL := [(.ref w_UNKNOWN)]) (rest := [(.int (2 : Int32)), (.int (2 : Int32))]) hown (hw _ (List.mem_of_getElem? (i := 14) rfl)) (hw _ (List.mem_of_getElem? (i := 15) rfl)) (hw _ (List.mem_of_getElem? (i := 3) rfl)) (hw _ (List.mem_of_getElem? (i := 16) rfl)) (rm_rank_UNKNOWN l Z a0 hw [] w_TRUE w_UNKNOWN w_FALSE h0 FX) e19 (by decide) (by decide) 2 (by decide) (by decide) (by decide) (g := (mkF m 37 #[.val (.int p1), .val (.int p2), .val (.ref w_TRUE), .val (.ref w_UNKNOWN), .val (.ref w_TRUE)] [(.ref w_UNKNOWN), (.int (2 : Int32)), (.int (2 : Int32))])) rfl (by rw [hml]; rfl) (lenOf (ps := [(.object "com/example/steady_broker/steadybroker/selector/Condition$Truth")]) (r := (some .int)) (by decide +kernel) rfl) rfl (by show 2 * 0 + _ ≤ _; exact Nat.le_of_eq rfl) (hb hby at_37)
      obtain ⟨rfl, e20, rfl⟩ := Q20
      refine own_go (T' := T20) (g' := (mkF m 40 #[.val (.int p1), .val (.int p2), .val (.ref w_TRUE), .val (.ref w_UNKNOWN), .val (.ref w_TRUE)] [(.int (1 : Int32)), (.int (2 : Int32)), (.int (2 : Int32))])) (fun t q => st20 t q) ?_
      obtain ⟨v21, T21, L21, X21, Q21, st21⟩ := own_callS X20 hx hZ (y := (⟨"java/lang/Math", "max", "(II)I"⟩ : MethodName)) (argsL := [(.int (2 : Int32)), (.int (1 : Int32))]) (rest := [(.int (2 : Int32))]) hown (hw _ (List.mem_of_getElem? (i := 17) rfl)) (hw _ (List.mem_of_getElem? (i := 18) rfl)) (hw _ (List.mem_of_getElem? (i := 19) rfl)) (hw _ (List.mem_of_getElem? (i := 20) rfl)) (rm_m_2_1 l Z a0 hw [] h0) e20 (by decide) (by decide) 1 (by decide) (by decide) (by decide) (g := (mkF m 40 #[.val (.int p1), .val (.int p2), .val (.ref w_TRUE), .val (.ref w_UNKNOWN), .val (.ref w_TRUE)] [(.int (1 : Int32)), (.int (2 : Int32)), (.int (2 : Int32))])) rfl (by rw [hml]; rfl) (lenOf (ps := [.int, .int]) (r := (some .int)) (by decide +kernel) rfl) rfl (by show 2 * 0 + _ ≤ _; exact Nat.le_of_eq rfl) (hb hby at_40)
      obtain ⟨rfl, e21, rfl⟩ := Q21
      refine own_go (T' := T21) (g' := (mkF m 43 #[.val (.int p1), .val (.int p2), .val (.ref w_TRUE), .val (.ref w_UNKNOWN), .val (.ref w_TRUE)] [(.int (2 : Int32)), (.int (2 : Int32))])) (fun t q => st21 t q) ?_
      have c22 : (2 : Int32) = (2 : Int32) := by decide
      refine own_go (T' := T21) (g' := (mkF m 46 #[.val (.int p1), .val (.int p2), .val (.ref w_TRUE), .val (.ref w_UNKNOWN), .val (.ref w_TRUE)] [])) (fun t q => XS.icmpNo X21.here hx rfl (hb hby at_43) rfl (teq c22).2 q) ?_
      refine own_go (T' := T21) (g' := (mkF m 47 #[.val (.int p1), .val (.int p2), .val (.ref w_TRUE), .val (.ref w_UNKNOWN), .val (.ref w_TRUE)] [(.int (1 : Int32))])) (fun t q => XS.iconst X21.here hx rfl (hb hby at_46) q) ?_
      refine own_go (T' := T21) (g' := (mkF m 51 #[.val (.int p1), .val (.int p2), .val (.ref w_TRUE), .val (.ref w_UNKNOWN), .val (.ref w_TRUE)] [(.int (1 : Int32))])) (fun t q => XS.goto X21.here hx rfl (pc0 := 47) (pc' := 51) rfl (hb hby at_47) (by decide) (by decide) q) ?_
      refine own_outN X21 hx hlk hret (t := .boolean) (by simp) (hb hby at_51) (w := (1 : Int32)) (by decide) ?_ (by decide) (by decide)
      exact ⟨rfl, Fr.nil _⟩
  · refine own_go (T' := T2) (g' := (mkF m 9 #[.val (.int p1), .val (.int p2), .unset, .unset, .unset] [(.ref w_FALSE)])) (fun t q => st2 t q) ?_
    refine own_go (T' := T2) (g' := (mkF m 10 #[.val (.int p1), .val (.int p2), .val (.ref w_FALSE), .unset, .unset] [])) (fun t q => XS.astoreN X2.here hx rfl (hb hby at_9) rfl rfl (l' := #[.val (.int p1), .val (.int p2), .val (.ref w_FALSE), .unset, .unset]) rfl q) ?_
    refine own_go (T' := T2) (g' := (mkF m 11 #[.val (.int p1), .val (.int p2), .val (.ref w_FALSE), .unset, .unset] [(.int p2)])) (fun t q => XS.iloadN X2.here hx rfl (hb hby at_10) rfl q) ?_
    refine own_go (T' := T2) (g' := (mkF m 13 #[.val (.int p1), .val (.int p2), .val (.ref w_FALSE), .unset, .unset] [(.int (2147483647 : Int32)), (.int p2)])) (fun t q => X2.ldcInt hx hown (mvT hZ (hw _ (List.mem_of_getElem? (i := 0) rfl))) (g := (mkF m 11 #[.val (.int p1), .val (.int p2), .val (.ref w_FALSE), .unset, .unset] [(.int p2)])) rfl (hb hby at_11) t q) ?_
    refine own_go (T' := T2) (g' := (mkF m 14 #[.val (.int p1), .val (.int p2), .val (.ref w_FALSE), .unset, .unset] [(.int (p2 &&& (2147483647 : Int32)))])) (fun t q => XS.iand X2.here hx rfl (hb hby at_13) rfl q) ?_
    refine own_go (T' := T2) (g' := (mkF m 15 #[.val (.int p1), .val (.int p2), .val (.ref w_FALSE), .unset, .unset] [(.int (3 : Int32)), (.int (p2 &&& (2147483647 : Int32)))])) (fun t q => XS.iconst X2.here hx rfl (hb hby at_14) q) ?_
    refine own_go (T' := T2) (g' := (mkF m 16 #[.val (.int p1), .val (.int p2), .val (.ref w_FALSE), .unset, .unset] [(.int ((p2 &&& (2147483647 : Int32)) % (3 : Int32)))])) (fun t q => iremM X2 hx rfl (hb hby at_15) rfl (by decide) q) ?_
    obtain ⟨z23, hz23⟩ : ∃ z : Int32, z = ((p2 &&& (2147483647 : Int32)) % (3 : Int32)) := ⟨_, rfl⟩
    rw [← hz23]
    obtain ⟨v24, T24, L24, X24, Q24, st24⟩ := own_callS X2 hx hZ (y := (⟨"com/example/steady_broker/steadybroker/selector/TruthOrPinLaw", "pick", "(I)Lcom/example/steady_broker/steadybroker/selector/Condition$Truth;"⟩ : MethodName)) (argsL := [(.int z23)]) (rest := []) hown (hw _ (List.mem_of_getElem? (i := 1) rfl)) (hw _ (List.mem_of_getElem? (i := 2) rfl)) (hw _ (List.mem_of_getElem? (i := 3) rfl)) (hw _ (List.mem_of_getElem? (i := 4) rfl)) (rm_pick l Z a0 hw [] z23 w_TRUE w_UNKNOWN w_FALSE h0 FX) e2 (by decide) (by decide) 0 (by decide) (by decide) (by decide) (g := (mkF m 16 #[.val (.int p1), .val (.int p2), .val (.ref w_FALSE), .unset, .unset] [(.int z23)])) rfl (by rw [hml]; rfl) (lenOf (ps := [.int]) (r := (some (.object "com/example/steady_broker/steadybroker/selector/Condition$Truth"))) (by decide +kernel) rfl) rfl (by show 2 * 0 + _ ≤ _; exact Nat.le_of_eq rfl) (hb hby at_16)
    obtain ⟨Q24, e24, rfl⟩ := Q24
    rcases Q24 with rfl | rfl | rfl
    · refine own_go (T' := T24) (g' := (mkF m 19 #[.val (.int p1), .val (.int p2), .val (.ref w_FALSE), .unset, .unset] [(.ref w_TRUE)])) (fun t q => st24 t q) ?_
      refine own_go (T' := T24) (g' := (mkF m 20 #[.val (.int p1), .val (.int p2), .val (.ref w_FALSE), .val (.ref w_TRUE), .unset] [])) (fun t q => XS.astoreN X24.here hx rfl (hb hby at_19) rfl rfl (l' := #[.val (.int p1), .val (.int p2), .val (.ref w_FALSE), .val (.ref w_TRUE), .unset]) rfl q) ?_
      refine own_go (T' := T24) (g' := (mkF m 21 #[.val (.int p1), .val (.int p2), .val (.ref w_FALSE), .val (.ref w_TRUE), .unset] [(.ref w_FALSE)])) (fun t q => XS.aloadN X24.here hx rfl (hb hby at_20) rfl rfl q) ?_
      refine own_go (T' := T24) (g' := (mkF m 22 #[.val (.int p1), .val (.int p2), .val (.ref w_FALSE), .val (.ref w_TRUE), .unset] [(.ref w_TRUE), (.ref w_FALSE)])) (fun t q => XS.aloadN X24.here hx rfl (hb hby at_21) rfl rfl q) ?_
      obtain ⟨v25, T25, L25, X25, Q25, st25⟩ := own_callV X24 hx hZ (y := (⟨"com/example/steady_broker/steadybroker/selector/Condition$Truth", "or", "(Lcom/example/steady_broker/steadybroker/selector/Condition$Truth;)Lcom/example/steady_broker/steadybroker/selector/Condition$Truth;"⟩ : MethodName)) (b := w_FALSE) (argsL := [(.ref w_TRUE)]) (rest := []) hown (hw _ (List.mem_of_getElem? (i := 8) rfl)) (hw _ (List.mem_of_getElem? (i := 9) rfl)) (hw _ (List.mem_of_getElem? (i := 11) rfl)) (hw _ (List.mem_of_getElem? (i := 10) rfl)) (hw _ (List.mem_of_getElem? (i := 6) rfl)) (hw _ (List.mem_of_getElem? (i := 12) rfl)) (rm_op_FALSE_TRUE l Z a0 hw [] w_TRUE w_UNKNOWN w_FALSE h0 FX) e24 E_FALSE (by decide) (by decide) 0 (by decide) (by decide) (by decide) (g := (mkF m 22 #[.val (.int p1), .val (.int p2), .val (.ref w_FALSE), .val (.ref w_TRUE), .unset] [(.ref w_TRUE), (.ref w_FALSE)])) rfl (by rw [hml]; rfl) (lenOf (ps := [(.object "com/example/steady_broker/steadybroker/selector/Condition$Truth")]) (r := (some (.object "com/example/steady_broker/steadybroker/selector/Condition$Truth"))) (by decide +kernel) rfl) rfl (by show 2 * 0 + _ ≤ _; exact Nat.le_of_eq rfl) (hb hby at_22)
      obtain ⟨rfl, e25, rfl⟩ := Q25
      refine own_go (T' := T25) (g' := (mkF m 25 #[.val (.int p1), .val (.int p2), .val (.ref w_FALSE), .val (.ref w_TRUE), .unset] [(.ref w_TRUE)])) (fun t q => st25 t q) ?_
      refine own_go (T' := T25) (g' := (mkF m 27 #[.val (.int p1), .val (.int p2), .val (.ref w_FALSE), .val (.ref w_TRUE), .val (.ref w_TRUE)] [])) (fun t q => XS.astore X25.here hx rfl (hb hby at_25) rfl rfl (l' := #[.val (.int p1), .val (.int p2), .val (.ref w_FALSE), .val (.ref w_TRUE), .val (.ref w_TRUE)]) rfl q) ?_
      refine own_go (T' := T25) (g' := (mkF m 29 #[.val (.int p1), .val (.int p2), .val (.ref w_FALSE), .val (.ref w_TRUE), .val (.ref w_TRUE)] [(.ref w_TRUE)])) (fun t q => XS.aload X25.here hx rfl (hb hby at_27) rfl rfl q) ?_
      obtain ⟨v26, T26, L26, X26, Q26, st26⟩ := own_callS X25 hx hZ (y := (⟨"com/example/steady_broker/steadybroker/selector/TruthOrPinLaw", "rank", "(Lcom/example/steady_broker/steadybroker/selector/Condition$Truth;)I"⟩ : MethodName)) (argsL := [(.ref w_TRUE)]) (rest := []) hown (hw _ (List.mem_of_getElem? (i := 14) rfl)) (hw _ (List.mem_of_getElem? (i := 15) rfl)) (hw _ (List.mem_of_getElem? (i := 3) rfl)) (hw _ (List.mem_of_getElem? (i := 16) rfl)) (rm_rank_TRUE l Z a0 hw [] w_TRUE w_UNKNOWN w_FALSE h0 FX) e25 (by decide) (by decide) 0 (by decide) (by decide) (by decide) (g := (mkF m 29 #[.val (.int p1), .val (.int p2), .val (.ref w_FALSE), .val (.ref w_TRUE), .val (.ref w_TRUE)] [(.ref w_TRUE)])) rfl (by rw [hml]; rfl) (lenOf (ps := [(.object "com/example/steady_broker/steadybroker/selector/Condition$Truth")]) (r := (some .int)) (by decide +kernel) rfl) rfl (by show 2 * 0 + _ ≤ _; exact Nat.le_of_eq rfl) (hb hby at_29)
      obtain ⟨rfl, e26, rfl⟩ := Q26
      refine own_go (T' := T26) (g' := (mkF m 32 #[.val (.int p1), .val (.int p2), .val (.ref w_FALSE), .val (.ref w_TRUE), .val (.ref w_TRUE)] [(.int (2 : Int32))])) (fun t q => st26 t q) ?_
      refine own_go (T' := T26) (g' := (mkF m 33 #[.val (.int p1), .val (.int p2), .val (.ref w_FALSE), .val (.ref w_TRUE), .val (.ref w_TRUE)] [(.ref w_FALSE), (.int (2 : Int32))])) (fun t q => XS.aloadN X26.here hx rfl (hb hby at_32) rfl rfl q) ?_
      obtain ⟨v27, T27, L27, X27, Q27, st27⟩ := own_callS X26 hx hZ (y := (⟨"com/example/steady_broker/steadybroker/selector/TruthOrPinLaw", "rank", "(Lcom/example/steady_broker/steadybroker/selector/Condition$Truth;)I"⟩ : MethodName)) (argsL := [(.ref w_FALSE)]) (rest := [(.int (2 : Int32))]) hown (hw _ (List.mem_of_getElem? (i := 14) rfl)) (hw _ (List.mem_of_getElem? (i := 15) rfl)) (hw _ (List.mem_of_getElem? (i := 3) rfl)) (hw _ (List.mem_of_getElem? (i := 16) rfl)) (rm_rank_FALSE l Z a0 hw [] w_TRUE w_UNKNOWN w_FALSE h0 FX) e26 (by decide) (by decide) 1 (by decide) (by decide) (by decide) (g := (mkF m 33 #[.val (.int p1), .val (.int p2), .val (.ref w_FALSE), .val (.ref w_TRUE), .val (.ref w_TRUE)] [(.ref w_FALSE), (.int (2 : Int32))])) rfl (by rw [hml]; rfl) (lenOf (ps := [(.object "com/example/steady_broker/steadybroker/selector/Condition$Truth")]) (r := (some .int)) (by decide +kernel) rfl) rfl (by show 2 * 0 + _ ≤ _; exact Nat.le_of_eq rfl) (hb hby at_33)
      obtain ⟨rfl, e27, rfl⟩ := Q27
      refine own_go (T' := T27) (g' := (mkF m 36 #[.val (.int p1), .val (.int p2), .val (.ref w_FALSE), .val (.ref w_TRUE), .val (.ref w_TRUE)] [(.int (0 : Int32)), (.int (2 : Int32))])) (fun t q => st27 t q) ?_
      refine own_go (T' := T27) (g' := (mkF m 37 #[.val (.int p1), .val (.int p2), .val (.ref w_FALSE), .val (.ref w_TRUE), .val (.ref w_TRUE)] [(.ref w_TRUE), (.int (0 : Int32)), (.int (2 : Int32))])) (fun t q => XS.aloadN X27.here hx rfl (hb hby at_36) rfl rfl q) ?_
      obtain ⟨v28, T28, L28, X28, Q28, st28⟩ := own_callS X27 hx hZ (y := (⟨"com/example/steady_broker/steadybroker/selector/TruthOrPinLaw", "rank", "(Lcom/example/steady_broker/steadybroker/selector/Condition$Truth;)I"⟩ : MethodName)) (argsL := [(.ref w_TRUE)]) (rest := [(.int (0 : Int32)), (.int (2 : Int32))]) hown (hw _ (List.mem_of_getElem? (i := 14) rfl)) (hw _ (List.mem_of_getElem? (i := 15) rfl)) (hw _ (List.mem_of_getElem? (i := 3) rfl)) (hw _ (List.mem_of_getElem? (i := 16) rfl)) (rm_rank_TRUE l Z a0 hw [] w_TRUE w_UNKNOWN w_FALSE h0 FX) e27 (by decide) (by decide) 2 (by decide) (by decide) (by decide) (g := (mkF m 37 #[.val (.int p1), .val (.int p2), .val (.ref w_FALSE), .val (.ref w_TRUE), .val (.ref w_TRUE)] [(.ref w_TRUE), (.int (0 : Int32)), (.int (2 : Int32))])) rfl (by rw [hml]; rfl) (lenOf (ps := [(.object "com/example/steady_broker/steadybroker/selector/Condition$Truth")]) (r := (some .int)) (by decide +kernel) rfl) rfl (by show 2 * 0 + _ ≤ _; exact Nat.le_of_eq rfl) (hb hby at_37)
      obtain ⟨rfl, e28, rfl⟩ := Q28
      refine own_go (T' := T28) (g' := (mkF m 40 #[.val (.int p1), .val (.int p2), .val (.ref w_FALSE), .val (.ref w_TRUE), .val (.ref w_TRUE)] [(.int (2 : Int32)), (.int (0 : Int32)), (.int (2 : Int32))])) (fun t q => st28 t q) ?_
      obtain ⟨v29, T29, L29, X29, Q29, st29⟩ := own_callS X28 hx hZ (y := (⟨"java/lang/Math", "max", "(II)I"⟩ : MethodName)) (argsL := [(.int (0 : Int32)), (.int (2 : Int32))]) (rest := [(.int (2 : Int32))]) hown (hw _ (List.mem_of_getElem? (i := 17) rfl)) (hw _ (List.mem_of_getElem? (i := 18) rfl)) (hw _ (List.mem_of_getElem? (i := 19) rfl)) (hw _ (List.mem_of_getElem? (i := 20) rfl)) (rm_m_0_2 l Z a0 hw [] h0) e28 (by decide) (by decide) 1 (by decide) (by decide) (by decide) (g := (mkF m 40 #[.val (.int p1), .val (.int p2), .val (.ref w_FALSE), .val (.ref w_TRUE), .val (.ref w_TRUE)] [(.int (2 : Int32)), (.int (0 : Int32)), (.int (2 : Int32))])) rfl (by rw [hml]; rfl) (lenOf (ps := [.int, .int]) (r := (some .int)) (by decide +kernel) rfl) rfl (by show 2 * 0 + _ ≤ _; exact Nat.le_of_eq rfl) (hb hby at_40)
      obtain ⟨rfl, e29, rfl⟩ := Q29
      refine own_go (T' := T29) (g' := (mkF m 43 #[.val (.int p1), .val (.int p2), .val (.ref w_FALSE), .val (.ref w_TRUE), .val (.ref w_TRUE)] [(.int (2 : Int32)), (.int (2 : Int32))])) (fun t q => st29 t q) ?_
      have c30 : (2 : Int32) = (2 : Int32) := by decide
      refine own_go (T' := T29) (g' := (mkF m 46 #[.val (.int p1), .val (.int p2), .val (.ref w_FALSE), .val (.ref w_TRUE), .val (.ref w_TRUE)] [])) (fun t q => XS.icmpNo X29.here hx rfl (hb hby at_43) rfl (teq c30).2 q) ?_
      refine own_go (T' := T29) (g' := (mkF m 47 #[.val (.int p1), .val (.int p2), .val (.ref w_FALSE), .val (.ref w_TRUE), .val (.ref w_TRUE)] [(.int (1 : Int32))])) (fun t q => XS.iconst X29.here hx rfl (hb hby at_46) q) ?_
      refine own_go (T' := T29) (g' := (mkF m 51 #[.val (.int p1), .val (.int p2), .val (.ref w_FALSE), .val (.ref w_TRUE), .val (.ref w_TRUE)] [(.int (1 : Int32))])) (fun t q => XS.goto X29.here hx rfl (pc0 := 47) (pc' := 51) rfl (hb hby at_47) (by decide) (by decide) q) ?_
      refine own_outN X29 hx hlk hret (t := .boolean) (by simp) (hb hby at_51) (w := (1 : Int32)) (by decide) ?_ (by decide) (by decide)
      exact ⟨rfl, Fr.nil _⟩
    · refine own_go (T' := T24) (g' := (mkF m 19 #[.val (.int p1), .val (.int p2), .val (.ref w_FALSE), .unset, .unset] [(.ref w_FALSE)])) (fun t q => st24 t q) ?_
      refine own_go (T' := T24) (g' := (mkF m 20 #[.val (.int p1), .val (.int p2), .val (.ref w_FALSE), .val (.ref w_FALSE), .unset] [])) (fun t q => XS.astoreN X24.here hx rfl (hb hby at_19) rfl rfl (l' := #[.val (.int p1), .val (.int p2), .val (.ref w_FALSE), .val (.ref w_FALSE), .unset]) rfl q) ?_
      refine own_go (T' := T24) (g' := (mkF m 21 #[.val (.int p1), .val (.int p2), .val (.ref w_FALSE), .val (.ref w_FALSE), .unset] [(.ref w_FALSE)])) (fun t q => XS.aloadN X24.here hx rfl (hb hby at_20) rfl rfl q) ?_
      refine own_go (T' := T24) (g' := (mkF m 22 #[.val (.int p1), .val (.int p2), .val (.ref w_FALSE), .val (.ref w_FALSE), .unset] [(.ref w_FALSE), (.ref w_FALSE)])) (fun t q => XS.aloadN X24.here hx rfl (hb hby at_21) rfl rfl q) ?_
      obtain ⟨v31, T31, L31, X31, Q31, st31⟩ := own_callV X24 hx hZ (y := (⟨"com/example/steady_broker/steadybroker/selector/Condition$Truth", "or", "(Lcom/example/steady_broker/steadybroker/selector/Condition$Truth;)Lcom/example/steady_broker/steadybroker/selector/Condition$Truth;"⟩ : MethodName)) (b := w_FALSE) (argsL := [(.ref w_FALSE)]) (rest := []) hown (hw _ (List.mem_of_getElem? (i := 8) rfl)) (hw _ (List.mem_of_getElem? (i := 9) rfl)) (hw _ (List.mem_of_getElem? (i := 11) rfl)) (hw _ (List.mem_of_getElem? (i := 10) rfl)) (hw _ (List.mem_of_getElem? (i := 6) rfl)) (hw _ (List.mem_of_getElem? (i := 12) rfl)) (rm_op_FALSE_FALSE l Z a0 hw [] w_TRUE w_UNKNOWN w_FALSE h0 FX) e24 E_FALSE (by decide) (by decide) 0 (by decide) (by decide) (by decide) (g := (mkF m 22 #[.val (.int p1), .val (.int p2), .val (.ref w_FALSE), .val (.ref w_FALSE), .unset] [(.ref w_FALSE), (.ref w_FALSE)])) rfl (by rw [hml]; rfl) (lenOf (ps := [(.object "com/example/steady_broker/steadybroker/selector/Condition$Truth")]) (r := (some (.object "com/example/steady_broker/steadybroker/selector/Condition$Truth"))) (by decide +kernel) rfl) rfl (by show 2 * 0 + _ ≤ _; exact Nat.le_of_eq rfl) (hb hby at_22)
      obtain ⟨rfl, e31, rfl⟩ := Q31
      refine own_go (T' := T31) (g' := (mkF m 25 #[.val (.int p1), .val (.int p2), .val (.ref w_FALSE), .val (.ref w_FALSE), .unset] [(.ref w_FALSE)])) (fun t q => st31 t q) ?_
      refine own_go (T' := T31) (g' := (mkF m 27 #[.val (.int p1), .val (.int p2), .val (.ref w_FALSE), .val (.ref w_FALSE), .val (.ref w_FALSE)] [])) (fun t q => XS.astore X31.here hx rfl (hb hby at_25) rfl rfl (l' := #[.val (.int p1), .val (.int p2), .val (.ref w_FALSE), .val (.ref w_FALSE), .val (.ref w_FALSE)]) rfl q) ?_
      refine own_go (T' := T31) (g' := (mkF m 29 #[.val (.int p1), .val (.int p2), .val (.ref w_FALSE), .val (.ref w_FALSE), .val (.ref w_FALSE)] [(.ref w_FALSE)])) (fun t q => XS.aload X31.here hx rfl (hb hby at_27) rfl rfl q) ?_
      obtain ⟨v32, T32, L32, X32, Q32, st32⟩ := own_callS X31 hx hZ (y := (⟨"com/example/steady_broker/steadybroker/selector/TruthOrPinLaw", "rank", "(Lcom/example/steady_broker/steadybroker/selector/Condition$Truth;)I"⟩ : MethodName)) (argsL := [(.ref w_FALSE)]) (rest := []) hown (hw _ (List.mem_of_getElem? (i := 14) rfl)) (hw _ (List.mem_of_getElem? (i := 15) rfl)) (hw _ (List.mem_of_getElem? (i := 3) rfl)) (hw _ (List.mem_of_getElem? (i := 16) rfl)) (rm_rank_FALSE l Z a0 hw [] w_TRUE w_UNKNOWN w_FALSE h0 FX) e31 (by decide) (by decide) 0 (by decide) (by decide) (by decide) (g := (mkF m 29 #[.val (.int p1), .val (.int p2), .val (.ref w_FALSE), .val (.ref w_FALSE), .val (.ref w_FALSE)] [(.ref w_FALSE)])) rfl (by rw [hml]; rfl) (lenOf (ps := [(.object "com/example/steady_broker/steadybroker/selector/Condition$Truth")]) (r := (some .int)) (by decide +kernel) rfl) rfl (by show 2 * 0 + _ ≤ _; exact Nat.le_of_eq rfl) (hb hby at_29)
      obtain ⟨rfl, e32, rfl⟩ := Q32
      refine own_go (T' := T32) (g' := (mkF m 32 #[.val (.int p1), .val (.int p2), .val (.ref w_FALSE), .val (.ref w_FALSE), .val (.ref w_FALSE)] [(.int (0 : Int32))])) (fun t q => st32 t q) ?_
      refine own_go (T' := T32) (g' := (mkF m 33 #[.val (.int p1), .val (.int p2), .val (.ref w_FALSE), .val (.ref w_FALSE), .val (.ref w_FALSE)] [(.ref w_FALSE), (.int (0 : Int32))])) (fun t q => XS.aloadN X32.here hx rfl (hb hby at_32) rfl rfl q) ?_
      obtain ⟨v33, T33, L33, X33, Q33, st33⟩ := own_callS X32 hx hZ (y := (⟨"com/example/steady_broker/steadybroker/selector/TruthOrPinLaw", "rank", "(Lcom/example/steady_broker/steadybroker/selector/Condition$Truth;)I"⟩ : MethodName)) (argsL := [(.ref w_FALSE)]) (rest := [(.int (0 : Int32))]) hown (hw _ (List.mem_of_getElem? (i := 14) rfl)) (hw _ (List.mem_of_getElem? (i := 15) rfl)) (hw _ (List.mem_of_getElem? (i := 3) rfl)) (hw _ (List.mem_of_getElem? (i := 16) rfl)) (rm_rank_FALSE l Z a0 hw [] w_TRUE w_UNKNOWN w_FALSE h0 FX) e32 (by decide) (by decide) 1 (by decide) (by decide) (by decide) (g := (mkF m 33 #[.val (.int p1), .val (.int p2), .val (.ref w_FALSE), .val (.ref w_FALSE), .val (.ref w_FALSE)] [(.ref w_FALSE), (.int (0 : Int32))])) rfl (by rw [hml]; rfl) (lenOf (ps := [(.object "com/example/steady_broker/steadybroker/selector/Condition$Truth")]) (r := (some .int)) (by decide +kernel) rfl) rfl (by show 2 * 0 + _ ≤ _; exact Nat.le_of_eq rfl) (hb hby at_33)
      obtain ⟨rfl, e33, rfl⟩ := Q33
      refine own_go (T' := T33) (g' := (mkF m 36 #[.val (.int p1), .val (.int p2), .val (.ref w_FALSE), .val (.ref w_FALSE), .val (.ref w_FALSE)] [(.int (0 : Int32)), (.int (0 : Int32))])) (fun t q => st33 t q) ?_
      refine own_go (T' := T33) (g' := (mkF m 37 #[.val (.int p1), .val (.int p2), .val (.ref w_FALSE), .val (.ref w_FALSE), .val (.ref w_FALSE)] [(.ref w_FALSE), (.int (0 : Int32)), (.int (0 : Int32))])) (fun t q => XS.aloadN X33.here hx rfl (hb hby at_36) rfl rfl q) ?_
      obtain ⟨v34, T34, L34, X34, Q34, st34⟩ := own_callS X33 hx hZ (y := (⟨"com/example/steady_broker/steadybroker/selector/TruthOrPinLaw", "rank", "(Lcom/example/steady_broker/steadybroker/selector/Condition$Truth;)I"⟩ : MethodName)) (argsL := [(.ref w_FALSE)]) (rest := [(.int (0 : Int32)), (.int (0 : Int32))]) hown (hw _ (List.mem_of_getElem? (i := 14) rfl)) (hw _ (List.mem_of_getElem? (i := 15) rfl)) (hw _ (List.mem_of_getElem? (i := 3) rfl)) (hw _ (List.mem_of_getElem? (i := 16) rfl)) (rm_rank_FALSE l Z a0 hw [] w_TRUE w_UNKNOWN w_FALSE h0 FX) e33 (by decide) (by decide) 2 (by decide) (by decide) (by decide) (g := (mkF m 37 #[.val (.int p1), .val (.int p2), .val (.ref w_FALSE), .val (.ref w_FALSE), .val (.ref w_FALSE)] [(.ref w_FALSE), (.int (0 : Int32)), (.int (0 : Int32))])) rfl (by rw [hml]; rfl) (lenOf (ps := [(.object "com/example/steady_broker/steadybroker/selector/Condition$Truth")]) (r := (some .int)) (by decide +kernel) rfl) rfl (by show 2 * 0 + _ ≤ _; exact Nat.le_of_eq rfl) (hb hby at_37)
      obtain ⟨rfl, e34, rfl⟩ := Q34
      refine own_go (T' := T34) (g' := (mkF m 40 #[.val (.int p1), .val (.int p2), .val (.ref w_FALSE), .val (.ref w_FALSE), .val (.ref w_FALSE)] [(.int (0 : Int32)), (.int (0 : Int32)), (.int (0 : Int32))])) (fun t q => st34 t q) ?_
      obtain ⟨v35, T35, L35, X35, Q35, st35⟩ := own_callS X34 hx hZ (y := (⟨"java/lang/Math", "max", "(II)I"⟩ : MethodName)) (argsL := [(.int (0 : Int32)), (.int (0 : Int32))]) (rest := [(.int (0 : Int32))]) hown (hw _ (List.mem_of_getElem? (i := 17) rfl)) (hw _ (List.mem_of_getElem? (i := 18) rfl)) (hw _ (List.mem_of_getElem? (i := 19) rfl)) (hw _ (List.mem_of_getElem? (i := 20) rfl)) (rm_m_0_0 l Z a0 hw [] h0) e34 (by decide) (by decide) 1 (by decide) (by decide) (by decide) (g := (mkF m 40 #[.val (.int p1), .val (.int p2), .val (.ref w_FALSE), .val (.ref w_FALSE), .val (.ref w_FALSE)] [(.int (0 : Int32)), (.int (0 : Int32)), (.int (0 : Int32))])) rfl (by rw [hml]; rfl) (lenOf (ps := [.int, .int]) (r := (some .int)) (by decide +kernel) rfl) rfl (by show 2 * 0 + _ ≤ _; exact Nat.le_of_eq rfl) (hb hby at_40)
      obtain ⟨rfl, e35, rfl⟩ := Q35
      refine own_go (T' := T35) (g' := (mkF m 43 #[.val (.int p1), .val (.int p2), .val (.ref w_FALSE), .val (.ref w_FALSE), .val (.ref w_FALSE)] [(.int (0 : Int32)), (.int (0 : Int32))])) (fun t q => st35 t q) ?_
      have c36 : (0 : Int32) = (0 : Int32) := by decide
      refine own_go (T' := T35) (g' := (mkF m 46 #[.val (.int p1), .val (.int p2), .val (.ref w_FALSE), .val (.ref w_FALSE), .val (.ref w_FALSE)] [])) (fun t q => XS.icmpNo X35.here hx rfl (hb hby at_43) rfl (teq c36).2 q) ?_
      refine own_go (T' := T35) (g' := (mkF m 47 #[.val (.int p1), .val (.int p2), .val (.ref w_FALSE), .val (.ref w_FALSE), .val (.ref w_FALSE)] [(.int (1 : Int32))])) (fun t q => XS.iconst X35.here hx rfl (hb hby at_46) q) ?_
      refine own_go (T' := T35) (g' := (mkF m 51 #[.val (.int p1), .val (.int p2), .val (.ref w_FALSE), .val (.ref w_FALSE), .val (.ref w_FALSE)] [(.int (1 : Int32))])) (fun t q => XS.goto X35.here hx rfl (pc0 := 47) (pc' := 51) rfl (hb hby at_47) (by decide) (by decide) q) ?_
      refine own_outN X35 hx hlk hret (t := .boolean) (by simp) (hb hby at_51) (w := (1 : Int32)) (by decide) ?_ (by decide) (by decide)
      exact ⟨rfl, Fr.nil _⟩
    · refine own_go (T' := T24) (g' := (mkF m 19 #[.val (.int p1), .val (.int p2), .val (.ref w_FALSE), .unset, .unset] [(.ref w_UNKNOWN)])) (fun t q => st24 t q) ?_
      refine own_go (T' := T24) (g' := (mkF m 20 #[.val (.int p1), .val (.int p2), .val (.ref w_FALSE), .val (.ref w_UNKNOWN), .unset] [])) (fun t q => XS.astoreN X24.here hx rfl (hb hby at_19) rfl rfl (l' := #[.val (.int p1), .val (.int p2), .val (.ref w_FALSE), .val (.ref w_UNKNOWN), .unset]) rfl q) ?_
      refine own_go (T' := T24) (g' := (mkF m 21 #[.val (.int p1), .val (.int p2), .val (.ref w_FALSE), .val (.ref w_UNKNOWN), .unset] [(.ref w_FALSE)])) (fun t q => XS.aloadN X24.here hx rfl (hb hby at_20) rfl rfl q) ?_
      refine own_go (T' := T24) (g' := (mkF m 22 #[.val (.int p1), .val (.int p2), .val (.ref w_FALSE), .val (.ref w_UNKNOWN), .unset] [(.ref w_UNKNOWN), (.ref w_FALSE)])) (fun t q => XS.aloadN X24.here hx rfl (hb hby at_21) rfl rfl q) ?_
      obtain ⟨v37, T37, L37, X37, Q37, st37⟩ := own_callV X24 hx hZ (y := (⟨"com/example/steady_broker/steadybroker/selector/Condition$Truth", "or", "(Lcom/example/steady_broker/steadybroker/selector/Condition$Truth;)Lcom/example/steady_broker/steadybroker/selector/Condition$Truth;"⟩ : MethodName)) (b := w_FALSE) (argsL := [(.ref w_UNKNOWN)]) (rest := []) hown (hw _ (List.mem_of_getElem? (i := 8) rfl)) (hw _ (List.mem_of_getElem? (i := 9) rfl)) (hw _ (List.mem_of_getElem? (i := 11) rfl)) (hw _ (List.mem_of_getElem? (i := 10) rfl)) (hw _ (List.mem_of_getElem? (i := 6) rfl)) (hw _ (List.mem_of_getElem? (i := 12) rfl)) (rm_op_FALSE_UNKNOWN l Z a0 hw [] w_TRUE w_UNKNOWN w_FALSE h0 FX) e24 E_FALSE (by decide) (by decide) 0 (by decide) (by decide) (by decide) (g := (mkF m 22 #[.val (.int p1), .val (.int p2), .val (.ref w_FALSE), .val (.ref w_UNKNOWN), .unset] [(.ref w_UNKNOWN), (.ref w_FALSE)])) rfl (by rw [hml]; rfl) (lenOf (ps := [(.object "com/example/steady_broker/steadybroker/selector/Condition$Truth")]) (r := (some (.object "com/example/steady_broker/steadybroker/selector/Condition$Truth"))) (by decide +kernel) rfl) rfl (by show 2 * 0 + _ ≤ _; exact Nat.le_of_eq rfl) (hb hby at_22)
      obtain ⟨rfl, e37, rfl⟩ := Q37
      refine own_go (T' := T37) (g' := (mkF m 25 #[.val (.int p1), .val (.int p2), .val (.ref w_FALSE), .val (.ref w_UNKNOWN), .unset] [(.ref w_UNKNOWN)])) (fun t q => st37 t q) ?_
      refine own_go (T' := T37) (g' := (mkF m 27 #[.val (.int p1), .val (.int p2), .val (.ref w_FALSE), .val (.ref w_UNKNOWN), .val (.ref w_UNKNOWN)] [])) (fun t q => XS.astore X37.here hx rfl (hb hby at_25) rfl rfl (l' := #[.val (.int p1), .val (.int p2), .val (.ref w_FALSE), .val (.ref w_UNKNOWN), .val (.ref w_UNKNOWN)]) rfl q) ?_
      refine own_go (T' := T37) (g' := (mkF m 29 #[.val (.int p1), .val (.int p2), .val (.ref w_FALSE), .val (.ref w_UNKNOWN), .val (.ref w_UNKNOWN)] [(.ref w_UNKNOWN)])) (fun t q => XS.aload X37.here hx rfl (hb hby at_27) rfl rfl q) ?_
      obtain ⟨v38, T38, L38, X38, Q38, st38⟩ := own_callS X37 hx hZ (y := (⟨"com/example/steady_broker/steadybroker/selector/TruthOrPinLaw", "rank", "(Lcom/example/steady_broker/steadybroker/selector/Condition$Truth;)I"⟩ : MethodName)) (argsL := [(.ref w_UNKNOWN)]) (rest := []) hown (hw _ (List.mem_of_getElem? (i := 14) rfl)) (hw _ (List.mem_of_getElem? (i := 15) rfl)) (hw _ (List.mem_of_getElem? (i := 3) rfl)) (hw _ (List.mem_of_getElem? (i := 16) rfl)) (rm_rank_UNKNOWN l Z a0 hw [] w_TRUE w_UNKNOWN w_FALSE h0 FX) e37 (by decide) (by decide) 0 (by decide) (by decide) (by decide) (g := (mkF m 29 #[.val (.int p1), .val (.int p2), .val (.ref w_FALSE), .val (.ref w_UNKNOWN), .val (.ref w_UNKNOWN)] [(.ref w_UNKNOWN)])) rfl (by rw [hml]; rfl) (lenOf (ps := [(.object "com/example/steady_broker/steadybroker/selector/Condition$Truth")]) (r := (some .int)) (by decide +kernel) rfl) rfl (by show 2 * 0 + _ ≤ _; exact Nat.le_of_eq rfl) (hb hby at_29)
      obtain ⟨rfl, e38, rfl⟩ := Q38
      refine own_go (T' := T38) (g' := (mkF m 32 #[.val (.int p1), .val (.int p2), .val (.ref w_FALSE), .val (.ref w_UNKNOWN), .val (.ref w_UNKNOWN)] [(.int (1 : Int32))])) (fun t q => st38 t q) ?_
      refine own_go (T' := T38) (g' := (mkF m 33 #[.val (.int p1), .val (.int p2), .val (.ref w_FALSE), .val (.ref w_UNKNOWN), .val (.ref w_UNKNOWN)] [(.ref w_FALSE), (.int (1 : Int32))])) (fun t q => XS.aloadN X38.here hx rfl (hb hby at_32) rfl rfl q) ?_
      obtain ⟨v39, T39, L39, X39, Q39, st39⟩ := own_callS X38 hx hZ (y := (⟨"com/example/steady_broker/steadybroker/selector/TruthOrPinLaw", "rank", "(Lcom/example/steady_broker/steadybroker/selector/Condition$Truth;)I"⟩ : MethodName)) (argsL := [(.ref w_FALSE)]) (rest := [(.int (1 : Int32))]) hown (hw _ (List.mem_of_getElem? (i := 14) rfl)) (hw _ (List.mem_of_getElem? (i := 15) rfl)) (hw _ (List.mem_of_getElem? (i := 3) rfl)) (hw _ (List.mem_of_getElem? (i := 16) rfl)) (rm_rank_FALSE l Z a0 hw [] w_TRUE w_UNKNOWN w_FALSE h0 FX) e38 (by decide) (by decide) 1 (by decide) (by decide) (by decide) (g := (mkF m 33 #[.val (.int p1), .val (.int p2), .val (.ref w_FALSE), .val (.ref w_UNKNOWN), .val (.ref w_UNKNOWN)] [(.ref w_FALSE), (.int (1 : Int32))])) rfl (by rw [hml]; rfl) (lenOf (ps := [(.object "com/example/steady_broker/steadybroker/selector/Condition$Truth")]) (r := (some .int)) (by decide +kernel) rfl) rfl (by show 2 * 0 + _ ≤ _; exact Nat.le_of_eq rfl) (hb hby at_33)
      obtain ⟨rfl, e39, rfl⟩ := Q39
      refine own_go (T' := T39) (g' := (mkF m 36 #[.val (.int p1), .val (.int p2), .val (.ref w_FALSE), .val (.ref w_UNKNOWN), .val (.ref w_UNKNOWN)] [(.int (0 : Int32)), (.int (1 : Int32))])) (fun t q => st39 t q) ?_
      refine own_go (T' := T39) (g' := (mkF m 37 #[.val (.int p1), .val (.int p2), .val (.ref w_FALSE), .val (.ref w_UNKNOWN), .val (.ref w_UNKNOWN)] [(.ref w_UNKNOWN), (.int (0 : Int32)), (.int (1 : Int32))])) (fun t q => XS.aloadN X39.here hx rfl (hb hby at_36) rfl rfl q) ?_
      obtain ⟨v40, T40, L40, X40, Q40, st40⟩ := own_callS X39 hx hZ (y := (⟨"com/example/steady_broker/steadybroker/selector/TruthOrPinLaw", "rank", "(Lcom/example/steady_broker/steadybroker/selector/Condition$Truth;)I"⟩ : MethodName)) (argsL := [(.ref w_UNKNOWN)]) (rest := [(.int (0 : Int32)), (.int (1 : Int32))]) hown (hw _ (List.mem_of_getElem? (i := 14) rfl)) (hw _ (List.mem_of_getElem? (i := 15) rfl)) (hw _ (List.mem_of_getElem? (i := 3) rfl)) (hw _ (List.mem_of_getElem? (i := 16) rfl)) (rm_rank_UNKNOWN l Z a0 hw [] w_TRUE w_UNKNOWN w_FALSE h0 FX) e39 (by decide) (by decide) 2 (by decide) (by decide) (by decide) (g := (mkF m 37 #[.val (.int p1), .val (.int p2), .val (.ref w_FALSE), .val (.ref w_UNKNOWN), .val (.ref w_UNKNOWN)] [(.ref w_UNKNOWN), (.int (0 : Int32)), (.int (1 : Int32))])) rfl (by rw [hml]; rfl) (lenOf (ps := [(.object "com/example/steady_broker/steadybroker/selector/Condition$Truth")]) (r := (some .int)) (by decide +kernel) rfl) rfl (by show 2 * 0 + _ ≤ _; exact Nat.le_of_eq rfl) (hb hby at_37)
      obtain ⟨rfl, e40, rfl⟩ := Q40
      refine own_go (T' := T40) (g' := (mkF m 40 #[.val (.int p1), .val (.int p2), .val (.ref w_FALSE), .val (.ref w_UNKNOWN), .val (.ref w_UNKNOWN)] [(.int (1 : Int32)), (.int (0 : Int32)), (.int (1 : Int32))])) (fun t q => st40 t q) ?_
      obtain ⟨v41, T41, L41, X41, Q41, st41⟩ := own_callS X40 hx hZ (y := (⟨"java/lang/Math", "max", "(II)I"⟩ : MethodName)) (argsL := [(.int (0 : Int32)), (.int (1 : Int32))]) (rest := [(.int (1 : Int32))]) hown (hw _ (List.mem_of_getElem? (i := 17) rfl)) (hw _ (List.mem_of_getElem? (i := 18) rfl)) (hw _ (List.mem_of_getElem? (i := 19) rfl)) (hw _ (List.mem_of_getElem? (i := 20) rfl)) (rm_m_0_1 l Z a0 hw [] h0) e40 (by decide) (by decide) 1 (by decide) (by decide) (by decide) (g := (mkF m 40 #[.val (.int p1), .val (.int p2), .val (.ref w_FALSE), .val (.ref w_UNKNOWN), .val (.ref w_UNKNOWN)] [(.int (1 : Int32)), (.int (0 : Int32)), (.int (1 : Int32))])) rfl (by rw [hml]; rfl) (lenOf (ps := [.int, .int]) (r := (some .int)) (by decide +kernel) rfl) rfl (by show 2 * 0 + _ ≤ _; exact Nat.le_of_eq rfl) (hb hby at_40)
      obtain ⟨rfl, e41, rfl⟩ := Q41
      refine own_go (T' := T41) (g' := (mkF m 43 #[.val (.int p1), .val (.int p2), .val (.ref w_FALSE), .val (.ref w_UNKNOWN), .val (.ref w_UNKNOWN)] [(.int (1 : Int32)), (.int (1 : Int32))])) (fun t q => st41 t q) ?_
      have c42 : (1 : Int32) = (1 : Int32) := by decide
      refine own_go (T' := T41) (g' := (mkF m 46 #[.val (.int p1), .val (.int p2), .val (.ref w_FALSE), .val (.ref w_UNKNOWN), .val (.ref w_UNKNOWN)] [])) (fun t q => XS.icmpNo X41.here hx rfl (hb hby at_43) rfl (teq c42).2 q) ?_
      refine own_go (T' := T41) (g' := (mkF m 47 #[.val (.int p1), .val (.int p2), .val (.ref w_FALSE), .val (.ref w_UNKNOWN), .val (.ref w_UNKNOWN)] [(.int (1 : Int32))])) (fun t q => XS.iconst X41.here hx rfl (hb hby at_46) q) ?_
      refine own_go (T' := T41) (g' := (mkF m 51 #[.val (.int p1), .val (.int p2), .val (.ref w_FALSE), .val (.ref w_UNKNOWN), .val (.ref w_UNKNOWN)] [(.int (1 : Int32))])) (fun t q => XS.goto X41.here hx rfl (pc0 := 47) (pc' := 51) rfl (hb hby at_47) (by decide) (by decide) q) ?_
      refine own_outN X41 hx hlk hret (t := .boolean) (by simp) (hb hby at_51) (w := (1 : Int32)) (by decide) ?_ (by decide) (by decide)
      exact ⟨rfl, Fr.nil _⟩
  · refine own_go (T' := T2) (g' := (mkF m 9 #[.val (.int p1), .val (.int p2), .unset, .unset, .unset] [(.ref w_UNKNOWN)])) (fun t q => st2 t q) ?_
    refine own_go (T' := T2) (g' := (mkF m 10 #[.val (.int p1), .val (.int p2), .val (.ref w_UNKNOWN), .unset, .unset] [])) (fun t q => XS.astoreN X2.here hx rfl (hb hby at_9) rfl rfl (l' := #[.val (.int p1), .val (.int p2), .val (.ref w_UNKNOWN), .unset, .unset]) rfl q) ?_
    refine own_go (T' := T2) (g' := (mkF m 11 #[.val (.int p1), .val (.int p2), .val (.ref w_UNKNOWN), .unset, .unset] [(.int p2)])) (fun t q => XS.iloadN X2.here hx rfl (hb hby at_10) rfl q) ?_
    refine own_go (T' := T2) (g' := (mkF m 13 #[.val (.int p1), .val (.int p2), .val (.ref w_UNKNOWN), .unset, .unset] [(.int (2147483647 : Int32)), (.int p2)])) (fun t q => X2.ldcInt hx hown (mvT hZ (hw _ (List.mem_of_getElem? (i := 0) rfl))) (g := (mkF m 11 #[.val (.int p1), .val (.int p2), .val (.ref w_UNKNOWN), .unset, .unset] [(.int p2)])) rfl (hb hby at_11) t q) ?_
    refine own_go (T' := T2) (g' := (mkF m 14 #[.val (.int p1), .val (.int p2), .val (.ref w_UNKNOWN), .unset, .unset] [(.int (p2 &&& (2147483647 : Int32)))])) (fun t q => XS.iand X2.here hx rfl (hb hby at_13) rfl q) ?_
    refine own_go (T' := T2) (g' := (mkF m 15 #[.val (.int p1), .val (.int p2), .val (.ref w_UNKNOWN), .unset, .unset] [(.int (3 : Int32)), (.int (p2 &&& (2147483647 : Int32)))])) (fun t q => XS.iconst X2.here hx rfl (hb hby at_14) q) ?_
    refine own_go (T' := T2) (g' := (mkF m 16 #[.val (.int p1), .val (.int p2), .val (.ref w_UNKNOWN), .unset, .unset] [(.int ((p2 &&& (2147483647 : Int32)) % (3 : Int32)))])) (fun t q => iremM X2 hx rfl (hb hby at_15) rfl (by decide) q) ?_
    obtain ⟨z43, hz43⟩ : ∃ z : Int32, z = ((p2 &&& (2147483647 : Int32)) % (3 : Int32)) := ⟨_, rfl⟩
    rw [← hz43]
    obtain ⟨v44, T44, L44, X44, Q44, st44⟩ := own_callS X2 hx hZ (y := (⟨"com/example/steady_broker/steadybroker/selector/TruthOrPinLaw", "pick", "(I)Lcom/example/steady_broker/steadybroker/selector/Condition$Truth;"⟩ : MethodName)) (argsL := [(.int z43)]) (rest := []) hown (hw _ (List.mem_of_getElem? (i := 1) rfl)) (hw _ (List.mem_of_getElem? (i := 2) rfl)) (hw _ (List.mem_of_getElem? (i := 3) rfl)) (hw _ (List.mem_of_getElem? (i := 4) rfl)) (rm_pick l Z a0 hw [] z43 w_TRUE w_UNKNOWN w_FALSE h0 FX) e2 (by decide) (by decide) 0 (by decide) (by decide) (by decide) (g := (mkF m 16 #[.val (.int p1), .val (.int p2), .val (.ref w_UNKNOWN), .unset, .unset] [(.int z43)])) rfl (by rw [hml]; rfl) (lenOf (ps := [.int]) (r := (some (.object "com/example/steady_broker/steadybroker/selector/Condition$Truth"))) (by decide +kernel) rfl) rfl (by show 2 * 0 + _ ≤ _; exact Nat.le_of_eq rfl) (hb hby at_16)
    obtain ⟨Q44, e44, rfl⟩ := Q44
    rcases Q44 with rfl | rfl | rfl
    · refine own_go (T' := T44) (g' := (mkF m 19 #[.val (.int p1), .val (.int p2), .val (.ref w_UNKNOWN), .unset, .unset] [(.ref w_TRUE)])) (fun t q => st44 t q) ?_
      refine own_go (T' := T44) (g' := (mkF m 20 #[.val (.int p1), .val (.int p2), .val (.ref w_UNKNOWN), .val (.ref w_TRUE), .unset] [])) (fun t q => XS.astoreN X44.here hx rfl (hb hby at_19) rfl rfl (l' := #[.val (.int p1), .val (.int p2), .val (.ref w_UNKNOWN), .val (.ref w_TRUE), .unset]) rfl q) ?_
      refine own_go (T' := T44) (g' := (mkF m 21 #[.val (.int p1), .val (.int p2), .val (.ref w_UNKNOWN), .val (.ref w_TRUE), .unset] [(.ref w_UNKNOWN)])) (fun t q => XS.aloadN X44.here hx rfl (hb hby at_20) rfl rfl q) ?_
      refine own_go (T' := T44) (g' := (mkF m 22 #[.val (.int p1), .val (.int p2), .val (.ref w_UNKNOWN), .val (.ref w_TRUE), .unset] [(.ref w_TRUE), (.ref w_UNKNOWN)])) (fun t q => XS.aloadN X44.here hx rfl (hb hby at_21) rfl rfl q) ?_
      obtain ⟨v45, T45, L45, X45, Q45, st45⟩ := own_callV X44 hx hZ (y := (⟨"com/example/steady_broker/steadybroker/selector/Condition$Truth", "or", "(Lcom/example/steady_broker/steadybroker/selector/Condition$Truth;)Lcom/example/steady_broker/steadybroker/selector/Condition$Truth;"⟩ : MethodName)) (b := w_UNKNOWN) (argsL := [(.ref w_TRUE)]) (rest := []) hown (hw _ (List.mem_of_getElem? (i := 8) rfl)) (hw _ (List.mem_of_getElem? (i := 9) rfl)) (hw _ (List.mem_of_getElem? (i := 11) rfl)) (hw _ (List.mem_of_getElem? (i := 10) rfl)) (hw _ (List.mem_of_getElem? (i := 6) rfl)) (hw _ (List.mem_of_getElem? (i := 12) rfl)) (rm_op_UNKNOWN_TRUE l Z a0 hw [] w_TRUE w_UNKNOWN w_FALSE h0 FX) e44 E_UNKNOWN (by decide) (by decide) 0 (by decide) (by decide) (by decide) (g := (mkF m 22 #[.val (.int p1), .val (.int p2), .val (.ref w_UNKNOWN), .val (.ref w_TRUE), .unset] [(.ref w_TRUE), (.ref w_UNKNOWN)])) rfl (by rw [hml]; rfl) (lenOf (ps := [(.object "com/example/steady_broker/steadybroker/selector/Condition$Truth")]) (r := (some (.object "com/example/steady_broker/steadybroker/selector/Condition$Truth"))) (by decide +kernel) rfl) rfl (by show 2 * 0 + _ ≤ _; exact Nat.le_of_eq rfl) (hb hby at_22)
      obtain ⟨rfl, e45, rfl⟩ := Q45
      refine own_go (T' := T45) (g' := (mkF m 25 #[.val (.int p1), .val (.int p2), .val (.ref w_UNKNOWN), .val (.ref w_TRUE), .unset] [(.ref w_TRUE)])) (fun t q => st45 t q) ?_
      refine own_go (T' := T45) (g' := (mkF m 27 #[.val (.int p1), .val (.int p2), .val (.ref w_UNKNOWN), .val (.ref w_TRUE), .val (.ref w_TRUE)] [])) (fun t q => XS.astore X45.here hx rfl (hb hby at_25) rfl rfl (l' := #[.val (.int p1), .val (.int p2), .val (.ref w_UNKNOWN), .val (.ref w_TRUE), .val (.ref w_TRUE)]) rfl q) ?_
      refine own_go (T' := T45) (g' := (mkF m 29 #[.val (.int p1), .val (.int p2), .val (.ref w_UNKNOWN), .val (.ref w_TRUE), .val (.ref w_TRUE)] [(.ref w_TRUE)])) (fun t q => XS.aload X45.here hx rfl (hb hby at_27) rfl rfl q) ?_
      obtain ⟨v46, T46, L46, X46, Q46, st46⟩ := own_callS X45 hx hZ (y := (⟨"com/example/steady_broker/steadybroker/selector/TruthOrPinLaw", "rank", "(Lcom/example/steady_broker/steadybroker/selector/Condition$Truth;)I"⟩ : MethodName)) (argsL := [(.ref w_TRUE)]) (rest := []) hown (hw _ (List.mem_of_getElem? (i := 14) rfl)) (hw _ (List.mem_of_getElem? (i := 15) rfl)) (hw _ (List.mem_of_getElem? (i := 3) rfl)) (hw _ (List.mem_of_getElem? (i := 16) rfl)) (rm_rank_TRUE l Z a0 hw [] w_TRUE w_UNKNOWN w_FALSE h0 FX) e45 (by decide) (by decide) 0 (by decide) (by decide) (by decide) (g := (mkF m 29 #[.val (.int p1), .val (.int p2), .val (.ref w_UNKNOWN), .val (.ref w_TRUE), .val (.ref w_TRUE)] [(.ref w_TRUE)])) rfl (by rw [hml]; rfl) (lenOf (ps := [(.object "com/example/steady_broker/steadybroker/selector/Condition$Truth")]) (r := (some .int)) (by decide +kernel) rfl) rfl (by show 2 * 0 + _ ≤ _; exact Nat.le_of_eq rfl) (hb hby at_29)
      obtain ⟨rfl, e46, rfl⟩ := Q46
      refine own_go (T' := T46) (g' := (mkF m 32 #[.val (.int p1), .val (.int p2), .val (.ref w_UNKNOWN), .val (.ref w_TRUE), .val (.ref w_TRUE)] [(.int (2 : Int32))])) (fun t q => st46 t q) ?_
      refine own_go (T' := T46) (g' := (mkF m 33 #[.val (.int p1), .val (.int p2), .val (.ref w_UNKNOWN), .val (.ref w_TRUE), .val (.ref w_TRUE)] [(.ref w_UNKNOWN), (.int (2 : Int32))])) (fun t q => XS.aloadN X46.here hx rfl (hb hby at_32) rfl rfl q) ?_
      obtain ⟨v47, T47, L47, X47, Q47, st47⟩ := own_callS X46 hx hZ (y := (⟨"com/example/steady_broker/steadybroker/selector/TruthOrPinLaw", "rank", "(Lcom/example/steady_broker/steadybroker/selector/Condition$Truth;)I"⟩ : MethodName)) (argsL := [(.ref w_UNKNOWN)]) (rest := [(.int (2 : Int32))]) hown (hw _ (List.mem_of_getElem? (i := 14) rfl)) (hw _ (List.mem_of_getElem? (i := 15) rfl)) (hw _ (List.mem_of_getElem? (i := 3) rfl)) (hw _ (List.mem_of_getElem? (i := 16) rfl)) (rm_rank_UNKNOWN l Z a0 hw [] w_TRUE w_UNKNOWN w_FALSE h0 FX) e46 (by decide) (by decide) 1 (by decide) (by decide) (by decide) (g := (mkF m 33 #[.val (.int p1), .val (.int p2), .val (.ref w_UNKNOWN), .val (.ref w_TRUE), .val (.ref w_TRUE)] [(.ref w_UNKNOWN), (.int (2 : Int32))])) rfl (by rw [hml]; rfl) (lenOf (ps := [(.object "com/example/steady_broker/steadybroker/selector/Condition$Truth")]) (r := (some .int)) (by decide +kernel) rfl) rfl (by show 2 * 0 + _ ≤ _; exact Nat.le_of_eq rfl) (hb hby at_33)
      obtain ⟨rfl, e47, rfl⟩ := Q47
      refine own_go (T' := T47) (g' := (mkF m 36 #[.val (.int p1), .val (.int p2), .val (.ref w_UNKNOWN), .val (.ref w_TRUE), .val (.ref w_TRUE)] [(.int (1 : Int32)), (.int (2 : Int32))])) (fun t q => st47 t q) ?_
      refine own_go (T' := T47) (g' := (mkF m 37 #[.val (.int p1), .val (.int p2), .val (.ref w_UNKNOWN), .val (.ref w_TRUE), .val (.ref w_TRUE)] [(.ref w_TRUE), (.int (1 : Int32)), (.int (2 : Int32))])) (fun t q => XS.aloadN X47.here hx rfl (hb hby at_36) rfl rfl q) ?_
      obtain ⟨v48, T48, L48, X48, Q48, st48⟩ := own_callS X47 hx hZ (y := (⟨"com/example/steady_broker/steadybroker/selector/TruthOrPinLaw", "rank", "(Lcom/example/steady_broker/steadybroker/selector/Condition$Truth;)I"⟩ : MethodName)) (argsL := [(.ref w_TRUE)]) (rest := [(.int (1 : Int32)), (.int (2 : Int32))]) hown (hw _ (List.mem_of_getElem? (i := 14) rfl)) (hw _ (List.mem_of_getElem? (i := 15) rfl)) (hw _ (List.mem_of_getElem? (i := 3) rfl)) (hw _ (List.mem_of_getElem? (i := 16) rfl)) (rm_rank_TRUE l Z a0 hw [] w_TRUE w_UNKNOWN w_FALSE h0 FX) e47 (by decide) (by decide) 2 (by decide) (by decide) (by decide) (g := (mkF m 37 #[.val (.int p1), .val (.int p2), .val (.ref w_UNKNOWN), .val (.ref w_TRUE), .val (.ref w_TRUE)] [(.ref w_TRUE), (.int (1 : Int32)), (.int (2 : Int32))])) rfl (by rw [hml]; rfl) (lenOf (ps := [(.object "com/example/steady_broker/steadybroker/selector/Condition$Truth")]) (r := (some .int)) (by decide +kernel) rfl) rfl (by show 2 * 0 + _ ≤ _; exact Nat.le_of_eq rfl) (hb hby at_37)
      obtain ⟨rfl, e48, rfl⟩ := Q48
      refine own_go (T' := T48) (g' := (mkF m 40 #[.val (.int p1), .val (.int p2), .val (.ref w_UNKNOWN), .val (.ref w_TRUE), .val (.ref w_TRUE)] [(.int (2 : Int32)), (.int (1 : Int32)), (.int (2 : Int32))])) (fun t q => st48 t q) ?_
      obtain ⟨v49, T49, L49, X49, Q49, st49⟩ := own_callS X48 hx hZ (y := (⟨"java/lang/Math", "max", "(II)I"⟩ : MethodName)) (argsL := [(.int (1 : Int32)), (.int (2 : Int32))]) (rest := [(.int (2 : Int32))]) hown (hw _ (List.mem_of_getElem? (i := 17) rfl)) (hw _ (List.mem_of_getElem? (i := 18) rfl)) (hw _ (List.mem_of_getElem? (i := 19) rfl)) (hw _ (List.mem_of_getElem? (i := 20) rfl)) (rm_m_1_2 l Z a0 hw [] h0) e48 (by decide) (by decide) 1 (by decide) (by decide) (by decide) (g := (mkF m 40 #[.val (.int p1), .val (.int p2), .val (.ref w_UNKNOWN), .val (.ref w_TRUE), .val (.ref w_TRUE)] [(.int (2 : Int32)), (.int (1 : Int32)), (.int (2 : Int32))])) rfl (by rw [hml]; rfl) (lenOf (ps := [.int, .int]) (r := (some .int)) (by decide +kernel) rfl) rfl (by show 2 * 0 + _ ≤ _; exact Nat.le_of_eq rfl) (hb hby at_40)
      obtain ⟨rfl, e49, rfl⟩ := Q49
      refine own_go (T' := T49) (g' := (mkF m 43 #[.val (.int p1), .val (.int p2), .val (.ref w_UNKNOWN), .val (.ref w_TRUE), .val (.ref w_TRUE)] [(.int (2 : Int32)), (.int (2 : Int32))])) (fun t q => st49 t q) ?_
      have c50 : (2 : Int32) = (2 : Int32) := by decide
      refine own_go (T' := T49) (g' := (mkF m 46 #[.val (.int p1), .val (.int p2), .val (.ref w_UNKNOWN), .val (.ref w_TRUE), .val (.ref w_TRUE)] [])) (fun t q => XS.icmpNo X49.here hx rfl (hb hby at_43) rfl (teq c50).2 q) ?_
      refine own_go (T' := T49) (g' := (mkF m 47 #[.val (.int p1), .val (.int p2), .val (.ref w_UNKNOWN), .val (.ref w_TRUE), .val (.ref w_TRUE)] [(.int (1 : Int32))])) (fun t q => XS.iconst X49.here hx rfl (hb hby at_46) q) ?_
      refine own_go (T' := T49) (g' := (mkF m 51 #[.val (.int p1), .val (.int p2), .val (.ref w_UNKNOWN), .val (.ref w_TRUE), .val (.ref w_TRUE)] [(.int (1 : Int32))])) (fun t q => XS.goto X49.here hx rfl (pc0 := 47) (pc' := 51) rfl (hb hby at_47) (by decide) (by decide) q) ?_
      refine own_outN X49 hx hlk hret (t := .boolean) (by simp) (hb hby at_51) (w := (1 : Int32)) (by decide) ?_ (by decide) (by decide)
      exact ⟨rfl, Fr.nil _⟩
    · refine own_go (T' := T44) (g' := (mkF m 19 #[.val (.int p1), .val (.int p2), .val (.ref w_UNKNOWN), .unset, .unset] [(.ref w_FALSE)])) (fun t q => st44 t q) ?_
      refine own_go (T' := T44) (g' := (mkF m 20 #[.val (.int p1), .val (.int p2), .val (.ref w_UNKNOWN), .val (.ref w_FALSE), .unset] [])) (fun t q => XS.astoreN X44.here hx rfl (hb hby at_19) rfl rfl (l' := #[.val (.int p1), .val (.int p2), .val (.ref w_UNKNOWN), .val (.ref w_FALSE), .unset]) rfl q) ?_
      refine own_go (T' := T44) (g' := (mkF m 21 #[.val (.int p1), .val (.int p2), .val (.ref w_UNKNOWN), .val (.ref w_FALSE), .unset] [(.ref w_UNKNOWN)])) (fun t q => XS.aloadN X44.here hx rfl (hb hby at_20) rfl rfl q) ?_
      refine own_go (T' := T44) (g' := (mkF m 22 #[.val (.int p1), .val (.int p2), .val (.ref w_UNKNOWN), .val (.ref w_FALSE), .unset] [(.ref w_FALSE), (.ref w_UNKNOWN)])) (fun t q => XS.aloadN X44.here hx rfl (hb hby at_21) rfl rfl q) ?_
      obtain ⟨v51, T51, L51, X51, Q51, st51⟩ := own_callV X44 hx hZ (y := (⟨"com/example/steady_broker/steadybroker/selector/Condition$Truth", "or", "(Lcom/example/steady_broker/steadybroker/selector/Condition$Truth;)Lcom/example/steady_broker/steadybroker/selector/Condition$Truth;"⟩ : MethodName)) (b := w_UNKNOWN) (argsL := [(.ref w_FALSE)]) (rest := []) hown (hw _ (List.mem_of_getElem? (i := 8) rfl)) (hw _ (List.mem_of_getElem? (i := 9) rfl)) (hw _ (List.mem_of_getElem? (i := 11) rfl)) (hw _ (List.mem_of_getElem? (i := 10) rfl)) (hw _ (List.mem_of_getElem? (i := 6) rfl)) (hw _ (List.mem_of_getElem? (i := 12) rfl)) (rm_op_UNKNOWN_FALSE l Z a0 hw [] w_TRUE w_UNKNOWN w_FALSE h0 FX) e44 E_UNKNOWN (by decide) (by decide) 0 (by decide) (by decide) (by decide) (g := (mkF m 22 #[.val (.int p1), .val (.int p2), .val (.ref w_UNKNOWN), .val (.ref w_FALSE), .unset] [(.ref w_FALSE), (.ref w_UNKNOWN)])) rfl (by rw [hml]; rfl) (lenOf (ps := [(.object "com/example/steady_broker/steadybroker/selector/Condition$Truth")]) (r := (some (.object "com/example/steady_broker/steadybroker/selector/Condition$Truth"))) (by decide +kernel) rfl) rfl (by show 2 * 0 + _ ≤ _; exact Nat.le_of_eq rfl) (hb hby at_22)
      obtain ⟨rfl, e51, rfl⟩ := Q51
      refine own_go (T' := T51) (g' := (mkF m 25 #[.val (.int p1), .val (.int p2), .val (.ref w_UNKNOWN), .val (.ref w_FALSE), .unset] [(.ref w_UNKNOWN)])) (fun t q => st51 t q) ?_
      refine own_go (T' := T51) (g' := (mkF m 27 #[.val (.int p1), .val (.int p2), .val (.ref w_UNKNOWN), .val (.ref w_FALSE), .val (.ref w_UNKNOWN)] [])) (fun t q => XS.astore X51.here hx rfl (hb hby at_25) rfl rfl (l' := #[.val (.int p1), .val (.int p2), .val (.ref w_UNKNOWN), .val (.ref w_FALSE), .val (.ref w_UNKNOWN)]) rfl q) ?_
      refine own_go (T' := T51) (g' := (mkF m 29 #[.val (.int p1), .val (.int p2), .val (.ref w_UNKNOWN), .val (.ref w_FALSE), .val (.ref w_UNKNOWN)] [(.ref w_UNKNOWN)])) (fun t q => XS.aload X51.here hx rfl (hb hby at_27) rfl rfl q) ?_
      obtain ⟨v52, T52, L52, X52, Q52, st52⟩ := own_callS X51 hx hZ (y := (⟨"com/example/steady_broker/steadybroker/selector/TruthOrPinLaw", "rank", "(Lcom/example/steady_broker/steadybroker/selector/Condition$Truth;)I"⟩ : MethodName)) (argsL := [(.ref w_UNKNOWN)]) (rest := []) hown (hw _ (List.mem_of_getElem? (i := 14) rfl)) (hw _ (List.mem_of_getElem? (i := 15) rfl)) (hw _ (List.mem_of_getElem? (i := 3) rfl)) (hw _ (List.mem_of_getElem? (i := 16) rfl)) (rm_rank_UNKNOWN l Z a0 hw [] w_TRUE w_UNKNOWN w_FALSE h0 FX) e51 (by decide) (by decide) 0 (by decide) (by decide) (by decide) (g := (mkF m 29 #[.val (.int p1), .val (.int p2), .val (.ref w_UNKNOWN), .val (.ref w_FALSE), .val (.ref w_UNKNOWN)] [(.ref w_UNKNOWN)])) rfl (by rw [hml]; rfl) (lenOf (ps := [(.object "com/example/steady_broker/steadybroker/selector/Condition$Truth")]) (r := (some .int)) (by decide +kernel) rfl) rfl (by show 2 * 0 + _ ≤ _; exact Nat.le_of_eq rfl) (hb hby at_29)
      obtain ⟨rfl, e52, rfl⟩ := Q52
      refine own_go (T' := T52) (g' := (mkF m 32 #[.val (.int p1), .val (.int p2), .val (.ref w_UNKNOWN), .val (.ref w_FALSE), .val (.ref w_UNKNOWN)] [(.int (1 : Int32))])) (fun t q => st52 t q) ?_
      refine own_go (T' := T52) (g' := (mkF m 33 #[.val (.int p1), .val (.int p2), .val (.ref w_UNKNOWN), .val (.ref w_FALSE), .val (.ref w_UNKNOWN)] [(.ref w_UNKNOWN), (.int (1 : Int32))])) (fun t q => XS.aloadN X52.here hx rfl (hb hby at_32) rfl rfl q) ?_
      obtain ⟨v53, T53, L53, X53, Q53, st53⟩ := own_callS X52 hx hZ (y := (⟨"com/example/steady_broker/steadybroker/selector/TruthOrPinLaw", "rank", "(Lcom/example/steady_broker/steadybroker/selector/Condition$Truth;)I"⟩ : MethodName)) (argsL := [(.ref w_UNKNOWN)]) (rest := [(.int (1 : Int32))]) hown (hw _ (List.mem_of_getElem? (i := 14) rfl)) (hw _ (List.mem_of_getElem? (i := 15) rfl)) (hw _ (List.mem_of_getElem? (i := 3) rfl)) (hw _ (List.mem_of_getElem? (i := 16) rfl)) (rm_rank_UNKNOWN l Z a0 hw [] w_TRUE w_UNKNOWN w_FALSE h0 FX) e52 (by decide) (by decide) 1 (by decide) (by decide) (by decide) (g := (mkF m 33 #[.val (.int p1), .val (.int p2), .val (.ref w_UNKNOWN), .val (.ref w_FALSE), .val (.ref w_UNKNOWN)] [(.ref w_UNKNOWN), (.int (1 : Int32))])) rfl (by rw [hml]; rfl) (lenOf (ps := [(.object "com/example/steady_broker/steadybroker/selector/Condition$Truth")]) (r := (some .int)) (by decide +kernel) rfl) rfl (by show 2 * 0 + _ ≤ _; exact Nat.le_of_eq rfl) (hb hby at_33)
      obtain ⟨rfl, e53, rfl⟩ := Q53
      refine own_go (T' := T53) (g' := (mkF m 36 #[.val (.int p1), .val (.int p2), .val (.ref w_UNKNOWN), .val (.ref w_FALSE), .val (.ref w_UNKNOWN)] [(.int (1 : Int32)), (.int (1 : Int32))])) (fun t q => st53 t q) ?_
      refine own_go (T' := T53) (g' := (mkF m 37 #[.val (.int p1), .val (.int p2), .val (.ref w_UNKNOWN), .val (.ref w_FALSE), .val (.ref w_UNKNOWN)] [(.ref w_FALSE), (.int (1 : Int32)), (.int (1 : Int32))])) (fun t q => XS.aloadN X53.here hx rfl (hb hby at_36) rfl rfl q) ?_
      obtain ⟨v54, T54, L54, X54, Q54, st54⟩ := own_callS X53 hx hZ (y := (⟨"com/example/steady_broker/steadybroker/selector/TruthOrPinLaw", "rank", "(Lcom/example/steady_broker/steadybroker/selector/Condition$Truth;)I"⟩ : MethodName)) (argsL := [(.ref w_FALSE)]) (rest := [(.int (1 : Int32)), (.int (1 : Int32))]) hown (hw _ (List.mem_of_getElem? (i := 14) rfl)) (hw _ (List.mem_of_getElem? (i := 15) rfl)) (hw _ (List.mem_of_getElem? (i := 3) rfl)) (hw _ (List.mem_of_getElem? (i := 16) rfl)) (rm_rank_FALSE l Z a0 hw [] w_TRUE w_UNKNOWN w_FALSE h0 FX) e53 (by decide) (by decide) 2 (by decide) (by decide) (by decide) (g := (mkF m 37 #[.val (.int p1), .val (.int p2), .val (.ref w_UNKNOWN), .val (.ref w_FALSE), .val (.ref w_UNKNOWN)] [(.ref w_FALSE), (.int (1 : Int32)), (.int (1 : Int32))])) rfl (by rw [hml]; rfl) (lenOf (ps := [(.object "com/example/steady_broker/steadybroker/selector/Condition$Truth")]) (r := (some .int)) (by decide +kernel) rfl) rfl (by show 2 * 0 + _ ≤ _; exact Nat.le_of_eq rfl) (hb hby at_37)
      obtain ⟨rfl, e54, rfl⟩ := Q54
      refine own_go (T' := T54) (g' := (mkF m 40 #[.val (.int p1), .val (.int p2), .val (.ref w_UNKNOWN), .val (.ref w_FALSE), .val (.ref w_UNKNOWN)] [(.int (0 : Int32)), (.int (1 : Int32)), (.int (1 : Int32))])) (fun t q => st54 t q) ?_
      obtain ⟨v55, T55, L55, X55, Q55, st55⟩ := own_callS X54 hx hZ (y := (⟨"java/lang/Math", "max", "(II)I"⟩ : MethodName)) (argsL := [(.int (1 : Int32)), (.int (0 : Int32))]) (rest := [(.int (1 : Int32))]) hown (hw _ (List.mem_of_getElem? (i := 17) rfl)) (hw _ (List.mem_of_getElem? (i := 18) rfl)) (hw _ (List.mem_of_getElem? (i := 19) rfl)) (hw _ (List.mem_of_getElem? (i := 20) rfl)) (rm_m_1_0 l Z a0 hw [] h0) e54 (by decide) (by decide) 1 (by decide) (by decide) (by decide) (g := (mkF m 40 #[.val (.int p1), .val (.int p2), .val (.ref w_UNKNOWN), .val (.ref w_FALSE), .val (.ref w_UNKNOWN)] [(.int (0 : Int32)), (.int (1 : Int32)), (.int (1 : Int32))])) rfl (by rw [hml]; rfl) (lenOf (ps := [.int, .int]) (r := (some .int)) (by decide +kernel) rfl) rfl (by show 2 * 0 + _ ≤ _; exact Nat.le_of_eq rfl) (hb hby at_40)
      obtain ⟨rfl, e55, rfl⟩ := Q55
      refine own_go (T' := T55) (g' := (mkF m 43 #[.val (.int p1), .val (.int p2), .val (.ref w_UNKNOWN), .val (.ref w_FALSE), .val (.ref w_UNKNOWN)] [(.int (1 : Int32)), (.int (1 : Int32))])) (fun t q => st55 t q) ?_
      have c56 : (1 : Int32) = (1 : Int32) := by decide
      refine own_go (T' := T55) (g' := (mkF m 46 #[.val (.int p1), .val (.int p2), .val (.ref w_UNKNOWN), .val (.ref w_FALSE), .val (.ref w_UNKNOWN)] [])) (fun t q => XS.icmpNo X55.here hx rfl (hb hby at_43) rfl (teq c56).2 q) ?_
      refine own_go (T' := T55) (g' := (mkF m 47 #[.val (.int p1), .val (.int p2), .val (.ref w_UNKNOWN), .val (.ref w_FALSE), .val (.ref w_UNKNOWN)] [(.int (1 : Int32))])) (fun t q => XS.iconst X55.here hx rfl (hb hby at_46) q) ?_
      refine own_go (T' := T55) (g' := (mkF m 51 #[.val (.int p1), .val (.int p2), .val (.ref w_UNKNOWN), .val (.ref w_FALSE), .val (.ref w_UNKNOWN)] [(.int (1 : Int32))])) (fun t q => XS.goto X55.here hx rfl (pc0 := 47) (pc' := 51) rfl (hb hby at_47) (by decide) (by decide) q) ?_
      refine own_outN X55 hx hlk hret (t := .boolean) (by simp) (hb hby at_51) (w := (1 : Int32)) (by decide) ?_ (by decide) (by decide)
      exact ⟨rfl, Fr.nil _⟩
    · refine own_go (T' := T44) (g' := (mkF m 19 #[.val (.int p1), .val (.int p2), .val (.ref w_UNKNOWN), .unset, .unset] [(.ref w_UNKNOWN)])) (fun t q => st44 t q) ?_
      refine own_go (T' := T44) (g' := (mkF m 20 #[.val (.int p1), .val (.int p2), .val (.ref w_UNKNOWN), .val (.ref w_UNKNOWN), .unset] [])) (fun t q => XS.astoreN X44.here hx rfl (hb hby at_19) rfl rfl (l' := #[.val (.int p1), .val (.int p2), .val (.ref w_UNKNOWN), .val (.ref w_UNKNOWN), .unset]) rfl q) ?_
      refine own_go (T' := T44) (g' := (mkF m 21 #[.val (.int p1), .val (.int p2), .val (.ref w_UNKNOWN), .val (.ref w_UNKNOWN), .unset] [(.ref w_UNKNOWN)])) (fun t q => XS.aloadN X44.here hx rfl (hb hby at_20) rfl rfl q) ?_
      refine own_go (T' := T44) (g' := (mkF m 22 #[.val (.int p1), .val (.int p2), .val (.ref w_UNKNOWN), .val (.ref w_UNKNOWN), .unset] [(.ref w_UNKNOWN), (.ref w_UNKNOWN)])) (fun t q => XS.aloadN X44.here hx rfl (hb hby at_21) rfl rfl q) ?_
      obtain ⟨v57, T57, L57, X57, Q57, st57⟩ := own_callV X44 hx hZ (y := (⟨"com/example/steady_broker/steadybroker/selector/Condition$Truth", "or", "(Lcom/example/steady_broker/steadybroker/selector/Condition$Truth;)Lcom/example/steady_broker/steadybroker/selector/Condition$Truth;"⟩ : MethodName)) (b := w_UNKNOWN) (argsL := [(.ref w_UNKNOWN)]) (rest := []) hown (hw _ (List.mem_of_getElem? (i := 8) rfl)) (hw _ (List.mem_of_getElem? (i := 9) rfl)) (hw _ (List.mem_of_getElem? (i := 11) rfl)) (hw _ (List.mem_of_getElem? (i := 10) rfl)) (hw _ (List.mem_of_getElem? (i := 6) rfl)) (hw _ (List.mem_of_getElem? (i := 12) rfl)) (rm_op_UNKNOWN_UNKNOWN l Z a0 hw [] w_TRUE w_UNKNOWN w_FALSE h0 FX) e44 E_UNKNOWN (by decide) (by decide) 0 (by decide) (by decide) (by decide) (g := (mkF m 22 #[.val (.int p1), .val (.int p2), .val (.ref w_UNKNOWN), .val (.ref w_UNKNOWN), .unset] [(.ref w_UNKNOWN), (.ref w_UNKNOWN)])) rfl (by rw [hml]; rfl) (lenOf (ps := [(.object "com/example/steady_broker/steadybroker/selector/Condition$Truth")]) (r := (some (.object "com/example/steady_broker/steadybroker/selector/Condition$Truth"))) (by decide +kernel) rfl) rfl (by show 2 * 0 + _ ≤ _; exact Nat.le_of_eq rfl) (hb hby at_22)
      obtain ⟨rfl, e57, rfl⟩ := Q57
      refine own_go (T' := T57) (g' := (mkF m 25 #[.val (.int p1), .val (.int p2), .val (.ref w_UNKNOWN), .val (.ref w_UNKNOWN), .unset] [(.ref w_UNKNOWN)])) (fun t q => st57 t q) ?_
      refine own_go (T' := T57) (g' := (mkF m 27 #[.val (.int p1), .val (.int p2), .val (.ref w_UNKNOWN), .val (.ref w_UNKNOWN), .val (.ref w_UNKNOWN)] [])) (fun t q => XS.astore X57.here hx rfl (hb hby at_25) rfl rfl (l' := #[.val (.int p1), .val (.int p2), .val (.ref w_UNKNOWN), .val (.ref w_UNKNOWN), .val (.ref w_UNKNOWN)]) rfl q) ?_
      refine own_go (T' := T57) (g' := (mkF m 29 #[.val (.int p1), .val (.int p2), .val (.ref w_UNKNOWN), .val (.ref w_UNKNOWN), .val (.ref w_UNKNOWN)] [(.ref w_UNKNOWN)])) (fun t q => XS.aload X57.here hx rfl (hb hby at_27) rfl rfl q) ?_
      obtain ⟨v58, T58, L58, X58, Q58, st58⟩ := own_callS X57 hx hZ (y := (⟨"com/example/steady_broker/steadybroker/selector/TruthOrPinLaw", "rank", "(Lcom/example/steady_broker/steadybroker/selector/Condition$Truth;)I"⟩ : MethodName)) (argsL := [(.ref w_UNKNOWN)]) (rest := []) hown (hw _ (List.mem_of_getElem? (i := 14) rfl)) (hw _ (List.mem_of_getElem? (i := 15) rfl)) (hw _ (List.mem_of_getElem? (i := 3) rfl)) (hw _ (List.mem_of_getElem? (i := 16) rfl)) (rm_rank_UNKNOWN l Z a0 hw [] w_TRUE w_UNKNOWN w_FALSE h0 FX) e57 (by decide) (by decide) 0 (by decide) (by decide) (by decide) (g := (mkF m 29 #[.val (.int p1), .val (.int p2), .val (.ref w_UNKNOWN), .val (.ref w_UNKNOWN), .val (.ref w_UNKNOWN)] [(.ref w_UNKNOWN)])) rfl (by rw [hml]; rfl) (lenOf (ps := [(.object "com/example/steady_broker/steadybroker/selector/Condition$Truth")]) (r := (some .int)) (by decide +kernel) rfl) rfl (by show 2 * 0 + _ ≤ _; exact Nat.le_of_eq rfl) (hb hby at_29)
      obtain ⟨rfl, e58, rfl⟩ := Q58
      refine own_go (T' := T58) (g' := (mkF m 32 #[.val (.int p1), .val (.int p2), .val (.ref w_UNKNOWN), .val (.ref w_UNKNOWN), .val (.ref w_UNKNOWN)] [(.int (1 : Int32))])) (fun t q => st58 t q) ?_
      refine own_go (T' := T58) (g' := (mkF m 33 #[.val (.int p1), .val (.int p2), .val (.ref w_UNKNOWN), .val (.ref w_UNKNOWN), .val (.ref w_UNKNOWN)] [(.ref w_UNKNOWN), (.int (1 : Int32))])) (fun t q => XS.aloadN X58.here hx rfl (hb hby at_32) rfl rfl q) ?_
      obtain ⟨v59, T59, L59, X59, Q59, st59⟩ := own_callS X58 hx hZ (y := (⟨"com/example/steady_broker/steadybroker/selector/TruthOrPinLaw", "rank", "(Lcom/example/steady_broker/steadybroker/selector/Condition$Truth;)I"⟩ : MethodName)) (argsL := [(.ref w_UNKNOWN)]) (rest := [(.int (1 : Int32))]) hown (hw _ (List.mem_of_getElem? (i := 14) rfl)) (hw _ (List.mem_of_getElem? (i := 15) rfl)) (hw _ (List.mem_of_getElem? (i := 3) rfl)) (hw _ (List.mem_of_getElem? (i := 16) rfl)) (rm_rank_UNKNOWN l Z a0 hw [] w_TRUE w_UNKNOWN w_FALSE h0 FX) e58 (by decide) (by decide) 1 (by decide) (by decide) (by decide) (g := (mkF m 33 #[.val (.int p1), .val (.int p2), .val (.ref w_UNKNOWN), .val (.ref w_UNKNOWN), .val (.ref w_UNKNOWN)] [(.ref w_UNKNOWN), (.int (1 : Int32))])) rfl (by rw [hml]; rfl) (lenOf (ps := [(.object "com/example/steady_broker/steadybroker/selector/Condition$Truth")]) (r := (some .int)) (by decide +kernel) rfl) rfl (by show 2 * 0 + _ ≤ _; exact Nat.le_of_eq rfl) (hb hby at_33)
      obtain ⟨rfl, e59, rfl⟩ := Q59
      refine own_go (T' := T59) (g' := (mkF m 36 #[.val (.int p1), .val (.int p2), .val (.ref w_UNKNOWN), .val (.ref w_UNKNOWN), .val (.ref w_UNKNOWN)] [(.int (1 : Int32)), (.int (1 : Int32))])) (fun t q => st59 t q) ?_
      refine own_go (T' := T59) (g' := (mkF m 37 #[.val (.int p1), .val (.int p2), .val (.ref w_UNKNOWN), .val (.ref w_UNKNOWN), .val (.ref w_UNKNOWN)] [(.ref w_UNKNOWN), (.int (1 : Int32)), (.int (1 : Int32))])) (fun t q => XS.aloadN X59.here hx rfl (hb hby at_36) rfl rfl q) ?_
      obtain ⟨v60, T60, L60, X60, Q60, st60⟩ := own_callS X59 hx hZ (y := (⟨"com/example/steady_broker/steadybroker/selector/TruthOrPinLaw", "rank", "(Lcom/example/steady_broker/steadybroker/selector/Condition$Truth;)I"⟩ : MethodName)) (argsL := [(.ref w_UNKNOWN)]) (rest := [(.int (1 : Int32)), (.int (1 : Int32))]) hown (hw _ (List.mem_of_getElem? (i := 14) rfl)) (hw _ (List.mem_of_getElem? (i := 15) rfl)) (hw _ (List.mem_of_getElem? (i := 3) rfl)) (hw _ (List.mem_of_getElem? (i := 16) rfl)) (rm_rank_UNKNOWN l Z a0 hw [] w_TRUE w_UNKNOWN w_FALSE h0 FX) e59 (by decide) (by decide) 2 (by decide) (by decide) (by decide) (g := (mkF m 37 #[.val (.int p1), .val (.int p2), .val (.ref w_UNKNOWN), .val (.ref w_UNKNOWN), .val (.ref w_UNKNOWN)] [(.ref w_UNKNOWN), (.int (1 : Int32)), (.int (1 : Int32))])) rfl (by rw [hml]; rfl) (lenOf (ps := [(.object "com/example/steady_broker/steadybroker/selector/Condition$Truth")]) (r := (some .int)) (by decide +kernel) rfl) rfl (by show 2 * 0 + _ ≤ _; exact Nat.le_of_eq rfl) (hb hby at_37)
      obtain ⟨rfl, e60, rfl⟩ := Q60
      refine own_go (T' := T60) (g' := (mkF m 40 #[.val (.int p1), .val (.int p2), .val (.ref w_UNKNOWN), .val (.ref w_UNKNOWN), .val (.ref w_UNKNOWN)] [(.int (1 : Int32)), (.int (1 : Int32)), (.int (1 : Int32))])) (fun t q => st60 t q) ?_
      obtain ⟨v61, T61, L61, X61, Q61, st61⟩ := own_callS X60 hx hZ (y := (⟨"java/lang/Math", "max", "(II)I"⟩ : MethodName)) (argsL := [(.int (1 : Int32)), (.int (1 : Int32))]) (rest := [(.int (1 : Int32))]) hown (hw _ (List.mem_of_getElem? (i := 17) rfl)) (hw _ (List.mem_of_getElem? (i := 18) rfl)) (hw _ (List.mem_of_getElem? (i := 19) rfl)) (hw _ (List.mem_of_getElem? (i := 20) rfl)) (rm_m_1_1 l Z a0 hw [] h0) e60 (by decide) (by decide) 1 (by decide) (by decide) (by decide) (g := (mkF m 40 #[.val (.int p1), .val (.int p2), .val (.ref w_UNKNOWN), .val (.ref w_UNKNOWN), .val (.ref w_UNKNOWN)] [(.int (1 : Int32)), (.int (1 : Int32)), (.int (1 : Int32))])) rfl (by rw [hml]; rfl) (lenOf (ps := [.int, .int]) (r := (some .int)) (by decide +kernel) rfl) rfl (by show 2 * 0 + _ ≤ _; exact Nat.le_of_eq rfl) (hb hby at_40)
      obtain ⟨rfl, e61, rfl⟩ := Q61
      refine own_go (T' := T61) (g' := (mkF m 43 #[.val (.int p1), .val (.int p2), .val (.ref w_UNKNOWN), .val (.ref w_UNKNOWN), .val (.ref w_UNKNOWN)] [(.int (1 : Int32)), (.int (1 : Int32))])) (fun t q => st61 t q) ?_
      have c62 : (1 : Int32) = (1 : Int32) := by decide
      refine own_go (T' := T61) (g' := (mkF m 46 #[.val (.int p1), .val (.int p2), .val (.ref w_UNKNOWN), .val (.ref w_UNKNOWN), .val (.ref w_UNKNOWN)] [])) (fun t q => XS.icmpNo X61.here hx rfl (hb hby at_43) rfl (teq c62).2 q) ?_
      refine own_go (T' := T61) (g' := (mkF m 47 #[.val (.int p1), .val (.int p2), .val (.ref w_UNKNOWN), .val (.ref w_UNKNOWN), .val (.ref w_UNKNOWN)] [(.int (1 : Int32))])) (fun t q => XS.iconst X61.here hx rfl (hb hby at_46) q) ?_
      refine own_go (T' := T61) (g' := (mkF m 51 #[.val (.int p1), .val (.int p2), .val (.ref w_UNKNOWN), .val (.ref w_UNKNOWN), .val (.ref w_UNKNOWN)] [(.int (1 : Int32))])) (fun t q => XS.goto X61.here hx rfl (pc0 := 47) (pc' := 51) rfl (hb hby at_47) (by decide) (by decide) q) ?_
      refine own_outN X61 hx hlk hret (t := .boolean) (by simp) (hb hby at_51) (w := (1 : Int32)) (by decide) ?_ (by decide) (by decide)
      exact ⟨rfl, Fr.nil _⟩
set_option maxRecDepth 65536 in
set_option maxHeartbeats 40000000 in
theorem comes_1 {Post : Tables → Env → Array Value → State → Outcome → State → Prop} (hpost : ∀ tb e args s v u, (limb_1_1.after args s (.returned v) u = true ∧ limb_1_2.after args s (.returned v) u = true ∧ True) → FrameEnd s (.returned v) u (Jvm.fieldLocs frame_1_writes args s ++ Jvm.arrayLocs frame_1_arrays args s ++ Jvm.staticLocs frame_1_statics s) 0 0 → Post tb e args s (.returned v) u) :
    ArmFor flags0 classFile x code maxLocals ret World_1 tables_1 room_1 Calls_1 rest_1 Pre_1 Post := by
  intro l hfl _ _ p e ha hc hk s m args below hf hA hF happ hP
  obtain ⟨hcalls, hrest, hpre⟩ := hP
  obtain ⟨-, -, -, hnamed, -, -, -, hat⟩ := (Spec.applies_iff hf).mp happ
  obtain ⟨hg, hn⟩ := and_e (Cond.before_iff.mp (show (Jvm.Cond.and given_1 narrow_1).before args s = true from hpre))
  obtain ⟨h1, hg⟩ := and_e hg
  obtain ⟨g0, hg⟩ := and_e hg
  have g1 := hg
  obtain ⟨w0, w1, rfl⟩ : ∃ w0 w1 : Value, args = #[w0, w1] := by
    have hs : args.size = 2 := by simpa [Cond.value, given_1] using h1
    obtain ⟨L⟩ := args
    match L, hs with
    | [w0, w1], _ => exact ⟨w0, w1, rfl⟩
  have hw := fun d (hd : d ∈ tables_1) => atoms_spec (ws := Jvm.Cond.code x code maxLocals ret :: tables_1) hat d (List.mem_cons_of_mem _ hd)
  have hfit : Fit s := fun {y c} hc i hi => by
    obtain ⟨ha, rfl⟩ := Array.getElem?_eq_some_iff.mp hc
    have q := List.all_eq_true.mp ((Array.all_eq_true_iff_forall_mem.mp hF) _ (Array.getElem_mem ha)) i (List.mem_range.mpr hi)
    simpa [Array.getElem?_eq_getElem hi] using q
  obtain ⟨i0, b0⟩ := is_v g0
  obtain rfl : w0 = (.int i0) := Option.some.inj b0
  obtain ⟨i1, b1⟩ := is_v g1
  obtain rfl : w1 = (.int i1) := Option.some.inj b1
  obtain ⟨n0, hn⟩ := and_e hn
  obtain ⟨n1, hn⟩ := and_e hn
  obtain ⟨n2, hn⟩ := and_e hn
  obtain ⟨n3, hn⟩ := and_e hn
  obtain ⟨n4, hn⟩ := and_e hn
  have n5 := hn
  obtain ⟨w_TRUE, ev_TRUE⟩ := exa_v n0
  have S_TRUE := Sta.start ev_TRUE (Or.inr ⟨(hw _ (List.mem_of_getElem? (i := 6) rfl)), (hw _ (List.mem_of_getElem? (i := 7) rfl))⟩)
  have E_TRUE := Exa.start ev_TRUE n0
  obtain ⟨w_UNKNOWN, ev_UNKNOWN⟩ := exa_v n1
  have S_UNKNOWN := Sta.start ev_UNKNOWN (Or.inr ⟨(hw _ (List.mem_of_getElem? (i := 6) rfl)), (hw _ (List.mem_of_getElem? (i := 22) rfl))⟩)
  have E_UNKNOWN := Exa.start ev_UNKNOWN n1
  obtain ⟨w_FALSE, ev_FALSE⟩ := exa_v n2
  have S_FALSE := Sta.start ev_FALSE (Or.inr ⟨(hw _ (List.mem_of_getElem? (i := 6) rfl)), (hw _ (List.mem_of_getElem? (i := 24) rfl))⟩)
  have E_FALSE := Exa.start ev_FALSE n2
  have F_UNKNOWN_ordinal := own_fld ev_UNKNOWN (Term.int_eval _) n3
  have F_TRUE_ordinal := own_fld ev_TRUE (Term.int_eval _) n4
  have F_FALSE_ordinal := own_fld ev_FALSE (Term.int_eval _) n5
  have ne_UNKNOWN_TRUE := Fld.ne F_UNKNOWN_ordinal F_TRUE_ordinal (by decide)
  have ne_UNKNOWN_FALSE := Fld.ne F_UNKNOWN_ordinal F_FALSE_ordinal (by decide)
  have ne_TRUE_FALSE := Fld.ne F_TRUE_ordinal F_FALSE_ordinal (by decide)
  have FX : own_F s s.heap w_TRUE w_UNKNOWN w_FALSE := ⟨S_TRUE, E_TRUE, S_UNKNOWN, E_UNKNOWN, S_FALSE, E_FALSE, F_UNKNOWN_ordinal, F_TRUE_ordinal, F_FALSE_ordinal, ne_UNKNOWN_TRUE, ne_UNKNOWN_FALSE, ne_TRUE_FALSE⟩
  obtain ⟨n, o, h1, h2, h3, _, L, rfl, ⟨rfl, N⟩, hq⟩ := rm0 l s _ hw tables_1 i0 i1 w_TRUE w_UNKNOWN w_FALSE s.heap FX p e ha hc hk s m _ below hf ((Spec.applies_iff_loose hf).mp happ).1 ⟨rfl, State.Warmed39.refl s, rfl⟩ trivial
  refine ⟨n, _, h1, h2, h3, hpost _ _ _ _ _ _ ⟨Cond.after_iff.mpr rfl, Cond.after_iff.mpr (eq_i res_at (Term.int_eval (1)) rfl), trivial⟩ ⟨hq.1, hq.2.1, (hq.2.2.sift fun y hy => Or.inr (N y hy)).mono (by decide) (by decide)⟩⟩
theorem main_1_1 : Claimed_1_1 := comes_1 fun _ _ _ _ _ _ h hF => ⟨h.1, hF⟩
theorem main_1_2 : Claimed_1_2 := comes_1 fun _ _ _ _ _ _ h hF => ⟨h.2.1, hF⟩
end Jvm.Pilot.@@N@@
namespace Jvm.Pilot.@@N@@
open Jvm Jvm.ClassFile Sem Op Lib Jvm.Free Jvm.Stand Jvm.Pilot.@@N@@.Jvm.D
/-! MADE BY PROGRAM (witnessworld.py) out of the Statement's table words and the real class files: 14 classes; the members and pool entries that the words name. The judged class is class 1, her method 3. -/
namespace start1
open Jvm.ClassFile
def u (s : String) : CpInfo := .utf8 (stringToUtf16 s)
/-- a pool by its gaps: so many unusable entries, then the entry; so many at the end -/
def gap : Nat → List CpInfo → List CpInfo
  | 0, r => r
  | n + 1, r => .unusable :: gap n r
def poolList (es : List (Nat × CpInfo)) (last : Nat) : List CpInfo := es.foldr (fun e r => gap e.1 (e.2 :: r)) (gap last [])
def pool (es : List (Nat × CpInfo)) (last : Nat) : Array CpInfo := ⟨poolList es last⟩
def fileOf (pool : Array CpInfo) (this : Nat) (attrs : Array Attribute := #[]) (ms : Array MethodInfo := #[]) (fl : Nat := 33) (sup : Nat := 0) (ifs : Array Nat := #[]) (fds : Array FieldInfo := #[]) : ClassFile where
  minorVersion := 0
  majorVersion := 65
  constantPool := pool
  accessFlags := fl
  thisClass := this
  superClass := sup
  interfaces := ifs
  fields := fds
  methods := ms
  attributes := attrs
def plain (name : String) (sup : Option ClassId) : Class where
  name := name
  kind := .ordinary
  loader := none
  accessFlags := 33
  super := sup
  interfaces := #[]
  cf := none
  fields := #[]
  methods := #[]
  instanceTypes := #[]
  staticTypes := #[]
  resolved := #[]
  callSites := []
  init := .initialized
  statics := none
  mirror := none

def pool0 : Array CpInfo := pool [(5, u "<init>"), (0, u "()V"), (1, .class_ 10), (1, u "java/lang/Object")] 113

def k0m0 : Method := { name := "<init>", desc := "()V", sig := { parameters := [], returnType := none }, accessFlags := 1, code := none }
/-- java/lang/Object -/
def k0 : Class := { plain "java/lang/Object" none with
  accessFlags := 33
  interfaces := #[]
  cf := some (fileOf pool0 8 #[] #[{ accessFlags := 1, nameIndex := 5, descriptorIndex := 6, attributes := #[] }] 33 0 #[] #[])
  fields := #[]
  methods := #[k0m0]
  instanceTypes := #[]
  staticTypes := #[]
  resolved := Array.replicate 124 none
  statics := none }

def pool1 : Array CpInfo := pool [(2, .class_ 4), (1, u "java/lang/Object"), (0, u "<init>"), (0, u "()V"), (0, .fieldref 8 9), (0, .class_ 10), (0, .nameAndType 11 12), (0, u "com/example/steady_broker/steadybroker/selector/Condition$Truth"), (0, u "TRUE"), (0, u "Lcom/example/steady_broker/steadybroker/selector/Condition$Truth;"), (0, .fieldref 8 14), (0, .nameAndType 15 12), (0, u "FALSE"), (0, .fieldref 8 17), (0, .nameAndType 18 12), (0, u "UNKNOWN"), (0, .integer 2147483647), (0, .methodref 21 22), (0, .class_ 23), (0, .nameAndType 24 25), (0, u "com/example/steady_broker/steadybroker/selector/TruthOrPinLaw"), (0, u "pick"), (0, u "(I)Lcom/example/steady_broker/steadybroker/selector/Condition$Truth;"), (0, .methodref 8 27), (0, .nameAndType 28 29), (0, u "or"), (0, u "(Lcom/example/steady_broker/steadybroker/selector/Condition$Truth;)Lcom/example/steady_broker/steadybroker/selector/Condition$Truth;"), (0, .methodref 21 31), (0, .nameAndType 32 33), (0, u "rank"), (0, u "(Lcom/example/steady_broker/steadybroker/selector/Condition$Truth;)I"), (0, .methodref 35 36), (0, .class_ 37), (0, .nameAndType 38 39), (0, u "java/lang/Math"), (0, u "max"), (0, u "(II)I"), (3, u "law"), (0, u "(II)Z")] 6

def k1m0 : Method := { name := "<init>", desc := "()V", sig := { parameters := [], returnType := none }, accessFlags := 2, code := none }
def k1c1 : Code := { maxStack := 2, maxLocals := 1, code := method_2_code, exceptionTable := #[], attributes := #[] }
def k1m1 : Method := { name := "pick", desc := "(I)Lcom/example/steady_broker/steadybroker/selector/Condition$Truth;", sig := { parameters := [.int], returnType := some (.object "com/example/steady_broker/steadybroker/selector/Condition$Truth") }, accessFlags := 10, code := some k1c1 }
def k1c2 : Code := { maxStack := 2, maxLocals := 1, code := method_3_code, exceptionTable := #[], attributes := #[] }
def k1m2 : Method := { name := "rank", desc := "(Lcom/example/steady_broker/steadybroker/selector/Condition$Truth;)I", sig := { parameters := [(.object "com/example/steady_broker/steadybroker/selector/Condition$Truth")], returnType := some .int }, accessFlags := 10, code := some k1c2 }
def k1c3 : Code := { maxStack := 3, maxLocals := 5, code := code, exceptionTable := #[], attributes := #[] }
def k1m3 : Method := { name := "law", desc := "(II)Z", sig := { parameters := [.int, .int], returnType := some .boolean }, accessFlags := 9, code := some k1c3 }
/-- com/example/steady_broker/steadybroker/selector/TruthOrPinLaw -/
def k1 : Class := { plain "com/example/steady_broker/steadybroker/selector/TruthOrPinLaw" (some 0) with
  accessFlags := 49
  interfaces := #[]
  cf := some (fileOf pool1 21 #[] #[{ accessFlags := 2, nameIndex := 5, descriptorIndex := 6, attributes := #[] }, { accessFlags := 10, nameIndex := 24, descriptorIndex := 25, attributes := #[] }, { accessFlags := 10, nameIndex := 32, descriptorIndex := 33, attributes := #[] }, { accessFlags := 9, nameIndex := 43, descriptorIndex := 44, attributes := #[] }] 49 2 #[] #[])
  fields := #[]
  methods := #[k1m0, k1m1, k1m2, k1m3]
  instanceTypes := #[]
  staticTypes := #[]
  resolved := Array.replicate 51 none
  statics := none }

def pool2 : Array CpInfo := pool [(1, .class_ 2), (0, u "java/lang/constant/Constable"), (0, .class_ 4), (0, u "java/lang/Object")] 6

/-- java/lang/constant/Constable -/
def k2 : Class := { plain "java/lang/constant/Constable" (some 0) with
  accessFlags := 1537
  interfaces := #[]
  cf := some (fileOf pool2 1 #[] #[] 1537 3 #[] #[])
  fields := #[]
  methods := #[]
  instanceTypes := #[]
  staticTypes := #[]
  resolved := Array.replicate 11 none
  statics := none }

def pool3 : Array CpInfo := pool [(1, .class_ 2), (0, u "java/lang/Comparable"), (0, .class_ 4), (0, u "java/lang/Object")] 7

/-- java/lang/Comparable -/
def k3 : Class := { plain "java/lang/Comparable" (some 0) with
  accessFlags := 1537
  interfaces := #[]
  cf := some (fileOf pool3 1 #[] #[] 1537 3 #[] #[])
  fields := #[]
  methods := #[]
  instanceTypes := #[]
  staticTypes := #[]
  resolved := Array.replicate 12 none
  statics := none }

def pool4 : Array CpInfo := pool [(1, .class_ 2), (0, u "java/io/Serializable"), (0, .class_ 4), (0, u "java/lang/Object")] 2

/-- java/io/Serializable -/
def k4 : Class := { plain "java/io/Serializable" (some 0) with
  accessFlags := 1537
  interfaces := #[]
  cf := some (fileOf pool4 1 #[] #[] 1537 3 #[] #[])
  fields := #[]
  methods := #[]
  instanceTypes := #[]
  staticTypes := #[]
  resolved := Array.replicate 7 none
  statics := none }

def pool5 : Array CpInfo := pool [(2, .class_ 4), (1, u "java/lang/Enum"), (0, u "name"), (0, u "Ljava/lang/String;"), (2, u "ordinal"), (0, u "I"), (1, .class_ 14), (1, u "java/lang/Object"), (4, u "hash"), (86, .class_ 108), (1, u "java/lang/Enum$EnumDesc"), (2, .class_ 112), (0, u "java/lang/constant/Constable"), (0, .class_ 114), (0, u "java/lang/Comparable"), (0, .class_ 116), (0, u "java/io/Serializable")] 87

/-- java/lang/Enum -/
def k5 : Class := { plain "java/lang/Enum" (some 0) with
  accessFlags := 1057
  interfaces := #[2, 3, 4]
  cf := some (fileOf pool5 2 #[.nestMembers #[106]] #[] 1057 12 #[111, 113, 115] #[{ accessFlags := 18, nameIndex := 5, descriptorIndex := 6, attributes := #[] }, { accessFlags := 18, nameIndex := 9, descriptorIndex := 10, attributes := #[] }, { accessFlags := 2, nameIndex := 19, descriptorIndex := 10, attributes := #[] }])
  fields := #[{ name := "name", type := (.object "java/lang/String"), accessFlags := 18, slot := 0, constantValue := 0 }, { name := "ordinal", type := .int, accessFlags := 18, slot := 1, constantValue := 0 }, { name := "hash", type := .int, accessFlags := 2, slot := 2, constantValue := 0 }]
  methods := #[]
  instanceTypes := #[(.object "java/lang/String"), .int, .int]
  staticTypes := #[]
  resolved := Array.replicate 204 none
  statics := none }

def pool6 : Array CpInfo := pool [(1, .class_ 2), (0, u "com/example/steady_broker/steadybroker/selector/Condition"), (0, .class_ 4), (0, u "java/lang/Object"), (5, .class_ 11), (0, u "com/example/steady_broker/steadybroker/selector/Condition$Truth")] 2

/-- com/example/steady_broker/steadybroker/selector/Condition -/
def k6 : Class := { plain "com/example/steady_broker/steadybroker/selector/Condition" (some 0) with
  accessFlags := 1536
  interfaces := #[]
  cf := some (fileOf pool6 1 #[.nestMembers #[10]] #[] 1536 3 #[] #[])
  fields := #[]
  methods := #[]
  instanceTypes := #[]
  staticTypes := #[]
  resolved := Array.replicate 14 none
  statics := none }

def pool7 : Array CpInfo := pool [(1, .class_ 2), (0, u "com/example/steady_broker/steadybroker/selector/Condition$Truth"), (0, .fieldref 1 4), (0, .nameAndType 5 6), (0, u "TRUE"), (0, u "Lcom/example/steady_broker/steadybroker/selector/Condition$Truth;"), (0, .fieldref 1 8), (0, .nameAndType 9 6), (0, u "FALSE"), (0, .fieldref 1 11), (0, .nameAndType 12 6), (0, u "UNKNOWN"), (2, u "$VALUES"), (0, u "[Lcom/example/steady_broker/steadybroker/selector/Condition$Truth;"), (6, .class_ 25), (1, u "java/lang/Enum"), (23, .class_ 50), (0, u "com/example/steady_broker/steadybroker/selector/Condition"), (8, u "(Lcom/example/steady_broker/steadybroker/selector/Condition$Truth;)Lcom/example/steady_broker/steadybroker/selector/Condition$Truth;"), (1, u "or")] 13

def k7c0 : Code := { maxStack := 2, maxLocals := 3, code := prog_13_method_5_code, exceptionTable := #[], attributes := #[] }
def k7m0 : Method := { name := "or", desc := "(Lcom/example/steady_broker/steadybroker/selector/Condition$Truth;)Lcom/example/steady_broker/steadybroker/selector/Condition$Truth;", sig := { parameters := [(.object "com/example/steady_broker/steadybroker/selector/Condition$Truth")], returnType := some (.object "com/example/steady_broker/steadybroker/selector/Condition$Truth") }, accessFlags := 0, code := some k7c0 }
/-- com/example/steady_broker/steadybroker/selector/Condition$Truth -/
def k7 : Class := { plain "com/example/steady_broker/steadybroker/selector/Condition$Truth" (some 5) with
  accessFlags := 16433
  interfaces := #[6]
  cf := some (fileOf pool7 1 #[.nestHost 49] #[{ accessFlags := 0, nameIndex := 61, descriptorIndex := 59, attributes := #[] }] 16433 23 #[49] #[{ accessFlags := 16409, nameIndex := 5, descriptorIndex := 6, attributes := #[] }, { accessFlags := 16409, nameIndex := 9, descriptorIndex := 6, attributes := #[] }, { accessFlags := 16409, nameIndex := 12, descriptorIndex := 6, attributes := #[] }, { accessFlags := 4122, nameIndex := 15, descriptorIndex := 16, attributes := #[] }])
  fields := #[{ name := "TRUE", type := (.object "com/example/steady_broker/steadybroker/selector/Condition$Truth"), accessFlags := 16409, slot := 0, constantValue := 0 }, { name := "FALSE", type := (.object "com/example/steady_broker/steadybroker/selector/Condition$Truth"), accessFlags := 16409, slot := 1, constantValue := 0 }, { name := "UNKNOWN", type := (.object "com/example/steady_broker/steadybroker/selector/Condition$Truth"), accessFlags := 16409, slot := 2, constantValue := 0 }, { name := "$VALUES", type := (.array (.object "com/example/steady_broker/steadybroker/selector/Condition$Truth")), accessFlags := 4122, slot := 3, constantValue := 0 }]
  methods := #[k7m0]
  instanceTypes := #[(.object "java/lang/String"), .int, .int]
  staticTypes := #[(.object "com/example/steady_broker/steadybroker/selector/Condition$Truth"), (.object "com/example/steady_broker/steadybroker/selector/Condition$Truth"), (.object "com/example/steady_broker/steadybroker/selector/Condition$Truth"), (.array (.object "com/example/steady_broker/steadybroker/selector/Condition$Truth"))]
  resolved := Array.replicate 75 none
  statics := some 0 }

def pool8 : Array CpInfo := pool [(1, .class_ 2), (0, u "java/lang/Math"), (1, .class_ 6), (1, u "java/lang/Object"), (0, u "<init>"), (0, u "()V"), (89, .class_ 100), (1, u "java/lang/Math$RandomNumberGeneratorHolder"), (71, u "negativeZeroFloatBits"), (0, u "J"), (2, u "negativeZeroDoubleBits"), (21, u "max"), (46, u "$assertionsDisabled"), (0, u "Z"), (88, u "(II)I"), (2, u "twoToTheDoubleScaleDown"), (0, u "D"), (4, u "twoToTheDoubleScaleUp"), (9, u "E"), (3, u "PI"), (2, u "TAU"), (2, u "DEGREES_TO_RADIANS"), (0, u "RADIANS_TO_DEGREES")] 94

def k8m0 : Method := { name := "<init>", desc := "()V", sig := { parameters := [], returnType := none }, accessFlags := 2, code := none }
def k8c1 : Code := { maxStack := 2, maxLocals := 2, code := jdk_29_method_65_code, exceptionTable := #[], attributes := #[] }
def k8m1 : Method := { name := "max", desc := "(II)I", sig := { parameters := [.int, .int], returnType := some .int }, accessFlags := 9, code := some k8c1 }
/-- java/lang/Math -/
def k8 : Class := { plain "java/lang/Math" (some 0) with
  accessFlags := 49
  interfaces := #[]
  cf := some (fileOf pool8 1 #[.nestMembers #[98]] #[{ accessFlags := 2, nameIndex := 7, descriptorIndex := 8, attributes := #[] }, { accessFlags := 9, nameIndex := 198, descriptorIndex := 335, attributes := #[] }] 49 4 #[] #[{ accessFlags := 25, nameIndex := 354, descriptorIndex := 339, attributes := #[] }, { accessFlags := 25, nameIndex := 358, descriptorIndex := 339, attributes := #[] }, { accessFlags := 25, nameIndex := 361, descriptorIndex := 339, attributes := #[] }, { accessFlags := 26, nameIndex := 364, descriptorIndex := 339, attributes := #[] }, { accessFlags := 26, nameIndex := 365, descriptorIndex := 339, attributes := #[] }, { accessFlags := 26, nameIndex := 172, descriptorIndex := 173, attributes := #[] }, { accessFlags := 26, nameIndex := 176, descriptorIndex := 173, attributes := #[] }, { accessFlags := 8, nameIndex := 344, descriptorIndex := 339, attributes := #[] }, { accessFlags := 8, nameIndex := 338, descriptorIndex := 339, attributes := #[] }, { accessFlags := 4120, nameIndex := 245, descriptorIndex := 246, attributes := #[] }])
  fields := #[{ name := "E", type := .double, accessFlags := 25, slot := 0, constantValue := 0 }, { name := "PI", type := .double, accessFlags := 25, slot := 1, constantValue := 0 }, { name := "TAU", type := .double, accessFlags := 25, slot := 2, constantValue := 0 }, { name := "DEGREES_TO_RADIANS", type := .double, accessFlags := 26, slot := 3, constantValue := 0 }, { name := "RADIANS_TO_DEGREES", type := .double, accessFlags := 26, slot := 4, constantValue := 0 }, { name := "negativeZeroFloatBits", type := .long, accessFlags := 26, slot := 5, constantValue := 0 }, { name := "negativeZeroDoubleBits", type := .long, accessFlags := 26, slot := 6, constantValue := 0 }, { name := "twoToTheDoubleScaleUp", type := .double, accessFlags := 8, slot := 7, constantValue := 0 }, { name := "twoToTheDoubleScaleDown", type := .double, accessFlags := 8, slot := 8, constantValue := 0 }, { name := "$assertionsDisabled", type := .boolean, accessFlags := 4120, slot := 9, constantValue := 0 }]
  methods := #[k8m0, k8m1]
  instanceTypes := #[]
  staticTypes := #[.double, .double, .double, .double, .double, .long, .long, .double, .double, .boolean]
  resolved := Array.replicate 460 none
  statics := none }

def pool9 : Array CpInfo := pool [(1, u "java/lang/Cloneable"), (0, .class_ 1), (0, u "java/lang/Object"), (0, .class_ 3)] 3

/-- java/lang/Cloneable -/
def k9 : Class := { plain "java/lang/Cloneable" (some 0) with
  accessFlags := 1537
  interfaces := #[]
  cf := some (fileOf pool9 2 #[] #[] 1537 4 #[] #[])
  fields := #[]
  methods := #[]
  instanceTypes := #[]
  staticTypes := #[]
  resolved := Array.replicate 8 none
  statics := none }

/-- the primitive byte -/
def k10 : Class := { plain "byte" none with kind := .primitive 'B', accessFlags := 0x411 }
/-- [B -/
def k11 : Class := { plain "[B" (some 0) with kind := .array 10 .byte, interfaces := #[9, 4], accessFlags := 1041 }

/-- the primitive int -/
def k12 : Class := { plain "int" none with kind := .primitive 'I', accessFlags := 0x411 }
/-- [I -/
def k13 : Class := { plain "[I" (some 0) with kind := .array 12 .int, interfaces := #[9, 4], accessFlags := 1041 }

def heap : Heap := #[{ cls := 7, slots := #[.ref 1, .ref 3, .ref 2, .null], vm := .statics 7 },
  { cls := 7, slots := #[.null, .int 0, .int 0], vm := .none },
  { cls := 7, slots := #[.null, .int 2, .int 0], vm := .none },
  { cls := 7, slots := #[.null, .int 1, .int 0], vm := .none }]
def classes : Array Class := #[k0, k1, k2, k3, k4, k5, k6, k7, k8, k9, k10, k11, k12, k13]
def interned : List (Array UInt16 × Addr) := []
def slotsUsed : Nat := 13
def theMethod : MethodId := ⟨1, 3⟩
def args0 : Array Value := #[.int 5, .int 7]
def aboutOver (below : List Frame) : State where
  vm := { classes := classes, interned := interned.toArray }
  heap := heap
  slotsUsed := slotsUsed
  threads := #[{ frames := .invoking theMethod args0 :: below }]
def below0 : List Frame := [.native { method := ⟨0, 0⟩, args := #[] }]
def about1 : State := aboutOver below0
def p0 : Program := .bare "" "" ""
def e0 : Env := launch0.env 0 0 0
theorem w_frames : about1.frames = Frame.invoking theMethod args0 :: below0 := rfl
set_option maxRecDepth 65536 in
theorem w_args : argsFit about1.vm theMethod args0 = true := by decide +kernel
set_option maxRecDepth 65536 in
theorem w_heap : heapFits about1 = true := by decide +kernel
set_option maxRecDepth 65536 in
theorem w_runnable : about1.curStatus? = some .runnable := by decide +kernel
set_option maxRecDepth 65536 in
theorem w_alone : about1.alone = true := by decide +kernel
set_option maxRecDepth 65536 in
theorem w_named : about1.methodNamed? x = some theMethod := by decide +kernel
set_option maxRecDepth 65536 in
theorem w_hears : about1.hears theMethod below0 = true := by decide +kernel
set_option maxRecDepth 65536 in
theorem w_ripe : about1.ripe theMethod args0 below0 = true := by decide +kernel
theorem w_running : about1.status = .running := rfl
set_option maxRecDepth 65536 in
theorem w_room : about1.hasRoom e0.platform room_1 = true :=
  launch0.hasRoom_least _ room_1 (by decide +kernel) (by decide +kernel) (by decide +kernel) (by decide +kernel) (by decide +kernel) (by decide +kernel)
theorem allAtoms_all (ts : List Jvm.Cond) (a : Array Jvm.Value) (st : Jvm.State) : (allAtoms ts).before a st = ts.all (fun c => c.before a st) := by
  induction ts with
  | nil => rfl
  | cons c t ih =>
    show (Jvm.Cond.and c (allAtoms t)).before a st = _
    rw [Jvm.Cond.before_and, ih, List.all_cons]
def words1 : List Jvm.Cond := Jvm.Cond.code x code maxLocals ret :: tables_1
/-- a 'code' word, met by the world's own term for the bytes: nothing is compared byte by byte -/
theorem code_word {y : MethodName} {bytes : ByteArray} {mx : Nat} {rt : Option FieldType} {a : Array Value} {s : State} {m : MethodId} {meth : Method} {c : Code} (h1 : s.methodNamed? y = some m) (h2 : s.vm.method? m = some meth) (h3 : meth.code = some c) (h4 : c.code = bytes)
    (h5 : (c.maxLocals == mx && c.exceptionTable.isEmpty && decide (c.maxStack ≤ mostOperands) && decide (meth.sig.returnType = rt) && !meth.locks && decide (parseMethodDescriptor y.desc = some meth.sig)) = true) : (Jvm.Cond.code y bytes mx rt).before a s = true := by
  simp only [Bool.and_eq_true, beq_iff_eq, Bool.not_eq_true', decide_eq_true_eq] at h5
  obtain ⟨⟨⟨⟨⟨g1, g2⟩, g3⟩, g4⟩, g5⟩, g6⟩ := h5
  simp [Cond.before, Cond.holds, Cond.value, h1, h2, h3, h4, g1, g2, g3, g4, g5, g6]
def isCode : Jvm.Cond → Bool
  | .code _ _ _ _ => true
  | _ => false
theorem all_split {L : List Jvm.Cond} {P : Jvm.Cond → Bool} (h1 : L.all (fun c => isCode c || P c) = true) (h2 : ∀ c ∈ L.filter isCode, P c = true) : L.all P = true := by
  refine List.all_eq_true.mpr fun c hc => ?_
  have h := List.all_eq_true.mp h1 c hc
  rcases Bool.eq_false_or_eq_true (isCode c) with hi | hi
  · exact h2 c (List.mem_filter.mpr ⟨hc, hi⟩)
  · simpa [hi] using h
set_option maxRecDepth 65536 in
theorem w_c0 : (Jvm.Cond.code x code maxLocals ret).before args0 about1 = true := code_word (m := ⟨1, 3⟩) (meth := k1m3) (c := k1c3) (by decide +kernel) rfl rfl rfl (by decide +kernel)
set_option maxRecDepth 65536 in
theorem w_c1 : (Jvm.Cond.code ({ cls := "com/example/steady_broker/steadybroker/selector/TruthOrPinLaw", name := "pick", desc := "(I)Lcom/example/steady_broker/steadybroker/selector/Condition$Truth;" } : Jvm.MethodName) method_2_code (1 : Nat) (Option.some (Jvm.ClassFile.FieldType.object "com/example/steady_broker/steadybroker/selector/Condition$Truth"))).before args0 about1 = true := code_word (m := ⟨1, 1⟩) (meth := k1m1) (c := k1c1) (by decide +kernel) rfl rfl rfl (by decide +kernel)
set_option maxRecDepth 65536 in
theorem w_c2 : (Jvm.Cond.code ({ cls := "com/example/steady_broker/steadybroker/selector/Condition$Truth", name := "or", desc := "(Lcom/example/steady_broker/steadybroker/selector/Condition$Truth;)Lcom/example/steady_broker/steadybroker/selector/Condition$Truth;" } : Jvm.MethodName) prog_13_method_5_code (3 : Nat) (Option.some (Jvm.ClassFile.FieldType.object "com/example/steady_broker/steadybroker/selector/Condition$Truth"))).before args0 about1 = true := code_word (m := ⟨7, 0⟩) (meth := k7m0) (c := k7c0) (by decide +kernel) rfl rfl rfl (by decide +kernel)
set_option maxRecDepth 65536 in
theorem w_c3 : (Jvm.Cond.code ({ cls := "com/example/steady_broker/steadybroker/selector/TruthOrPinLaw", name := "rank", desc := "(Lcom/example/steady_broker/steadybroker/selector/Condition$Truth;)I" } : Jvm.MethodName) method_3_code (1 : Nat) (Option.some Jvm.ClassFile.FieldType.int)).before args0 about1 = true := code_word (m := ⟨1, 2⟩) (meth := k1m2) (c := k1c2) (by decide +kernel) rfl rfl rfl (by decide +kernel)
set_option maxRecDepth 65536 in
theorem w_c4 : (Jvm.Cond.code ({ cls := "java/lang/Math", name := "max", desc := "(II)I" } : Jvm.MethodName) jdk_29_method_65_code (2 : Nat) (Option.some Jvm.ClassFile.FieldType.int)).before args0 about1 = true := code_word (m := ⟨8, 1⟩) (meth := k8m1) (c := k8c1) (by decide +kernel) rfl rfl rfl (by decide +kernel)
def codes1 : List Jvm.Cond := [Jvm.Cond.code x code maxLocals ret, Jvm.Cond.code ({ cls := "com/example/steady_broker/steadybroker/selector/TruthOrPinLaw", name := "pick", desc := "(I)Lcom/example/steady_broker/steadybroker/selector/Condition$Truth;" } : Jvm.MethodName) method_2_code (1 : Nat) (Option.some (Jvm.ClassFile.FieldType.object "com/example/steady_broker/steadybroker/selector/Condition$Truth")), Jvm.Cond.code ({ cls := "com/example/steady_broker/steadybroker/selector/Condition$Truth", name := "or", desc := "(Lcom/example/steady_broker/steadybroker/selector/Condition$Truth;)Lcom/example/steady_broker/steadybroker/selector/Condition$Truth;" } : Jvm.MethodName) prog_13_method_5_code (3 : Nat) (Option.some (Jvm.ClassFile.FieldType.object "com/example/steady_broker/steadybroker/selector/Condition$Truth")), Jvm.Cond.code ({ cls := "com/example/steady_broker/steadybroker/selector/TruthOrPinLaw", name := "rank", desc := "(Lcom/example/steady_broker/steadybroker/selector/Condition$Truth;)I" } : Jvm.MethodName) method_3_code (1 : Nat) (Option.some Jvm.ClassFile.FieldType.int), Jvm.Cond.code ({ cls := "java/lang/Math", name := "max", desc := "(II)I" } : Jvm.MethodName) jdk_29_method_65_code (2 : Nat) (Option.some Jvm.ClassFile.FieldType.int)]
set_option maxRecDepth 65536 in
theorem codes_eq : words1.filter isCode = codes1 := rfl
theorem w_codes : ∀ c ∈ words1.filter isCode, c.before args0 about1 = true := by
  rw [codes_eq]
  intro c hc
  simp only [codes1, List.mem_cons, List.not_mem_nil, or_false] at hc
  rcases hc with rfl | rfl | rfl | rfl | rfl
  · exact w_c0
  · exact w_c1
  · exact w_c2
  · exact w_c3
  · exact w_c4
set_option maxRecDepth 65536 in
theorem w_t1 : (words1.take 24).all (fun c => isCode c || c.before args0 about1) = true := by decide +kernel
set_option maxRecDepth 65536 in
theorem w_t2 : (words1.drop 24).all (fun c => isCode c || c.before args0 about1) = true := by decide +kernel
theorem w_tables : (allAtoms (Jvm.Cond.code x code maxLocals ret :: tables_1)).before args0 about1 = true := by
  rw [allAtoms_all]
  show words1.all (fun c => c.before args0 about1) = true
  refine all_split ?_ w_codes
  rw [← List.take_append_drop 24 words1, List.all_append, w_t1, w_t2]
  rfl
set_option maxRecDepth 65536 in
theorem w_case : (Jvm.Cond.and given_1 narrow_1).before args0 about1 = true := by decide +kernel
theorem w_applies : (headSpec (Jvm.Cond.code x code maxLocals ret :: tables_1) room_1).applies x e0.platform about1 = true :=
  (Spec.applies_iff w_frames).mpr ⟨w_running, w_runnable, w_alone, w_named, w_hears, w_ripe, w_room, w_tables⟩
theorem atStart : AtStart classFile x code maxLocals ret World_1 tables_1 room_1 Calls_1 rest_1 Pre_1 launch0 p0 e0 about1 theMethod args0 below0 :=
  ⟨lists_1, trivial, launch0.admits_env _ _ _, launch0.least_env, fairChoices_fair.cas, fairChoices_fair.clock, w_frames, w_args, w_heap, w_applies, trivial, trivial, w_case⟩
end start1
theorem witness_1 : WitnessClaimed_1 := ⟨start1.p0, start1.e0, start1.about1, start1.theMethod, start1.args0, start1.below0, start1.atStart⟩
end Jvm.Pilot.@@N@@
