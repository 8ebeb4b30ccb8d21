import JvmDerived
import JvmDerived.Pilot.@@N@@Statement
import JvmDerived.Pilot.@@N@@Code
set_option linter.unusedVariables false
set_option linter.unusedSimpArgs false
namespace Jvm.RoadKit
open Sem ClassFile Op Lib Jvm.Stand Jvm.Free Jvm.LawKit
section OwnWalk
variable {p : Program} {l : Launch} {e : Env} {R : Room} {s : State} {m : MethodId} {args : Array Value} {below : List Frame} {meth : Method} {c : Code} {T : State} {locs : List Loc} {cells slots : Nat} {Z : State} {a0 : Array Value} {h : Heap}
theorem retI (X : Stand p l e R s m args below meth c T locs cells slots) (hx : p.tables.exec = Jvm.exec) {pc : Nat} {Ls : Array Slot} {z : Int32} {rest : List Value} (hret : meth.sig.returnType = some .int) (hd : decode c.code pc = .ok (.ireturn, 1)) {fs : List Frame}
    (hl : ∀ (f : JFrame) (acts : List Action), f.method = m → f.locked = none → f.entered = [] → (doReturn e (T.setTop f) acts (some (.int z))).1 = T.setFrames fs) : Steps p.tables e below (T.setTop (mkF m pc Ls (.int z :: rest))) (T.setFrames fs) := by
  have hm' : T.vm.method? m = some meth := X.method'
  have hn : narrow .int (.int z) = .int z := rfl
  show Steps p.tables e below (T.setTop { method := m, pc := pc, locals := Ls, stack := _ :: rest, locked := none }) _
  jvm_step X.here [X.here.top, hx, hd, hm', hret, hn]
  first | (intro acts; rw [hl _ acts rfl rfl rfl]) | rw [hl _ _ rfl rfl rfl]
  exact Steps.refl _
/-- a body's contract at given arguments and a given heap -/
abbrev own_Met (l : Launch) (y : MethodName) (bytes : ByteArray) (maxL : Nat) (ret : Option FieldType) (ws : List Cond) (rm : Room) (Z : State) (as' : Array Value) (h : Heap) (Q : Option Value → Heap → List Loc → Prop) : Prop :=
  MetFree l y (head1 (Cond.code y bytes maxL ret :: ws) rm) (fun a U => a = as' ∧ Z.Warmed39 U.vm ∧ U.heap = h) (fun _ _ _ _ _ => True) (fun _ U o U' => ∃ v L, o = .returned v ∧ Q v U'.heap L ∧ FrameEnd U o U' L rm.cells rm.slots)
/-- from here the walk comes to its end, and Q holds there -/
def own_Go (p : Program) (e : Env) (below : List Frame) (s T : State) (g : JFrame) (k n : Nat) (Q : Option Value → Heap → List Loc → Prop) : Prop :=
  ∃ s₂ o, Steps p.tables e below (T.setTop g) s₂ ∧ s₂.status = .running ∧ Ended s₂ below o ∧ ∃ v L, o = .returned v ∧ Q v s₂.heap L ∧ FrameEnd s o s₂ L k n
variable {k n : Nat} {Q : Option Value → Heap → List Loc → Prop}
theorem own_in {g g' : JFrame} (ef : g = g') (q : own_Go p e below s T g' k n Q) : ∃ s₂ o, Steps p.tables e below (T.setTop g) s₂ ∧ s₂.status = .running ∧ Ended s₂ below o ∧ ∃ v L, o = .returned v ∧ Q v s₂.heap L ∧ FrameEnd s o s₂ L k n := by
  subst ef; exact q
theorem own_go {T' : State} {g g' : JFrame} (f : ∀ t, Steps p.tables e below (T'.setTop g') t → Steps p.tables e below (T.setTop g) t) (q : own_Go p e below s T' g' k n Q) : own_Go p e below s T g k n Q := by
  obtain ⟨s₂, o, h1, h2⟩ := q; exact ⟨s₂, o, f _ h1, h2⟩
theorem own_outI (X : Stand p l e R s m args below meth c T locs cells slots) (hx : p.tables.exec = Jvm.exec) (hlk : meth.locks = false) (hret : meth.sig.returnType = some .int) {pc : Nat} {Ls : Array Slot} {z : Int32} {rest : List Value} (hd : decode c.code pc = .ok (.ireturn, 1))
    (q : Q (some (.int z)) T.heap locs) (hk : cells ≤ k) (hn : slots ≤ n) : own_Go p e below s T (mkF m pc Ls (.int z :: rest)) k n Q := by
  obtain ⟨fs, hr, hrun, hended, hW, hsame⟩ := X.leave (v := some (.int z)) (fun h => by rw [hret] at h; cases h) hlk
  exact ⟨_, _, retI X hx hret hd hr, hrun, hended, _, _, rfl, q, ⟨_, rfl⟩, hW, hsame.mono hk hn⟩
theorem own_outN (X : Stand p l e R s m args below meth c T locs cells slots) (hx : p.tables.exec = Jvm.exec) (hlk : meth.locks = false) {t : FieldType} (hret : meth.sig.returnType = some t) (ht : t = .boolean ∨ t = .byte ∨ t = .char ∨ t = .short) {pc : Nat} {Ls : Array Slot} {z w : Int32} {rest : List Value} (hd : decode c.code pc = .ok (.ireturn, 1))
    (hw : nar t z = w) (q : Q (some (.int w)) T.heap locs) (hk : cells ≤ k) (hn : slots ≤ n) : own_Go p e below s T (mkF m pc Ls (.int z :: rest)) k n Q := by
  subst hw
  obtain ⟨fs, hr, hrun, hended, hW, hsame⟩ := X.leave (v := some (.int (nar t z))) (fun h => by rw [hret] at h; cases h) hlk
  exact ⟨_, _, retN X hx hret ht hd hr, hrun, hended, _, _, rfl, q, ⟨_, rfl⟩, hW, hsame.mono hk hn⟩
theorem own_outJ (X : Stand p l e R s m args below meth c T locs cells slots) (hx : p.tables.exec = Jvm.exec) (hlk : meth.locks = false) (hret : meth.sig.returnType = some .long) {pc : Nat} {Ls : Array Slot} {z : Int64} {rest : List Value} (hd : decode c.code pc = .ok (.lreturn, 1))
    (q : Q (some (.long z)) T.heap locs) (hk : cells ≤ k) (hn : slots ≤ n) : own_Go p e below s T (mkF m pc Ls (.long z :: rest)) k n Q := by
  obtain ⟨fs, hr, hrun, hended, hW, hsame⟩ := X.leave (v := some (.long z)) (fun h => by rw [hret] at h; cases h) hlk
  exact ⟨_, _, retOut X hx hret rfl (Or.inr (Or.inl ⟨rfl, rfl, _, rfl⟩)) hd hr, hrun, hended, _, _, rfl, q, ⟨_, rfl⟩, hW, hsame.mono hk hn⟩
theorem own_outD (X : Stand p l e R s m args below meth c T locs cells slots) (hx : p.tables.exec = Jvm.exec) (hlk : meth.locks = false) (hret : meth.sig.returnType = some .double) {pc : Nat} {Ls : Array Slot} {z : UInt64} {rest : List Value} (hd : decode c.code pc = .ok (.dreturn, 1))
    (q : Q (some (.double z)) T.heap locs) (hk : cells ≤ k) (hn : slots ≤ n) : own_Go p e below s T (mkF m pc Ls (.double z :: rest)) k n Q := by
  obtain ⟨fs, hr, hrun, hended, hW, hsame⟩ := X.leave (v := some (.double z)) (fun h => by rw [hret] at h; cases h) hlk
  exact ⟨_, _, retOut X hx hret rfl (Or.inr (Or.inr (Or.inl ⟨rfl, rfl, _, rfl⟩))) hd hr, hrun, hended, _, _, rfl, q, ⟨_, rfl⟩, hW, hsame.mono hk hn⟩
theorem own_outA (X : Stand p l e R s m args below meth c T locs cells slots) (hx : p.tables.exec = Jvm.exec) (hlk : meth.locks = false) {t : FieldType} (hret : meth.sig.returnType = some t) (ht : t.isReference = true) {pc : Nat} {Ls : Array Slot} {w : Value} {rest : List Value} (hwr : w.isRef = true) (hd : decode c.code pc = .ok (.areturn, 1))
    (q : Q (some w) T.heap locs) (hk : cells ≤ k) (hn : slots ≤ n) : own_Go p e below s T (mkF m pc Ls (w :: rest)) k n Q := by
  obtain ⟨fs, hr, hrun, hended, hW, hsame⟩ := X.leave (v := some w) (fun h => by rw [hret] at h; cases h) hlk
  have hnw : narrow t w = w := by rcases ref_cases hwr with rfl | ⟨a, rfl⟩ <;> cases t <;> first | rfl | cases ht
  exact ⟨_, _, retOut X hx hret hnw (Or.inr (Or.inr (Or.inr (Or.inr ⟨rfl, ht, hwr⟩)))) hd hr, hrun, hended, _, _, rfl, q, ⟨_, rfl⟩, hW, hsame.mono hk hn⟩
theorem own_outV (X : Stand p l e R s m args below meth c T locs cells slots) (hx : p.tables.exec = Jvm.exec) (hlk : meth.locks = false) (hret : meth.sig.returnType = none) {pc : Nat} {Ls : Array Slot} (hd : decode c.code pc = .ok (.return_, 1))
    (q : Q none T.heap locs) (hk : cells ≤ k) (hn : slots ≤ n) : own_Go p e below s T (mkF m pc Ls []) k n Q := by
  obtain ⟨fs, hr, hrun, hended, hW, hsame⟩ := X.leave (v := none) (fun _ => rfl) hlk
  exact ⟨_, _, X.returnOut hx hret hd hr, hrun, hended, _, _, rfl, q, ⟨_, rfl⟩, hW, hsame.mono hk hn⟩
theorem own_callS (X : Stand p l e R s m args below meth c T locs cells slots) (hx : p.tables.exec = Jvm.exec) (hZ : Z.Warmed39 s.vm) {own : String} {index : Nat} {y : MethodName} {bytes : ByteArray} {maxL : Nat} {ret : Option FieldType} {rm : Room} {argsL rest : List Value}
    (hown : s.vm.findClass own = some m.cls) (w1 : (Cond.methodLink own index y).before a0 Z = true) (w2 : (Cond.static y).before a0 Z = true) (w3 : (Cond.initialized y.cls).before a0 Z = true) (w4 : (Cond.code y bytes maxL ret).before a0 Z = true)
    (hM : own_Met l y bytes maxL ret [] rm Z argsL.toArray h Q) (eT : T.heap = h) (hy : y.cls ≠ "java/lang/invoke/MethodHandle" ∧ y.cls ≠ "java/lang/invoke/VarHandle") (hf : rm.frames + 1 ≤ R.frames) (W : Nat) (hl : W + (maxL + 11) + rm.locals ≤ R.locals) (hc : cells + rm.cells ≤ R.cells) (hs : slots + rm.slots ≤ R.slots)
    {g : JFrame} (hg : g.method = m) (hsize : g.locals.size = c.maxLocals) (hlen : ∀ sig, parseMethodDescriptor y.desc = some sig → argsL.length = sig.parameters.length) (hstack : g.stack = argsL.reverse ++ rest) (hW : 2 * g.monitorRoom + (rest.map fun v => v.category).sum ≤ W) (hd : decode c.code g.pc = .ok (.invokestatic index, 3)) :
    ∃ v T' L, Stand p l e R s m args below meth c T' (locs ++ L) (cells + rm.cells) (slots + rm.slots) ∧ Q v T'.heap L ∧ ∀ t, Steps p.tables e below (T'.setTop { g with pc := g.pc + 3, stack := v.toList ++ rest }) t → Steps p.tables e below (T.setTop g) t := by
  obtain ⟨v, _, ⟨T', L', k', n'⟩, -, X', ⟨Lc, hQ, l1, l2, l3⟩, st⟩ := Jvm.LawKit.callS X hx (y := y) hown (mvT hZ w1) (mvT hZ w2) (mvT hZ w3) (mvT hZ w4) hy (backOf (W := W) hM hZ w4 w3 hf hl) hg hsize (argsL := argsL) (rest := rest) hlen hstack hW hd (fun _ _ => ⟨rfl, eT, hc, hs⟩)
  dsimp only [Pt.U, Pt.locs, Pt.cells, Pt.slots] at X' l1 l2 l3 st hQ
  subst l1 l2 l3
  exact ⟨v, T', Lc, X', hQ, st⟩
theorem own_callV (X : Stand p l e R s m args below meth c T locs cells slots) (hx : p.tables.exec = Jvm.exec) (hZ : Z.Warmed39 s.vm) {own C : String} {index : Nat} {y : MethodName} {bytes : ByteArray} {maxL : Nat} {ret : Option FieldType} {rm : Room} {b : Addr} {argsL rest : List Value}
    (hown : s.vm.findClass own = some m.cls) (w1 : (Cond.methodLink own index y).before a0 Z = true) (w2 : (Cond.declares y).before a0 Z = true) (w3 : (Cond.selects C y y).before a0 Z = true) (w4 : (Cond.instanceMethod y).before a0 Z = true) (w5 : (Cond.initialized y.cls).before a0 Z = true) (w6 : (Cond.code y bytes maxL ret).before a0 Z = true)
    (hM : own_Met l y bytes maxL ret [] rm Z (.ref b :: argsL).toArray h Q) (eT : T.heap = h) (E : Exa Z h b C) (hy : y.cls ≠ "java/lang/invoke/MethodHandle" ∧ y.cls ≠ "java/lang/invoke/VarHandle") (hf : rm.frames + 1 ≤ R.frames) (W : Nat) (hl : W + (maxL + 11) + rm.locals ≤ R.locals) (hc : cells + rm.cells ≤ R.cells) (hs : slots + rm.slots ≤ R.slots)
    {g : JFrame} (hg : g.method = m) (hsize : g.locals.size = c.maxLocals) (hlen : ∀ sig, parseMethodDescriptor y.desc = some sig → argsL.length = sig.parameters.length) (hstack : g.stack = argsL.reverse ++ .ref b :: rest) (hW : 2 * g.monitorRoom + (rest.map fun v => v.category).sum ≤ W) (hd : decode c.code g.pc = .ok (.invokevirtual index, 3)) :
    ∃ v T' L, Stand p l e R s m args below meth c T' (locs ++ L) (cells + rm.cells) (slots + rm.slots) ∧ Q v T'.heap L ∧ ∀ t, Steps p.tables e below (T'.setTop { g with pc := g.pc + 3, stack := v.toList ++ rest }) t → Steps p.tables e below (T.setTop g) t := by
  obtain ⟨cq, kq, qa, qb, qc⟩ := isOf hZ eT E
  obtain ⟨v, _, ⟨T', L', k', n'⟩, -, X', ⟨Lc, hQ, l1, l2, l3⟩, st⟩ := X.virtualBack hx (y := y) (z := y) hown (mvT hZ w1) (mvT hZ w2) (notFace_of_selects (args := #[]) (mvT hZ w3)) (mvT hZ w3) (mvT hZ w4) hy (backOf (W := W) hM hZ w6 w5 hf hl) qa qc hg hsize (Steps.refl _) (argsL := argsL) (rest := rest) hlen hstack hW hd (fun _ _ => ⟨rfl, eT, hc, hs⟩)
  dsimp only [Pt.U, Pt.locs, Pt.cells, Pt.slots] at X' l1 l2 l3 st hQ
  subst l1 l2 l3
  exact ⟨v, T', Lc, X', hQ, fun t q => st.trans q⟩
theorem own_callP (X : Stand p l e R s m args below meth c T locs cells slots) (hx : p.tables.exec = Jvm.exec) (hZ : Z.Warmed39 s.vm) {own : String} {index : Nat} {y : MethodName} {bytes : ByteArray} {maxL : Nat} {rm : Room} {a : Addr} {argsL rest : List Value}
    (hown : s.vm.findClass own = some m.cls) (hy1 : y.name = "<init>") (w1 : (Cond.methodLink own index y).before a0 Z = true) (w2 : (Cond.instanceMethod y).before a0 Z = true) (w3 : (Cond.initialized y.cls).before a0 Z = true) (w4 : (Cond.code y bytes maxL none).before a0 Z = true)
    (hM : own_Met l y bytes maxL none [] rm Z (.ref a :: argsL).toArray h Q) (eT : T.heap = h) (hy : y.cls ≠ "java/lang/invoke/MethodHandle" ∧ y.cls ≠ "java/lang/invoke/VarHandle") (hf : rm.frames + 1 ≤ R.frames) (W : Nat) (hl : W + (maxL + 11) + rm.locals ≤ R.locals) (hc : cells + rm.cells ≤ R.cells) (hs : slots + rm.slots ≤ R.slots)
    {g : JFrame} (hg : g.method = m) (hsize : g.locals.size = c.maxLocals) (hlen : ∀ sig, parseMethodDescriptor y.desc = some sig → argsL.length = sig.parameters.length) (hstack : g.stack = argsL.reverse ++ .ref a :: rest) (hW : 2 * g.monitorRoom + (rest.map fun v => v.category).sum ≤ W) (hd : decode c.code g.pc = .ok (.invokespecial index, 3)) :
    ∃ v T' L, Stand p l e R s m args below meth c T' (locs ++ L) (cells + rm.cells) (slots + rm.slots) ∧ Q v T'.heap L ∧ ∀ t, Steps p.tables e below (T'.setTop { g with pc := g.pc + 3, stack := v.toList ++ rest }) t → Steps p.tables e below (T.setTop g) t := by
  obtain ⟨v, _, ⟨T', L', k', n'⟩, -, X', ⟨Lc, hQ, l1, l2, l3⟩, st⟩ := X.specialBack hx (y := y) hy1 hown (mvT hZ w1) (mvT hZ w2) (mvT hZ w4) hy (backOf (W := W) hM hZ w4 w3 hf hl) hg hsize (Steps.refl _) (a := a) (argsL := argsL) (rest := rest) hlen hstack hW hd (fun _ _ => ⟨rfl, eT, hc, hs⟩)
  dsimp only [Pt.U, Pt.locs, Pt.cells, Pt.slots] at X' l1 l2 l3 st hQ
  subst l1 l2 l3
  exact ⟨v, T', Lc, X', hQ, fun t q => st.trans q⟩
end OwnWalk
theorem own_llt (x y : Int64) : XT.cmpL x y < 0 ↔ x < y := by
  show (if y < x then (1 : Int32) else if x = y then 0 else -1) < 0 ↔ _
  split
  · rename_i h; exact ⟨fun q => absurd q (by decide), fun q => by rw [Int64.lt_iff_toInt_lt] at h q; omega⟩
  · rename_i h; split
    · rename_i h2; subst h2; exact ⟨fun q => absurd q (by decide), fun q => absurd q h⟩
    · rename_i h2; refine ⟨fun _ => ?_, fun _ => by decide⟩
      rw [← Int64.toInt_inj] at h2; rw [Int64.lt_iff_toInt_lt] at h ⊢; omega
theorem own_lgt (x y : Int64) : 0 < XT.cmpL x y ↔ y < x := by
  show 0 < (if y < x then (1 : Int32) else if x = y then 0 else -1) ↔ _
  split
  · rename_i h; exact ⟨fun _ => h, fun _ => by decide⟩
  · rename_i h; split
    · exact ⟨fun q => absurd q (by decide), fun q => absurd q h⟩
    · exact ⟨fun q => absurd q (by decide), fun q => absurd q h⟩
theorem own_leq (x y : Int64) : XT.cmpL x y = 0 ↔ x = y := by
  show (if y < x then (1 : Int32) else if x = y then 0 else -1) = 0 ↔ _
  split
  · rename_i h; refine ⟨fun q => absurd q (by decide), fun q => ?_⟩; subst q; exact absurd h (by simp only [Int64.lt_iff_toInt_lt]; omega)
  · split
    · rename_i h; exact ⟨fun _ => h, fun _ => rfl⟩
    · rename_i h; exact ⟨fun q => absurd q (by decide), fun q => absurd q h⟩
theorem own_at {x y : Value} (h : x = y) : XT.acmp .eq x y = true ∧ XT.acmp .ne x y = false := by subst h; exact ⟨decide_eq_true rfl, decide_eq_false fun q => q rfl⟩
theorem own_af {x y : Value} (h : ¬ (x = y)) : XT.acmp .eq x y = false ∧ XT.acmp .ne x y = true := ⟨decide_eq_false h, decide_eq_true h⟩
theorem own_fld {s : State} {args : Array Value} {t u : Term} {C n d : String} {a : Addr} {v : Value} (ev : t.eval args s none [] s = some (.ref a)) (hu : u.eval args s none [] s = some v) (hq : (Cond.eq (.field t C n d) u).value args s none s [] = some true) : Fld s s.heap a C n d v := by
  refine Fld.start ?_
  obtain ⟨x, y, h1, h2, -, -⟩ := cmp_v (Or.inl hq)
  cases hu.symm.trans h2
  have h3 := h1
  rw [fld_at ev] at h3
  simp only [Cond.value, h1, h2] at hq
  rw [h3]
  cases x <;> cases v <;> simp at hq ⊢ <;> exact hq
end Jvm.RoadKit
namespace Jvm.Pilot.@@N@@
open Jvm Jvm.ClassFile Sem Op Lib Jvm.Free Jvm.Stand Jvm.LawKit Jvm.RoadKit Bundle Jvm.Pilot.@@N@@.Jvm.D
theorem own_mod (p n : Int32) (hn : 0 < n.toInt) : 0 ≤ ((p &&& 2147483647) % n).toInt ∧ ((p &&& 2147483647) % n).toInt < n.toInt := by
  have h1 : (p &&& 2147483647).toInt = p.toInt % ((2 ^ 31 : Nat) : Int) := c_mask p 2147483647 31 (by decide) (by decide)
  rw [Int32.toInt_mod, h1]
  have h2 : 0 ≤ p.toInt % ((2 ^ 31 : Nat) : Int) := Int.emod_nonneg _ (by decide)
  exact ⟨Int.tmod_nonneg _ h2, Int.tmod_lt_of_pos _ hn⟩
theorem own_ne {k n : Int32} (h : k ≠ n) : k.toInt ≠ n.toInt := fun q => h (Int32.toInt_inj.mp q)
def own_F (Z : State) (h : Heap) (w_NONE w_SET_RATE_CLASS w_HOST_RATE_CLASS w_CLASSED_UNDERLYING w_DEPOSITOR w_NETTING_SET w_SWAPPED_COLLATERAL w_COLLATERAL w_SUBSTITUTION w_UNDERLYING w_COUNTERPARTY : Addr) : Prop := Sta Z h "com/example/ryudo/ryudo/model/Terms$Kind" "NONE" "Lcom/example/ryudo/ryudo/model/Terms$Kind;" (.ref w_NONE) ∧ Exa Z h w_NONE "com/example/ryudo/ryudo/model/Terms$Kind" ∧ Sta Z h "com/example/ryudo/ryudo/model/Terms$Kind" "SET_RATE_CLASS" "Lcom/example/ryudo/ryudo/model/Terms$Kind;" (.ref w_SET_RATE_CLASS) ∧ Exa Z h w_SET_RATE_CLASS "com/example/ryudo/ryudo/model/Terms$Kind" ∧ Sta Z h "com/example/ryudo/ryudo/model/Terms$Kind" "HOST_RATE_CLASS" "Lcom/example/ryudo/ryudo/model/Terms$Kind;" (.ref w_HOST_RATE_CLASS) ∧ Exa Z h w_HOST_RATE_CLASS "com/example/ryudo/ryudo/model/Terms$Kind" ∧ Sta Z h "com/example/ryudo/ryudo/model/Terms$Kind" "CLASSED_UNDERLYING" "Lcom/example/ryudo/ryudo/model/Terms$Kind;" (.ref w_CLASSED_UNDERLYING) ∧ Exa Z h w_CLASSED_UNDERLYING "com/example/ryudo/ryudo/model/Terms$Kind" ∧ Sta Z h "com/example/ryudo/ryudo/model/Terms$Kind" "DEPOSITOR" "Lcom/example/ryudo/ryudo/model/Terms$Kind;" (.ref w_DEPOSITOR) ∧ Exa Z h w_DEPOSITOR "com/example/ryudo/ryudo/model/Terms$Kind" ∧ Sta Z h "com/example/ryudo/ryudo/model/Terms$Kind" "NETTING_SET" "Lcom/example/ryudo/ryudo/model/Terms$Kind;" (.ref w_NETTING_SET) ∧ Exa Z h w_NETTING_SET "com/example/ryudo/ryudo/model/Terms$Kind" ∧ Sta Z h "com/example/ryudo/ryudo/model/Terms$Kind" "SWAPPED_COLLATERAL" "Lcom/example/ryudo/ryudo/model/Terms$Kind;" (.ref w_SWAPPED_COLLATERAL) ∧ Exa Z h w_SWAPPED_COLLATERAL "com/example/ryudo/ryudo/model/Terms$Kind" ∧ Sta Z h "com/example/ryudo/ryudo/model/Terms$Kind" "COLLATERAL" "Lcom/example/ryudo/ryudo/model/Terms$Kind;" (.ref w_COLLATERAL) ∧ Exa Z h w_COLLATERAL "com/example/ryudo/ryudo/model/Terms$Kind" ∧ Sta Z h "com/example/ryudo/ryudo/model/Terms$Kind" "SUBSTITUTION" "Lcom/example/ryudo/ryudo/model/Terms$Kind;" (.ref w_SUBSTITUTION) ∧ Exa Z h w_SUBSTITUTION "com/example/ryudo/ryudo/model/Terms$Kind" ∧ Sta Z h "com/example/ryudo/ryudo/model/Terms$Kind" "UNDERLYING" "Lcom/example/ryudo/ryudo/model/Terms$Kind;" (.ref w_UNDERLYING) ∧ Exa Z h w_UNDERLYING "com/example/ryudo/ryudo/model/Terms$Kind" ∧ Sta Z h "com/example/ryudo/ryudo/model/Terms$Kind" "COUNTERPARTY" "Lcom/example/ryudo/ryudo/model/Terms$Kind;" (.ref w_COUNTERPARTY) ∧ Exa Z h w_COUNTERPARTY "com/example/ryudo/ryudo/model/Terms$Kind" ∧ Fld Z h w_NONE "java/lang/Enum" "ordinal" "I" (.int (0 : Int32)) ∧ Fld Z h w_SET_RATE_CLASS "java/lang/Enum" "ordinal" "I" (.int (8 : Int32)) ∧ Fld Z h w_HOST_RATE_CLASS "java/lang/Enum" "ordinal" "I" (.int (9 : Int32)) ∧ Fld Z h w_CLASSED_UNDERLYING "java/lang/Enum" "ordinal" "I" (.int (7 : Int32)) ∧ Fld Z h w_DEPOSITOR "java/lang/Enum" "ordinal" "I" (.int (10 : Int32)) ∧ Fld Z h w_NETTING_SET "java/lang/Enum" "ordinal" "I" (.int (3 : Int32)) ∧ Fld Z h w_SWAPPED_COLLATERAL "java/lang/Enum" "ordinal" "I" (.int (2 : Int32)) ∧ Fld Z h w_COLLATERAL "java/lang/Enum" "ordinal" "I" (.int (1 : Int32)) ∧ Fld Z h w_SUBSTITUTION "java/lang/Enum" "ordinal" "I" (.int (5 : Int32)) ∧ Fld Z h w_UNDERLYING "java/lang/Enum" "ordinal" "I" (.int (6 : Int32)) ∧ Fld Z h w_COUNTERPARTY "java/lang/Enum" "ordinal" "I" (.int (4 : Int32)) ∧ w_NONE ≠ w_SET_RATE_CLASS ∧ w_NONE ≠ w_HOST_RATE_CLASS ∧ w_NONE ≠ w_CLASSED_UNDERLYING ∧ w_NONE ≠ w_DEPOSITOR ∧ w_SET_RATE_CLASS ≠ w_HOST_RATE_CLASS ∧ w_SET_RATE_CLASS ≠ w_CLASSED_UNDERLYING ∧ w_SET_RATE_CLASS ≠ w_DEPOSITOR ∧ w_SET_RATE_CLASS ≠ w_NETTING_SET ∧ w_SET_RATE_CLASS ≠ w_SWAPPED_COLLATERAL ∧ w_SET_RATE_CLASS ≠ w_COLLATERAL ∧ w_SET_RATE_CLASS ≠ w_SUBSTITUTION ∧ w_SET_RATE_CLASS ≠ w_UNDERLYING ∧ w_SET_RATE_CLASS ≠ w_COUNTERPARTY ∧ w_HOST_RATE_CLASS ≠ w_CLASSED_UNDERLYING ∧ w_HOST_RATE_CLASS ≠ w_DEPOSITOR ∧ w_HOST_RATE_CLASS ≠ w_NETTING_SET ∧ w_HOST_RATE_CLASS ≠ w_SWAPPED_COLLATERAL ∧ w_HOST_RATE_CLASS ≠ w_COLLATERAL ∧ w_HOST_RATE_CLASS ≠ w_SUBSTITUTION ∧ w_HOST_RATE_CLASS ≠ w_UNDERLYING ∧ w_HOST_RATE_CLASS ≠ w_COUNTERPARTY ∧ w_CLASSED_UNDERLYING ≠ w_DEPOSITOR ∧ w_CLASSED_UNDERLYING ≠ w_NETTING_SET ∧ w_CLASSED_UNDERLYING ≠ w_SWAPPED_COLLATERAL ∧ w_CLASSED_UNDERLYING ≠ w_COLLATERAL ∧ w_CLASSED_UNDERLYING ≠ w_SUBSTITUTION ∧ w_CLASSED_UNDERLYING ≠ w_UNDERLYING ∧ w_CLASSED_UNDERLYING ≠ w_COUNTERPARTY ∧ w_DEPOSITOR ≠ w_NETTING_SET ∧ w_DEPOSITOR ≠ w_SWAPPED_COLLATERAL ∧ w_DEPOSITOR ≠ w_COLLATERAL ∧ w_DEPOSITOR ≠ w_SUBSTITUTION ∧ w_DEPOSITOR ≠ w_UNDERLYING ∧ w_DEPOSITOR ≠ w_COUNTERPARTY
theorem d1_0 : decode method_2_code 0 = .ok (.iload_n 0, 1) := by decide +kernel
theorem d1_1 : decode method_2_code 1 = .ok (.ifCond .ne 7, 3) := by decide +kernel
theorem d1_4 : decode method_2_code 4 = .ok (.getstatic 7, 3) := by decide +kernel
theorem d1_7 : decode method_2_code 7 = .ok (.areturn, 1) := by decide +kernel
theorem d1_8 : decode method_2_code 8 = .ok (.iload_n 0, 1) := by decide +kernel
theorem d1_9 : decode method_2_code 9 = .ok (.iconst 1, 1) := by decide +kernel
theorem d1_10 : decode method_2_code 10 = .ok (.if_icmp .ne 7, 3) := by decide +kernel
theorem d1_13 : decode method_2_code 13 = .ok (.getstatic 13, 3) := by decide +kernel
theorem d1_16 : decode method_2_code 16 = .ok (.areturn, 1) := by decide +kernel
theorem d1_17 : decode method_2_code 17 = .ok (.iload_n 0, 1) := by decide +kernel
theorem d1_18 : decode method_2_code 18 = .ok (.iconst 2, 1) := by decide +kernel
theorem d1_19 : decode method_2_code 19 = .ok (.if_icmp .ne 7, 3) := by decide +kernel
theorem d1_22 : decode method_2_code 22 = .ok (.getstatic 16, 3) := by decide +kernel
theorem d1_25 : decode method_2_code 25 = .ok (.areturn, 1) := by decide +kernel
theorem d1_26 : decode method_2_code 26 = .ok (.iload_n 0, 1) := by decide +kernel
theorem d1_27 : decode method_2_code 27 = .ok (.iconst 3, 1) := by decide +kernel
theorem d1_28 : decode method_2_code 28 = .ok (.if_icmp .ne 7, 3) := by decide +kernel
theorem d1_31 : decode method_2_code 31 = .ok (.getstatic 19, 3) := by decide +kernel
theorem d1_34 : decode method_2_code 34 = .ok (.areturn, 1) := by decide +kernel
theorem d1_35 : decode method_2_code 35 = .ok (.iload_n 0, 1) := by decide +kernel
theorem d1_36 : decode method_2_code 36 = .ok (.iconst 4, 1) := by decide +kernel
theorem d1_37 : decode method_2_code 37 = .ok (.if_icmp .ne 7, 3) := by decide +kernel
theorem d1_40 : decode method_2_code 40 = .ok (.getstatic 22, 3) := by decide +kernel
theorem d1_43 : decode method_2_code 43 = .ok (.areturn, 1) := by decide +kernel
theorem d1_44 : decode method_2_code 44 = .ok (.iload_n 0, 1) := by decide +kernel
theorem d1_45 : decode method_2_code 45 = .ok (.iconst 5, 1) := by decide +kernel
theorem d1_46 : decode method_2_code 46 = .ok (.if_icmp .ne 7, 3) := by decide +kernel
theorem d1_49 : decode method_2_code 49 = .ok (.getstatic 25, 3) := by decide +kernel
theorem d1_52 : decode method_2_code 52 = .ok (.areturn, 1) := by decide +kernel
theorem d1_53 : decode method_2_code 53 = .ok (.iload_n 0, 1) := by decide +kernel
theorem d1_54 : decode method_2_code 54 = .ok (.bipush 6, 2) := by decide +kernel
theorem d1_56 : decode method_2_code 56 = .ok (.if_icmp .ne 7, 3) := by decide +kernel
theorem d1_59 : decode method_2_code 59 = .ok (.getstatic 28, 3) := by decide +kernel
theorem d1_62 : decode method_2_code 62 = .ok (.areturn, 1) := by decide +kernel
theorem d1_63 : decode method_2_code 63 = .ok (.iload_n 0, 1) := by decide +kernel
theorem d1_64 : decode method_2_code 64 = .ok (.bipush 7, 2) := by decide +kernel
theorem d1_66 : decode method_2_code 66 = .ok (.if_icmp .ne 7, 3) := by decide +kernel
theorem d1_69 : decode method_2_code 69 = .ok (.getstatic 31, 3) := by decide +kernel
theorem d1_72 : decode method_2_code 72 = .ok (.areturn, 1) := by decide +kernel
theorem d1_73 : decode method_2_code 73 = .ok (.iload_n 0, 1) := by decide +kernel
theorem d1_74 : decode method_2_code 74 = .ok (.bipush 8, 2) := by decide +kernel
theorem d1_76 : decode method_2_code 76 = .ok (.if_icmp .ne 7, 3) := by decide +kernel
theorem d1_79 : decode method_2_code 79 = .ok (.getstatic 34, 3) := by decide +kernel
theorem d1_82 : decode method_2_code 82 = .ok (.areturn, 1) := by decide +kernel
theorem d1_83 : decode method_2_code 83 = .ok (.iload_n 0, 1) := by decide +kernel
theorem d1_84 : decode method_2_code 84 = .ok (.bipush 9, 2) := by decide +kernel
theorem d1_86 : decode method_2_code 86 = .ok (.if_icmp .ne 7, 3) := by decide +kernel
theorem d1_89 : decode method_2_code 89 = .ok (.getstatic 37, 3) := by decide +kernel
theorem d1_92 : decode method_2_code 92 = .ok (.areturn, 1) := by decide +kernel
theorem d1_93 : decode method_2_code 93 = .ok (.getstatic 40, 3) := by decide +kernel
theorem d1_96 : decode method_2_code 96 = .ok (.areturn, 1) := by decide +kernel
set_option maxRecDepth 65536 in
set_option maxHeartbeats 40000000 in
theorem rm1 (l : Launch) (Z : State) (a0 : Array Value) (hw : ∀ d ∈ tables_1, d.before a0 Z = true) (ws : List Jvm.Cond) (p1 : Int32) (w_NONE w_SET_RATE_CLASS w_HOST_RATE_CLASS w_CLASSED_UNDERLYING w_DEPOSITOR w_NETTING_SET w_SWAPPED_COLLATERAL w_COLLATERAL w_SUBSTITUTION w_UNDERLYING w_COUNTERPARTY : Addr) (h0 : Heap) (FX : own_F Z h0 w_NONE w_SET_RATE_CLASS w_HOST_RATE_CLASS w_CLASSED_UNDERLYING w_DEPOSITOR w_NETTING_SET w_SWAPPED_COLLATERAL w_COLLATERAL w_SUBSTITUTION w_UNDERLYING w_COUNTERPARTY) :
    own_Met l (⟨"com/example/ryudo/ryudo/model/KindTakesRateClassPinLaw", "kindOf", "(I)Lcom/example/ryudo/ryudo/model/Terms$Kind;"⟩ : MethodName) method_2_code 1 (some (.object "com/example/ryudo/ryudo/model/Terms$Kind")) ws ({ frames := 0, cells := 0, slots := 0, locals := 0 } : Room) Z #[(.int p1)] h0 (fun v h L => ((p1 = 0 ∧ v = some (.ref w_NONE)) ∨ (p1 = 1 ∧ v = some (.ref w_COLLATERAL)) ∨ (p1 = 2 ∧ v = some (.ref w_SWAPPED_COLLATERAL)) ∨ (p1 = 3 ∧ v = some (.ref w_NETTING_SET)) ∨ (p1 = 4 ∧ v = some (.ref w_COUNTERPARTY)) ∨ (p1 = 5 ∧ v = some (.ref w_SUBSTITUTION)) ∨ (p1 = 6 ∧ v = some (.ref w_UNDERLYING)) ∨ (p1 = 7 ∧ v = some (.ref w_CLASSED_UNDERLYING)) ∨ (p1 = 8 ∧ v = some (.ref w_SET_RATE_CLASS)) ∨ (p1 = 9 ∧ v = some (.ref w_HOST_RATE_CLASS)) ∨ ((p1 ≠ 0 ∧ p1 ≠ 1 ∧ p1 ≠ 2 ∧ p1 ≠ 3 ∧ p1 ≠ 4 ∧ p1 ≠ 5 ∧ p1 ≠ 6 ∧ p1 ≠ 7 ∧ p1 ≠ 8 ∧ p1 ≠ 9) ∧ v = some (.ref w_DEPOSITOR))) ∧ h = h0 ∧ L = []) := by
  refine MetFree.of_bodySF (plainFor_of_name (by first | (simp [plainName, overriddenIn]; done) | decide +kernel)) hisR ?_
  intro p e s m args below meth c s₁ Bd hml0 hP hK
  obtain ⟨rfl, hZ, hh⟩ := hP
  have hx := Bd.exec
  have hby := Bd.bytes
  have hml : c.maxLocals = 1 := hml0
  have hown : s.vm.findClass "com/example/ryudo/ryudo/model/KindTakesRateClassPinLaw" = some m.cls := findClass_of_methodNamed Bd.named
  have hnm := (name_of_methodNamed Bd.named Bd.method).1
  have hlk : meth.locks = false := Bd.notSynchronized
  have hret := Bd.returns
  have X0 : Stand p l e ({ frames := 0, cells := 0, slots := 0, locals := 0 } : Room) s m #[(.int p1)] below meth c s₁ [] 0 0 := Stand.of_body Bd
  have e0 : s₁.heap = h0 := by rw [← hh, Bd.state]; rfl
  refine own_in (Q := fun v h L => ((p1 = 0 ∧ v = some (.ref w_NONE)) ∨ (p1 = 1 ∧ v = some (.ref w_COLLATERAL)) ∨ (p1 = 2 ∧ v = some (.ref w_SWAPPED_COLLATERAL)) ∨ (p1 = 3 ∧ v = some (.ref w_NETTING_SET)) ∨ (p1 = 4 ∧ v = some (.ref w_COUNTERPARTY)) ∨ (p1 = 5 ∧ v = some (.ref w_SUBSTITUTION)) ∨ (p1 = 6 ∧ v = some (.ref w_UNDERLYING)) ∨ (p1 = 7 ∧ v = some (.ref w_CLASSED_UNDERLYING)) ∨ (p1 = 8 ∧ v = some (.ref w_SET_RATE_CLASS)) ∨ (p1 = 9 ∧ v = some (.ref w_HOST_RATE_CLASS)) ∨ ((p1 ≠ 0 ∧ p1 ≠ 1 ∧ p1 ≠ 2 ∧ p1 ≠ 3 ∧ p1 ≠ 4 ∧ p1 ≠ 5 ∧ p1 ≠ 6 ∧ p1 ≠ 7 ∧ p1 ≠ 8 ∧ p1 ≠ 9) ∧ v = some (.ref w_DEPOSITOR))) ∧ h = h0 ∧ L = []) (ef := by first | (simp [entryFrame, mkF, argsToLocals, Value.category, maxLocals]; done) | rfl) (g' := (mkF m 0 #[.val (.int p1)] [])) ?_
  obtain ⟨S_NONE, E_NONE, S_SET_RATE_CLASS, E_SET_RATE_CLASS, S_HOST_RATE_CLASS, E_HOST_RATE_CLASS, S_CLASSED_UNDERLYING, E_CLASSED_UNDERLYING, S_DEPOSITOR, E_DEPOSITOR, S_NETTING_SET, E_NETTING_SET, S_SWAPPED_COLLATERAL, E_SWAPPED_COLLATERAL, S_COLLATERAL, E_COLLATERAL, S_SUBSTITUTION, E_SUBSTITUTION, S_UNDERLYING, E_UNDERLYING, S_COUNTERPARTY, E_COUNTERPARTY, F_NONE_ordinal, F_SET_RATE_CLASS_ordinal, F_HOST_RATE_CLASS_ordinal, F_CLASSED_UNDERLYING_ordinal, F_DEPOSITOR_ordinal, F_NETTING_SET_ordinal, F_SWAPPED_COLLATERAL_ordinal, F_COLLATERAL_ordinal, F_SUBSTITUTION_ordinal, F_UNDERLYING_ordinal, F_COUNTERPARTY_ordinal, ne_NONE_SET_RATE_CLASS, ne_NONE_HOST_RATE_CLASS, ne_NONE_CLASSED_UNDERLYING, ne_NONE_DEPOSITOR, ne_SET_RATE_CLASS_HOST_RATE_CLASS, ne_SET_RATE_CLASS_CLASSED_UNDERLYING, ne_SET_RATE_CLASS_DEPOSITOR, ne_SET_RATE_CLASS_NETTING_SET, ne_SET_RATE_CLASS_SWAPPED_COLLATERAL, ne_SET_RATE_CLASS_COLLATERAL, ne_SET_RATE_CLASS_SUBSTITUTION, ne_SET_RATE_CLASS_UNDERLYING, ne_SET_RATE_CLASS_COUNTERPARTY, ne_HOST_RATE_CLASS_CLASSED_UNDERLYING, ne_HOST_RATE_CLASS_DEPOSITOR, ne_HOST_RATE_CLASS_NETTING_SET, ne_HOST_RATE_CLASS_SWAPPED_COLLATERAL, ne_HOST_RATE_CLASS_COLLATERAL, ne_HOST_RATE_CLASS_SUBSTITUTION, ne_HOST_RATE_CLASS_UNDERLYING, ne_HOST_RATE_CLASS_COUNTERPARTY, ne_CLASSED_UNDERLYING_DEPOSITOR, ne_CLASSED_UNDERLYING_NETTING_SET, ne_CLASSED_UNDERLYING_SWAPPED_COLLATERAL, ne_CLASSED_UNDERLYING_COLLATERAL, ne_CLASSED_UNDERLYING_SUBSTITUTION, ne_CLASSED_UNDERLYING_UNDERLYING, ne_CLASSED_UNDERLYING_COUNTERPARTY, ne_DEPOSITOR_NETTING_SET, ne_DEPOSITOR_SWAPPED_COLLATERAL, ne_DEPOSITOR_COLLATERAL, ne_DEPOSITOR_SUBSTITUTION, ne_DEPOSITOR_UNDERLYING, ne_DEPOSITOR_COUNTERPARTY⟩ := id FX
  refine own_go (T' := s₁) (g' := (mkF m 1 #[.val (.int p1)] [(.int p1)])) (fun t q => XS.iloadN X0.here hx rfl (hb hby d1_0) rfl q) ?_
  by_cases c1 : p1 = (0 : Int32)
  · refine own_go (T' := s₁) (g' := (mkF m 4 #[.val (.int p1)] [])) (fun t q => XS.ifNo X0.here hx rfl (hb hby d1_1) rfl ((if0 _ _).trans (teq c1).2) q) ?_
    obtain ⟨T2, X2, e2, st2⟩ := getS2 X0 hx hZ hown (host := "") (Or.inl (hw _ (List.mem_of_getElem? (i := 5) rfl))) Via.refl e0 S_NONE (g := (mkF m 4 #[.val (.int p1)] [])) rfl (hb hby d1_4)
    refine own_go (T' := T2) (g' := (mkF m 7 #[.val (.int p1)] [(.ref w_NONE)])) (fun t q => st2 t q) ?_
    refine own_outA X2 hx hlk hret rfl rfl (hb hby d1_7) ?_ (by decide) (by decide)
    exact ⟨Or.inl ⟨c1, rfl⟩, e2, rfl⟩
  · refine own_go (T' := s₁) (g' := (mkF m 8 #[.val (.int p1)] [])) (fun t q => XS.ifYes X0.here hx rfl (pc0 := 1) (pc' := 8) rfl (hb hby d1_1) rfl ((if0 _ _).trans (feq c1).2) (by decide) (by decide) q) ?_
    refine own_go (T' := s₁) (g' := (mkF m 9 #[.val (.int p1)] [(.int p1)])) (fun t q => XS.iloadN X0.here hx rfl (hb hby d1_8) rfl q) ?_
    refine own_go (T' := s₁) (g' := (mkF m 10 #[.val (.int p1)] [(.int (1 : Int32)), (.int p1)])) (fun t q => XS.iconst X0.here hx rfl (hb hby d1_9) q) ?_
    by_cases c3 : p1 = (1 : Int32)
    · refine own_go (T' := s₁) (g' := (mkF m 13 #[.val (.int p1)] [])) (fun t q => XS.icmpNo X0.here hx rfl (hb hby d1_10) rfl (teq c3).2 q) ?_
      obtain ⟨T4, X4, e4, st4⟩ := getS2 X0 hx hZ hown (host := "") (Or.inl (hw _ (List.mem_of_getElem? (i := 31) rfl))) Via.refl e0 S_COLLATERAL (g := (mkF m 13 #[.val (.int p1)] [])) rfl (hb hby d1_13)
      refine own_go (T' := T4) (g' := (mkF m 16 #[.val (.int p1)] [(.ref w_COLLATERAL)])) (fun t q => st4 t q) ?_
      refine own_outA X4 hx hlk hret rfl rfl (hb hby d1_16) ?_ (by decide) (by decide)
      exact ⟨Or.inr (Or.inl ⟨c3, rfl⟩), e4, rfl⟩
    · refine own_go (T' := s₁) (g' := (mkF m 17 #[.val (.int p1)] [])) (fun t q => XS.icmpYes X0.here hx rfl (pc0 := 10) (pc' := 17) rfl (hb hby d1_10) rfl (feq c3).2 (by decide) (by decide) q) ?_
      refine own_go (T' := s₁) (g' := (mkF m 18 #[.val (.int p1)] [(.int p1)])) (fun t q => XS.iloadN X0.here hx rfl (hb hby d1_17) rfl q) ?_
      refine own_go (T' := s₁) (g' := (mkF m 19 #[.val (.int p1)] [(.int (2 : Int32)), (.int p1)])) (fun t q => XS.iconst X0.here hx rfl (hb hby d1_18) q) ?_
      by_cases c5 : p1 = (2 : Int32)
      · refine own_go (T' := s₁) (g' := (mkF m 22 #[.val (.int p1)] [])) (fun t q => XS.icmpNo X0.here hx rfl (hb hby d1_19) rfl (teq c5).2 q) ?_
        obtain ⟨T6, X6, e6, st6⟩ := getS2 X0 hx hZ hown (host := "") (Or.inl (hw _ (List.mem_of_getElem? (i := 28) rfl))) Via.refl e0 S_SWAPPED_COLLATERAL (g := (mkF m 22 #[.val (.int p1)] [])) rfl (hb hby d1_22)
        refine own_go (T' := T6) (g' := (mkF m 25 #[.val (.int p1)] [(.ref w_SWAPPED_COLLATERAL)])) (fun t q => st6 t q) ?_
        refine own_outA X6 hx hlk hret rfl rfl (hb hby d1_25) ?_ (by decide) (by decide)
        exact ⟨Or.inr (Or.inr (Or.inl ⟨c5, rfl⟩)), e6, rfl⟩
      · refine own_go (T' := s₁) (g' := (mkF m 26 #[.val (.int p1)] [])) (fun t q => XS.icmpYes X0.here hx rfl (pc0 := 19) (pc' := 26) rfl (hb hby d1_19) rfl (feq c5).2 (by decide) (by decide) q) ?_
        refine own_go (T' := s₁) (g' := (mkF m 27 #[.val (.int p1)] [(.int p1)])) (fun t q => XS.iloadN X0.here hx rfl (hb hby d1_26) rfl q) ?_
        refine own_go (T' := s₁) (g' := (mkF m 28 #[.val (.int p1)] [(.int (3 : Int32)), (.int p1)])) (fun t q => XS.iconst X0.here hx rfl (hb hby d1_27) q) ?_
        by_cases c7 : p1 = (3 : Int32)
        · refine own_go (T' := s₁) (g' := (mkF m 31 #[.val (.int p1)] [])) (fun t q => XS.icmpNo X0.here hx rfl (hb hby d1_28) rfl (teq c7).2 q) ?_
          obtain ⟨T8, X8, e8, st8⟩ := getS2 X0 hx hZ hown (host := "") (Or.inl (hw _ (List.mem_of_getElem? (i := 24) rfl))) Via.refl e0 S_NETTING_SET (g := (mkF m 31 #[.val (.int p1)] [])) rfl (hb hby d1_31)
          refine own_go (T' := T8) (g' := (mkF m 34 #[.val (.int p1)] [(.ref w_NETTING_SET)])) (fun t q => st8 t q) ?_
          refine own_outA X8 hx hlk hret rfl rfl (hb hby d1_34) ?_ (by decide) (by decide)
          exact ⟨Or.inr (Or.inr (Or.inr (Or.inl ⟨c7, rfl⟩))), e8, rfl⟩
        · refine own_go (T' := s₁) (g' := (mkF m 35 #[.val (.int p1)] [])) (fun t q => XS.icmpYes X0.here hx rfl (pc0 := 28) (pc' := 35) rfl (hb hby d1_28) rfl (feq c7).2 (by decide) (by decide) q) ?_
          refine own_go (T' := s₁) (g' := (mkF m 36 #[.val (.int p1)] [(.int p1)])) (fun t q => XS.iloadN X0.here hx rfl (hb hby d1_35) rfl q) ?_
          refine own_go (T' := s₁) (g' := (mkF m 37 #[.val (.int p1)] [(.int (4 : Int32)), (.int p1)])) (fun t q => XS.iconst X0.here hx rfl (hb hby d1_36) q) ?_
          by_cases c9 : p1 = (4 : Int32)
          · refine own_go (T' := s₁) (g' := (mkF m 40 #[.val (.int p1)] [])) (fun t q => XS.icmpNo X0.here hx rfl (hb hby d1_37) rfl (teq c9).2 q) ?_
            obtain ⟨T10, X10, e10, st10⟩ := getS2 X0 hx hZ hown (host := "") (Or.inl (hw _ (List.mem_of_getElem? (i := 38) rfl))) Via.refl e0 S_COUNTERPARTY (g := (mkF m 40 #[.val (.int p1)] [])) rfl (hb hby d1_40)
            refine own_go (T' := T10) (g' := (mkF m 43 #[.val (.int p1)] [(.ref w_COUNTERPARTY)])) (fun t q => st10 t q) ?_
            refine own_outA X10 hx hlk hret rfl rfl (hb hby d1_43) ?_ (by decide) (by decide)
            exact ⟨Or.inr (Or.inr (Or.inr (Or.inr (Or.inl ⟨c9, rfl⟩)))), e10, rfl⟩
          · refine own_go (T' := s₁) (g' := (mkF m 44 #[.val (.int p1)] [])) (fun t q => XS.icmpYes X0.here hx rfl (pc0 := 37) (pc' := 44) rfl (hb hby d1_37) rfl (feq c9).2 (by decide) (by decide) q) ?_
            refine own_go (T' := s₁) (g' := (mkF m 45 #[.val (.int p1)] [(.int p1)])) (fun t q => XS.iloadN X0.here hx rfl (hb hby d1_44) rfl q) ?_
            refine own_go (T' := s₁) (g' := (mkF m 46 #[.val (.int p1)] [(.int (5 : Int32)), (.int p1)])) (fun t q => XS.iconst X0.here hx rfl (hb hby d1_45) q) ?_
            by_cases c11 : p1 = (5 : Int32)
            · refine own_go (T' := s₁) (g' := (mkF m 49 #[.val (.int p1)] [])) (fun t q => XS.icmpNo X0.here hx rfl (hb hby d1_46) rfl (teq c11).2 q) ?_
              obtain ⟨T12, X12, e12, st12⟩ := getS2 X0 hx hZ hown (host := "") (Or.inl (hw _ (List.mem_of_getElem? (i := 34) rfl))) Via.refl e0 S_SUBSTITUTION (g := (mkF m 49 #[.val (.int p1)] [])) rfl (hb hby d1_49)
              refine own_go (T' := T12) (g' := (mkF m 52 #[.val (.int p1)] [(.ref w_SUBSTITUTION)])) (fun t q => st12 t q) ?_
              refine own_outA X12 hx hlk hret rfl rfl (hb hby d1_52) ?_ (by decide) (by decide)
              exact ⟨Or.inr (Or.inr (Or.inr (Or.inr (Or.inr (Or.inl ⟨c11, rfl⟩))))), e12, rfl⟩
            · refine own_go (T' := s₁) (g' := (mkF m 53 #[.val (.int p1)] [])) (fun t q => XS.icmpYes X0.here hx rfl (pc0 := 46) (pc' := 53) rfl (hb hby d1_46) rfl (feq c11).2 (by decide) (by decide) q) ?_
              refine own_go (T' := s₁) (g' := (mkF m 54 #[.val (.int p1)] [(.int p1)])) (fun t q => XS.iloadN X0.here hx rfl (hb hby d1_53) rfl q) ?_
              refine own_go (T' := s₁) (g' := (mkF m 56 #[.val (.int p1)] [(.int (6 : Int32)), (.int p1)])) (fun t q => XS.bipush X0.here hx rfl (hb hby d1_54) q) ?_
              by_cases c13 : p1 = (6 : Int32)
              · refine own_go (T' := s₁) (g' := (mkF m 59 #[.val (.int p1)] [])) (fun t q => XS.icmpNo X0.here hx rfl (hb hby d1_56) rfl (teq c13).2 q) ?_
                obtain ⟨T14, X14, e14, st14⟩ := getS2 X0 hx hZ hown (host := "") (Or.inl (hw _ (List.mem_of_getElem? (i := 36) rfl))) Via.refl e0 S_UNDERLYING (g := (mkF m 59 #[.val (.int p1)] [])) rfl (hb hby d1_59)
                refine own_go (T' := T14) (g' := (mkF m 62 #[.val (.int p1)] [(.ref w_UNDERLYING)])) (fun t q => st14 t q) ?_
                refine own_outA X14 hx hlk hret rfl rfl (hb hby d1_62) ?_ (by decide) (by decide)
                exact ⟨Or.inr (Or.inr (Or.inr (Or.inr (Or.inr (Or.inr (Or.inl ⟨c13, rfl⟩)))))), e14, rfl⟩
              · refine own_go (T' := s₁) (g' := (mkF m 63 #[.val (.int p1)] [])) (fun t q => XS.icmpYes X0.here hx rfl (pc0 := 56) (pc' := 63) rfl (hb hby d1_56) rfl (feq c13).2 (by decide) (by decide) q) ?_
                refine own_go (T' := s₁) (g' := (mkF m 64 #[.val (.int p1)] [(.int p1)])) (fun t q => XS.iloadN X0.here hx rfl (hb hby d1_63) rfl q) ?_
                refine own_go (T' := s₁) (g' := (mkF m 66 #[.val (.int p1)] [(.int (7 : Int32)), (.int p1)])) (fun t q => XS.bipush X0.here hx rfl (hb hby d1_64) q) ?_
                by_cases c15 : p1 = (7 : Int32)
                · refine own_go (T' := s₁) (g' := (mkF m 69 #[.val (.int p1)] [])) (fun t q => XS.icmpNo X0.here hx rfl (hb hby d1_66) rfl (teq c15).2 q) ?_
                  obtain ⟨T16, X16, e16, st16⟩ := getS2 X0 hx hZ hown (host := "") (Or.inl (hw _ (List.mem_of_getElem? (i := 26) rfl))) Via.refl e0 S_CLASSED_UNDERLYING (g := (mkF m 69 #[.val (.int p1)] [])) rfl (hb hby d1_69)
                  refine own_go (T' := T16) (g' := (mkF m 72 #[.val (.int p1)] [(.ref w_CLASSED_UNDERLYING)])) (fun t q => st16 t q) ?_
                  refine own_outA X16 hx hlk hret rfl rfl (hb hby d1_72) ?_ (by decide) (by decide)
                  exact ⟨Or.inr (Or.inr (Or.inr (Or.inr (Or.inr (Or.inr (Or.inr (Or.inl ⟨c15, rfl⟩))))))), e16, rfl⟩
                · refine own_go (T' := s₁) (g' := (mkF m 73 #[.val (.int p1)] [])) (fun t q => XS.icmpYes X0.here hx rfl (pc0 := 66) (pc' := 73) rfl (hb hby d1_66) rfl (feq c15).2 (by decide) (by decide) q) ?_
                  refine own_go (T' := s₁) (g' := (mkF m 74 #[.val (.int p1)] [(.int p1)])) (fun t q => XS.iloadN X0.here hx rfl (hb hby d1_73) rfl q) ?_
                  refine own_go (T' := s₁) (g' := (mkF m 76 #[.val (.int p1)] [(.int (8 : Int32)), (.int p1)])) (fun t q => XS.bipush X0.here hx rfl (hb hby d1_74) q) ?_
                  by_cases c17 : p1 = (8 : Int32)
                  · refine own_go (T' := s₁) (g' := (mkF m 79 #[.val (.int p1)] [])) (fun t q => XS.icmpNo X0.here hx rfl (hb hby d1_76) rfl (teq c17).2 q) ?_
                    obtain ⟨T18, X18, e18, st18⟩ := getS2 X0 hx hZ hown (host := "") (Or.inl (hw _ (List.mem_of_getElem? (i := 27) rfl))) Via.refl e0 S_SET_RATE_CLASS (g := (mkF m 79 #[.val (.int p1)] [])) rfl (hb hby d1_79)
                    refine own_go (T' := T18) (g' := (mkF m 82 #[.val (.int p1)] [(.ref w_SET_RATE_CLASS)])) (fun t q => st18 t q) ?_
                    refine own_outA X18 hx hlk hret rfl rfl (hb hby d1_82) ?_ (by decide) (by decide)
                    exact ⟨Or.inr (Or.inr (Or.inr (Or.inr (Or.inr (Or.inr (Or.inr (Or.inr (Or.inl ⟨c17, rfl⟩)))))))), e18, rfl⟩
                  · refine own_go (T' := s₁) (g' := (mkF m 83 #[.val (.int p1)] [])) (fun t q => XS.icmpYes X0.here hx rfl (pc0 := 76) (pc' := 83) rfl (hb hby d1_76) rfl (feq c17).2 (by decide) (by decide) q) ?_
                    refine own_go (T' := s₁) (g' := (mkF m 84 #[.val (.int p1)] [(.int p1)])) (fun t q => XS.iloadN X0.here hx rfl (hb hby d1_83) rfl q) ?_
                    refine own_go (T' := s₁) (g' := (mkF m 86 #[.val (.int p1)] [(.int (9 : Int32)), (.int p1)])) (fun t q => XS.bipush X0.here hx rfl (hb hby d1_84) q) ?_
                    by_cases c19 : p1 = (9 : Int32)
                    · refine own_go (T' := s₁) (g' := (mkF m 89 #[.val (.int p1)] [])) (fun t q => XS.icmpNo X0.here hx rfl (hb hby d1_86) rfl (teq c19).2 q) ?_
                      obtain ⟨T20, X20, e20, st20⟩ := getS2 X0 hx hZ hown (host := "") (Or.inl (hw _ (List.mem_of_getElem? (i := 33) rfl))) Via.refl e0 S_HOST_RATE_CLASS (g := (mkF m 89 #[.val (.int p1)] [])) rfl (hb hby d1_89)
                      refine own_go (T' := T20) (g' := (mkF m 92 #[.val (.int p1)] [(.ref w_HOST_RATE_CLASS)])) (fun t q => st20 t q) ?_
                      refine own_outA X20 hx hlk hret rfl rfl (hb hby d1_92) ?_ (by decide) (by decide)
                      exact ⟨Or.inr (Or.inr (Or.inr (Or.inr (Or.inr (Or.inr (Or.inr (Or.inr (Or.inr (Or.inl ⟨c19, rfl⟩))))))))), e20, rfl⟩
                    · refine own_go (T' := s₁) (g' := (mkF m 93 #[.val (.int p1)] [])) (fun t q => XS.icmpYes X0.here hx rfl (pc0 := 86) (pc' := 93) rfl (hb hby d1_86) rfl (feq c19).2 (by decide) (by decide) q) ?_
                      obtain ⟨T21, X21, e21, st21⟩ := getS2 X0 hx hZ hown (host := "") (Or.inl (hw _ (List.mem_of_getElem? (i := 30) rfl))) Via.refl e0 S_DEPOSITOR (g := (mkF m 93 #[.val (.int p1)] [])) rfl (hb hby d1_93)
                      refine own_go (T' := T21) (g' := (mkF m 96 #[.val (.int p1)] [(.ref w_DEPOSITOR)])) (fun t q => st21 t q) ?_
                      refine own_outA X21 hx hlk hret rfl rfl (hb hby d1_96) ?_ (by decide) (by decide)
                      exact ⟨Or.inr (Or.inr (Or.inr (Or.inr (Or.inr (Or.inr (Or.inr (Or.inr (Or.inr (Or.inr (⟨⟨c1, c3, c5, c7, c9, c11, c13, c15, c17, c19⟩, rfl⟩)))))))))), e21, rfl⟩
theorem d2_0 : decode prog_96_method_6_code 0 = .ok (.aload_n 0, 1) := by decide +kernel
theorem d2_1 : decode prog_96_method_6_code 1 = .ok (.getstatic 28, 3) := by decide +kernel
theorem d2_4 : decode prog_96_method_6_code 4 = .ok (.if_acmp .eq 24, 3) := by decide +kernel
theorem d2_7 : decode prog_96_method_6_code 7 = .ok (.aload_n 0, 1) := by decide +kernel
theorem d2_8 : decode prog_96_method_6_code 8 = .ok (.getstatic 31, 3) := by decide +kernel
theorem d2_11 : decode prog_96_method_6_code 11 = .ok (.if_acmp .eq 17, 3) := by decide +kernel
theorem d2_14 : decode prog_96_method_6_code 14 = .ok (.aload_n 0, 1) := by decide +kernel
theorem d2_15 : decode prog_96_method_6_code 15 = .ok (.getstatic 25, 3) := by decide +kernel
theorem d2_18 : decode prog_96_method_6_code 18 = .ok (.if_acmp .eq 10, 3) := by decide +kernel
theorem d2_21 : decode prog_96_method_6_code 21 = .ok (.aload_n 0, 1) := by decide +kernel
theorem d2_22 : decode prog_96_method_6_code 22 = .ok (.getstatic 34, 3) := by decide +kernel
theorem d2_25 : decode prog_96_method_6_code 25 = .ok (.if_acmp .ne 7, 3) := by decide +kernel
theorem d2_32 : decode prog_96_method_6_code 32 = .ok (.iconst 0, 1) := by decide +kernel
theorem d2_33 : decode prog_96_method_6_code 33 = .ok (.ireturn, 1) := by decide +kernel
set_option maxRecDepth 65536 in
set_option maxHeartbeats 40000000 in
theorem rm2_0 (l : Launch) (Z : State) (a0 : Array Value) (hw : ∀ d ∈ tables_1, d.before a0 Z = true) (ws : List Jvm.Cond) (w_NONE w_SET_RATE_CLASS w_HOST_RATE_CLASS w_CLASSED_UNDERLYING w_DEPOSITOR w_NETTING_SET w_SWAPPED_COLLATERAL w_COLLATERAL w_SUBSTITUTION w_UNDERLYING w_COUNTERPARTY : Addr) (h0 : Heap) (FX : own_F Z h0 w_NONE w_SET_RATE_CLASS w_HOST_RATE_CLASS w_CLASSED_UNDERLYING w_DEPOSITOR w_NETTING_SET w_SWAPPED_COLLATERAL w_COLLATERAL w_SUBSTITUTION w_UNDERLYING w_COUNTERPARTY) :
    own_Met l (⟨"com/example/ryudo/ryudo/model/Terms$Kind", "takesRateClass", "()Z"⟩ : MethodName) prog_96_method_6_code 1 (some .boolean) ws ({ frames := 0, cells := 0, slots := 0, locals := 0 } : Room) Z #[(.ref w_NONE)] h0 (fun v h L => v = some (.int (0 : Int32)) ∧ h = h0 ∧ L = []) := by
  refine MetFree.of_bodySF (plainFor_of_name (by first | (simp [plainName, overriddenIn]; done) | decide +kernel)) hisR ?_
  intro p e s m args below meth c s₁ Bd hml0 hP hK
  obtain ⟨rfl, hZ, hh⟩ := hP
  have hx := Bd.exec
  have hby := Bd.bytes
  have hml : c.maxLocals = 1 := hml0
  have hown : s.vm.findClass "com/example/ryudo/ryudo/model/Terms$Kind" = some m.cls := findClass_of_methodNamed Bd.named
  have hnm := (name_of_methodNamed Bd.named Bd.method).1
  have hlk : meth.locks = false := Bd.notSynchronized
  have hret := Bd.returns
  have X0 : Stand p l e ({ frames := 0, cells := 0, slots := 0, locals := 0 } : Room) s m #[(.ref w_NONE)] below meth c s₁ [] 0 0 := Stand.of_body Bd
  have e0 : s₁.heap = h0 := by rw [← hh, Bd.state]; rfl
  refine own_in (Q := fun v h L => v = some (.int (0 : Int32)) ∧ h = h0 ∧ L = []) (ef := by first | (simp [entryFrame, mkF, argsToLocals, Value.category, maxLocals]; done) | rfl) (g' := (mkF m 0 #[.val (.ref w_NONE)] [])) ?_
  obtain ⟨S_NONE, E_NONE, S_SET_RATE_CLASS, E_SET_RATE_CLASS, S_HOST_RATE_CLASS, E_HOST_RATE_CLASS, S_CLASSED_UNDERLYING, E_CLASSED_UNDERLYING, S_DEPOSITOR, E_DEPOSITOR, S_NETTING_SET, E_NETTING_SET, S_SWAPPED_COLLATERAL, E_SWAPPED_COLLATERAL, S_COLLATERAL, E_COLLATERAL, S_SUBSTITUTION, E_SUBSTITUTION, S_UNDERLYING, E_UNDERLYING, S_COUNTERPARTY, E_COUNTERPARTY, F_NONE_ordinal, F_SET_RATE_CLASS_ordinal, F_HOST_RATE_CLASS_ordinal, F_CLASSED_UNDERLYING_ordinal, F_DEPOSITOR_ordinal, F_NETTING_SET_ordinal, F_SWAPPED_COLLATERAL_ordinal, F_COLLATERAL_ordinal, F_SUBSTITUTION_ordinal, F_UNDERLYING_ordinal, F_COUNTERPARTY_ordinal, ne_NONE_SET_RATE_CLASS, ne_NONE_HOST_RATE_CLASS, ne_NONE_CLASSED_UNDERLYING, ne_NONE_DEPOSITOR, ne_SET_RATE_CLASS_HOST_RATE_CLASS, ne_SET_RATE_CLASS_CLASSED_UNDERLYING, ne_SET_RATE_CLASS_DEPOSITOR, ne_SET_RATE_CLASS_NETTING_SET, ne_SET_RATE_CLASS_SWAPPED_COLLATERAL, ne_SET_RATE_CLASS_COLLATERAL, ne_SET_RATE_CLASS_SUBSTITUTION, ne_SET_RATE_CLASS_UNDERLYING, ne_SET_RATE_CLASS_COUNTERPARTY, ne_HOST_RATE_CLASS_CLASSED_UNDERLYING, ne_HOST_RATE_CLASS_DEPOSITOR, ne_HOST_RATE_CLASS_NETTING_SET, ne_HOST_RATE_CLASS_SWAPPED_COLLATERAL, ne_HOST_RATE_CLASS_COLLATERAL, ne_HOST_RATE_CLASS_SUBSTITUTION, ne_HOST_RATE_CLASS_UNDERLYING, ne_HOST_RATE_CLASS_COUNTERPARTY, ne_CLASSED_UNDERLYING_DEPOSITOR, ne_CLASSED_UNDERLYING_NETTING_SET, ne_CLASSED_UNDERLYING_SWAPPED_COLLATERAL, ne_CLASSED_UNDERLYING_COLLATERAL, ne_CLASSED_UNDERLYING_SUBSTITUTION, ne_CLASSED_UNDERLYING_UNDERLYING, ne_CLASSED_UNDERLYING_COUNTERPARTY, ne_DEPOSITOR_NETTING_SET, ne_DEPOSITOR_SWAPPED_COLLATERAL, ne_DEPOSITOR_COLLATERAL, ne_DEPOSITOR_SUBSTITUTION, ne_DEPOSITOR_UNDERLYING, ne_DEPOSITOR_COUNTERPARTY⟩ := id FX
  refine own_go (T' := s₁) (g' := (mkF m 1 #[.val (.ref w_NONE)] [(.ref w_NONE)])) (fun t q => XS.aloadN X0.here hx rfl (hb hby d2_0) rfl rfl q) ?_
  obtain ⟨T1, X1, e1, st1⟩ := getS2 X0 hx hZ hown (host := "") (Or.inl (hw _ (List.mem_of_getElem? (i := 13) rfl))) Via.refl e0 S_SET_RATE_CLASS (g := (mkF m 1 #[.val (.ref w_NONE)] [(.ref w_NONE)])) rfl (hb hby d2_1)
  refine own_go (T' := T1) (g' := (mkF m 4 #[.val (.ref w_NONE)] [(.ref w_SET_RATE_CLASS), (.ref w_NONE)])) (fun t q => st1 t q) ?_
  have c2 : ¬ ((Value.ref w_NONE) = (Value.ref w_SET_RATE_CLASS)) := fun z => ne_NONE_SET_RATE_CLASS (Value.ref.inj z)
  refine own_go (T' := T1) (g' := (mkF m 7 #[.val (.ref w_NONE)] [])) (fun t q => XT.acmpNo X1.here hx rfl (hb hby d2_4) rfl rfl rfl (own_af c2).1 q) ?_
  refine own_go (T' := T1) (g' := (mkF m 8 #[.val (.ref w_NONE)] [(.ref w_NONE)])) (fun t q => XS.aloadN X1.here hx rfl (hb hby d2_7) rfl rfl q) ?_
  obtain ⟨T3, X3, e3, st3⟩ := getS2 X1 hx hZ hown (host := "") (Or.inl (hw _ (List.mem_of_getElem? (i := 15) rfl))) Via.refl e1 S_HOST_RATE_CLASS (g := (mkF m 8 #[.val (.ref w_NONE)] [(.ref w_NONE)])) rfl (hb hby d2_8)
  refine own_go (T' := T3) (g' := (mkF m 11 #[.val (.ref w_NONE)] [(.ref w_HOST_RATE_CLASS), (.ref w_NONE)])) (fun t q => st3 t q) ?_
  have c4 : ¬ ((Value.ref w_NONE) = (Value.ref w_HOST_RATE_CLASS)) := fun z => ne_NONE_HOST_RATE_CLASS (Value.ref.inj z)
  refine own_go (T' := T3) (g' := (mkF m 14 #[.val (.ref w_NONE)] [])) (fun t q => XT.acmpNo X3.here hx rfl (hb hby d2_11) rfl rfl rfl (own_af c4).1 q) ?_
  refine own_go (T' := T3) (g' := (mkF m 15 #[.val (.ref w_NONE)] [(.ref w_NONE)])) (fun t q => XS.aloadN X3.here hx rfl (hb hby d2_14) rfl rfl q) ?_
  obtain ⟨T5, X5, e5, st5⟩ := getS2 X3 hx hZ hown (host := "") (Or.inl (hw _ (List.mem_of_getElem? (i := 17) rfl))) Via.refl e3 S_CLASSED_UNDERLYING (g := (mkF m 15 #[.val (.ref w_NONE)] [(.ref w_NONE)])) rfl (hb hby d2_15)
  refine own_go (T' := T5) (g' := (mkF m 18 #[.val (.ref w_NONE)] [(.ref w_CLASSED_UNDERLYING), (.ref w_NONE)])) (fun t q => st5 t q) ?_
  have c6 : ¬ ((Value.ref w_NONE) = (Value.ref w_CLASSED_UNDERLYING)) := fun z => ne_NONE_CLASSED_UNDERLYING (Value.ref.inj z)
  refine own_go (T' := T5) (g' := (mkF m 21 #[.val (.ref w_NONE)] [])) (fun t q => XT.acmpNo X5.here hx rfl (hb hby d2_18) rfl rfl rfl (own_af c6).1 q) ?_
  refine own_go (T' := T5) (g' := (mkF m 22 #[.val (.ref w_NONE)] [(.ref w_NONE)])) (fun t q => XS.aloadN X5.here hx rfl (hb hby d2_21) rfl rfl q) ?_
  obtain ⟨T7, X7, e7, st7⟩ := getS2 X5 hx hZ hown (host := "") (Or.inl (hw _ (List.mem_of_getElem? (i := 19) rfl))) Via.refl e5 S_DEPOSITOR (g := (mkF m 22 #[.val (.ref w_NONE)] [(.ref w_NONE)])) rfl (hb hby d2_22)
  refine own_go (T' := T7) (g' := (mkF m 25 #[.val (.ref w_NONE)] [(.ref w_DEPOSITOR), (.ref w_NONE)])) (fun t q => st7 t q) ?_
  have c8 : ¬ ((Value.ref w_NONE) = (Value.ref w_DEPOSITOR)) := fun z => ne_NONE_DEPOSITOR (Value.ref.inj z)
  refine own_go (T' := T7) (g' := (mkF m 32 #[.val (.ref w_NONE)] [])) (fun t q => XT.acmpYes X7.here hx rfl (pc0 := 25) (pc' := 32) rfl (hb hby d2_25) rfl rfl rfl (own_af c8).2 (by decide) (by decide) q) ?_
  refine own_go (T' := T7) (g' := (mkF m 33 #[.val (.ref w_NONE)] [(.int (0 : Int32))])) (fun t q => XS.iconst X7.here hx rfl (hb hby d2_32) q) ?_
  refine own_outN X7 hx hlk hret (t := .boolean) (by simp) (hb hby d2_33) (w := (0 : Int32)) (by decide) ?_ (by decide) (by decide)
  exact ⟨rfl, e7, rfl⟩
theorem d3_0 : decode method_3_code 0 = .ok (.iload_n 0, 1) := by decide +kernel
theorem d3_1 : decode method_3_code 1 = .ok (.bipush 7, 2) := by decide +kernel
theorem d3_3 : decode method_3_code 3 = .ok (.if_icmp .ne 5, 3) := by decide +kernel
theorem d3_8 : decode method_3_code 8 = .ok (.iload_n 0, 1) := by decide +kernel
theorem d3_9 : decode method_3_code 9 = .ok (.bipush 8, 2) := by decide +kernel
theorem d3_11 : decode method_3_code 11 = .ok (.if_icmp .ne 5, 3) := by decide +kernel
theorem d3_16 : decode method_3_code 16 = .ok (.iload_n 0, 1) := by decide +kernel
theorem d3_17 : decode method_3_code 17 = .ok (.bipush 9, 2) := by decide +kernel
theorem d3_19 : decode method_3_code 19 = .ok (.if_icmp .ne 5, 3) := by decide +kernel
theorem d3_24 : decode method_3_code 24 = .ok (.iload_n 0, 1) := by decide +kernel
theorem d3_25 : decode method_3_code 25 = .ok (.bipush 10, 2) := by decide +kernel
theorem d3_27 : decode method_3_code 27 = .ok (.if_icmp .ne 5, 3) := by decide +kernel
theorem d3_32 : decode method_3_code 32 = .ok (.iconst 0, 1) := by decide +kernel
theorem d3_33 : decode method_3_code 33 = .ok (.ireturn, 1) := by decide +kernel
set_option maxRecDepth 65536 in
set_option maxHeartbeats 40000000 in
theorem rm3_0 (l : Launch) (Z : State) (a0 : Array Value) (hw : ∀ d ∈ tables_1, d.before a0 Z = true) (ws : List Jvm.Cond) (p1 : Int32) (h0 : Heap) (hk : p1 = 0) :
    own_Met l (⟨"com/example/ryudo/ryudo/model/KindTakesRateClassPinLaw", "expected", "(I)Z"⟩ : MethodName) method_3_code 1 (some .boolean) ws ({ frames := 0, cells := 0, slots := 0, locals := 0 } : Room) Z #[(.int p1)] h0 (fun v h L => v = some (.int (0 : Int32)) ∧ h = h0 ∧ L = []) := by
  refine MetFree.of_bodySF (plainFor_of_name (by first | (simp [plainName, overriddenIn]; done) | decide +kernel)) hisR ?_
  intro p e s m args below meth c s₁ Bd hml0 hP hK
  obtain ⟨rfl, hZ, hh⟩ := hP
  have hx := Bd.exec
  have hby := Bd.bytes
  have hml : c.maxLocals = 1 := hml0
  have hown : s.vm.findClass "com/example/ryudo/ryudo/model/KindTakesRateClassPinLaw" = some m.cls := findClass_of_methodNamed Bd.named
  have hnm := (name_of_methodNamed Bd.named Bd.method).1
  have hlk : meth.locks = false := Bd.notSynchronized
  have hret := Bd.returns
  have X0 : Stand p l e ({ frames := 0, cells := 0, slots := 0, locals := 0 } : Room) s m #[(.int p1)] below meth c s₁ [] 0 0 := Stand.of_body Bd
  have e0 : s₁.heap = h0 := by rw [← hh, Bd.state]; rfl
  refine own_in (Q := fun v h L => v = some (.int (0 : Int32)) ∧ h = h0 ∧ L = []) (ef := by first | (simp [entryFrame, mkF, argsToLocals, Value.category, maxLocals]; done) | rfl) (g' := (mkF m 0 #[.val (.int p1)] [])) ?_
  refine own_go (T' := s₁) (g' := (mkF m 1 #[.val (.int p1)] [(.int p1)])) (fun t q => XS.iloadN X0.here hx rfl (hb hby d3_0) rfl q) ?_
  refine own_go (T' := s₁) (g' := (mkF m 3 #[.val (.int p1)] [(.int (7 : Int32)), (.int p1)])) (fun t q => XS.bipush X0.here hx rfl (hb hby d3_1) q) ?_
  have c1 : ¬ (p1 = (7 : Int32)) := by rw [hk]; decide
  refine own_go (T' := s₁) (g' := (mkF m 8 #[.val (.int p1)] [])) (fun t q => XS.icmpYes X0.here hx rfl (pc0 := 3) (pc' := 8) rfl (hb hby d3_3) rfl (feq c1).2 (by decide) (by decide) q) ?_
  refine own_go (T' := s₁) (g' := (mkF m 9 #[.val (.int p1)] [(.int p1)])) (fun t q => XS.iloadN X0.here hx rfl (hb hby d3_8) rfl q) ?_
  refine own_go (T' := s₁) (g' := (mkF m 11 #[.val (.int p1)] [(.int (8 : Int32)), (.int p1)])) (fun t q => XS.bipush X0.here hx rfl (hb hby d3_9) q) ?_
  have c2 : ¬ (p1 = (8 : Int32)) := by rw [hk]; decide
  refine own_go (T' := s₁) (g' := (mkF m 16 #[.val (.int p1)] [])) (fun t q => XS.icmpYes X0.here hx rfl (pc0 := 11) (pc' := 16) rfl (hb hby d3_11) rfl (feq c2).2 (by decide) (by decide) q) ?_
  refine own_go (T' := s₁) (g' := (mkF m 17 #[.val (.int p1)] [(.int p1)])) (fun t q => XS.iloadN X0.here hx rfl (hb hby d3_16) rfl q) ?_
  refine own_go (T' := s₁) (g' := (mkF m 19 #[.val (.int p1)] [(.int (9 : Int32)), (.int p1)])) (fun t q => XS.bipush X0.here hx rfl (hb hby d3_17) q) ?_
  have c3 : ¬ (p1 = (9 : Int32)) := by rw [hk]; decide
  refine own_go (T' := s₁) (g' := (mkF m 24 #[.val (.int p1)] [])) (fun t q => XS.icmpYes X0.here hx rfl (pc0 := 19) (pc' := 24) rfl (hb hby d3_19) rfl (feq c3).2 (by decide) (by decide) q) ?_
  refine own_go (T' := s₁) (g' := (mkF m 25 #[.val (.int p1)] [(.int p1)])) (fun t q => XS.iloadN X0.here hx rfl (hb hby d3_24) rfl q) ?_
  refine own_go (T' := s₁) (g' := (mkF m 27 #[.val (.int p1)] [(.int (10 : Int32)), (.int p1)])) (fun t q => XS.bipush X0.here hx rfl (hb hby d3_25) q) ?_
  have c4 : ¬ (p1 = (10 : Int32)) := by rw [hk]; decide
  refine own_go (T' := s₁) (g' := (mkF m 32 #[.val (.int p1)] [])) (fun t q => XS.icmpYes X0.here hx rfl (pc0 := 27) (pc' := 32) rfl (hb hby d3_27) rfl (feq c4).2 (by decide) (by decide) q) ?_
  refine own_go (T' := s₁) (g' := (mkF m 33 #[.val (.int p1)] [(.int (0 : Int32))])) (fun t q => XS.iconst X0.here hx rfl (hb hby d3_32) q) ?_
  refine own_outN X0 hx hlk hret (t := .boolean) (by simp) (hb hby d3_33) (w := (0 : Int32)) (by decide) ?_ (by decide) (by decide)
  exact ⟨rfl, e0, rfl⟩
set_option maxRecDepth 65536 in
set_option maxHeartbeats 40000000 in
theorem rm2_1 (l : Launch) (Z : State) (a0 : Array Value) (hw : ∀ d ∈ tables_1, d.before a0 Z = true) (ws : List Jvm.Cond) (w_NONE w_SET_RATE_CLASS w_HOST_RATE_CLASS w_CLASSED_UNDERLYING w_DEPOSITOR w_NETTING_SET w_SWAPPED_COLLATERAL w_COLLATERAL w_SUBSTITUTION w_UNDERLYING w_COUNTERPARTY : Addr) (h0 : Heap) (FX : own_F Z h0 w_NONE w_SET_RATE_CLASS w_HOST_RATE_CLASS w_CLASSED_UNDERLYING w_DEPOSITOR w_NETTING_SET w_SWAPPED_COLLATERAL w_COLLATERAL w_SUBSTITUTION w_UNDERLYING w_COUNTERPARTY) :
    own_Met l (⟨"com/example/ryudo/ryudo/model/Terms$Kind", "takesRateClass", "()Z"⟩ : MethodName) prog_96_method_6_code 1 (some .boolean) ws ({ frames := 0, cells := 0, slots := 0, locals := 0 } : Room) Z #[(.ref w_COLLATERAL)] h0 (fun v h L => v = some (.int (0 : Int32)) ∧ h = h0 ∧ L = []) := by
  refine MetFree.of_bodySF (plainFor_of_name (by first | (simp [plainName, overriddenIn]; done) | decide +kernel)) hisR ?_
  intro p e s m args below meth c s₁ Bd hml0 hP hK
  obtain ⟨rfl, hZ, hh⟩ := hP
  have hx := Bd.exec
  have hby := Bd.bytes
  have hml : c.maxLocals = 1 := hml0
  have hown : s.vm.findClass "com/example/ryudo/ryudo/model/Terms$Kind" = some m.cls := findClass_of_methodNamed Bd.named
  have hnm := (name_of_methodNamed Bd.named Bd.method).1
  have hlk : meth.locks = false := Bd.notSynchronized
  have hret := Bd.returns
  have X0 : Stand p l e ({ frames := 0, cells := 0, slots := 0, locals := 0 } : Room) s m #[(.ref w_COLLATERAL)] below meth c s₁ [] 0 0 := Stand.of_body Bd
  have e0 : s₁.heap = h0 := by rw [← hh, Bd.state]; rfl
  refine own_in (Q := fun v h L => v = some (.int (0 : Int32)) ∧ h = h0 ∧ L = []) (ef := by first | (simp [entryFrame, mkF, argsToLocals, Value.category, maxLocals]; done) | rfl) (g' := (mkF m 0 #[.val (.ref w_COLLATERAL)] [])) ?_
  obtain ⟨S_NONE, E_NONE, S_SET_RATE_CLASS, E_SET_RATE_CLASS, S_HOST_RATE_CLASS, E_HOST_RATE_CLASS, S_CLASSED_UNDERLYING, E_CLASSED_UNDERLYING, S_DEPOSITOR, E_DEPOSITOR, S_NETTING_SET, E_NETTING_SET, S_SWAPPED_COLLATERAL, E_SWAPPED_COLLATERAL, S_COLLATERAL, E_COLLATERAL, S_SUBSTITUTION, E_SUBSTITUTION, S_UNDERLYING, E_UNDERLYING, S_COUNTERPARTY, E_COUNTERPARTY, F_NONE_ordinal, F_SET_RATE_CLASS_ordinal, F_HOST_RATE_CLASS_ordinal, F_CLASSED_UNDERLYING_ordinal, F_DEPOSITOR_ordinal, F_NETTING_SET_ordinal, F_SWAPPED_COLLATERAL_ordinal, F_COLLATERAL_ordinal, F_SUBSTITUTION_ordinal, F_UNDERLYING_ordinal, F_COUNTERPARTY_ordinal, ne_NONE_SET_RATE_CLASS, ne_NONE_HOST_RATE_CLASS, ne_NONE_CLASSED_UNDERLYING, ne_NONE_DEPOSITOR, ne_SET_RATE_CLASS_HOST_RATE_CLASS, ne_SET_RATE_CLASS_CLASSED_UNDERLYING, ne_SET_RATE_CLASS_DEPOSITOR, ne_SET_RATE_CLASS_NETTING_SET, ne_SET_RATE_CLASS_SWAPPED_COLLATERAL, ne_SET_RATE_CLASS_COLLATERAL, ne_SET_RATE_CLASS_SUBSTITUTION, ne_SET_RATE_CLASS_UNDERLYING, ne_SET_RATE_CLASS_COUNTERPARTY, ne_HOST_RATE_CLASS_CLASSED_UNDERLYING, ne_HOST_RATE_CLASS_DEPOSITOR, ne_HOST_RATE_CLASS_NETTING_SET, ne_HOST_RATE_CLASS_SWAPPED_COLLATERAL, ne_HOST_RATE_CLASS_COLLATERAL, ne_HOST_RATE_CLASS_SUBSTITUTION, ne_HOST_RATE_CLASS_UNDERLYING, ne_HOST_RATE_CLASS_COUNTERPARTY, ne_CLASSED_UNDERLYING_DEPOSITOR, ne_CLASSED_UNDERLYING_NETTING_SET, ne_CLASSED_UNDERLYING_SWAPPED_COLLATERAL, ne_CLASSED_UNDERLYING_COLLATERAL, ne_CLASSED_UNDERLYING_SUBSTITUTION, ne_CLASSED_UNDERLYING_UNDERLYING, ne_CLASSED_UNDERLYING_COUNTERPARTY, ne_DEPOSITOR_NETTING_SET, ne_DEPOSITOR_SWAPPED_COLLATERAL, ne_DEPOSITOR_COLLATERAL, ne_DEPOSITOR_SUBSTITUTION, ne_DEPOSITOR_UNDERLYING, ne_DEPOSITOR_COUNTERPARTY⟩ := id FX
  refine own_go (T' := s₁) (g' := (mkF m 1 #[.val (.ref w_COLLATERAL)] [(.ref w_COLLATERAL)])) (fun t q => XS.aloadN X0.here hx rfl (hb hby d2_0) rfl rfl q) ?_
  obtain ⟨T1, X1, e1, st1⟩ := getS2 X0 hx hZ hown (host := "") (Or.inl (hw _ (List.mem_of_getElem? (i := 13) rfl))) Via.refl e0 S_SET_RATE_CLASS (g := (mkF m 1 #[.val (.ref w_COLLATERAL)] [(.ref w_COLLATERAL)])) rfl (hb hby d2_1)
  refine own_go (T' := T1) (g' := (mkF m 4 #[.val (.ref w_COLLATERAL)] [(.ref w_SET_RATE_CLASS), (.ref w_COLLATERAL)])) (fun t q => st1 t q) ?_
  have c2 : ¬ ((Value.ref w_COLLATERAL) = (Value.ref w_SET_RATE_CLASS)) := fun z => ne_SET_RATE_CLASS_COLLATERAL (Value.ref.inj z).symm
  refine own_go (T' := T1) (g' := (mkF m 7 #[.val (.ref w_COLLATERAL)] [])) (fun t q => XT.acmpNo X1.here hx rfl (hb hby d2_4) rfl rfl rfl (own_af c2).1 q) ?_
  refine own_go (T' := T1) (g' := (mkF m 8 #[.val (.ref w_COLLATERAL)] [(.ref w_COLLATERAL)])) (fun t q => XS.aloadN X1.here hx rfl (hb hby d2_7) rfl rfl q) ?_
  obtain ⟨T3, X3, e3, st3⟩ := getS2 X1 hx hZ hown (host := "") (Or.inl (hw _ (List.mem_of_getElem? (i := 15) rfl))) Via.refl e1 S_HOST_RATE_CLASS (g := (mkF m 8 #[.val (.ref w_COLLATERAL)] [(.ref w_COLLATERAL)])) rfl (hb hby d2_8)
  refine own_go (T' := T3) (g' := (mkF m 11 #[.val (.ref w_COLLATERAL)] [(.ref w_HOST_RATE_CLASS), (.ref w_COLLATERAL)])) (fun t q => st3 t q) ?_
  have c4 : ¬ ((Value.ref w_COLLATERAL) = (Value.ref w_HOST_RATE_CLASS)) := fun z => ne_HOST_RATE_CLASS_COLLATERAL (Value.ref.inj z).symm
  refine own_go (T' := T3) (g' := (mkF m 14 #[.val (.ref w_COLLATERAL)] [])) (fun t q => XT.acmpNo X3.here hx rfl (hb hby d2_11) rfl rfl rfl (own_af c4).1 q) ?_
  refine own_go (T' := T3) (g' := (mkF m 15 #[.val (.ref w_COLLATERAL)] [(.ref w_COLLATERAL)])) (fun t q => XS.aloadN X3.here hx rfl (hb hby d2_14) rfl rfl q) ?_
  obtain ⟨T5, X5, e5, st5⟩ := getS2 X3 hx hZ hown (host := "") (Or.inl (hw _ (List.mem_of_getElem? (i := 17) rfl))) Via.refl e3 S_CLASSED_UNDERLYING (g := (mkF m 15 #[.val (.ref w_COLLATERAL)] [(.ref w_COLLATERAL)])) rfl (hb hby d2_15)
  refine own_go (T' := T5) (g' := (mkF m 18 #[.val (.ref w_COLLATERAL)] [(.ref w_CLASSED_UNDERLYING), (.ref w_COLLATERAL)])) (fun t q => st5 t q) ?_
  have c6 : ¬ ((Value.ref w_COLLATERAL) = (Value.ref w_CLASSED_UNDERLYING)) := fun z => ne_CLASSED_UNDERLYING_COLLATERAL (Value.ref.inj z).symm
  refine own_go (T' := T5) (g' := (mkF m 21 #[.val (.ref w_COLLATERAL)] [])) (fun t q => XT.acmpNo X5.here hx rfl (hb hby d2_18) rfl rfl rfl (own_af c6).1 q) ?_
  refine own_go (T' := T5) (g' := (mkF m 22 #[.val (.ref w_COLLATERAL)] [(.ref w_COLLATERAL)])) (fun t q => XS.aloadN X5.here hx rfl (hb hby d2_21) rfl rfl q) ?_
  obtain ⟨T7, X7, e7, st7⟩ := getS2 X5 hx hZ hown (host := "") (Or.inl (hw _ (List.mem_of_getElem? (i := 19) rfl))) Via.refl e5 S_DEPOSITOR (g := (mkF m 22 #[.val (.ref w_COLLATERAL)] [(.ref w_COLLATERAL)])) rfl (hb hby d2_22)
  refine own_go (T' := T7) (g' := (mkF m 25 #[.val (.ref w_COLLATERAL)] [(.ref w_DEPOSITOR), (.ref w_COLLATERAL)])) (fun t q => st7 t q) ?_
  have c8 : ¬ ((Value.ref w_COLLATERAL) = (Value.ref w_DEPOSITOR)) := fun z => ne_DEPOSITOR_COLLATERAL (Value.ref.inj z).symm
  refine own_go (T' := T7) (g' := (mkF m 32 #[.val (.ref w_COLLATERAL)] [])) (fun t q => XT.acmpYes X7.here hx rfl (pc0 := 25) (pc' := 32) rfl (hb hby d2_25) rfl rfl rfl (own_af c8).2 (by decide) (by decide) q) ?_
  refine own_go (T' := T7) (g' := (mkF m 33 #[.val (.ref w_COLLATERAL)] [(.int (0 : Int32))])) (fun t q => XS.iconst X7.here hx rfl (hb hby d2_32) q) ?_
  refine own_outN X7 hx hlk hret (t := .boolean) (by simp) (hb hby d2_33) (w := (0 : Int32)) (by decide) ?_ (by decide) (by decide)
  exact ⟨rfl, e7, rfl⟩
set_option maxRecDepth 65536 in
set_option maxHeartbeats 40000000 in
theorem rm3_1 (l : Launch) (Z : State) (a0 : Array Value) (hw : ∀ d ∈ tables_1, d.before a0 Z = true) (ws : List Jvm.Cond) (p1 : Int32) (h0 : Heap) (hk : p1 = 1) :
    own_Met l (⟨"com/example/ryudo/ryudo/model/KindTakesRateClassPinLaw", "expected", "(I)Z"⟩ : MethodName) method_3_code 1 (some .boolean) ws ({ frames := 0, cells := 0, slots := 0, locals := 0 } : Room) Z #[(.int p1)] h0 (fun v h L => v = some (.int (0 : Int32)) ∧ h = h0 ∧ L = []) := by
  refine MetFree.of_bodySF (plainFor_of_name (by first | (simp [plainName, overriddenIn]; done) | decide +kernel)) hisR ?_
  intro p e s m args below meth c s₁ Bd hml0 hP hK
  obtain ⟨rfl, hZ, hh⟩ := hP
  have hx := Bd.exec
  have hby := Bd.bytes
  have hml : c.maxLocals = 1 := hml0
  have hown : s.vm.findClass "com/example/ryudo/ryudo/model/KindTakesRateClassPinLaw" = some m.cls := findClass_of_methodNamed Bd.named
  have hnm := (name_of_methodNamed Bd.named Bd.method).1
  have hlk : meth.locks = false := Bd.notSynchronized
  have hret := Bd.returns
  have X0 : Stand p l e ({ frames := 0, cells := 0, slots := 0, locals := 0 } : Room) s m #[(.int p1)] below meth c s₁ [] 0 0 := Stand.of_body Bd
  have e0 : s₁.heap = h0 := by rw [← hh, Bd.state]; rfl
  refine own_in (Q := fun v h L => v = some (.int (0 : Int32)) ∧ h = h0 ∧ L = []) (ef := by first | (simp [entryFrame, mkF, argsToLocals, Value.category, maxLocals]; done) | rfl) (g' := (mkF m 0 #[.val (.int p1)] [])) ?_
  refine own_go (T' := s₁) (g' := (mkF m 1 #[.val (.int p1)] [(.int p1)])) (fun t q => XS.iloadN X0.here hx rfl (hb hby d3_0) rfl q) ?_
  refine own_go (T' := s₁) (g' := (mkF m 3 #[.val (.int p1)] [(.int (7 : Int32)), (.int p1)])) (fun t q => XS.bipush X0.here hx rfl (hb hby d3_1) q) ?_
  have c1 : ¬ (p1 = (7 : Int32)) := by rw [hk]; decide
  refine own_go (T' := s₁) (g' := (mkF m 8 #[.val (.int p1)] [])) (fun t q => XS.icmpYes X0.here hx rfl (pc0 := 3) (pc' := 8) rfl (hb hby d3_3) rfl (feq c1).2 (by decide) (by decide) q) ?_
  refine own_go (T' := s₁) (g' := (mkF m 9 #[.val (.int p1)] [(.int p1)])) (fun t q => XS.iloadN X0.here hx rfl (hb hby d3_8) rfl q) ?_
  refine own_go (T' := s₁) (g' := (mkF m 11 #[.val (.int p1)] [(.int (8 : Int32)), (.int p1)])) (fun t q => XS.bipush X0.here hx rfl (hb hby d3_9) q) ?_
  have c2 : ¬ (p1 = (8 : Int32)) := by rw [hk]; decide
  refine own_go (T' := s₁) (g' := (mkF m 16 #[.val (.int p1)] [])) (fun t q => XS.icmpYes X0.here hx rfl (pc0 := 11) (pc' := 16) rfl (hb hby d3_11) rfl (feq c2).2 (by decide) (by decide) q) ?_
  refine own_go (T' := s₁) (g' := (mkF m 17 #[.val (.int p1)] [(.int p1)])) (fun t q => XS.iloadN X0.here hx rfl (hb hby d3_16) rfl q) ?_
  refine own_go (T' := s₁) (g' := (mkF m 19 #[.val (.int p1)] [(.int (9 : Int32)), (.int p1)])) (fun t q => XS.bipush X0.here hx rfl (hb hby d3_17) q) ?_
  have c3 : ¬ (p1 = (9 : Int32)) := by rw [hk]; decide
  refine own_go (T' := s₁) (g' := (mkF m 24 #[.val (.int p1)] [])) (fun t q => XS.icmpYes X0.here hx rfl (pc0 := 19) (pc' := 24) rfl (hb hby d3_19) rfl (feq c3).2 (by decide) (by decide) q) ?_
  refine own_go (T' := s₁) (g' := (mkF m 25 #[.val (.int p1)] [(.int p1)])) (fun t q => XS.iloadN X0.here hx rfl (hb hby d3_24) rfl q) ?_
  refine own_go (T' := s₁) (g' := (mkF m 27 #[.val (.int p1)] [(.int (10 : Int32)), (.int p1)])) (fun t q => XS.bipush X0.here hx rfl (hb hby d3_25) q) ?_
  have c4 : ¬ (p1 = (10 : Int32)) := by rw [hk]; decide
  refine own_go (T' := s₁) (g' := (mkF m 32 #[.val (.int p1)] [])) (fun t q => XS.icmpYes X0.here hx rfl (pc0 := 27) (pc' := 32) rfl (hb hby d3_27) rfl (feq c4).2 (by decide) (by decide) q) ?_
  refine own_go (T' := s₁) (g' := (mkF m 33 #[.val (.int p1)] [(.int (0 : Int32))])) (fun t q => XS.iconst X0.here hx rfl (hb hby d3_32) q) ?_
  refine own_outN X0 hx hlk hret (t := .boolean) (by simp) (hb hby d3_33) (w := (0 : Int32)) (by decide) ?_ (by decide) (by decide)
  exact ⟨rfl, e0, rfl⟩
set_option maxRecDepth 65536 in
set_option maxHeartbeats 40000000 in
theorem rm2_2 (l : Launch) (Z : State) (a0 : Array Value) (hw : ∀ d ∈ tables_1, d.before a0 Z = true) (ws : List Jvm.Cond) (w_NONE w_SET_RATE_CLASS w_HOST_RATE_CLASS w_CLASSED_UNDERLYING w_DEPOSITOR w_NETTING_SET w_SWAPPED_COLLATERAL w_COLLATERAL w_SUBSTITUTION w_UNDERLYING w_COUNTERPARTY : Addr) (h0 : Heap) (FX : own_F Z h0 w_NONE w_SET_RATE_CLASS w_HOST_RATE_CLASS w_CLASSED_UNDERLYING w_DEPOSITOR w_NETTING_SET w_SWAPPED_COLLATERAL w_COLLATERAL w_SUBSTITUTION w_UNDERLYING w_COUNTERPARTY) :
    own_Met l (⟨"com/example/ryudo/ryudo/model/Terms$Kind", "takesRateClass", "()Z"⟩ : MethodName) prog_96_method_6_code 1 (some .boolean) ws ({ frames := 0, cells := 0, slots := 0, locals := 0 } : Room) Z #[(.ref w_SWAPPED_COLLATERAL)] h0 (fun v h L => v = some (.int (0 : Int32)) ∧ h = h0 ∧ L = []) := by
  refine MetFree.of_bodySF (plainFor_of_name (by first | (simp [plainName, overriddenIn]; done) | decide +kernel)) hisR ?_
  intro p e s m args below meth c s₁ Bd hml0 hP hK
  obtain ⟨rfl, hZ, hh⟩ := hP
  have hx := Bd.exec
  have hby := Bd.bytes
  have hml : c.maxLocals = 1 := hml0
  have hown : s.vm.findClass "com/example/ryudo/ryudo/model/Terms$Kind" = some m.cls := findClass_of_methodNamed Bd.named
  have hnm := (name_of_methodNamed Bd.named Bd.method).1
  have hlk : meth.locks = false := Bd.notSynchronized
  have hret := Bd.returns
  have X0 : Stand p l e ({ frames := 0, cells := 0, slots := 0, locals := 0 } : Room) s m #[(.ref w_SWAPPED_COLLATERAL)] below meth c s₁ [] 0 0 := Stand.of_body Bd
  have e0 : s₁.heap = h0 := by rw [← hh, Bd.state]; rfl
  refine own_in (Q := fun v h L => v = some (.int (0 : Int32)) ∧ h = h0 ∧ L = []) (ef := by first | (simp [entryFrame, mkF, argsToLocals, Value.category, maxLocals]; done) | rfl) (g' := (mkF m 0 #[.val (.ref w_SWAPPED_COLLATERAL)] [])) ?_
  obtain ⟨S_NONE, E_NONE, S_SET_RATE_CLASS, E_SET_RATE_CLASS, S_HOST_RATE_CLASS, E_HOST_RATE_CLASS, S_CLASSED_UNDERLYING, E_CLASSED_UNDERLYING, S_DEPOSITOR, E_DEPOSITOR, S_NETTING_SET, E_NETTING_SET, S_SWAPPED_COLLATERAL, E_SWAPPED_COLLATERAL, S_COLLATERAL, E_COLLATERAL, S_SUBSTITUTION, E_SUBSTITUTION, S_UNDERLYING, E_UNDERLYING, S_COUNTERPARTY, E_COUNTERPARTY, F_NONE_ordinal, F_SET_RATE_CLASS_ordinal, F_HOST_RATE_CLASS_ordinal, F_CLASSED_UNDERLYING_ordinal, F_DEPOSITOR_ordinal, F_NETTING_SET_ordinal, F_SWAPPED_COLLATERAL_ordinal, F_COLLATERAL_ordinal, F_SUBSTITUTION_ordinal, F_UNDERLYING_ordinal, F_COUNTERPARTY_ordinal, ne_NONE_SET_RATE_CLASS, ne_NONE_HOST_RATE_CLASS, ne_NONE_CLASSED_UNDERLYING, ne_NONE_DEPOSITOR, ne_SET_RATE_CLASS_HOST_RATE_CLASS, ne_SET_RATE_CLASS_CLASSED_UNDERLYING, ne_SET_RATE_CLASS_DEPOSITOR, ne_SET_RATE_CLASS_NETTING_SET, ne_SET_RATE_CLASS_SWAPPED_COLLATERAL, ne_SET_RATE_CLASS_COLLATERAL, ne_SET_RATE_CLASS_SUBSTITUTION, ne_SET_RATE_CLASS_UNDERLYING, ne_SET_RATE_CLASS_COUNTERPARTY, ne_HOST_RATE_CLASS_CLASSED_UNDERLYING, ne_HOST_RATE_CLASS_DEPOSITOR, ne_HOST_RATE_CLASS_NETTING_SET, ne_HOST_RATE_CLASS_SWAPPED_COLLATERAL, ne_HOST_RATE_CLASS_COLLATERAL, ne_HOST_RATE_CLASS_SUBSTITUTION, ne_HOST_RATE_CLASS_UNDERLYING, ne_HOST_RATE_CLASS_COUNTERPARTY, ne_CLASSED_UNDERLYING_DEPOSITOR, ne_CLASSED_UNDERLYING_NETTING_SET, ne_CLASSED_UNDERLYING_SWAPPED_COLLATERAL, ne_CLASSED_UNDERLYING_COLLATERAL, ne_CLASSED_UNDERLYING_SUBSTITUTION, ne_CLASSED_UNDERLYING_UNDERLYING, ne_CLASSED_UNDERLYING_COUNTERPARTY, ne_DEPOSITOR_NETTING_SET, ne_DEPOSITOR_SWAPPED_COLLATERAL, ne_DEPOSITOR_COLLATERAL, ne_DEPOSITOR_SUBSTITUTION, ne_DEPOSITOR_UNDERLYING, ne_DEPOSITOR_COUNTERPARTY⟩ := id FX
  refine own_go (T' := s₁) (g' := (mkF m 1 #[.val (.ref w_SWAPPED_COLLATERAL)] [(.ref w_SWAPPED_COLLATERAL)])) (fun t q => XS.aloadN X0.here hx rfl (hb hby d2_0) rfl rfl q) ?_
  obtain ⟨T1, X1, e1, st1⟩ := getS2 X0 hx hZ hown (host := "") (Or.inl (hw _ (List.mem_of_getElem? (i := 13) rfl))) Via.refl e0 S_SET_RATE_CLASS (g := (mkF m 1 #[.val (.ref w_SWAPPED_COLLATERAL)] [(.ref w_SWAPPED_COLLATERAL)])) rfl (hb hby d2_1)
  refine own_go (T' := T1) (g' := (mkF m 4 #[.val (.ref w_SWAPPED_COLLATERAL)] [(.ref w_SET_RATE_CLASS), (.ref w_SWAPPED_COLLATERAL)])) (fun t q => st1 t q) ?_
  have c2 : ¬ ((Value.ref w_SWAPPED_COLLATERAL) = (Value.ref w_SET_RATE_CLASS)) := fun z => ne_SET_RATE_CLASS_SWAPPED_COLLATERAL (Value.ref.inj z).symm
  refine own_go (T' := T1) (g' := (mkF m 7 #[.val (.ref w_SWAPPED_COLLATERAL)] [])) (fun t q => XT.acmpNo X1.here hx rfl (hb hby d2_4) rfl rfl rfl (own_af c2).1 q) ?_
  refine own_go (T' := T1) (g' := (mkF m 8 #[.val (.ref w_SWAPPED_COLLATERAL)] [(.ref w_SWAPPED_COLLATERAL)])) (fun t q => XS.aloadN X1.here hx rfl (hb hby d2_7) rfl rfl q) ?_
  obtain ⟨T3, X3, e3, st3⟩ := getS2 X1 hx hZ hown (host := "") (Or.inl (hw _ (List.mem_of_getElem? (i := 15) rfl))) Via.refl e1 S_HOST_RATE_CLASS (g := (mkF m 8 #[.val (.ref w_SWAPPED_COLLATERAL)] [(.ref w_SWAPPED_COLLATERAL)])) rfl (hb hby d2_8)
  refine own_go (T' := T3) (g' := (mkF m 11 #[.val (.ref w_SWAPPED_COLLATERAL)] [(.ref w_HOST_RATE_CLASS), (.ref w_SWAPPED_COLLATERAL)])) (fun t q => st3 t q) ?_
  have c4 : ¬ ((Value.ref w_SWAPPED_COLLATERAL) = (Value.ref w_HOST_RATE_CLASS)) := fun z => ne_HOST_RATE_CLASS_SWAPPED_COLLATERAL (Value.ref.inj z).symm
  refine own_go (T' := T3) (g' := (mkF m 14 #[.val (.ref w_SWAPPED_COLLATERAL)] [])) (fun t q => XT.acmpNo X3.here hx rfl (hb hby d2_11) rfl rfl rfl (own_af c4).1 q) ?_
  refine own_go (T' := T3) (g' := (mkF m 15 #[.val (.ref w_SWAPPED_COLLATERAL)] [(.ref w_SWAPPED_COLLATERAL)])) (fun t q => XS.aloadN X3.here hx rfl (hb hby d2_14) rfl rfl q) ?_
  obtain ⟨T5, X5, e5, st5⟩ := getS2 X3 hx hZ hown (host := "") (Or.inl (hw _ (List.mem_of_getElem? (i := 17) rfl))) Via.refl e3 S_CLASSED_UNDERLYING (g := (mkF m 15 #[.val (.ref w_SWAPPED_COLLATERAL)] [(.ref w_SWAPPED_COLLATERAL)])) rfl (hb hby d2_15)
  refine own_go (T' := T5) (g' := (mkF m 18 #[.val (.ref w_SWAPPED_COLLATERAL)] [(.ref w_CLASSED_UNDERLYING), (.ref w_SWAPPED_COLLATERAL)])) (fun t q => st5 t q) ?_
  have c6 : ¬ ((Value.ref w_SWAPPED_COLLATERAL) = (Value.ref w_CLASSED_UNDERLYING)) := fun z => ne_CLASSED_UNDERLYING_SWAPPED_COLLATERAL (Value.ref.inj z).symm
  refine own_go (T' := T5) (g' := (mkF m 21 #[.val (.ref w_SWAPPED_COLLATERAL)] [])) (fun t q => XT.acmpNo X5.here hx rfl (hb hby d2_18) rfl rfl rfl (own_af c6).1 q) ?_
  refine own_go (T' := T5) (g' := (mkF m 22 #[.val (.ref w_SWAPPED_COLLATERAL)] [(.ref w_SWAPPED_COLLATERAL)])) (fun t q => XS.aloadN X5.here hx rfl (hb hby d2_21) rfl rfl q) ?_
  obtain ⟨T7, X7, e7, st7⟩ := getS2 X5 hx hZ hown (host := "") (Or.inl (hw _ (List.mem_of_getElem? (i := 19) rfl))) Via.refl e5 S_DEPOSITOR (g := (mkF m 22 #[.val (.ref w_SWAPPED_COLLATERAL)] [(.ref w_SWAPPED_COLLATERAL)])) rfl (hb hby d2_22)
  refine own_go (T' := T7) (g' := (mkF m 25 #[.val (.ref w_SWAPPED_COLLATERAL)] [(.ref w_DEPOSITOR), (.ref w_SWAPPED_COLLATERAL)])) (fun t q => st7 t q) ?_
  have c8 : ¬ ((Value.ref w_SWAPPED_COLLATERAL) = (Value.ref w_DEPOSITOR)) := fun z => ne_DEPOSITOR_SWAPPED_COLLATERAL (Value.ref.inj z).symm
  refine own_go (T' := T7) (g' := (mkF m 32 #[.val (.ref w_SWAPPED_COLLATERAL)] [])) (fun t q => XT.acmpYes X7.here hx rfl (pc0 := 25) (pc' := 32) rfl (hb hby d2_25) rfl rfl rfl (own_af c8).2 (by decide) (by decide) q) ?_
  refine own_go (T' := T7) (g' := (mkF m 33 #[.val (.ref w_SWAPPED_COLLATERAL)] [(.int (0 : Int32))])) (fun t q => XS.iconst X7.here hx rfl (hb hby d2_32) q) ?_
  refine own_outN X7 hx hlk hret (t := .boolean) (by simp) (hb hby d2_33) (w := (0 : Int32)) (by decide) ?_ (by decide) (by decide)
  exact ⟨rfl, e7, rfl⟩
set_option maxRecDepth 65536 in
set_option maxHeartbeats 40000000 in
theorem rm3_2 (l : Launch) (Z : State) (a0 : Array Value) (hw : ∀ d ∈ tables_1, d.before a0 Z = true) (ws : List Jvm.Cond) (p1 : Int32) (h0 : Heap) (hk : p1 = 2) :
    own_Met l (⟨"com/example/ryudo/ryudo/model/KindTakesRateClassPinLaw", "expected", "(I)Z"⟩ : MethodName) method_3_code 1 (some .boolean) ws ({ frames := 0, cells := 0, slots := 0, locals := 0 } : Room) Z #[(.int p1)] h0 (fun v h L => v = some (.int (0 : Int32)) ∧ h = h0 ∧ L = []) := by
  refine MetFree.of_bodySF (plainFor_of_name (by first | (simp [plainName, overriddenIn]; done) | decide +kernel)) hisR ?_
  intro p e s m args below meth c s₁ Bd hml0 hP hK
  obtain ⟨rfl, hZ, hh⟩ := hP
  have hx := Bd.exec
  have hby := Bd.bytes
  have hml : c.maxLocals = 1 := hml0
  have hown : s.vm.findClass "com/example/ryudo/ryudo/model/KindTakesRateClassPinLaw" = some m.cls := findClass_of_methodNamed Bd.named
  have hnm := (name_of_methodNamed Bd.named Bd.method).1
  have hlk : meth.locks = false := Bd.notSynchronized
  have hret := Bd.returns
  have X0 : Stand p l e ({ frames := 0, cells := 0, slots := 0, locals := 0 } : Room) s m #[(.int p1)] below meth c s₁ [] 0 0 := Stand.of_body Bd
  have e0 : s₁.heap = h0 := by rw [← hh, Bd.state]; rfl
  refine own_in (Q := fun v h L => v = some (.int (0 : Int32)) ∧ h = h0 ∧ L = []) (ef := by first | (simp [entryFrame, mkF, argsToLocals, Value.category, maxLocals]; done) | rfl) (g' := (mkF m 0 #[.val (.int p1)] [])) ?_
  refine own_go (T' := s₁) (g' := (mkF m 1 #[.val (.int p1)] [(.int p1)])) (fun t q => XS.iloadN X0.here hx rfl (hb hby d3_0) rfl q) ?_
  refine own_go (T' := s₁) (g' := (mkF m 3 #[.val (.int p1)] [(.int (7 : Int32)), (.int p1)])) (fun t q => XS.bipush X0.here hx rfl (hb hby d3_1) q) ?_
  have c1 : ¬ (p1 = (7 : Int32)) := by rw [hk]; decide
  refine own_go (T' := s₁) (g' := (mkF m 8 #[.val (.int p1)] [])) (fun t q => XS.icmpYes X0.here hx rfl (pc0 := 3) (pc' := 8) rfl (hb hby d3_3) rfl (feq c1).2 (by decide) (by decide) q) ?_
  refine own_go (T' := s₁) (g' := (mkF m 9 #[.val (.int p1)] [(.int p1)])) (fun t q => XS.iloadN X0.here hx rfl (hb hby d3_8) rfl q) ?_
  refine own_go (T' := s₁) (g' := (mkF m 11 #[.val (.int p1)] [(.int (8 : Int32)), (.int p1)])) (fun t q => XS.bipush X0.here hx rfl (hb hby d3_9) q) ?_
  have c2 : ¬ (p1 = (8 : Int32)) := by rw [hk]; decide
  refine own_go (T' := s₁) (g' := (mkF m 16 #[.val (.int p1)] [])) (fun t q => XS.icmpYes X0.here hx rfl (pc0 := 11) (pc' := 16) rfl (hb hby d3_11) rfl (feq c2).2 (by decide) (by decide) q) ?_
  refine own_go (T' := s₁) (g' := (mkF m 17 #[.val (.int p1)] [(.int p1)])) (fun t q => XS.iloadN X0.here hx rfl (hb hby d3_16) rfl q) ?_
  refine own_go (T' := s₁) (g' := (mkF m 19 #[.val (.int p1)] [(.int (9 : Int32)), (.int p1)])) (fun t q => XS.bipush X0.here hx rfl (hb hby d3_17) q) ?_
  have c3 : ¬ (p1 = (9 : Int32)) := by rw [hk]; decide
  refine own_go (T' := s₁) (g' := (mkF m 24 #[.val (.int p1)] [])) (fun t q => XS.icmpYes X0.here hx rfl (pc0 := 19) (pc' := 24) rfl (hb hby d3_19) rfl (feq c3).2 (by decide) (by decide) q) ?_
  refine own_go (T' := s₁) (g' := (mkF m 25 #[.val (.int p1)] [(.int p1)])) (fun t q => XS.iloadN X0.here hx rfl (hb hby d3_24) rfl q) ?_
  refine own_go (T' := s₁) (g' := (mkF m 27 #[.val (.int p1)] [(.int (10 : Int32)), (.int p1)])) (fun t q => XS.bipush X0.here hx rfl (hb hby d3_25) q) ?_
  have c4 : ¬ (p1 = (10 : Int32)) := by rw [hk]; decide
  refine own_go (T' := s₁) (g' := (mkF m 32 #[.val (.int p1)] [])) (fun t q => XS.icmpYes X0.here hx rfl (pc0 := 27) (pc' := 32) rfl (hb hby d3_27) rfl (feq c4).2 (by decide) (by decide) q) ?_
  refine own_go (T' := s₁) (g' := (mkF m 33 #[.val (.int p1)] [(.int (0 : Int32))])) (fun t q => XS.iconst X0.here hx rfl (hb hby d3_32) q) ?_
  refine own_outN X0 hx hlk hret (t := .boolean) (by simp) (hb hby d3_33) (w := (0 : Int32)) (by decide) ?_ (by decide) (by decide)
  exact ⟨rfl, e0, rfl⟩
set_option maxRecDepth 65536 in
set_option maxHeartbeats 40000000 in
theorem rm2_3 (l : Launch) (Z : State) (a0 : Array Value) (hw : ∀ d ∈ tables_1, d.before a0 Z = true) (ws : List Jvm.Cond) (w_NONE w_SET_RATE_CLASS w_HOST_RATE_CLASS w_CLASSED_UNDERLYING w_DEPOSITOR w_NETTING_SET w_SWAPPED_COLLATERAL w_COLLATERAL w_SUBSTITUTION w_UNDERLYING w_COUNTERPARTY : Addr) (h0 : Heap) (FX : own_F Z h0 w_NONE w_SET_RATE_CLASS w_HOST_RATE_CLASS w_CLASSED_UNDERLYING w_DEPOSITOR w_NETTING_SET w_SWAPPED_COLLATERAL w_COLLATERAL w_SUBSTITUTION w_UNDERLYING w_COUNTERPARTY) :
    own_Met l (⟨"com/example/ryudo/ryudo/model/Terms$Kind", "takesRateClass", "()Z"⟩ : MethodName) prog_96_method_6_code 1 (some .boolean) ws ({ frames := 0, cells := 0, slots := 0, locals := 0 } : Room) Z #[(.ref w_NETTING_SET)] h0 (fun v h L => v = some (.int (0 : Int32)) ∧ h = h0 ∧ L = []) := by
  refine MetFree.of_bodySF (plainFor_of_name (by first | (simp [plainName, overriddenIn]; done) | decide +kernel)) hisR ?_
  intro p e s m args below meth c s₁ Bd hml0 hP hK
  obtain ⟨rfl, hZ, hh⟩ := hP
  have hx := Bd.exec
  have hby := Bd.bytes
  have hml : c.maxLocals = 1 := hml0
  have hown : s.vm.findClass "com/example/ryudo/ryudo/model/Terms$Kind" = some m.cls := findClass_of_methodNamed Bd.named
  have hnm := (name_of_methodNamed Bd.named Bd.method).1
  have hlk : meth.locks = false := Bd.notSynchronized
  have hret := Bd.returns
  have X0 : Stand p l e ({ frames := 0, cells := 0, slots := 0, locals := 0 } : Room) s m #[(.ref w_NETTING_SET)] below meth c s₁ [] 0 0 := Stand.of_body Bd
  have e0 : s₁.heap = h0 := by rw [← hh, Bd.state]; rfl
  refine own_in (Q := fun v h L => v = some (.int (0 : Int32)) ∧ h = h0 ∧ L = []) (ef := by first | (simp [entryFrame, mkF, argsToLocals, Value.category, maxLocals]; done) | rfl) (g' := (mkF m 0 #[.val (.ref w_NETTING_SET)] [])) ?_
  obtain ⟨S_NONE, E_NONE, S_SET_RATE_CLASS, E_SET_RATE_CLASS, S_HOST_RATE_CLASS, E_HOST_RATE_CLASS, S_CLASSED_UNDERLYING, E_CLASSED_UNDERLYING, S_DEPOSITOR, E_DEPOSITOR, S_NETTING_SET, E_NETTING_SET, S_SWAPPED_COLLATERAL, E_SWAPPED_COLLATERAL, S_COLLATERAL, E_COLLATERAL, S_SUBSTITUTION, E_SUBSTITUTION, S_UNDERLYING, E_UNDERLYING, S_COUNTERPARTY, E_COUNTERPARTY, F_NONE_ordinal, F_SET_RATE_CLASS_ordinal, F_HOST_RATE_CLASS_ordinal, F_CLASSED_UNDERLYING_ordinal, F_DEPOSITOR_ordinal, F_NETTING_SET_ordinal, F_SWAPPED_COLLATERAL_ordinal, F_COLLATERAL_ordinal, F_SUBSTITUTION_ordinal, F_UNDERLYING_ordinal, F_COUNTERPARTY_ordinal, ne_NONE_SET_RATE_CLASS, ne_NONE_HOST_RATE_CLASS, ne_NONE_CLASSED_UNDERLYING, ne_NONE_DEPOSITOR, ne_SET_RATE_CLASS_HOST_RATE_CLASS, ne_SET_RATE_CLASS_CLASSED_UNDERLYING, ne_SET_RATE_CLASS_DEPOSITOR, ne_SET_RATE_CLASS_NETTING_SET, ne_SET_RATE_CLASS_SWAPPED_COLLATERAL, ne_SET_RATE_CLASS_COLLATERAL, ne_SET_RATE_CLASS_SUBSTITUTION, ne_SET_RATE_CLASS_UNDERLYING, ne_SET_RATE_CLASS_COUNTERPARTY, ne_HOST_RATE_CLASS_CLASSED_UNDERLYING, ne_HOST_RATE_CLASS_DEPOSITOR, ne_HOST_RATE_CLASS_NETTING_SET, ne_HOST_RATE_CLASS_SWAPPED_COLLATERAL, ne_HOST_RATE_CLASS_COLLATERAL, ne_HOST_RATE_CLASS_SUBSTITUTION, ne_HOST_RATE_CLASS_UNDERLYING, ne_HOST_RATE_CLASS_COUNTERPARTY, ne_CLASSED_UNDERLYING_DEPOSITOR, ne_CLASSED_UNDERLYING_NETTING_SET, ne_CLASSED_UNDERLYING_SWAPPED_COLLATERAL, ne_CLASSED_UNDERLYING_COLLATERAL, ne_CLASSED_UNDERLYING_SUBSTITUTION, ne_CLASSED_UNDERLYING_UNDERLYING, ne_CLASSED_UNDERLYING_COUNTERPARTY, ne_DEPOSITOR_NETTING_SET, ne_DEPOSITOR_SWAPPED_COLLATERAL, ne_DEPOSITOR_COLLATERAL, ne_DEPOSITOR_SUBSTITUTION, ne_DEPOSITOR_UNDERLYING, ne_DEPOSITOR_COUNTERPARTY⟩ := id FX
  refine own_go (T' := s₁) (g' := (mkF m 1 #[.val (.ref w_NETTING_SET)] [(.ref w_NETTING_SET)])) (fun t q => XS.aloadN X0.here hx rfl (hb hby d2_0) rfl rfl q) ?_
  obtain ⟨T1, X1, e1, st1⟩ := getS2 X0 hx hZ hown (host := "") (Or.inl (hw _ (List.mem_of_getElem? (i := 13) rfl))) Via.refl e0 S_SET_RATE_CLASS (g := (mkF m 1 #[.val (.ref w_NETTING_SET)] [(.ref w_NETTING_SET)])) rfl (hb hby d2_1)
  refine own_go (T' := T1) (g' := (mkF m 4 #[.val (.ref w_NETTING_SET)] [(.ref w_SET_RATE_CLASS), (.ref w_NETTING_SET)])) (fun t q => st1 t q) ?_
  have c2 : ¬ ((Value.ref w_NETTING_SET) = (Value.ref w_SET_RATE_CLASS)) := fun z => ne_SET_RATE_CLASS_NETTING_SET (Value.ref.inj z).symm
  refine own_go (T' := T1) (g' := (mkF m 7 #[.val (.ref w_NETTING_SET)] [])) (fun t q => XT.acmpNo X1.here hx rfl (hb hby d2_4) rfl rfl rfl (own_af c2).1 q) ?_
  refine own_go (T' := T1) (g' := (mkF m 8 #[.val (.ref w_NETTING_SET)] [(.ref w_NETTING_SET)])) (fun t q => XS.aloadN X1.here hx rfl (hb hby d2_7) rfl rfl q) ?_
  obtain ⟨T3, X3, e3, st3⟩ := getS2 X1 hx hZ hown (host := "") (Or.inl (hw _ (List.mem_of_getElem? (i := 15) rfl))) Via.refl e1 S_HOST_RATE_CLASS (g := (mkF m 8 #[.val (.ref w_NETTING_SET)] [(.ref w_NETTING_SET)])) rfl (hb hby d2_8)
  refine own_go (T' := T3) (g' := (mkF m 11 #[.val (.ref w_NETTING_SET)] [(.ref w_HOST_RATE_CLASS), (.ref w_NETTING_SET)])) (fun t q => st3 t q) ?_
  have c4 : ¬ ((Value.ref w_NETTING_SET) = (Value.ref w_HOST_RATE_CLASS)) := fun z => ne_HOST_RATE_CLASS_NETTING_SET (Value.ref.inj z).symm
  refine own_go (T' := T3) (g' := (mkF m 14 #[.val (.ref w_NETTING_SET)] [])) (fun t q => XT.acmpNo X3.here hx rfl (hb hby d2_11) rfl rfl rfl (own_af c4).1 q) ?_
  refine own_go (T' := T3) (g' := (mkF m 15 #[.val (.ref w_NETTING_SET)] [(.ref w_NETTING_SET)])) (fun t q => XS.aloadN X3.here hx rfl (hb hby d2_14) rfl rfl q) ?_
  obtain ⟨T5, X5, e5, st5⟩ := getS2 X3 hx hZ hown (host := "") (Or.inl (hw _ (List.mem_of_getElem? (i := 17) rfl))) Via.refl e3 S_CLASSED_UNDERLYING (g := (mkF m 15 #[.val (.ref w_NETTING_SET)] [(.ref w_NETTING_SET)])) rfl (hb hby d2_15)
  refine own_go (T' := T5) (g' := (mkF m 18 #[.val (.ref w_NETTING_SET)] [(.ref w_CLASSED_UNDERLYING), (.ref w_NETTING_SET)])) (fun t q => st5 t q) ?_
  have c6 : ¬ ((Value.ref w_NETTING_SET) = (Value.ref w_CLASSED_UNDERLYING)) := fun z => ne_CLASSED_UNDERLYING_NETTING_SET (Value.ref.inj z).symm
  refine own_go (T' := T5) (g' := (mkF m 21 #[.val (.ref w_NETTING_SET)] [])) (fun t q => XT.acmpNo X5.here hx rfl (hb hby d2_18) rfl rfl rfl (own_af c6).1 q) ?_
  refine own_go (T' := T5) (g' := (mkF m 22 #[.val (.ref w_NETTING_SET)] [(.ref w_NETTING_SET)])) (fun t q => XS.aloadN X5.here hx rfl (hb hby d2_21) rfl rfl q) ?_
  obtain ⟨T7, X7, e7, st7⟩ := getS2 X5 hx hZ hown (host := "") (Or.inl (hw _ (List.mem_of_getElem? (i := 19) rfl))) Via.refl e5 S_DEPOSITOR (g := (mkF m 22 #[.val (.ref w_NETTING_SET)] [(.ref w_NETTING_SET)])) rfl (hb hby d2_22)
  refine own_go (T' := T7) (g' := (mkF m 25 #[.val (.ref w_NETTING_SET)] [(.ref w_DEPOSITOR), (.ref w_NETTING_SET)])) (fun t q => st7 t q) ?_
  have c8 : ¬ ((Value.ref w_NETTING_SET) = (Value.ref w_DEPOSITOR)) := fun z => ne_DEPOSITOR_NETTING_SET (Value.ref.inj z).symm
  refine own_go (T' := T7) (g' := (mkF m 32 #[.val (.ref w_NETTING_SET)] [])) (fun t q => XT.acmpYes X7.here hx rfl (pc0 := 25) (pc' := 32) rfl (hb hby d2_25) rfl rfl rfl (own_af c8).2 (by decide) (by decide) q) ?_
  refine own_go (T' := T7) (g' := (mkF m 33 #[.val (.ref w_NETTING_SET)] [(.int (0 : Int32))])) (fun t q => XS.iconst X7.here hx rfl (hb hby d2_32) q) ?_
  refine own_outN X7 hx hlk hret (t := .boolean) (by simp) (hb hby d2_33) (w := (0 : Int32)) (by decide) ?_ (by decide) (by decide)
  exact ⟨rfl, e7, rfl⟩
set_option maxRecDepth 65536 in
set_option maxHeartbeats 40000000 in
theorem rm3_3 (l : Launch) (Z : State) (a0 : Array Value) (hw : ∀ d ∈ tables_1, d.before a0 Z = true) (ws : List Jvm.Cond) (p1 : Int32) (h0 : Heap) (hk : p1 = 3) :
    own_Met l (⟨"com/example/ryudo/ryudo/model/KindTakesRateClassPinLaw", "expected", "(I)Z"⟩ : MethodName) method_3_code 1 (some .boolean) ws ({ frames := 0, cells := 0, slots := 0, locals := 0 } : Room) Z #[(.int p1)] h0 (fun v h L => v = some (.int (0 : Int32)) ∧ h = h0 ∧ L = []) := by
  refine MetFree.of_bodySF (plainFor_of_name (by first | (simp [plainName, overriddenIn]; done) | decide +kernel)) hisR ?_
  intro p e s m args below meth c s₁ Bd hml0 hP hK
  obtain ⟨rfl, hZ, hh⟩ := hP
  have hx := Bd.exec
  have hby := Bd.bytes
  have hml : c.maxLocals = 1 := hml0
  have hown : s.vm.findClass "com/example/ryudo/ryudo/model/KindTakesRateClassPinLaw" = some m.cls := findClass_of_methodNamed Bd.named
  have hnm := (name_of_methodNamed Bd.named Bd.method).1
  have hlk : meth.locks = false := Bd.notSynchronized
  have hret := Bd.returns
  have X0 : Stand p l e ({ frames := 0, cells := 0, slots := 0, locals := 0 } : Room) s m #[(.int p1)] below meth c s₁ [] 0 0 := Stand.of_body Bd
  have e0 : s₁.heap = h0 := by rw [← hh, Bd.state]; rfl
  refine own_in (Q := fun v h L => v = some (.int (0 : Int32)) ∧ h = h0 ∧ L = []) (ef := by first | (simp [entryFrame, mkF, argsToLocals, Value.category, maxLocals]; done) | rfl) (g' := (mkF m 0 #[.val (.int p1)] [])) ?_
  refine own_go (T' := s₁) (g' := (mkF m 1 #[.val (.int p1)] [(.int p1)])) (fun t q => XS.iloadN X0.here hx rfl (hb hby d3_0) rfl q) ?_
  refine own_go (T' := s₁) (g' := (mkF m 3 #[.val (.int p1)] [(.int (7 : Int32)), (.int p1)])) (fun t q => XS.bipush X0.here hx rfl (hb hby d3_1) q) ?_
  have c1 : ¬ (p1 = (7 : Int32)) := by rw [hk]; decide
  refine own_go (T' := s₁) (g' := (mkF m 8 #[.val (.int p1)] [])) (fun t q => XS.icmpYes X0.here hx rfl (pc0 := 3) (pc' := 8) rfl (hb hby d3_3) rfl (feq c1).2 (by decide) (by decide) q) ?_
  refine own_go (T' := s₁) (g' := (mkF m 9 #[.val (.int p1)] [(.int p1)])) (fun t q => XS.iloadN X0.here hx rfl (hb hby d3_8) rfl q) ?_
  refine own_go (T' := s₁) (g' := (mkF m 11 #[.val (.int p1)] [(.int (8 : Int32)), (.int p1)])) (fun t q => XS.bipush X0.here hx rfl (hb hby d3_9) q) ?_
  have c2 : ¬ (p1 = (8 : Int32)) := by rw [hk]; decide
  refine own_go (T' := s₁) (g' := (mkF m 16 #[.val (.int p1)] [])) (fun t q => XS.icmpYes X0.here hx rfl (pc0 := 11) (pc' := 16) rfl (hb hby d3_11) rfl (feq c2).2 (by decide) (by decide) q) ?_
  refine own_go (T' := s₁) (g' := (mkF m 17 #[.val (.int p1)] [(.int p1)])) (fun t q => XS.iloadN X0.here hx rfl (hb hby d3_16) rfl q) ?_
  refine own_go (T' := s₁) (g' := (mkF m 19 #[.val (.int p1)] [(.int (9 : Int32)), (.int p1)])) (fun t q => XS.bipush X0.here hx rfl (hb hby d3_17) q) ?_
  have c3 : ¬ (p1 = (9 : Int32)) := by rw [hk]; decide
  refine own_go (T' := s₁) (g' := (mkF m 24 #[.val (.int p1)] [])) (fun t q => XS.icmpYes X0.here hx rfl (pc0 := 19) (pc' := 24) rfl (hb hby d3_19) rfl (feq c3).2 (by decide) (by decide) q) ?_
  refine own_go (T' := s₁) (g' := (mkF m 25 #[.val (.int p1)] [(.int p1)])) (fun t q => XS.iloadN X0.here hx rfl (hb hby d3_24) rfl q) ?_
  refine own_go (T' := s₁) (g' := (mkF m 27 #[.val (.int p1)] [(.int (10 : Int32)), (.int p1)])) (fun t q => XS.bipush X0.here hx rfl (hb hby d3_25) q) ?_
  have c4 : ¬ (p1 = (10 : Int32)) := by rw [hk]; decide
  refine own_go (T' := s₁) (g' := (mkF m 32 #[.val (.int p1)] [])) (fun t q => XS.icmpYes X0.here hx rfl (pc0 := 27) (pc' := 32) rfl (hb hby d3_27) rfl (feq c4).2 (by decide) (by decide) q) ?_
  refine own_go (T' := s₁) (g' := (mkF m 33 #[.val (.int p1)] [(.int (0 : Int32))])) (fun t q => XS.iconst X0.here hx rfl (hb hby d3_32) q) ?_
  refine own_outN X0 hx hlk hret (t := .boolean) (by simp) (hb hby d3_33) (w := (0 : Int32)) (by decide) ?_ (by decide) (by decide)
  exact ⟨rfl, e0, rfl⟩
set_option maxRecDepth 65536 in
set_option maxHeartbeats 40000000 in
theorem rm2_4 (l : Launch) (Z : State) (a0 : Array Value) (hw : ∀ d ∈ tables_1, d.before a0 Z = true) (ws : List Jvm.Cond) (w_NONE w_SET_RATE_CLASS w_HOST_RATE_CLASS w_CLASSED_UNDERLYING w_DEPOSITOR w_NETTING_SET w_SWAPPED_COLLATERAL w_COLLATERAL w_SUBSTITUTION w_UNDERLYING w_COUNTERPARTY : Addr) (h0 : Heap) (FX : own_F Z h0 w_NONE w_SET_RATE_CLASS w_HOST_RATE_CLASS w_CLASSED_UNDERLYING w_DEPOSITOR w_NETTING_SET w_SWAPPED_COLLATERAL w_COLLATERAL w_SUBSTITUTION w_UNDERLYING w_COUNTERPARTY) :
    own_Met l (⟨"com/example/ryudo/ryudo/model/Terms$Kind", "takesRateClass", "()Z"⟩ : MethodName) prog_96_method_6_code 1 (some .boolean) ws ({ frames := 0, cells := 0, slots := 0, locals := 0 } : Room) Z #[(.ref w_COUNTERPARTY)] h0 (fun v h L => v = some (.int (0 : Int32)) ∧ h = h0 ∧ L = []) := by
  refine MetFree.of_bodySF (plainFor_of_name (by first | (simp [plainName, overriddenIn]; done) | decide +kernel)) hisR ?_
  intro p e s m args below meth c s₁ Bd hml0 hP hK
  obtain ⟨rfl, hZ, hh⟩ := hP
  have hx := Bd.exec
  have hby := Bd.bytes
  have hml : c.maxLocals = 1 := hml0
  have hown : s.vm.findClass "com/example/ryudo/ryudo/model/Terms$Kind" = some m.cls := findClass_of_methodNamed Bd.named
  have hnm := (name_of_methodNamed Bd.named Bd.method).1
  have hlk : meth.locks = false := Bd.notSynchronized
  have hret := Bd.returns
  have X0 : Stand p l e ({ frames := 0, cells := 0, slots := 0, locals := 0 } : Room) s m #[(.ref w_COUNTERPARTY)] below meth c s₁ [] 0 0 := Stand.of_body Bd
  have e0 : s₁.heap = h0 := by rw [← hh, Bd.state]; rfl
  refine own_in (Q := fun v h L => v = some (.int (0 : Int32)) ∧ h = h0 ∧ L = []) (ef := by first | (simp [entryFrame, mkF, argsToLocals, Value.category, maxLocals]; done) | rfl) (g' := (mkF m 0 #[.val (.ref w_COUNTERPARTY)] [])) ?_
  obtain ⟨S_NONE, E_NONE, S_SET_RATE_CLASS, E_SET_RATE_CLASS, S_HOST_RATE_CLASS, E_HOST_RATE_CLASS, S_CLASSED_UNDERLYING, E_CLASSED_UNDERLYING, S_DEPOSITOR, E_DEPOSITOR, S_NETTING_SET, E_NETTING_SET, S_SWAPPED_COLLATERAL, E_SWAPPED_COLLATERAL, S_COLLATERAL, E_COLLATERAL, S_SUBSTITUTION, E_SUBSTITUTION, S_UNDERLYING, E_UNDERLYING, S_COUNTERPARTY, E_COUNTERPARTY, F_NONE_ordinal, F_SET_RATE_CLASS_ordinal, F_HOST_RATE_CLASS_ordinal, F_CLASSED_UNDERLYING_ordinal, F_DEPOSITOR_ordinal, F_NETTING_SET_ordinal, F_SWAPPED_COLLATERAL_ordinal, F_COLLATERAL_ordinal, F_SUBSTITUTION_ordinal, F_UNDERLYING_ordinal, F_COUNTERPARTY_ordinal, ne_NONE_SET_RATE_CLASS, ne_NONE_HOST_RATE_CLASS, ne_NONE_CLASSED_UNDERLYING, ne_NONE_DEPOSITOR, ne_SET_RATE_CLASS_HOST_RATE_CLASS, ne_SET_RATE_CLASS_CLASSED_UNDERLYING, ne_SET_RATE_CLASS_DEPOSITOR, ne_SET_RATE_CLASS_NETTING_SET, ne_SET_RATE_CLASS_SWAPPED_COLLATERAL, ne_SET_RATE_CLASS_COLLATERAL, ne_SET_RATE_CLASS_SUBSTITUTION, ne_SET_RATE_CLASS_UNDERLYING, ne_SET_RATE_CLASS_COUNTERPARTY, ne_HOST_RATE_CLASS_CLASSED_UNDERLYING, ne_HOST_RATE_CLASS_DEPOSITOR, ne_HOST_RATE_CLASS_NETTING_SET, ne_HOST_RATE_CLASS_SWAPPED_COLLATERAL, ne_HOST_RATE_CLASS_COLLATERAL, ne_HOST_RATE_CLASS_SUBSTITUTION, ne_HOST_RATE_CLASS_UNDERLYING, ne_HOST_RATE_CLASS_COUNTERPARTY, ne_CLASSED_UNDERLYING_DEPOSITOR, ne_CLASSED_UNDERLYING_NETTING_SET, ne_CLASSED_UNDERLYING_SWAPPED_COLLATERAL, ne_CLASSED_UNDERLYING_COLLATERAL, ne_CLASSED_UNDERLYING_SUBSTITUTION, ne_CLASSED_UNDERLYING_UNDERLYING, ne_CLASSED_UNDERLYING_COUNTERPARTY, ne_DEPOSITOR_NETTING_SET, ne_DEPOSITOR_SWAPPED_COLLATERAL, ne_DEPOSITOR_COLLATERAL, ne_DEPOSITOR_SUBSTITUTION, ne_DEPOSITOR_UNDERLYING, ne_DEPOSITOR_COUNTERPARTY⟩ := id FX
  refine own_go (T' := s₁) (g' := (mkF m 1 #[.val (.ref w_COUNTERPARTY)] [(.ref w_COUNTERPARTY)])) (fun t q => XS.aloadN X0.here hx rfl (hb hby d2_0) rfl rfl q) ?_
  obtain ⟨T1, X1, e1, st1⟩ := getS2 X0 hx hZ hown (host := "") (Or.inl (hw _ (List.mem_of_getElem? (i := 13) rfl))) Via.refl e0 S_SET_RATE_CLASS (g := (mkF m 1 #[.val (.ref w_COUNTERPARTY)] [(.ref w_COUNTERPARTY)])) rfl (hb hby d2_1)
  refine own_go (T' := T1) (g' := (mkF m 4 #[.val (.ref w_COUNTERPARTY)] [(.ref w_SET_RATE_CLASS), (.ref w_COUNTERPARTY)])) (fun t q => st1 t q) ?_
  have c2 : ¬ ((Value.ref w_COUNTERPARTY) = (Value.ref w_SET_RATE_CLASS)) := fun z => ne_SET_RATE_CLASS_COUNTERPARTY (Value.ref.inj z).symm
  refine own_go (T' := T1) (g' := (mkF m 7 #[.val (.ref w_COUNTERPARTY)] [])) (fun t q => XT.acmpNo X1.here hx rfl (hb hby d2_4) rfl rfl rfl (own_af c2).1 q) ?_
  refine own_go (T' := T1) (g' := (mkF m 8 #[.val (.ref w_COUNTERPARTY)] [(.ref w_COUNTERPARTY)])) (fun t q => XS.aloadN X1.here hx rfl (hb hby d2_7) rfl rfl q) ?_
  obtain ⟨T3, X3, e3, st3⟩ := getS2 X1 hx hZ hown (host := "") (Or.inl (hw _ (List.mem_of_getElem? (i := 15) rfl))) Via.refl e1 S_HOST_RATE_CLASS (g := (mkF m 8 #[.val (.ref w_COUNTERPARTY)] [(.ref w_COUNTERPARTY)])) rfl (hb hby d2_8)
  refine own_go (T' := T3) (g' := (mkF m 11 #[.val (.ref w_COUNTERPARTY)] [(.ref w_HOST_RATE_CLASS), (.ref w_COUNTERPARTY)])) (fun t q => st3 t q) ?_
  have c4 : ¬ ((Value.ref w_COUNTERPARTY) = (Value.ref w_HOST_RATE_CLASS)) := fun z => ne_HOST_RATE_CLASS_COUNTERPARTY (Value.ref.inj z).symm
  refine own_go (T' := T3) (g' := (mkF m 14 #[.val (.ref w_COUNTERPARTY)] [])) (fun t q => XT.acmpNo X3.here hx rfl (hb hby d2_11) rfl rfl rfl (own_af c4).1 q) ?_
  refine own_go (T' := T3) (g' := (mkF m 15 #[.val (.ref w_COUNTERPARTY)] [(.ref w_COUNTERPARTY)])) (fun t q => XS.aloadN X3.here hx rfl (hb hby d2_14) rfl rfl q) ?_
  obtain ⟨T5, X5, e5, st5⟩ := getS2 X3 hx hZ hown (host := "") (Or.inl (hw _ (List.mem_of_getElem? (i := 17) rfl))) Via.refl e3 S_CLASSED_UNDERLYING (g := (mkF m 15 #[.val (.ref w_COUNTERPARTY)] [(.ref w_COUNTERPARTY)])) rfl (hb hby d2_15)
  refine own_go (T' := T5) (g' := (mkF m 18 #[.val (.ref w_COUNTERPARTY)] [(.ref w_CLASSED_UNDERLYING), (.ref w_COUNTERPARTY)])) (fun t q => st5 t q) ?_
  have c6 : ¬ ((Value.ref w_COUNTERPARTY) = (Value.ref w_CLASSED_UNDERLYING)) := fun z => ne_CLASSED_UNDERLYING_COUNTERPARTY (Value.ref.inj z).symm
  refine own_go (T' := T5) (g' := (mkF m 21 #[.val (.ref w_COUNTERPARTY)] [])) (fun t q => XT.acmpNo X5.here hx rfl (hb hby d2_18) rfl rfl rfl (own_af c6).1 q) ?_
  refine own_go (T' := T5) (g' := (mkF m 22 #[.val (.ref w_COUNTERPARTY)] [(.ref w_COUNTERPARTY)])) (fun t q => XS.aloadN X5.here hx rfl (hb hby d2_21) rfl rfl q) ?_
  obtain ⟨T7, X7, e7, st7⟩ := getS2 X5 hx hZ hown (host := "") (Or.inl (hw _ (List.mem_of_getElem? (i := 19) rfl))) Via.refl e5 S_DEPOSITOR (g := (mkF m 22 #[.val (.ref w_COUNTERPARTY)] [(.ref w_COUNTERPARTY)])) rfl (hb hby d2_22)
  refine own_go (T' := T7) (g' := (mkF m 25 #[.val (.ref w_COUNTERPARTY)] [(.ref w_DEPOSITOR), (.ref w_COUNTERPARTY)])) (fun t q => st7 t q) ?_
  have c8 : ¬ ((Value.ref w_COUNTERPARTY) = (Value.ref w_DEPOSITOR)) := fun z => ne_DEPOSITOR_COUNTERPARTY (Value.ref.inj z).symm
  refine own_go (T' := T7) (g' := (mkF m 32 #[.val (.ref w_COUNTERPARTY)] [])) (fun t q => XT.acmpYes X7.here hx rfl (pc0 := 25) (pc' := 32) rfl (hb hby d2_25) rfl rfl rfl (own_af c8).2 (by decide) (by decide) q) ?_
  refine own_go (T' := T7) (g' := (mkF m 33 #[.val (.ref w_COUNTERPARTY)] [(.int (0 : Int32))])) (fun t q => XS.iconst X7.here hx rfl (hb hby d2_32) q) ?_
  refine own_outN X7 hx hlk hret (t := .boolean) (by simp) (hb hby d2_33) (w := (0 : Int32)) (by decide) ?_ (by decide) (by decide)
  exact ⟨rfl, e7, rfl⟩
set_option maxRecDepth 65536 in
set_option maxHeartbeats 40000000 in
theorem rm3_4 (l : Launch) (Z : State) (a0 : Array Value) (hw : ∀ d ∈ tables_1, d.before a0 Z = true) (ws : List Jvm.Cond) (p1 : Int32) (h0 : Heap) (hk : p1 = 4) :
    own_Met l (⟨"com/example/ryudo/ryudo/model/KindTakesRateClassPinLaw", "expected", "(I)Z"⟩ : MethodName) method_3_code 1 (some .boolean) ws ({ frames := 0, cells := 0, slots := 0, locals := 0 } : Room) Z #[(.int p1)] h0 (fun v h L => v = some (.int (0 : Int32)) ∧ h = h0 ∧ L = []) := by
  refine MetFree.of_bodySF (plainFor_of_name (by first | (simp [plainName, overriddenIn]; done) | decide +kernel)) hisR ?_
  intro p e s m args below meth c s₁ Bd hml0 hP hK
  obtain ⟨rfl, hZ, hh⟩ := hP
  have hx := Bd.exec
  have hby := Bd.bytes
  have hml : c.maxLocals = 1 := hml0
  have hown : s.vm.findClass "com/example/ryudo/ryudo/model/KindTakesRateClassPinLaw" = some m.cls := findClass_of_methodNamed Bd.named
  have hnm := (name_of_methodNamed Bd.named Bd.method).1
  have hlk : meth.locks = false := Bd.notSynchronized
  have hret := Bd.returns
  have X0 : Stand p l e ({ frames := 0, cells := 0, slots := 0, locals := 0 } : Room) s m #[(.int p1)] below meth c s₁ [] 0 0 := Stand.of_body Bd
  have e0 : s₁.heap = h0 := by rw [← hh, Bd.state]; rfl
  refine own_in (Q := fun v h L => v = some (.int (0 : Int32)) ∧ h = h0 ∧ L = []) (ef := by first | (simp [entryFrame, mkF, argsToLocals, Value.category, maxLocals]; done) | rfl) (g' := (mkF m 0 #[.val (.int p1)] [])) ?_
  refine own_go (T' := s₁) (g' := (mkF m 1 #[.val (.int p1)] [(.int p1)])) (fun t q => XS.iloadN X0.here hx rfl (hb hby d3_0) rfl q) ?_
  refine own_go (T' := s₁) (g' := (mkF m 3 #[.val (.int p1)] [(.int (7 : Int32)), (.int p1)])) (fun t q => XS.bipush X0.here hx rfl (hb hby d3_1) q) ?_
  have c1 : ¬ (p1 = (7 : Int32)) := by rw [hk]; decide
  refine own_go (T' := s₁) (g' := (mkF m 8 #[.val (.int p1)] [])) (fun t q => XS.icmpYes X0.here hx rfl (pc0 := 3) (pc' := 8) rfl (hb hby d3_3) rfl (feq c1).2 (by decide) (by decide) q) ?_
  refine own_go (T' := s₁) (g' := (mkF m 9 #[.val (.int p1)] [(.int p1)])) (fun t q => XS.iloadN X0.here hx rfl (hb hby d3_8) rfl q) ?_
  refine own_go (T' := s₁) (g' := (mkF m 11 #[.val (.int p1)] [(.int (8 : Int32)), (.int p1)])) (fun t q => XS.bipush X0.here hx rfl (hb hby d3_9) q) ?_
  have c2 : ¬ (p1 = (8 : Int32)) := by rw [hk]; decide
  refine own_go (T' := s₁) (g' := (mkF m 16 #[.val (.int p1)] [])) (fun t q => XS.icmpYes X0.here hx rfl (pc0 := 11) (pc' := 16) rfl (hb hby d3_11) rfl (feq c2).2 (by decide) (by decide) q) ?_
  refine own_go (T' := s₁) (g' := (mkF m 17 #[.val (.int p1)] [(.int p1)])) (fun t q => XS.iloadN X0.here hx rfl (hb hby d3_16) rfl q) ?_
  refine own_go (T' := s₁) (g' := (mkF m 19 #[.val (.int p1)] [(.int (9 : Int32)), (.int p1)])) (fun t q => XS.bipush X0.here hx rfl (hb hby d3_17) q) ?_
  have c3 : ¬ (p1 = (9 : Int32)) := by rw [hk]; decide
  refine own_go (T' := s₁) (g' := (mkF m 24 #[.val (.int p1)] [])) (fun t q => XS.icmpYes X0.here hx rfl (pc0 := 19) (pc' := 24) rfl (hb hby d3_19) rfl (feq c3).2 (by decide) (by decide) q) ?_
  refine own_go (T' := s₁) (g' := (mkF m 25 #[.val (.int p1)] [(.int p1)])) (fun t q => XS.iloadN X0.here hx rfl (hb hby d3_24) rfl q) ?_
  refine own_go (T' := s₁) (g' := (mkF m 27 #[.val (.int p1)] [(.int (10 : Int32)), (.int p1)])) (fun t q => XS.bipush X0.here hx rfl (hb hby d3_25) q) ?_
  have c4 : ¬ (p1 = (10 : Int32)) := by rw [hk]; decide
  refine own_go (T' := s₁) (g' := (mkF m 32 #[.val (.int p1)] [])) (fun t q => XS.icmpYes X0.here hx rfl (pc0 := 27) (pc' := 32) rfl (hb hby d3_27) rfl (feq c4).2 (by decide) (by decide) q) ?_
  refine own_go (T' := s₁) (g' := (mkF m 33 #[.val (.int p1)] [(.int (0 : Int32))])) (fun t q => XS.iconst X0.here hx rfl (hb hby d3_32) q) ?_
  refine own_outN X0 hx hlk hret (t := .boolean) (by simp) (hb hby d3_33) (w := (0 : Int32)) (by decide) ?_ (by decide) (by decide)
  exact ⟨rfl, e0, rfl⟩
set_option maxRecDepth 65536 in
set_option maxHeartbeats 40000000 in
theorem rm2_5 (l : Launch) (Z : State) (a0 : Array Value) (hw : ∀ d ∈ tables_1, d.before a0 Z = true) (ws : List Jvm.Cond) (w_NONE w_SET_RATE_CLASS w_HOST_RATE_CLASS w_CLASSED_UNDERLYING w_DEPOSITOR w_NETTING_SET w_SWAPPED_COLLATERAL w_COLLATERAL w_SUBSTITUTION w_UNDERLYING w_COUNTERPARTY : Addr) (h0 : Heap) (FX : own_F Z h0 w_NONE w_SET_RATE_CLASS w_HOST_RATE_CLASS w_CLASSED_UNDERLYING w_DEPOSITOR w_NETTING_SET w_SWAPPED_COLLATERAL w_COLLATERAL w_SUBSTITUTION w_UNDERLYING w_COUNTERPARTY) :
    own_Met l (⟨"com/example/ryudo/ryudo/model/Terms$Kind", "takesRateClass", "()Z"⟩ : MethodName) prog_96_method_6_code 1 (some .boolean) ws ({ frames := 0, cells := 0, slots := 0, locals := 0 } : Room) Z #[(.ref w_SUBSTITUTION)] h0 (fun v h L => v = some (.int (0 : Int32)) ∧ h = h0 ∧ L = []) := by
  refine MetFree.of_bodySF (plainFor_of_name (by first | (simp [plainName, overriddenIn]; done) | decide +kernel)) hisR ?_
  intro p e s m args below meth c s₁ Bd hml0 hP hK
  obtain ⟨rfl, hZ, hh⟩ := hP
  have hx := Bd.exec
  have hby := Bd.bytes
  have hml : c.maxLocals = 1 := hml0
  have hown : s.vm.findClass "com/example/ryudo/ryudo/model/Terms$Kind" = some m.cls := findClass_of_methodNamed Bd.named
  have hnm := (name_of_methodNamed Bd.named Bd.method).1
  have hlk : meth.locks = false := Bd.notSynchronized
  have hret := Bd.returns
  have X0 : Stand p l e ({ frames := 0, cells := 0, slots := 0, locals := 0 } : Room) s m #[(.ref w_SUBSTITUTION)] below meth c s₁ [] 0 0 := Stand.of_body Bd
  have e0 : s₁.heap = h0 := by rw [← hh, Bd.state]; rfl
  refine own_in (Q := fun v h L => v = some (.int (0 : Int32)) ∧ h = h0 ∧ L = []) (ef := by first | (simp [entryFrame, mkF, argsToLocals, Value.category, maxLocals]; done) | rfl) (g' := (mkF m 0 #[.val (.ref w_SUBSTITUTION)] [])) ?_
  obtain ⟨S_NONE, E_NONE, S_SET_RATE_CLASS, E_SET_RATE_CLASS, S_HOST_RATE_CLASS, E_HOST_RATE_CLASS, S_CLASSED_UNDERLYING, E_CLASSED_UNDERLYING, S_DEPOSITOR, E_DEPOSITOR, S_NETTING_SET, E_NETTING_SET, S_SWAPPED_COLLATERAL, E_SWAPPED_COLLATERAL, S_COLLATERAL, E_COLLATERAL, S_SUBSTITUTION, E_SUBSTITUTION, S_UNDERLYING, E_UNDERLYING, S_COUNTERPARTY, E_COUNTERPARTY, F_NONE_ordinal, F_SET_RATE_CLASS_ordinal, F_HOST_RATE_CLASS_ordinal, F_CLASSED_UNDERLYING_ordinal, F_DEPOSITOR_ordinal, F_NETTING_SET_ordinal, F_SWAPPED_COLLATERAL_ordinal, F_COLLATERAL_ordinal, F_SUBSTITUTION_ordinal, F_UNDERLYING_ordinal, F_COUNTERPARTY_ordinal, ne_NONE_SET_RATE_CLASS, ne_NONE_HOST_RATE_CLASS, ne_NONE_CLASSED_UNDERLYING, ne_NONE_DEPOSITOR, ne_SET_RATE_CLASS_HOST_RATE_CLASS, ne_SET_RATE_CLASS_CLASSED_UNDERLYING, ne_SET_RATE_CLASS_DEPOSITOR, ne_SET_RATE_CLASS_NETTING_SET, ne_SET_RATE_CLASS_SWAPPED_COLLATERAL, ne_SET_RATE_CLASS_COLLATERAL, ne_SET_RATE_CLASS_SUBSTITUTION, ne_SET_RATE_CLASS_UNDERLYING, ne_SET_RATE_CLASS_COUNTERPARTY, ne_HOST_RATE_CLASS_CLASSED_UNDERLYING, ne_HOST_RATE_CLASS_DEPOSITOR, ne_HOST_RATE_CLASS_NETTING_SET, ne_HOST_RATE_CLASS_SWAPPED_COLLATERAL, ne_HOST_RATE_CLASS_COLLATERAL, ne_HOST_RATE_CLASS_SUBSTITUTION, ne_HOST_RATE_CLASS_UNDERLYING, ne_HOST_RATE_CLASS_COUNTERPARTY, ne_CLASSED_UNDERLYING_DEPOSITOR, ne_CLASSED_UNDERLYING_NETTING_SET, ne_CLASSED_UNDERLYING_SWAPPED_COLLATERAL, ne_CLASSED_UNDERLYING_COLLATERAL, ne_CLASSED_UNDERLYING_SUBSTITUTION, ne_CLASSED_UNDERLYING_UNDERLYING, ne_CLASSED_UNDERLYING_COUNTERPARTY, ne_DEPOSITOR_NETTING_SET, ne_DEPOSITOR_SWAPPED_COLLATERAL, ne_DEPOSITOR_COLLATERAL, ne_DEPOSITOR_SUBSTITUTION, ne_DEPOSITOR_UNDERLYING, ne_DEPOSITOR_COUNTERPARTY⟩ := id FX
  refine own_go (T' := s₁) (g' := (mkF m 1 #[.val (.ref w_SUBSTITUTION)] [(.ref w_SUBSTITUTION)])) (fun t q => XS.aloadN X0.here hx rfl (hb hby d2_0) rfl rfl q) ?_
  obtain ⟨T1, X1, e1, st1⟩ := getS2 X0 hx hZ hown (host := "") (Or.inl (hw _ (List.mem_of_getElem? (i := 13) rfl))) Via.refl e0 S_SET_RATE_CLASS (g := (mkF m 1 #[.val (.ref w_SUBSTITUTION)] [(.ref w_SUBSTITUTION)])) rfl (hb hby d2_1)
  refine own_go (T' := T1) (g' := (mkF m 4 #[.val (.ref w_SUBSTITUTION)] [(.ref w_SET_RATE_CLASS), (.ref w_SUBSTITUTION)])) (fun t q => st1 t q) ?_
  have c2 : ¬ ((Value.ref w_SUBSTITUTION) = (Value.ref w_SET_RATE_CLASS)) := fun z => ne_SET_RATE_CLASS_SUBSTITUTION (Value.ref.inj z).symm
  refine own_go (T' := T1) (g' := (mkF m 7 #[.val (.ref w_SUBSTITUTION)] [])) (fun t q => XT.acmpNo X1.here hx rfl (hb hby d2_4) rfl rfl rfl (own_af c2).1 q) ?_
  refine own_go (T' := T1) (g' := (mkF m 8 #[.val (.ref w_SUBSTITUTION)] [(.ref w_SUBSTITUTION)])) (fun t q => XS.aloadN X1.here hx rfl (hb hby d2_7) rfl rfl q) ?_
  obtain ⟨T3, X3, e3, st3⟩ := getS2 X1 hx hZ hown (host := "") (Or.inl (hw _ (List.mem_of_getElem? (i := 15) rfl))) Via.refl e1 S_HOST_RATE_CLASS (g := (mkF m 8 #[.val (.ref w_SUBSTITUTION)] [(.ref w_SUBSTITUTION)])) rfl (hb hby d2_8)
  refine own_go (T' := T3) (g' := (mkF m 11 #[.val (.ref w_SUBSTITUTION)] [(.ref w_HOST_RATE_CLASS), (.ref w_SUBSTITUTION)])) (fun t q => st3 t q) ?_
  have c4 : ¬ ((Value.ref w_SUBSTITUTION) = (Value.ref w_HOST_RATE_CLASS)) := fun z => ne_HOST_RATE_CLASS_SUBSTITUTION (Value.ref.inj z).symm
  refine own_go (T' := T3) (g' := (mkF m 14 #[.val (.ref w_SUBSTITUTION)] [])) (fun t q => XT.acmpNo X3.here hx rfl (hb hby d2_11) rfl rfl rfl (own_af c4).1 q) ?_
  refine own_go (T' := T3) (g' := (mkF m 15 #[.val (.ref w_SUBSTITUTION)] [(.ref w_SUBSTITUTION)])) (fun t q => XS.aloadN X3.here hx rfl (hb hby d2_14) rfl rfl q) ?_
  obtain ⟨T5, X5, e5, st5⟩ := getS2 X3 hx hZ hown (host := "") (Or.inl (hw _ (List.mem_of_getElem? (i := 17) rfl))) Via.refl e3 S_CLASSED_UNDERLYING (g := (mkF m 15 #[.val (.ref w_SUBSTITUTION)] [(.ref w_SUBSTITUTION)])) rfl (hb hby d2_15)
  refine own_go (T' := T5) (g' := (mkF m 18 #[.val (.ref w_SUBSTITUTION)] [(.ref w_CLASSED_UNDERLYING), (.ref w_SUBSTITUTION)])) (fun t q => st5 t q) ?_
  have c6 : ¬ ((Value.ref w_SUBSTITUTION) = (Value.ref w_CLASSED_UNDERLYING)) := fun z => ne_CLASSED_UNDERLYING_SUBSTITUTION (Value.ref.inj z).symm
  refine own_go (T' := T5) (g' := (mkF m 21 #[.val (.ref w_SUBSTITUTION)] [])) (fun t q => XT.acmpNo X5.here hx rfl (hb hby d2_18) rfl rfl rfl (own_af c6).1 q) ?_
  refine own_go (T' := T5) (g' := (mkF m 22 #[.val (.ref w_SUBSTITUTION)] [(.ref w_SUBSTITUTION)])) (fun t q => XS.aloadN X5.here hx rfl (hb hby d2_21) rfl rfl q) ?_
  obtain ⟨T7, X7, e7, st7⟩ := getS2 X5 hx hZ hown (host := "") (Or.inl (hw _ (List.mem_of_getElem? (i := 19) rfl))) Via.refl e5 S_DEPOSITOR (g := (mkF m 22 #[.val (.ref w_SUBSTITUTION)] [(.ref w_SUBSTITUTION)])) rfl (hb hby d2_22)
  refine own_go (T' := T7) (g' := (mkF m 25 #[.val (.ref w_SUBSTITUTION)] [(.ref w_DEPOSITOR), (.ref w_SUBSTITUTION)])) (fun t q => st7 t q) ?_
  have c8 : ¬ ((Value.ref w_SUBSTITUTION) = (Value.ref w_DEPOSITOR)) := fun z => ne_DEPOSITOR_SUBSTITUTION (Value.ref.inj z).symm
  refine own_go (T' := T7) (g' := (mkF m 32 #[.val (.ref w_SUBSTITUTION)] [])) (fun t q => XT.acmpYes X7.here hx rfl (pc0 := 25) (pc' := 32) rfl (hb hby d2_25) rfl rfl rfl (own_af c8).2 (by decide) (by decide) q) ?_
  refine own_go (T' := T7) (g' := (mkF m 33 #[.val (.ref w_SUBSTITUTION)] [(.int (0 : Int32))])) (fun t q => XS.iconst X7.here hx rfl (hb hby d2_32) q) ?_
  refine own_outN X7 hx hlk hret (t := .boolean) (by simp) (hb hby d2_33) (w := (0 : Int32)) (by decide) ?_ (by decide) (by decide)
  exact ⟨rfl, e7, rfl⟩
set_option maxRecDepth 65536 in
set_option maxHeartbeats 40000000 in
theorem rm3_5 (l : Launch) (Z : State) (a0 : Array Value) (hw : ∀ d ∈ tables_1, d.before a0 Z = true) (ws : List Jvm.Cond) (p1 : Int32) (h0 : Heap) (hk : p1 = 5) :
    own_Met l (⟨"com/example/ryudo/ryudo/model/KindTakesRateClassPinLaw", "expected", "(I)Z"⟩ : MethodName) method_3_code 1 (some .boolean) ws ({ frames := 0, cells := 0, slots := 0, locals := 0 } : Room) Z #[(.int p1)] h0 (fun v h L => v = some (.int (0 : Int32)) ∧ h = h0 ∧ L = []) := by
  refine MetFree.of_bodySF (plainFor_of_name (by first | (simp [plainName, overriddenIn]; done) | decide +kernel)) hisR ?_
  intro p e s m args below meth c s₁ Bd hml0 hP hK
  obtain ⟨rfl, hZ, hh⟩ := hP
  have hx := Bd.exec
  have hby := Bd.bytes
  have hml : c.maxLocals = 1 := hml0
  have hown : s.vm.findClass "com/example/ryudo/ryudo/model/KindTakesRateClassPinLaw" = some m.cls := findClass_of_methodNamed Bd.named
  have hnm := (name_of_methodNamed Bd.named Bd.method).1
  have hlk : meth.locks = false := Bd.notSynchronized
  have hret := Bd.returns
  have X0 : Stand p l e ({ frames := 0, cells := 0, slots := 0, locals := 0 } : Room) s m #[(.int p1)] below meth c s₁ [] 0 0 := Stand.of_body Bd
  have e0 : s₁.heap = h0 := by rw [← hh, Bd.state]; rfl
  refine own_in (Q := fun v h L => v = some (.int (0 : Int32)) ∧ h = h0 ∧ L = []) (ef := by first | (simp [entryFrame, mkF, argsToLocals, Value.category, maxLocals]; done) | rfl) (g' := (mkF m 0 #[.val (.int p1)] [])) ?_
  refine own_go (T' := s₁) (g' := (mkF m 1 #[.val (.int p1)] [(.int p1)])) (fun t q => XS.iloadN X0.here hx rfl (hb hby d3_0) rfl q) ?_
  refine own_go (T' := s₁) (g' := (mkF m 3 #[.val (.int p1)] [(.int (7 : Int32)), (.int p1)])) (fun t q => XS.bipush X0.here hx rfl (hb hby d3_1) q) ?_
  have c1 : ¬ (p1 = (7 : Int32)) := by rw [hk]; decide
  refine own_go (T' := s₁) (g' := (mkF m 8 #[.val (.int p1)] [])) (fun t q => XS.icmpYes X0.here hx rfl (pc0 := 3) (pc' := 8) rfl (hb hby d3_3) rfl (feq c1).2 (by decide) (by decide) q) ?_
  refine own_go (T' := s₁) (g' := (mkF m 9 #[.val (.int p1)] [(.int p1)])) (fun t q => XS.iloadN X0.here hx rfl (hb hby d3_8) rfl q) ?_
  refine own_go (T' := s₁) (g' := (mkF m 11 #[.val (.int p1)] [(.int (8 : Int32)), (.int p1)])) (fun t q => XS.bipush X0.here hx rfl (hb hby d3_9) q) ?_
  have c2 : ¬ (p1 = (8 : Int32)) := by rw [hk]; decide
  refine own_go (T' := s₁) (g' := (mkF m 16 #[.val (.int p1)] [])) (fun t q => XS.icmpYes X0.here hx rfl (pc0 := 11) (pc' := 16) rfl (hb hby d3_11) rfl (feq c2).2 (by decide) (by decide) q) ?_
  refine own_go (T' := s₁) (g' := (mkF m 17 #[.val (.int p1)] [(.int p1)])) (fun t q => XS.iloadN X0.here hx rfl (hb hby d3_16) rfl q) ?_
  refine own_go (T' := s₁) (g' := (mkF m 19 #[.val (.int p1)] [(.int (9 : Int32)), (.int p1)])) (fun t q => XS.bipush X0.here hx rfl (hb hby d3_17) q) ?_
  have c3 : ¬ (p1 = (9 : Int32)) := by rw [hk]; decide
  refine own_go (T' := s₁) (g' := (mkF m 24 #[.val (.int p1)] [])) (fun t q => XS.icmpYes X0.here hx rfl (pc0 := 19) (pc' := 24) rfl (hb hby d3_19) rfl (feq c3).2 (by decide) (by decide) q) ?_
  refine own_go (T' := s₁) (g' := (mkF m 25 #[.val (.int p1)] [(.int p1)])) (fun t q => XS.iloadN X0.here hx rfl (hb hby d3_24) rfl q) ?_
  refine own_go (T' := s₁) (g' := (mkF m 27 #[.val (.int p1)] [(.int (10 : Int32)), (.int p1)])) (fun t q => XS.bipush X0.here hx rfl (hb hby d3_25) q) ?_
  have c4 : ¬ (p1 = (10 : Int32)) := by rw [hk]; decide
  refine own_go (T' := s₁) (g' := (mkF m 32 #[.val (.int p1)] [])) (fun t q => XS.icmpYes X0.here hx rfl (pc0 := 27) (pc' := 32) rfl (hb hby d3_27) rfl (feq c4).2 (by decide) (by decide) q) ?_
  refine own_go (T' := s₁) (g' := (mkF m 33 #[.val (.int p1)] [(.int (0 : Int32))])) (fun t q => XS.iconst X0.here hx rfl (hb hby d3_32) q) ?_
  refine own_outN X0 hx hlk hret (t := .boolean) (by simp) (hb hby d3_33) (w := (0 : Int32)) (by decide) ?_ (by decide) (by decide)
  exact ⟨rfl, e0, rfl⟩
set_option maxRecDepth 65536 in
set_option maxHeartbeats 40000000 in
theorem rm2_6 (l : Launch) (Z : State) (a0 : Array Value) (hw : ∀ d ∈ tables_1, d.before a0 Z = true) (ws : List Jvm.Cond) (w_NONE w_SET_RATE_CLASS w_HOST_RATE_CLASS w_CLASSED_UNDERLYING w_DEPOSITOR w_NETTING_SET w_SWAPPED_COLLATERAL w_COLLATERAL w_SUBSTITUTION w_UNDERLYING w_COUNTERPARTY : Addr) (h0 : Heap) (FX : own_F Z h0 w_NONE w_SET_RATE_CLASS w_HOST_RATE_CLASS w_CLASSED_UNDERLYING w_DEPOSITOR w_NETTING_SET w_SWAPPED_COLLATERAL w_COLLATERAL w_SUBSTITUTION w_UNDERLYING w_COUNTERPARTY) :
    own_Met l (⟨"com/example/ryudo/ryudo/model/Terms$Kind", "takesRateClass", "()Z"⟩ : MethodName) prog_96_method_6_code 1 (some .boolean) ws ({ frames := 0, cells := 0, slots := 0, locals := 0 } : Room) Z #[(.ref w_UNDERLYING)] h0 (fun v h L => v = some (.int (0 : Int32)) ∧ h = h0 ∧ L = []) := by
  refine MetFree.of_bodySF (plainFor_of_name (by first | (simp [plainName, overriddenIn]; done) | decide +kernel)) hisR ?_
  intro p e s m args below meth c s₁ Bd hml0 hP hK
  obtain ⟨rfl, hZ, hh⟩ := hP
  have hx := Bd.exec
  have hby := Bd.bytes
  have hml : c.maxLocals = 1 := hml0
  have hown : s.vm.findClass "com/example/ryudo/ryudo/model/Terms$Kind" = some m.cls := findClass_of_methodNamed Bd.named
  have hnm := (name_of_methodNamed Bd.named Bd.method).1
  have hlk : meth.locks = false := Bd.notSynchronized
  have hret := Bd.returns
  have X0 : Stand p l e ({ frames := 0, cells := 0, slots := 0, locals := 0 } : Room) s m #[(.ref w_UNDERLYING)] below meth c s₁ [] 0 0 := Stand.of_body Bd
  have e0 : s₁.heap = h0 := by rw [← hh, Bd.state]; rfl
  refine own_in (Q := fun v h L => v = some (.int (0 : Int32)) ∧ h = h0 ∧ L = []) (ef := by first | (simp [entryFrame, mkF, argsToLocals, Value.category, maxLocals]; done) | rfl) (g' := (mkF m 0 #[.val (.ref w_UNDERLYING)] [])) ?_
  obtain ⟨S_NONE, E_NONE, S_SET_RATE_CLASS, E_SET_RATE_CLASS, S_HOST_RATE_CLASS, E_HOST_RATE_CLASS, S_CLASSED_UNDERLYING, E_CLASSED_UNDERLYING, S_DEPOSITOR, E_DEPOSITOR, S_NETTING_SET, E_NETTING_SET, S_SWAPPED_COLLATERAL, E_SWAPPED_COLLATERAL, S_COLLATERAL, E_COLLATERAL, S_SUBSTITUTION, E_SUBSTITUTION, S_UNDERLYING, E_UNDERLYING, S_COUNTERPARTY, E_COUNTERPARTY, F_NONE_ordinal, F_SET_RATE_CLASS_ordinal, F_HOST_RATE_CLASS_ordinal, F_CLASSED_UNDERLYING_ordinal, F_DEPOSITOR_ordinal, F_NETTING_SET_ordinal, F_SWAPPED_COLLATERAL_ordinal, F_COLLATERAL_ordinal, F_SUBSTITUTION_ordinal, F_UNDERLYING_ordinal, F_COUNTERPARTY_ordinal, ne_NONE_SET_RATE_CLASS, ne_NONE_HOST_RATE_CLASS, ne_NONE_CLASSED_UNDERLYING, ne_NONE_DEPOSITOR, ne_SET_RATE_CLASS_HOST_RATE_CLASS, ne_SET_RATE_CLASS_CLASSED_UNDERLYING, ne_SET_RATE_CLASS_DEPOSITOR, ne_SET_RATE_CLASS_NETTING_SET, ne_SET_RATE_CLASS_SWAPPED_COLLATERAL, ne_SET_RATE_CLASS_COLLATERAL, ne_SET_RATE_CLASS_SUBSTITUTION, ne_SET_RATE_CLASS_UNDERLYING, ne_SET_RATE_CLASS_COUNTERPARTY, ne_HOST_RATE_CLASS_CLASSED_UNDERLYING, ne_HOST_RATE_CLASS_DEPOSITOR, ne_HOST_RATE_CLASS_NETTING_SET, ne_HOST_RATE_CLASS_SWAPPED_COLLATERAL, ne_HOST_RATE_CLASS_COLLATERAL, ne_HOST_RATE_CLASS_SUBSTITUTION, ne_HOST_RATE_CLASS_UNDERLYING, ne_HOST_RATE_CLASS_COUNTERPARTY, ne_CLASSED_UNDERLYING_DEPOSITOR, ne_CLASSED_UNDERLYING_NETTING_SET, ne_CLASSED_UNDERLYING_SWAPPED_COLLATERAL, ne_CLASSED_UNDERLYING_COLLATERAL, ne_CLASSED_UNDERLYING_SUBSTITUTION, ne_CLASSED_UNDERLYING_UNDERLYING, ne_CLASSED_UNDERLYING_COUNTERPARTY, ne_DEPOSITOR_NETTING_SET, ne_DEPOSITOR_SWAPPED_COLLATERAL, ne_DEPOSITOR_COLLATERAL, ne_DEPOSITOR_SUBSTITUTION, ne_DEPOSITOR_UNDERLYING, ne_DEPOSITOR_COUNTERPARTY⟩ := id FX
  refine own_go (T' := s₁) (g' := (mkF m 1 #[.val (.ref w_UNDERLYING)] [(.ref w_UNDERLYING)])) (fun t q => XS.aloadN X0.here hx rfl (hb hby d2_0) rfl rfl q) ?_
  obtain ⟨T1, X1, e1, st1⟩ := getS2 X0 hx hZ hown (host := "") (Or.inl (hw _ (List.mem_of_getElem? (i := 13) rfl))) Via.refl e0 S_SET_RATE_CLASS (g := (mkF m 1 #[.val (.ref w_UNDERLYING)] [(.ref w_UNDERLYING)])) rfl (hb hby d2_1)
  refine own_go (T' := T1) (g' := (mkF m 4 #[.val (.ref w_UNDERLYING)] [(.ref w_SET_RATE_CLASS), (.ref w_UNDERLYING)])) (fun t q => st1 t q) ?_
  have c2 : ¬ ((Value.ref w_UNDERLYING) = (Value.ref w_SET_RATE_CLASS)) := fun z => ne_SET_RATE_CLASS_UNDERLYING (Value.ref.inj z).symm
  refine own_go (T' := T1) (g' := (mkF m 7 #[.val (.ref w_UNDERLYING)] [])) (fun t q => XT.acmpNo X1.here hx rfl (hb hby d2_4) rfl rfl rfl (own_af c2).1 q) ?_
  refine own_go (T' := T1) (g' := (mkF m 8 #[.val (.ref w_UNDERLYING)] [(.ref w_UNDERLYING)])) (fun t q => XS.aloadN X1.here hx rfl (hb hby d2_7) rfl rfl q) ?_
  obtain ⟨T3, X3, e3, st3⟩ := getS2 X1 hx hZ hown (host := "") (Or.inl (hw _ (List.mem_of_getElem? (i := 15) rfl))) Via.refl e1 S_HOST_RATE_CLASS (g := (mkF m 8 #[.val (.ref w_UNDERLYING)] [(.ref w_UNDERLYING)])) rfl (hb hby d2_8)
  refine own_go (T' := T3) (g' := (mkF m 11 #[.val (.ref w_UNDERLYING)] [(.ref w_HOST_RATE_CLASS), (.ref w_UNDERLYING)])) (fun t q => st3 t q) ?_
  have c4 : ¬ ((Value.ref w_UNDERLYING) = (Value.ref w_HOST_RATE_CLASS)) := fun z => ne_HOST_RATE_CLASS_UNDERLYING (Value.ref.inj z).symm
  refine own_go (T' := T3) (g' := (mkF m 14 #[.val (.ref w_UNDERLYING)] [])) (fun t q => XT.acmpNo X3.here hx rfl (hb hby d2_11) rfl rfl rfl (own_af c4).1 q) ?_
  refine own_go (T' := T3) (g' := (mkF m 15 #[.val (.ref w_UNDERLYING)] [(.ref w_UNDERLYING)])) (fun t q => XS.aloadN X3.here hx rfl (hb hby d2_14) rfl rfl q) ?_
  obtain ⟨T5, X5, e5, st5⟩ := getS2 X3 hx hZ hown (host := "") (Or.inl (hw _ (List.mem_of_getElem? (i := 17) rfl))) Via.refl e3 S_CLASSED_UNDERLYING (g := (mkF m 15 #[.val (.ref w_UNDERLYING)] [(.ref w_UNDERLYING)])) rfl (hb hby d2_15)
  refine own_go (T' := T5) (g' := (mkF m 18 #[.val (.ref w_UNDERLYING)] [(.ref w_CLASSED_UNDERLYING), (.ref w_UNDERLYING)])) (fun t q => st5 t q) ?_
  have c6 : ¬ ((Value.ref w_UNDERLYING) = (Value.ref w_CLASSED_UNDERLYING)) := fun z => ne_CLASSED_UNDERLYING_UNDERLYING (Value.ref.inj z).symm
  refine own_go (T' := T5) (g' := (mkF m 21 #[.val (.ref w_UNDERLYING)] [])) (fun t q => XT.acmpNo X5.here hx rfl (hb hby d2_18) rfl rfl rfl (own_af c6).1 q) ?_
  refine own_go (T' := T5) (g' := (mkF m 22 #[.val (.ref w_UNDERLYING)] [(.ref w_UNDERLYING)])) (fun t q => XS.aloadN X5.here hx rfl (hb hby d2_21) rfl rfl q) ?_
  obtain ⟨T7, X7, e7, st7⟩ := getS2 X5 hx hZ hown (host := "") (Or.inl (hw _ (List.mem_of_getElem? (i := 19) rfl))) Via.refl e5 S_DEPOSITOR (g := (mkF m 22 #[.val (.ref w_UNDERLYING)] [(.ref w_UNDERLYING)])) rfl (hb hby d2_22)
  refine own_go (T' := T7) (g' := (mkF m 25 #[.val (.ref w_UNDERLYING)] [(.ref w_DEPOSITOR), (.ref w_UNDERLYING)])) (fun t q => st7 t q) ?_
  have c8 : ¬ ((Value.ref w_UNDERLYING) = (Value.ref w_DEPOSITOR)) := fun z => ne_DEPOSITOR_UNDERLYING (Value.ref.inj z).symm
  refine own_go (T' := T7) (g' := (mkF m 32 #[.val (.ref w_UNDERLYING)] [])) (fun t q => XT.acmpYes X7.here hx rfl (pc0 := 25) (pc' := 32) rfl (hb hby d2_25) rfl rfl rfl (own_af c8).2 (by decide) (by decide) q) ?_
  refine own_go (T' := T7) (g' := (mkF m 33 #[.val (.ref w_UNDERLYING)] [(.int (0 : Int32))])) (fun t q => XS.iconst X7.here hx rfl (hb hby d2_32) q) ?_
  refine own_outN X7 hx hlk hret (t := .boolean) (by simp) (hb hby d2_33) (w := (0 : Int32)) (by decide) ?_ (by decide) (by decide)
  exact ⟨rfl, e7, rfl⟩
set_option maxRecDepth 65536 in
set_option maxHeartbeats 40000000 in
theorem rm3_6 (l : Launch) (Z : State) (a0 : Array Value) (hw : ∀ d ∈ tables_1, d.before a0 Z = true) (ws : List Jvm.Cond) (p1 : Int32) (h0 : Heap) (hk : p1 = 6) :
    own_Met l (⟨"com/example/ryudo/ryudo/model/KindTakesRateClassPinLaw", "expected", "(I)Z"⟩ : MethodName) method_3_code 1 (some .boolean) ws ({ frames := 0, cells := 0, slots := 0, locals := 0 } : Room) Z #[(.int p1)] h0 (fun v h L => v = some (.int (0 : Int32)) ∧ h = h0 ∧ L = []) := by
  refine MetFree.of_bodySF (plainFor_of_name (by first | (simp [plainName, overriddenIn]; done) | decide +kernel)) hisR ?_
  intro p e s m args below meth c s₁ Bd hml0 hP hK
  obtain ⟨rfl, hZ, hh⟩ := hP
  have hx := Bd.exec
  have hby := Bd.bytes
  have hml : c.maxLocals = 1 := hml0
  have hown : s.vm.findClass "com/example/ryudo/ryudo/model/KindTakesRateClassPinLaw" = some m.cls := findClass_of_methodNamed Bd.named
  have hnm := (name_of_methodNamed Bd.named Bd.method).1
  have hlk : meth.locks = false := Bd.notSynchronized
  have hret := Bd.returns
  have X0 : Stand p l e ({ frames := 0, cells := 0, slots := 0, locals := 0 } : Room) s m #[(.int p1)] below meth c s₁ [] 0 0 := Stand.of_body Bd
  have e0 : s₁.heap = h0 := by rw [← hh, Bd.state]; rfl
  refine own_in (Q := fun v h L => v = some (.int (0 : Int32)) ∧ h = h0 ∧ L = []) (ef := by first | (simp [entryFrame, mkF, argsToLocals, Value.category, maxLocals]; done) | rfl) (g' := (mkF m 0 #[.val (.int p1)] [])) ?_
  refine own_go (T' := s₁) (g' := (mkF m 1 #[.val (.int p1)] [(.int p1)])) (fun t q => XS.iloadN X0.here hx rfl (hb hby d3_0) rfl q) ?_
  refine own_go (T' := s₁) (g' := (mkF m 3 #[.val (.int p1)] [(.int (7 : Int32)), (.int p1)])) (fun t q => XS.bipush X0.here hx rfl (hb hby d3_1) q) ?_
  have c1 : ¬ (p1 = (7 : Int32)) := by rw [hk]; decide
  refine own_go (T' := s₁) (g' := (mkF m 8 #[.val (.int p1)] [])) (fun t q => XS.icmpYes X0.here hx rfl (pc0 := 3) (pc' := 8) rfl (hb hby d3_3) rfl (feq c1).2 (by decide) (by decide) q) ?_
  refine own_go (T' := s₁) (g' := (mkF m 9 #[.val (.int p1)] [(.int p1)])) (fun t q => XS.iloadN X0.here hx rfl (hb hby d3_8) rfl q) ?_
  refine own_go (T' := s₁) (g' := (mkF m 11 #[.val (.int p1)] [(.int (8 : Int32)), (.int p1)])) (fun t q => XS.bipush X0.here hx rfl (hb hby d3_9) q) ?_
  have c2 : ¬ (p1 = (8 : Int32)) := by rw [hk]; decide
  refine own_go (T' := s₁) (g' := (mkF m 16 #[.val (.int p1)] [])) (fun t q => XS.icmpYes X0.here hx rfl (pc0 := 11) (pc' := 16) rfl (hb hby d3_11) rfl (feq c2).2 (by decide) (by decide) q) ?_
  refine own_go (T' := s₁) (g' := (mkF m 17 #[.val (.int p1)] [(.int p1)])) (fun t q => XS.iloadN X0.here hx rfl (hb hby d3_16) rfl q) ?_
  refine own_go (T' := s₁) (g' := (mkF m 19 #[.val (.int p1)] [(.int (9 : Int32)), (.int p1)])) (fun t q => XS.bipush X0.here hx rfl (hb hby d3_17) q) ?_
  have c3 : ¬ (p1 = (9 : Int32)) := by rw [hk]; decide
  refine own_go (T' := s₁) (g' := (mkF m 24 #[.val (.int p1)] [])) (fun t q => XS.icmpYes X0.here hx rfl (pc0 := 19) (pc' := 24) rfl (hb hby d3_19) rfl (feq c3).2 (by decide) (by decide) q) ?_
  refine own_go (T' := s₁) (g' := (mkF m 25 #[.val (.int p1)] [(.int p1)])) (fun t q => XS.iloadN X0.here hx rfl (hb hby d3_24) rfl q) ?_
  refine own_go (T' := s₁) (g' := (mkF m 27 #[.val (.int p1)] [(.int (10 : Int32)), (.int p1)])) (fun t q => XS.bipush X0.here hx rfl (hb hby d3_25) q) ?_
  have c4 : ¬ (p1 = (10 : Int32)) := by rw [hk]; decide
  refine own_go (T' := s₁) (g' := (mkF m 32 #[.val (.int p1)] [])) (fun t q => XS.icmpYes X0.here hx rfl (pc0 := 27) (pc' := 32) rfl (hb hby d3_27) rfl (feq c4).2 (by decide) (by decide) q) ?_
  refine own_go (T' := s₁) (g' := (mkF m 33 #[.val (.int p1)] [(.int (0 : Int32))])) (fun t q => XS.iconst X0.here hx rfl (hb hby d3_32) q) ?_
  refine own_outN X0 hx hlk hret (t := .boolean) (by simp) (hb hby d3_33) (w := (0 : Int32)) (by decide) ?_ (by decide) (by decide)
  exact ⟨rfl, e0, rfl⟩
theorem d2_28 : decode prog_96_method_6_code 28 = .ok (.iconst 1, 1) := by decide +kernel
theorem d2_29 : decode prog_96_method_6_code 29 = .ok (.goto 4, 3) := by decide +kernel
set_option maxRecDepth 65536 in
set_option maxHeartbeats 40000000 in
theorem rm2_7 (l : Launch) (Z : State) (a0 : Array Value) (hw : ∀ d ∈ tables_1, d.before a0 Z = true) (ws : List Jvm.Cond) (w_NONE w_SET_RATE_CLASS w_HOST_RATE_CLASS w_CLASSED_UNDERLYING w_DEPOSITOR w_NETTING_SET w_SWAPPED_COLLATERAL w_COLLATERAL w_SUBSTITUTION w_UNDERLYING w_COUNTERPARTY : Addr) (h0 : Heap) (FX : own_F Z h0 w_NONE w_SET_RATE_CLASS w_HOST_RATE_CLASS w_CLASSED_UNDERLYING w_DEPOSITOR w_NETTING_SET w_SWAPPED_COLLATERAL w_COLLATERAL w_SUBSTITUTION w_UNDERLYING w_COUNTERPARTY) :
    own_Met l (⟨"com/example/ryudo/ryudo/model/Terms$Kind", "takesRateClass", "()Z"⟩ : MethodName) prog_96_method_6_code 1 (some .boolean) ws ({ frames := 0, cells := 0, slots := 0, locals := 0 } : Room) Z #[(.ref w_CLASSED_UNDERLYING)] h0 (fun v h L => v = some (.int (1 : Int32)) ∧ h = h0 ∧ L = []) := by
  refine MetFree.of_bodySF (plainFor_of_name (by first | (simp [plainName, overriddenIn]; done) | decide +kernel)) hisR ?_
  intro p e s m args below meth c s₁ Bd hml0 hP hK
  obtain ⟨rfl, hZ, hh⟩ := hP
  have hx := Bd.exec
  have hby := Bd.bytes
  have hml : c.maxLocals = 1 := hml0
  have hown : s.vm.findClass "com/example/ryudo/ryudo/model/Terms$Kind" = some m.cls := findClass_of_methodNamed Bd.named
  have hnm := (name_of_methodNamed Bd.named Bd.method).1
  have hlk : meth.locks = false := Bd.notSynchronized
  have hret := Bd.returns
  have X0 : Stand p l e ({ frames := 0, cells := 0, slots := 0, locals := 0 } : Room) s m #[(.ref w_CLASSED_UNDERLYING)] below meth c s₁ [] 0 0 := Stand.of_body Bd
  have e0 : s₁.heap = h0 := by rw [← hh, Bd.state]; rfl
  refine own_in (Q := fun v h L => v = some (.int (1 : Int32)) ∧ h = h0 ∧ L = []) (ef := by first | (simp [entryFrame, mkF, argsToLocals, Value.category, maxLocals]; done) | rfl) (g' := (mkF m 0 #[.val (.ref w_CLASSED_UNDERLYING)] [])) ?_
  obtain ⟨S_NONE, E_NONE, S_SET_RATE_CLASS, E_SET_RATE_CLASS, S_HOST_RATE_CLASS, E_HOST_RATE_CLASS, S_CLASSED_UNDERLYING, E_CLASSED_UNDERLYING, S_DEPOSITOR, E_DEPOSITOR, S_NETTING_SET, E_NETTING_SET, S_SWAPPED_COLLATERAL, E_SWAPPED_COLLATERAL, S_COLLATERAL, E_COLLATERAL, S_SUBSTITUTION, E_SUBSTITUTION, S_UNDERLYING, E_UNDERLYING, S_COUNTERPARTY, E_COUNTERPARTY, F_NONE_ordinal, F_SET_RATE_CLASS_ordinal, F_HOST_RATE_CLASS_ordinal, F_CLASSED_UNDERLYING_ordinal, F_DEPOSITOR_ordinal, F_NETTING_SET_ordinal, F_SWAPPED_COLLATERAL_ordinal, F_COLLATERAL_ordinal, F_SUBSTITUTION_ordinal, F_UNDERLYING_ordinal, F_COUNTERPARTY_ordinal, ne_NONE_SET_RATE_CLASS, ne_NONE_HOST_RATE_CLASS, ne_NONE_CLASSED_UNDERLYING, ne_NONE_DEPOSITOR, ne_SET_RATE_CLASS_HOST_RATE_CLASS, ne_SET_RATE_CLASS_CLASSED_UNDERLYING, ne_SET_RATE_CLASS_DEPOSITOR, ne_SET_RATE_CLASS_NETTING_SET, ne_SET_RATE_CLASS_SWAPPED_COLLATERAL, ne_SET_RATE_CLASS_COLLATERAL, ne_SET_RATE_CLASS_SUBSTITUTION, ne_SET_RATE_CLASS_UNDERLYING, ne_SET_RATE_CLASS_COUNTERPARTY, ne_HOST_RATE_CLASS_CLASSED_UNDERLYING, ne_HOST_RATE_CLASS_DEPOSITOR, ne_HOST_RATE_CLASS_NETTING_SET, ne_HOST_RATE_CLASS_SWAPPED_COLLATERAL, ne_HOST_RATE_CLASS_COLLATERAL, ne_HOST_RATE_CLASS_SUBSTITUTION, ne_HOST_RATE_CLASS_UNDERLYING, ne_HOST_RATE_CLASS_COUNTERPARTY, ne_CLASSED_UNDERLYING_DEPOSITOR, ne_CLASSED_UNDERLYING_NETTING_SET, ne_CLASSED_UNDERLYING_SWAPPED_COLLATERAL, ne_CLASSED_UNDERLYING_COLLATERAL, ne_CLASSED_UNDERLYING_SUBSTITUTION, ne_CLASSED_UNDERLYING_UNDERLYING, ne_CLASSED_UNDERLYING_COUNTERPARTY, ne_DEPOSITOR_NETTING_SET, ne_DEPOSITOR_SWAPPED_COLLATERAL, ne_DEPOSITOR_COLLATERAL, ne_DEPOSITOR_SUBSTITUTION, ne_DEPOSITOR_UNDERLYING, ne_DEPOSITOR_COUNTERPARTY⟩ := id FX
  refine own_go (T' := s₁) (g' := (mkF m 1 #[.val (.ref w_CLASSED_UNDERLYING)] [(.ref w_CLASSED_UNDERLYING)])) (fun t q => XS.aloadN X0.here hx rfl (hb hby d2_0) rfl rfl q) ?_
  obtain ⟨T1, X1, e1, st1⟩ := getS2 X0 hx hZ hown (host := "") (Or.inl (hw _ (List.mem_of_getElem? (i := 13) rfl))) Via.refl e0 S_SET_RATE_CLASS (g := (mkF m 1 #[.val (.ref w_CLASSED_UNDERLYING)] [(.ref w_CLASSED_UNDERLYING)])) rfl (hb hby d2_1)
  refine own_go (T' := T1) (g' := (mkF m 4 #[.val (.ref w_CLASSED_UNDERLYING)] [(.ref w_SET_RATE_CLASS), (.ref w_CLASSED_UNDERLYING)])) (fun t q => st1 t q) ?_
  have c2 : ¬ ((Value.ref w_CLASSED_UNDERLYING) = (Value.ref w_SET_RATE_CLASS)) := fun z => ne_SET_RATE_CLASS_CLASSED_UNDERLYING (Value.ref.inj z).symm
  refine own_go (T' := T1) (g' := (mkF m 7 #[.val (.ref w_CLASSED_UNDERLYING)] [])) (fun t q => XT.acmpNo X1.here hx rfl (hb hby d2_4) rfl rfl rfl (own_af c2).1 q) ?_
  refine own_go (T' := T1) (g' := (mkF m 8 #[.val (.ref w_CLASSED_UNDERLYING)] [(.ref w_CLASSED_UNDERLYING)])) (fun t q => XS.aloadN X1.here hx rfl (hb hby d2_7) rfl rfl q) ?_
  obtain ⟨T3, X3, e3, st3⟩ := getS2 X1 hx hZ hown (host := "") (Or.inl (hw _ (List.mem_of_getElem? (i := 15) rfl))) Via.refl e1 S_HOST_RATE_CLASS (g := (mkF m 8 #[.val (.ref w_CLASSED_UNDERLYING)] [(.ref w_CLASSED_UNDERLYING)])) rfl (hb hby d2_8)
  refine own_go (T' := T3) (g' := (mkF m 11 #[.val (.ref w_CLASSED_UNDERLYING)] [(.ref w_HOST_RATE_CLASS), (.ref w_CLASSED_UNDERLYING)])) (fun t q => st3 t q) ?_
  have c4 : ¬ ((Value.ref w_CLASSED_UNDERLYING) = (Value.ref w_HOST_RATE_CLASS)) := fun z => ne_HOST_RATE_CLASS_CLASSED_UNDERLYING (Value.ref.inj z).symm
  refine own_go (T' := T3) (g' := (mkF m 14 #[.val (.ref w_CLASSED_UNDERLYING)] [])) (fun t q => XT.acmpNo X3.here hx rfl (hb hby d2_11) rfl rfl rfl (own_af c4).1 q) ?_
  refine own_go (T' := T3) (g' := (mkF m 15 #[.val (.ref w_CLASSED_UNDERLYING)] [(.ref w_CLASSED_UNDERLYING)])) (fun t q => XS.aloadN X3.here hx rfl (hb hby d2_14) rfl rfl q) ?_
  obtain ⟨T5, X5, e5, st5⟩ := getS2 X3 hx hZ hown (host := "") (Or.inl (hw _ (List.mem_of_getElem? (i := 17) rfl))) Via.refl e3 S_CLASSED_UNDERLYING (g := (mkF m 15 #[.val (.ref w_CLASSED_UNDERLYING)] [(.ref w_CLASSED_UNDERLYING)])) rfl (hb hby d2_15)
  refine own_go (T' := T5) (g' := (mkF m 18 #[.val (.ref w_CLASSED_UNDERLYING)] [(.ref w_CLASSED_UNDERLYING), (.ref w_CLASSED_UNDERLYING)])) (fun t q => st5 t q) ?_
  have c6 : (Value.ref w_CLASSED_UNDERLYING) = (Value.ref w_CLASSED_UNDERLYING) := rfl
  refine own_go (T' := T5) (g' := (mkF m 28 #[.val (.ref w_CLASSED_UNDERLYING)] [])) (fun t q => XT.acmpYes X5.here hx rfl (pc0 := 18) (pc' := 28) rfl (hb hby d2_18) rfl rfl rfl (own_at c6).1 (by decide) (by decide) q) ?_
  refine own_go (T' := T5) (g' := (mkF m 29 #[.val (.ref w_CLASSED_UNDERLYING)] [(.int (1 : Int32))])) (fun t q => XS.iconst X5.here hx rfl (hb hby d2_28) q) ?_
  refine own_go (T' := T5) (g' := (mkF m 33 #[.val (.ref w_CLASSED_UNDERLYING)] [(.int (1 : Int32))])) (fun t q => XS.goto X5.here hx rfl (pc0 := 29) (pc' := 33) rfl (hb hby d2_29) (by decide) (by decide) q) ?_
  refine own_outN X5 hx hlk hret (t := .boolean) (by simp) (hb hby d2_33) (w := (1 : Int32)) (by decide) ?_ (by decide) (by decide)
  exact ⟨rfl, e5, rfl⟩
theorem d3_6 : decode method_3_code 6 = .ok (.iconst 1, 1) := by decide +kernel
theorem d3_7 : decode method_3_code 7 = .ok (.ireturn, 1) := by decide +kernel
set_option maxRecDepth 65536 in
set_option maxHeartbeats 40000000 in
theorem rm3_7 (l : Launch) (Z : State) (a0 : Array Value) (hw : ∀ d ∈ tables_1, d.before a0 Z = true) (ws : List Jvm.Cond) (p1 : Int32) (h0 : Heap) (hk : p1 = 7) :
    own_Met l (⟨"com/example/ryudo/ryudo/model/KindTakesRateClassPinLaw", "expected", "(I)Z"⟩ : MethodName) method_3_code 1 (some .boolean) ws ({ frames := 0, cells := 0, slots := 0, locals := 0 } : Room) Z #[(.int p1)] h0 (fun v h L => v = some (.int (1 : Int32)) ∧ h = h0 ∧ L = []) := by
  refine MetFree.of_bodySF (plainFor_of_name (by first | (simp [plainName, overriddenIn]; done) | decide +kernel)) hisR ?_
  intro p e s m args below meth c s₁ Bd hml0 hP hK
  obtain ⟨rfl, hZ, hh⟩ := hP
  have hx := Bd.exec
  have hby := Bd.bytes
  have hml : c.maxLocals = 1 := hml0
  have hown : s.vm.findClass "com/example/ryudo/ryudo/model/KindTakesRateClassPinLaw" = some m.cls := findClass_of_methodNamed Bd.named
  have hnm := (name_of_methodNamed Bd.named Bd.method).1
  have hlk : meth.locks = false := Bd.notSynchronized
  have hret := Bd.returns
  have X0 : Stand p l e ({ frames := 0, cells := 0, slots := 0, locals := 0 } : Room) s m #[(.int p1)] below meth c s₁ [] 0 0 := Stand.of_body Bd
  have e0 : s₁.heap = h0 := by rw [← hh, Bd.state]; rfl
  refine own_in (Q := fun v h L => v = some (.int (1 : Int32)) ∧ h = h0 ∧ L = []) (ef := by first | (simp [entryFrame, mkF, argsToLocals, Value.category, maxLocals]; done) | rfl) (g' := (mkF m 0 #[.val (.int p1)] [])) ?_
  refine own_go (T' := s₁) (g' := (mkF m 1 #[.val (.int p1)] [(.int p1)])) (fun t q => XS.iloadN X0.here hx rfl (hb hby d3_0) rfl q) ?_
  refine own_go (T' := s₁) (g' := (mkF m 3 #[.val (.int p1)] [(.int (7 : Int32)), (.int p1)])) (fun t q => XS.bipush X0.here hx rfl (hb hby d3_1) q) ?_
  have c1 : p1 = (7 : Int32) := hk
  refine own_go (T' := s₁) (g' := (mkF m 6 #[.val (.int p1)] [])) (fun t q => XS.icmpNo X0.here hx rfl (hb hby d3_3) rfl (teq c1).2 q) ?_
  refine own_go (T' := s₁) (g' := (mkF m 7 #[.val (.int p1)] [(.int (1 : Int32))])) (fun t q => XS.iconst X0.here hx rfl (hb hby d3_6) q) ?_
  refine own_outN X0 hx hlk hret (t := .boolean) (by simp) (hb hby d3_7) (w := (1 : Int32)) (by decide) ?_ (by decide) (by decide)
  exact ⟨rfl, e0, rfl⟩
set_option maxRecDepth 65536 in
set_option maxHeartbeats 40000000 in
theorem rm2_8 (l : Launch) (Z : State) (a0 : Array Value) (hw : ∀ d ∈ tables_1, d.before a0 Z = true) (ws : List Jvm.Cond) (w_NONE w_SET_RATE_CLASS w_HOST_RATE_CLASS w_CLASSED_UNDERLYING w_DEPOSITOR w_NETTING_SET w_SWAPPED_COLLATERAL w_COLLATERAL w_SUBSTITUTION w_UNDERLYING w_COUNTERPARTY : Addr) (h0 : Heap) (FX : own_F Z h0 w_NONE w_SET_RATE_CLASS w_HOST_RATE_CLASS w_CLASSED_UNDERLYING w_DEPOSITOR w_NETTING_SET w_SWAPPED_COLLATERAL w_COLLATERAL w_SUBSTITUTION w_UNDERLYING w_COUNTERPARTY) :
    own_Met l (⟨"com/example/ryudo/ryudo/model/Terms$Kind", "takesRateClass", "()Z"⟩ : MethodName) prog_96_method_6_code 1 (some .boolean) ws ({ frames := 0, cells := 0, slots := 0, locals := 0 } : Room) Z #[(.ref w_SET_RATE_CLASS)] h0 (fun v h L => v = some (.int (1 : Int32)) ∧ h = h0 ∧ L = []) := by
  refine MetFree.of_bodySF (plainFor_of_name (by first | (simp [plainName, overriddenIn]; done) | decide +kernel)) hisR ?_
  intro p e s m args below meth c s₁ Bd hml0 hP hK
  obtain ⟨rfl, hZ, hh⟩ := hP
  have hx := Bd.exec
  have hby := Bd.bytes
  have hml : c.maxLocals = 1 := hml0
  have hown : s.vm.findClass "com/example/ryudo/ryudo/model/Terms$Kind" = some m.cls := findClass_of_methodNamed Bd.named
  have hnm := (name_of_methodNamed Bd.named Bd.method).1
  have hlk : meth.locks = false := Bd.notSynchronized
  have hret := Bd.returns
  have X0 : Stand p l e ({ frames := 0, cells := 0, slots := 0, locals := 0 } : Room) s m #[(.ref w_SET_RATE_CLASS)] below meth c s₁ [] 0 0 := Stand.of_body Bd
  have e0 : s₁.heap = h0 := by rw [← hh, Bd.state]; rfl
  refine own_in (Q := fun v h L => v = some (.int (1 : Int32)) ∧ h = h0 ∧ L = []) (ef := by first | (simp [entryFrame, mkF, argsToLocals, Value.category, maxLocals]; done) | rfl) (g' := (mkF m 0 #[.val (.ref w_SET_RATE_CLASS)] [])) ?_
  obtain ⟨S_NONE, E_NONE, S_SET_RATE_CLASS, E_SET_RATE_CLASS, S_HOST_RATE_CLASS, E_HOST_RATE_CLASS, S_CLASSED_UNDERLYING, E_CLASSED_UNDERLYING, S_DEPOSITOR, E_DEPOSITOR, S_NETTING_SET, E_NETTING_SET, S_SWAPPED_COLLATERAL, E_SWAPPED_COLLATERAL, S_COLLATERAL, E_COLLATERAL, S_SUBSTITUTION, E_SUBSTITUTION, S_UNDERLYING, E_UNDERLYING, S_COUNTERPARTY, E_COUNTERPARTY, F_NONE_ordinal, F_SET_RATE_CLASS_ordinal, F_HOST_RATE_CLASS_ordinal, F_CLASSED_UNDERLYING_ordinal, F_DEPOSITOR_ordinal, F_NETTING_SET_ordinal, F_SWAPPED_COLLATERAL_ordinal, F_COLLATERAL_ordinal, F_SUBSTITUTION_ordinal, F_UNDERLYING_ordinal, F_COUNTERPARTY_ordinal, ne_NONE_SET_RATE_CLASS, ne_NONE_HOST_RATE_CLASS, ne_NONE_CLASSED_UNDERLYING, ne_NONE_DEPOSITOR, ne_SET_RATE_CLASS_HOST_RATE_CLASS, ne_SET_RATE_CLASS_CLASSED_UNDERLYING, ne_SET_RATE_CLASS_DEPOSITOR, ne_SET_RATE_CLASS_NETTING_SET, ne_SET_RATE_CLASS_SWAPPED_COLLATERAL, ne_SET_RATE_CLASS_COLLATERAL, ne_SET_RATE_CLASS_SUBSTITUTION, ne_SET_RATE_CLASS_UNDERLYING, ne_SET_RATE_CLASS_COUNTERPARTY, ne_HOST_RATE_CLASS_CLASSED_UNDERLYING, ne_HOST_RATE_CLASS_DEPOSITOR, ne_HOST_RATE_CLASS_NETTING_SET, ne_HOST_RATE_CLASS_SWAPPED_COLLATERAL, ne_HOST_RATE_CLASS_COLLATERAL, ne_HOST_RATE_CLASS_SUBSTITUTION, ne_HOST_RATE_CLASS_UNDERLYING, ne_HOST_RATE_CLASS_COUNTERPARTY, ne_CLASSED_UNDERLYING_DEPOSITOR, ne_CLASSED_UNDERLYING_NETTING_SET, ne_CLASSED_UNDERLYING_SWAPPED_COLLATERAL, ne_CLASSED_UNDERLYING_COLLATERAL, ne_CLASSED_UNDERLYING_SUBSTITUTION, ne_CLASSED_UNDERLYING_UNDERLYING, ne_CLASSED_UNDERLYING_COUNTERPARTY, ne_DEPOSITOR_NETTING_SET, ne_DEPOSITOR_SWAPPED_COLLATERAL, ne_DEPOSITOR_COLLATERAL, ne_DEPOSITOR_SUBSTITUTION, ne_DEPOSITOR_UNDERLYING, ne_DEPOSITOR_COUNTERPARTY⟩ := id FX
  refine own_go (T' := s₁) (g' := (mkF m 1 #[.val (.ref w_SET_RATE_CLASS)] [(.ref w_SET_RATE_CLASS)])) (fun t q => XS.aloadN X0.here hx rfl (hb hby d2_0) rfl rfl q) ?_
  obtain ⟨T1, X1, e1, st1⟩ := getS2 X0 hx hZ hown (host := "") (Or.inl (hw _ (List.mem_of_getElem? (i := 13) rfl))) Via.refl e0 S_SET_RATE_CLASS (g := (mkF m 1 #[.val (.ref w_SET_RATE_CLASS)] [(.ref w_SET_RATE_CLASS)])) rfl (hb hby d2_1)
  refine own_go (T' := T1) (g' := (mkF m 4 #[.val (.ref w_SET_RATE_CLASS)] [(.ref w_SET_RATE_CLASS), (.ref w_SET_RATE_CLASS)])) (fun t q => st1 t q) ?_
  have c2 : (Value.ref w_SET_RATE_CLASS) = (Value.ref w_SET_RATE_CLASS) := rfl
  refine own_go (T' := T1) (g' := (mkF m 28 #[.val (.ref w_SET_RATE_CLASS)] [])) (fun t q => XT.acmpYes X1.here hx rfl (pc0 := 4) (pc' := 28) rfl (hb hby d2_4) rfl rfl rfl (own_at c2).1 (by decide) (by decide) q) ?_
  refine own_go (T' := T1) (g' := (mkF m 29 #[.val (.ref w_SET_RATE_CLASS)] [(.int (1 : Int32))])) (fun t q => XS.iconst X1.here hx rfl (hb hby d2_28) q) ?_
  refine own_go (T' := T1) (g' := (mkF m 33 #[.val (.ref w_SET_RATE_CLASS)] [(.int (1 : Int32))])) (fun t q => XS.goto X1.here hx rfl (pc0 := 29) (pc' := 33) rfl (hb hby d2_29) (by decide) (by decide) q) ?_
  refine own_outN X1 hx hlk hret (t := .boolean) (by simp) (hb hby d2_33) (w := (1 : Int32)) (by decide) ?_ (by decide) (by decide)
  exact ⟨rfl, e1, rfl⟩
theorem d3_14 : decode method_3_code 14 = .ok (.iconst 1, 1) := by decide +kernel
theorem d3_15 : decode method_3_code 15 = .ok (.ireturn, 1) := by decide +kernel
set_option maxRecDepth 65536 in
set_option maxHeartbeats 40000000 in
theorem rm3_8 (l : Launch) (Z : State) (a0 : Array Value) (hw : ∀ d ∈ tables_1, d.before a0 Z = true) (ws : List Jvm.Cond) (p1 : Int32) (h0 : Heap) (hk : p1 = 8) :
    own_Met l (⟨"com/example/ryudo/ryudo/model/KindTakesRateClassPinLaw", "expected", "(I)Z"⟩ : MethodName) method_3_code 1 (some .boolean) ws ({ frames := 0, cells := 0, slots := 0, locals := 0 } : Room) Z #[(.int p1)] h0 (fun v h L => v = some (.int (1 : Int32)) ∧ h = h0 ∧ L = []) := by
  refine MetFree.of_bodySF (plainFor_of_name (by first | (simp [plainName, overriddenIn]; done) | decide +kernel)) hisR ?_
  intro p e s m args below meth c s₁ Bd hml0 hP hK
  obtain ⟨rfl, hZ, hh⟩ := hP
  have hx := Bd.exec
  have hby := Bd.bytes
  have hml : c.maxLocals = 1 := hml0
  have hown : s.vm.findClass "com/example/ryudo/ryudo/model/KindTakesRateClassPinLaw" = some m.cls := findClass_of_methodNamed Bd.named
  have hnm := (name_of_methodNamed Bd.named Bd.method).1
  have hlk : meth.locks = false := Bd.notSynchronized
  have hret := Bd.returns
  have X0 : Stand p l e ({ frames := 0, cells := 0, slots := 0, locals := 0 } : Room) s m #[(.int p1)] below meth c s₁ [] 0 0 := Stand.of_body Bd
  have e0 : s₁.heap = h0 := by rw [← hh, Bd.state]; rfl
  refine own_in (Q := fun v h L => v = some (.int (1 : Int32)) ∧ h = h0 ∧ L = []) (ef := by first | (simp [entryFrame, mkF, argsToLocals, Value.category, maxLocals]; done) | rfl) (g' := (mkF m 0 #[.val (.int p1)] [])) ?_
  refine own_go (T' := s₁) (g' := (mkF m 1 #[.val (.int p1)] [(.int p1)])) (fun t q => XS.iloadN X0.here hx rfl (hb hby d3_0) rfl q) ?_
  refine own_go (T' := s₁) (g' := (mkF m 3 #[.val (.int p1)] [(.int (7 : Int32)), (.int p1)])) (fun t q => XS.bipush X0.here hx rfl (hb hby d3_1) q) ?_
  have c1 : ¬ (p1 = (7 : Int32)) := by rw [hk]; decide
  refine own_go (T' := s₁) (g' := (mkF m 8 #[.val (.int p1)] [])) (fun t q => XS.icmpYes X0.here hx rfl (pc0 := 3) (pc' := 8) rfl (hb hby d3_3) rfl (feq c1).2 (by decide) (by decide) q) ?_
  refine own_go (T' := s₁) (g' := (mkF m 9 #[.val (.int p1)] [(.int p1)])) (fun t q => XS.iloadN X0.here hx rfl (hb hby d3_8) rfl q) ?_
  refine own_go (T' := s₁) (g' := (mkF m 11 #[.val (.int p1)] [(.int (8 : Int32)), (.int p1)])) (fun t q => XS.bipush X0.here hx rfl (hb hby d3_9) q) ?_
  have c2 : p1 = (8 : Int32) := hk
  refine own_go (T' := s₁) (g' := (mkF m 14 #[.val (.int p1)] [])) (fun t q => XS.icmpNo X0.here hx rfl (hb hby d3_11) rfl (teq c2).2 q) ?_
  refine own_go (T' := s₁) (g' := (mkF m 15 #[.val (.int p1)] [(.int (1 : Int32))])) (fun t q => XS.iconst X0.here hx rfl (hb hby d3_14) q) ?_
  refine own_outN X0 hx hlk hret (t := .boolean) (by simp) (hb hby d3_15) (w := (1 : Int32)) (by decide) ?_ (by decide) (by decide)
  exact ⟨rfl, e0, rfl⟩
set_option maxRecDepth 65536 in
set_option maxHeartbeats 40000000 in
theorem rm2_9 (l : Launch) (Z : State) (a0 : Array Value) (hw : ∀ d ∈ tables_1, d.before a0 Z = true) (ws : List Jvm.Cond) (w_NONE w_SET_RATE_CLASS w_HOST_RATE_CLASS w_CLASSED_UNDERLYING w_DEPOSITOR w_NETTING_SET w_SWAPPED_COLLATERAL w_COLLATERAL w_SUBSTITUTION w_UNDERLYING w_COUNTERPARTY : Addr) (h0 : Heap) (FX : own_F Z h0 w_NONE w_SET_RATE_CLASS w_HOST_RATE_CLASS w_CLASSED_UNDERLYING w_DEPOSITOR w_NETTING_SET w_SWAPPED_COLLATERAL w_COLLATERAL w_SUBSTITUTION w_UNDERLYING w_COUNTERPARTY) :
    own_Met l (⟨"com/example/ryudo/ryudo/model/Terms$Kind", "takesRateClass", "()Z"⟩ : MethodName) prog_96_method_6_code 1 (some .boolean) ws ({ frames := 0, cells := 0, slots := 0, locals := 0 } : Room) Z #[(.ref w_HOST_RATE_CLASS)] h0 (fun v h L => v = some (.int (1 : Int32)) ∧ h = h0 ∧ L = []) := by
  refine MetFree.of_bodySF (plainFor_of_name (by first | (simp [plainName, overriddenIn]; done) | decide +kernel)) hisR ?_
  intro p e s m args below meth c s₁ Bd hml0 hP hK
  obtain ⟨rfl, hZ, hh⟩ := hP
  have hx := Bd.exec
  have hby := Bd.bytes
  have hml : c.maxLocals = 1 := hml0
  have hown : s.vm.findClass "com/example/ryudo/ryudo/model/Terms$Kind" = some m.cls := findClass_of_methodNamed Bd.named
  have hnm := (name_of_methodNamed Bd.named Bd.method).1
  have hlk : meth.locks = false := Bd.notSynchronized
  have hret := Bd.returns
  have X0 : Stand p l e ({ frames := 0, cells := 0, slots := 0, locals := 0 } : Room) s m #[(.ref w_HOST_RATE_CLASS)] below meth c s₁ [] 0 0 := Stand.of_body Bd
  have e0 : s₁.heap = h0 := by rw [← hh, Bd.state]; rfl
  refine own_in (Q := fun v h L => v = some (.int (1 : Int32)) ∧ h = h0 ∧ L = []) (ef := by first | (simp [entryFrame, mkF, argsToLocals, Value.category, maxLocals]; done) | rfl) (g' := (mkF m 0 #[.val (.ref w_HOST_RATE_CLASS)] [])) ?_
  obtain ⟨S_NONE, E_NONE, S_SET_RATE_CLASS, E_SET_RATE_CLASS, S_HOST_RATE_CLASS, E_HOST_RATE_CLASS, S_CLASSED_UNDERLYING, E_CLASSED_UNDERLYING, S_DEPOSITOR, E_DEPOSITOR, S_NETTING_SET, E_NETTING_SET, S_SWAPPED_COLLATERAL, E_SWAPPED_COLLATERAL, S_COLLATERAL, E_COLLATERAL, S_SUBSTITUTION, E_SUBSTITUTION, S_UNDERLYING, E_UNDERLYING, S_COUNTERPARTY, E_COUNTERPARTY, F_NONE_ordinal, F_SET_RATE_CLASS_ordinal, F_HOST_RATE_CLASS_ordinal, F_CLASSED_UNDERLYING_ordinal, F_DEPOSITOR_ordinal, F_NETTING_SET_ordinal, F_SWAPPED_COLLATERAL_ordinal, F_COLLATERAL_ordinal, F_SUBSTITUTION_ordinal, F_UNDERLYING_ordinal, F_COUNTERPARTY_ordinal, ne_NONE_SET_RATE_CLASS, ne_NONE_HOST_RATE_CLASS, ne_NONE_CLASSED_UNDERLYING, ne_NONE_DEPOSITOR, ne_SET_RATE_CLASS_HOST_RATE_CLASS, ne_SET_RATE_CLASS_CLASSED_UNDERLYING, ne_SET_RATE_CLASS_DEPOSITOR, ne_SET_RATE_CLASS_NETTING_SET, ne_SET_RATE_CLASS_SWAPPED_COLLATERAL, ne_SET_RATE_CLASS_COLLATERAL, ne_SET_RATE_CLASS_SUBSTITUTION, ne_SET_RATE_CLASS_UNDERLYING, ne_SET_RATE_CLASS_COUNTERPARTY, ne_HOST_RATE_CLASS_CLASSED_UNDERLYING, ne_HOST_RATE_CLASS_DEPOSITOR, ne_HOST_RATE_CLASS_NETTING_SET, ne_HOST_RATE_CLASS_SWAPPED_COLLATERAL, ne_HOST_RATE_CLASS_COLLATERAL, ne_HOST_RATE_CLASS_SUBSTITUTION, ne_HOST_RATE_CLASS_UNDERLYING, ne_HOST_RATE_CLASS_COUNTERPARTY, ne_CLASSED_UNDERLYING_DEPOSITOR, ne_CLASSED_UNDERLYING_NETTING_SET, ne_CLASSED_UNDERLYING_SWAPPED_COLLATERAL, ne_CLASSED_UNDERLYING_COLLATERAL, ne_CLASSED_UNDERLYING_SUBSTITUTION, ne_CLASSED_UNDERLYING_UNDERLYING, ne_CLASSED_UNDERLYING_COUNTERPARTY, ne_DEPOSITOR_NETTING_SET, ne_DEPOSITOR_SWAPPED_COLLATERAL, ne_DEPOSITOR_COLLATERAL, ne_DEPOSITOR_SUBSTITUTION, ne_DEPOSITOR_UNDERLYING, ne_DEPOSITOR_COUNTERPARTY⟩ := id FX
  refine own_go (T' := s₁) (g' := (mkF m 1 #[.val (.ref w_HOST_RATE_CLASS)] [(.ref w_HOST_RATE_CLASS)])) (fun t q => XS.aloadN X0.here hx rfl (hb hby d2_0) rfl rfl q) ?_
  obtain ⟨T1, X1, e1, st1⟩ := getS2 X0 hx hZ hown (host := "") (Or.inl (hw _ (List.mem_of_getElem? (i := 13) rfl))) Via.refl e0 S_SET_RATE_CLASS (g := (mkF m 1 #[.val (.ref w_HOST_RATE_CLASS)] [(.ref w_HOST_RATE_CLASS)])) rfl (hb hby d2_1)
  refine own_go (T' := T1) (g' := (mkF m 4 #[.val (.ref w_HOST_RATE_CLASS)] [(.ref w_SET_RATE_CLASS), (.ref w_HOST_RATE_CLASS)])) (fun t q => st1 t q) ?_
  have c2 : ¬ ((Value.ref w_HOST_RATE_CLASS) = (Value.ref w_SET_RATE_CLASS)) := fun z => ne_SET_RATE_CLASS_HOST_RATE_CLASS (Value.ref.inj z).symm
  refine own_go (T' := T1) (g' := (mkF m 7 #[.val (.ref w_HOST_RATE_CLASS)] [])) (fun t q => XT.acmpNo X1.here hx rfl (hb hby d2_4) rfl rfl rfl (own_af c2).1 q) ?_
  refine own_go (T' := T1) (g' := (mkF m 8 #[.val (.ref w_HOST_RATE_CLASS)] [(.ref w_HOST_RATE_CLASS)])) (fun t q => XS.aloadN X1.here hx rfl (hb hby d2_7) rfl rfl q) ?_
  obtain ⟨T3, X3, e3, st3⟩ := getS2 X1 hx hZ hown (host := "") (Or.inl (hw _ (List.mem_of_getElem? (i := 15) rfl))) Via.refl e1 S_HOST_RATE_CLASS (g := (mkF m 8 #[.val (.ref w_HOST_RATE_CLASS)] [(.ref w_HOST_RATE_CLASS)])) rfl (hb hby d2_8)
  refine own_go (T' := T3) (g' := (mkF m 11 #[.val (.ref w_HOST_RATE_CLASS)] [(.ref w_HOST_RATE_CLASS), (.ref w_HOST_RATE_CLASS)])) (fun t q => st3 t q) ?_
  have c4 : (Value.ref w_HOST_RATE_CLASS) = (Value.ref w_HOST_RATE_CLASS) := rfl
  refine own_go (T' := T3) (g' := (mkF m 28 #[.val (.ref w_HOST_RATE_CLASS)] [])) (fun t q => XT.acmpYes X3.here hx rfl (pc0 := 11) (pc' := 28) rfl (hb hby d2_11) rfl rfl rfl (own_at c4).1 (by decide) (by decide) q) ?_
  refine own_go (T' := T3) (g' := (mkF m 29 #[.val (.ref w_HOST_RATE_CLASS)] [(.int (1 : Int32))])) (fun t q => XS.iconst X3.here hx rfl (hb hby d2_28) q) ?_
  refine own_go (T' := T3) (g' := (mkF m 33 #[.val (.ref w_HOST_RATE_CLASS)] [(.int (1 : Int32))])) (fun t q => XS.goto X3.here hx rfl (pc0 := 29) (pc' := 33) rfl (hb hby d2_29) (by decide) (by decide) q) ?_
  refine own_outN X3 hx hlk hret (t := .boolean) (by simp) (hb hby d2_33) (w := (1 : Int32)) (by decide) ?_ (by decide) (by decide)
  exact ⟨rfl, e3, rfl⟩
theorem d3_22 : decode method_3_code 22 = .ok (.iconst 1, 1) := by decide +kernel
theorem d3_23 : decode method_3_code 23 = .ok (.ireturn, 1) := by decide +kernel
set_option maxRecDepth 65536 in
set_option maxHeartbeats 40000000 in
theorem rm3_9 (l : Launch) (Z : State) (a0 : Array Value) (hw : ∀ d ∈ tables_1, d.before a0 Z = true) (ws : List Jvm.Cond) (p1 : Int32) (h0 : Heap) (hk : p1 = 9) :
    own_Met l (⟨"com/example/ryudo/ryudo/model/KindTakesRateClassPinLaw", "expected", "(I)Z"⟩ : MethodName) method_3_code 1 (some .boolean) ws ({ frames := 0, cells := 0, slots := 0, locals := 0 } : Room) Z #[(.int p1)] h0 (fun v h L => v = some (.int (1 : Int32)) ∧ h = h0 ∧ L = []) := by
  refine MetFree.of_bodySF (plainFor_of_name (by first | (simp [plainName, overriddenIn]; done) | decide +kernel)) hisR ?_
  intro p e s m args below meth c s₁ Bd hml0 hP hK
  obtain ⟨rfl, hZ, hh⟩ := hP
  have hx := Bd.exec
  have hby := Bd.bytes
  have hml : c.maxLocals = 1 := hml0
  have hown : s.vm.findClass "com/example/ryudo/ryudo/model/KindTakesRateClassPinLaw" = some m.cls := findClass_of_methodNamed Bd.named
  have hnm := (name_of_methodNamed Bd.named Bd.method).1
  have hlk : meth.locks = false := Bd.notSynchronized
  have hret := Bd.returns
  have X0 : Stand p l e ({ frames := 0, cells := 0, slots := 0, locals := 0 } : Room) s m #[(.int p1)] below meth c s₁ [] 0 0 := Stand.of_body Bd
  have e0 : s₁.heap = h0 := by rw [← hh, Bd.state]; rfl
  refine own_in (Q := fun v h L => v = some (.int (1 : Int32)) ∧ h = h0 ∧ L = []) (ef := by first | (simp [entryFrame, mkF, argsToLocals, Value.category, maxLocals]; done) | rfl) (g' := (mkF m 0 #[.val (.int p1)] [])) ?_
  refine own_go (T' := s₁) (g' := (mkF m 1 #[.val (.int p1)] [(.int p1)])) (fun t q => XS.iloadN X0.here hx rfl (hb hby d3_0) rfl q) ?_
  refine own_go (T' := s₁) (g' := (mkF m 3 #[.val (.int p1)] [(.int (7 : Int32)), (.int p1)])) (fun t q => XS.bipush X0.here hx rfl (hb hby d3_1) q) ?_
  have c1 : ¬ (p1 = (7 : Int32)) := by rw [hk]; decide
  refine own_go (T' := s₁) (g' := (mkF m 8 #[.val (.int p1)] [])) (fun t q => XS.icmpYes X0.here hx rfl (pc0 := 3) (pc' := 8) rfl (hb hby d3_3) rfl (feq c1).2 (by decide) (by decide) q) ?_
  refine own_go (T' := s₁) (g' := (mkF m 9 #[.val (.int p1)] [(.int p1)])) (fun t q => XS.iloadN X0.here hx rfl (hb hby d3_8) rfl q) ?_
  refine own_go (T' := s₁) (g' := (mkF m 11 #[.val (.int p1)] [(.int (8 : Int32)), (.int p1)])) (fun t q => XS.bipush X0.here hx rfl (hb hby d3_9) q) ?_
  have c2 : ¬ (p1 = (8 : Int32)) := by rw [hk]; decide
  refine own_go (T' := s₁) (g' := (mkF m 16 #[.val (.int p1)] [])) (fun t q => XS.icmpYes X0.here hx rfl (pc0 := 11) (pc' := 16) rfl (hb hby d3_11) rfl (feq c2).2 (by decide) (by decide) q) ?_
  refine own_go (T' := s₁) (g' := (mkF m 17 #[.val (.int p1)] [(.int p1)])) (fun t q => XS.iloadN X0.here hx rfl (hb hby d3_16) rfl q) ?_
  refine own_go (T' := s₁) (g' := (mkF m 19 #[.val (.int p1)] [(.int (9 : Int32)), (.int p1)])) (fun t q => XS.bipush X0.here hx rfl (hb hby d3_17) q) ?_
  have c3 : p1 = (9 : Int32) := hk
  refine own_go (T' := s₁) (g' := (mkF m 22 #[.val (.int p1)] [])) (fun t q => XS.icmpNo X0.here hx rfl (hb hby d3_19) rfl (teq c3).2 q) ?_
  refine own_go (T' := s₁) (g' := (mkF m 23 #[.val (.int p1)] [(.int (1 : Int32))])) (fun t q => XS.iconst X0.here hx rfl (hb hby d3_22) q) ?_
  refine own_outN X0 hx hlk hret (t := .boolean) (by simp) (hb hby d3_23) (w := (1 : Int32)) (by decide) ?_ (by decide) (by decide)
  exact ⟨rfl, e0, rfl⟩
set_option maxRecDepth 65536 in
set_option maxHeartbeats 40000000 in
theorem rm2_10 (l : Launch) (Z : State) (a0 : Array Value) (hw : ∀ d ∈ tables_1, d.before a0 Z = true) (ws : List Jvm.Cond) (w_NONE w_SET_RATE_CLASS w_HOST_RATE_CLASS w_CLASSED_UNDERLYING w_DEPOSITOR w_NETTING_SET w_SWAPPED_COLLATERAL w_COLLATERAL w_SUBSTITUTION w_UNDERLYING w_COUNTERPARTY : Addr) (h0 : Heap) (FX : own_F Z h0 w_NONE w_SET_RATE_CLASS w_HOST_RATE_CLASS w_CLASSED_UNDERLYING w_DEPOSITOR w_NETTING_SET w_SWAPPED_COLLATERAL w_COLLATERAL w_SUBSTITUTION w_UNDERLYING w_COUNTERPARTY) :
    own_Met l (⟨"com/example/ryudo/ryudo/model/Terms$Kind", "takesRateClass", "()Z"⟩ : MethodName) prog_96_method_6_code 1 (some .boolean) ws ({ frames := 0, cells := 0, slots := 0, locals := 0 } : Room) Z #[(.ref w_DEPOSITOR)] h0 (fun v h L => v = some (.int (1 : Int32)) ∧ h = h0 ∧ L = []) := by
  refine MetFree.of_bodySF (plainFor_of_name (by first | (simp [plainName, overriddenIn]; done) | decide +kernel)) hisR ?_
  intro p e s m args below meth c s₁ Bd hml0 hP hK
  obtain ⟨rfl, hZ, hh⟩ := hP
  have hx := Bd.exec
  have hby := Bd.bytes
  have hml : c.maxLocals = 1 := hml0
  have hown : s.vm.findClass "com/example/ryudo/ryudo/model/Terms$Kind" = some m.cls := findClass_of_methodNamed Bd.named
  have hnm := (name_of_methodNamed Bd.named Bd.method).1
  have hlk : meth.locks = false := Bd.notSynchronized
  have hret := Bd.returns
  have X0 : Stand p l e ({ frames := 0, cells := 0, slots := 0, locals := 0 } : Room) s m #[(.ref w_DEPOSITOR)] below meth c s₁ [] 0 0 := Stand.of_body Bd
  have e0 : s₁.heap = h0 := by rw [← hh, Bd.state]; rfl
  refine own_in (Q := fun v h L => v = some (.int (1 : Int32)) ∧ h = h0 ∧ L = []) (ef := by first | (simp [entryFrame, mkF, argsToLocals, Value.category, maxLocals]; done) | rfl) (g' := (mkF m 0 #[.val (.ref w_DEPOSITOR)] [])) ?_
  obtain ⟨S_NONE, E_NONE, S_SET_RATE_CLASS, E_SET_RATE_CLASS, S_HOST_RATE_CLASS, E_HOST_RATE_CLASS, S_CLASSED_UNDERLYING, E_CLASSED_UNDERLYING, S_DEPOSITOR, E_DEPOSITOR, S_NETTING_SET, E_NETTING_SET, S_SWAPPED_COLLATERAL, E_SWAPPED_COLLATERAL, S_COLLATERAL, E_COLLATERAL, S_SUBSTITUTION, E_SUBSTITUTION, S_UNDERLYING, E_UNDERLYING, S_COUNTERPARTY, E_COUNTERPARTY, F_NONE_ordinal, F_SET_RATE_CLASS_ordinal, F_HOST_RATE_CLASS_ordinal, F_CLASSED_UNDERLYING_ordinal, F_DEPOSITOR_ordinal, F_NETTING_SET_ordinal, F_SWAPPED_COLLATERAL_ordinal, F_COLLATERAL_ordinal, F_SUBSTITUTION_ordinal, F_UNDERLYING_ordinal, F_COUNTERPARTY_ordinal, ne_NONE_SET_RATE_CLASS, ne_NONE_HOST_RATE_CLASS, ne_NONE_CLASSED_UNDERLYING, ne_NONE_DEPOSITOR, ne_SET_RATE_CLASS_HOST_RATE_CLASS, ne_SET_RATE_CLASS_CLASSED_UNDERLYING, ne_SET_RATE_CLASS_DEPOSITOR, ne_SET_RATE_CLASS_NETTING_SET, ne_SET_RATE_CLASS_SWAPPED_COLLATERAL, ne_SET_RATE_CLASS_COLLATERAL, ne_SET_RATE_CLASS_SUBSTITUTION, ne_SET_RATE_CLASS_UNDERLYING, ne_SET_RATE_CLASS_COUNTERPARTY, ne_HOST_RATE_CLASS_CLASSED_UNDERLYING, ne_HOST_RATE_CLASS_DEPOSITOR, ne_HOST_RATE_CLASS_NETTING_SET, ne_HOST_RATE_CLASS_SWAPPED_COLLATERAL, ne_HOST_RATE_CLASS_COLLATERAL, ne_HOST_RATE_CLASS_SUBSTITUTION, ne_HOST_RATE_CLASS_UNDERLYING, ne_HOST_RATE_CLASS_COUNTERPARTY, ne_CLASSED_UNDERLYING_DEPOSITOR, ne_CLASSED_UNDERLYING_NETTING_SET, ne_CLASSED_UNDERLYING_SWAPPED_COLLATERAL, ne_CLASSED_UNDERLYING_COLLATERAL, ne_CLASSED_UNDERLYING_SUBSTITUTION, ne_CLASSED_UNDERLYING_UNDERLYING, ne_CLASSED_UNDERLYING_COUNTERPARTY, ne_DEPOSITOR_NETTING_SET, ne_DEPOSITOR_SWAPPED_COLLATERAL, ne_DEPOSITOR_COLLATERAL, ne_DEPOSITOR_SUBSTITUTION, ne_DEPOSITOR_UNDERLYING, ne_DEPOSITOR_COUNTERPARTY⟩ := id FX
  refine own_go (T' := s₁) (g' := (mkF m 1 #[.val (.ref w_DEPOSITOR)] [(.ref w_DEPOSITOR)])) (fun t q => XS.aloadN X0.here hx rfl (hb hby d2_0) rfl rfl q) ?_
  obtain ⟨T1, X1, e1, st1⟩ := getS2 X0 hx hZ hown (host := "") (Or.inl (hw _ (List.mem_of_getElem? (i := 13) rfl))) Via.refl e0 S_SET_RATE_CLASS (g := (mkF m 1 #[.val (.ref w_DEPOSITOR)] [(.ref w_DEPOSITOR)])) rfl (hb hby d2_1)
  refine own_go (T' := T1) (g' := (mkF m 4 #[.val (.ref w_DEPOSITOR)] [(.ref w_SET_RATE_CLASS), (.ref w_DEPOSITOR)])) (fun t q => st1 t q) ?_
  have c2 : ¬ ((Value.ref w_DEPOSITOR) = (Value.ref w_SET_RATE_CLASS)) := fun z => ne_SET_RATE_CLASS_DEPOSITOR (Value.ref.inj z).symm
  refine own_go (T' := T1) (g' := (mkF m 7 #[.val (.ref w_DEPOSITOR)] [])) (fun t q => XT.acmpNo X1.here hx rfl (hb hby d2_4) rfl rfl rfl (own_af c2).1 q) ?_
  refine own_go (T' := T1) (g' := (mkF m 8 #[.val (.ref w_DEPOSITOR)] [(.ref w_DEPOSITOR)])) (fun t q => XS.aloadN X1.here hx rfl (hb hby d2_7) rfl rfl q) ?_
  obtain ⟨T3, X3, e3, st3⟩ := getS2 X1 hx hZ hown (host := "") (Or.inl (hw _ (List.mem_of_getElem? (i := 15) rfl))) Via.refl e1 S_HOST_RATE_CLASS (g := (mkF m 8 #[.val (.ref w_DEPOSITOR)] [(.ref w_DEPOSITOR)])) rfl (hb hby d2_8)
  refine own_go (T' := T3) (g' := (mkF m 11 #[.val (.ref w_DEPOSITOR)] [(.ref w_HOST_RATE_CLASS), (.ref w_DEPOSITOR)])) (fun t q => st3 t q) ?_
  have c4 : ¬ ((Value.ref w_DEPOSITOR) = (Value.ref w_HOST_RATE_CLASS)) := fun z => ne_HOST_RATE_CLASS_DEPOSITOR (Value.ref.inj z).symm
  refine own_go (T' := T3) (g' := (mkF m 14 #[.val (.ref w_DEPOSITOR)] [])) (fun t q => XT.acmpNo X3.here hx rfl (hb hby d2_11) rfl rfl rfl (own_af c4).1 q) ?_
  refine own_go (T' := T3) (g' := (mkF m 15 #[.val (.ref w_DEPOSITOR)] [(.ref w_DEPOSITOR)])) (fun t q => XS.aloadN X3.here hx rfl (hb hby d2_14) rfl rfl q) ?_
  obtain ⟨T5, X5, e5, st5⟩ := getS2 X3 hx hZ hown (host := "") (Or.inl (hw _ (List.mem_of_getElem? (i := 17) rfl))) Via.refl e3 S_CLASSED_UNDERLYING (g := (mkF m 15 #[.val (.ref w_DEPOSITOR)] [(.ref w_DEPOSITOR)])) rfl (hb hby d2_15)
  refine own_go (T' := T5) (g' := (mkF m 18 #[.val (.ref w_DEPOSITOR)] [(.ref w_CLASSED_UNDERLYING), (.ref w_DEPOSITOR)])) (fun t q => st5 t q) ?_
  have c6 : ¬ ((Value.ref w_DEPOSITOR) = (Value.ref w_CLASSED_UNDERLYING)) := fun z => ne_CLASSED_UNDERLYING_DEPOSITOR (Value.ref.inj z).symm
  refine own_go (T' := T5) (g' := (mkF m 21 #[.val (.ref w_DEPOSITOR)] [])) (fun t q => XT.acmpNo X5.here hx rfl (hb hby d2_18) rfl rfl rfl (own_af c6).1 q) ?_
  refine own_go (T' := T5) (g' := (mkF m 22 #[.val (.ref w_DEPOSITOR)] [(.ref w_DEPOSITOR)])) (fun t q => XS.aloadN X5.here hx rfl (hb hby d2_21) rfl rfl q) ?_
  obtain ⟨T7, X7, e7, st7⟩ := getS2 X5 hx hZ hown (host := "") (Or.inl (hw _ (List.mem_of_getElem? (i := 19) rfl))) Via.refl e5 S_DEPOSITOR (g := (mkF m 22 #[.val (.ref w_DEPOSITOR)] [(.ref w_DEPOSITOR)])) rfl (hb hby d2_22)
  refine own_go (T' := T7) (g' := (mkF m 25 #[.val (.ref w_DEPOSITOR)] [(.ref w_DEPOSITOR), (.ref w_DEPOSITOR)])) (fun t q => st7 t q) ?_
  have c8 : (Value.ref w_DEPOSITOR) = (Value.ref w_DEPOSITOR) := rfl
  refine own_go (T' := T7) (g' := (mkF m 28 #[.val (.ref w_DEPOSITOR)] [])) (fun t q => XT.acmpNo X7.here hx rfl (hb hby d2_25) rfl rfl rfl (own_at c8).2 q) ?_
  refine own_go (T' := T7) (g' := (mkF m 29 #[.val (.ref w_DEPOSITOR)] [(.int (1 : Int32))])) (fun t q => XS.iconst X7.here hx rfl (hb hby d2_28) q) ?_
  refine own_go (T' := T7) (g' := (mkF m 33 #[.val (.ref w_DEPOSITOR)] [(.int (1 : Int32))])) (fun t q => XS.goto X7.here hx rfl (pc0 := 29) (pc' := 33) rfl (hb hby d2_29) (by decide) (by decide) q) ?_
  refine own_outN X7 hx hlk hret (t := .boolean) (by simp) (hb hby d2_33) (w := (1 : Int32)) (by decide) ?_ (by decide) (by decide)
  exact ⟨rfl, e7, rfl⟩
theorem d3_30 : decode method_3_code 30 = .ok (.iconst 1, 1) := by decide +kernel
theorem d3_31 : decode method_3_code 31 = .ok (.ireturn, 1) := by decide +kernel
set_option maxRecDepth 65536 in
set_option maxHeartbeats 40000000 in
theorem rm3_10 (l : Launch) (Z : State) (a0 : Array Value) (hw : ∀ d ∈ tables_1, d.before a0 Z = true) (ws : List Jvm.Cond) (p1 : Int32) (h0 : Heap) (hk : p1 = 10) :
    own_Met l (⟨"com/example/ryudo/ryudo/model/KindTakesRateClassPinLaw", "expected", "(I)Z"⟩ : MethodName) method_3_code 1 (some .boolean) ws ({ frames := 0, cells := 0, slots := 0, locals := 0 } : Room) Z #[(.int p1)] h0 (fun v h L => v = some (.int (1 : Int32)) ∧ h = h0 ∧ L = []) := by
  refine MetFree.of_bodySF (plainFor_of_name (by first | (simp [plainName, overriddenIn]; done) | decide +kernel)) hisR ?_
  intro p e s m args below meth c s₁ Bd hml0 hP hK
  obtain ⟨rfl, hZ, hh⟩ := hP
  have hx := Bd.exec
  have hby := Bd.bytes
  have hml : c.maxLocals = 1 := hml0
  have hown : s.vm.findClass "com/example/ryudo/ryudo/model/KindTakesRateClassPinLaw" = some m.cls := findClass_of_methodNamed Bd.named
  have hnm := (name_of_methodNamed Bd.named Bd.method).1
  have hlk : meth.locks = false := Bd.notSynchronized
  have hret := Bd.returns
  have X0 : Stand p l e ({ frames := 0, cells := 0, slots := 0, locals := 0 } : Room) s m #[(.int p1)] below meth c s₁ [] 0 0 := Stand.of_body Bd
  have e0 : s₁.heap = h0 := by rw [← hh, Bd.state]; rfl
  refine own_in (Q := fun v h L => v = some (.int (1 : Int32)) ∧ h = h0 ∧ L = []) (ef := by first | (simp [entryFrame, mkF, argsToLocals, Value.category, maxLocals]; done) | rfl) (g' := (mkF m 0 #[.val (.int p1)] [])) ?_
  refine own_go (T' := s₁) (g' := (mkF m 1 #[.val (.int p1)] [(.int p1)])) (fun t q => XS.iloadN X0.here hx rfl (hb hby d3_0) rfl q) ?_
  refine own_go (T' := s₁) (g' := (mkF m 3 #[.val (.int p1)] [(.int (7 : Int32)), (.int p1)])) (fun t q => XS.bipush X0.here hx rfl (hb hby d3_1) q) ?_
  have c1 : ¬ (p1 = (7 : Int32)) := by rw [hk]; decide
  refine own_go (T' := s₁) (g' := (mkF m 8 #[.val (.int p1)] [])) (fun t q => XS.icmpYes X0.here hx rfl (pc0 := 3) (pc' := 8) rfl (hb hby d3_3) rfl (feq c1).2 (by decide) (by decide) q) ?_
  refine own_go (T' := s₁) (g' := (mkF m 9 #[.val (.int p1)] [(.int p1)])) (fun t q => XS.iloadN X0.here hx rfl (hb hby d3_8) rfl q) ?_
  refine own_go (T' := s₁) (g' := (mkF m 11 #[.val (.int p1)] [(.int (8 : Int32)), (.int p1)])) (fun t q => XS.bipush X0.here hx rfl (hb hby d3_9) q) ?_
  have c2 : ¬ (p1 = (8 : Int32)) := by rw [hk]; decide
  refine own_go (T' := s₁) (g' := (mkF m 16 #[.val (.int p1)] [])) (fun t q => XS.icmpYes X0.here hx rfl (pc0 := 11) (pc' := 16) rfl (hb hby d3_11) rfl (feq c2).2 (by decide) (by decide) q) ?_
  refine own_go (T' := s₁) (g' := (mkF m 17 #[.val (.int p1)] [(.int p1)])) (fun t q => XS.iloadN X0.here hx rfl (hb hby d3_16) rfl q) ?_
  refine own_go (T' := s₁) (g' := (mkF m 19 #[.val (.int p1)] [(.int (9 : Int32)), (.int p1)])) (fun t q => XS.bipush X0.here hx rfl (hb hby d3_17) q) ?_
  have c3 : ¬ (p1 = (9 : Int32)) := by rw [hk]; decide
  refine own_go (T' := s₁) (g' := (mkF m 24 #[.val (.int p1)] [])) (fun t q => XS.icmpYes X0.here hx rfl (pc0 := 19) (pc' := 24) rfl (hb hby d3_19) rfl (feq c3).2 (by decide) (by decide) q) ?_
  refine own_go (T' := s₁) (g' := (mkF m 25 #[.val (.int p1)] [(.int p1)])) (fun t q => XS.iloadN X0.here hx rfl (hb hby d3_24) rfl q) ?_
  refine own_go (T' := s₁) (g' := (mkF m 27 #[.val (.int p1)] [(.int (10 : Int32)), (.int p1)])) (fun t q => XS.bipush X0.here hx rfl (hb hby d3_25) q) ?_
  have c4 : p1 = (10 : Int32) := hk
  refine own_go (T' := s₁) (g' := (mkF m 30 #[.val (.int p1)] [])) (fun t q => XS.icmpNo X0.here hx rfl (hb hby d3_27) rfl (teq c4).2 q) ?_
  refine own_go (T' := s₁) (g' := (mkF m 31 #[.val (.int p1)] [(.int (1 : Int32))])) (fun t q => XS.iconst X0.here hx rfl (hb hby d3_30) q) ?_
  refine own_outN X0 hx hlk hret (t := .boolean) (by simp) (hb hby d3_31) (w := (1 : Int32)) (by decide) ?_ (by decide) (by decide)
  exact ⟨rfl, e0, rfl⟩
theorem own_last {p1 kk : Int32} (h0 : kk = ((p1 &&& (2147483647 : Int32)) % (11 : Int32))) (hk : (kk ≠ 0 ∧ kk ≠ 1 ∧ kk ≠ 2 ∧ kk ≠ 3 ∧ kk ≠ 4 ∧ kk ≠ 5 ∧ kk ≠ 6 ∧ kk ≠ 7 ∧ kk ≠ 8 ∧ kk ≠ 9)) : kk = 10 := by
  obtain ⟨q0, q1, q2, q3, q4, q5, q6, q7, q8, q9⟩ := hk
  have hr := own_mod p1 11 (by decide)
  rw [← h0] at hr
  have r0 : kk.toInt ≠ 0 := fun z => own_ne q0 (z.trans (by decide))
  have r1 : kk.toInt ≠ 1 := fun z => own_ne q1 (z.trans (by decide))
  have r2 : kk.toInt ≠ 2 := fun z => own_ne q2 (z.trans (by decide))
  have r3 : kk.toInt ≠ 3 := fun z => own_ne q3 (z.trans (by decide))
  have r4 : kk.toInt ≠ 4 := fun z => own_ne q4 (z.trans (by decide))
  have r5 : kk.toInt ≠ 5 := fun z => own_ne q5 (z.trans (by decide))
  have r6 : kk.toInt ≠ 6 := fun z => own_ne q6 (z.trans (by decide))
  have r7 : kk.toInt ≠ 7 := fun z => own_ne q7 (z.trans (by decide))
  have r8 : kk.toInt ≠ 8 := fun z => own_ne q8 (z.trans (by decide))
  have r9 : kk.toInt ≠ 9 := fun z => own_ne q9 (z.trans (by decide))
  have h11 : (11 : Int32).toInt = 11 := by decide
  have : kk.toInt = 10 := by omega
  exact Int32.toInt_inj.mp (this.trans (by decide))
set_option maxRecDepth 65536 in
set_option maxHeartbeats 40000000 in
theorem rm0 (l : Launch) (Z : State) (a0 : Array Value) (hw : ∀ d ∈ tables_1, d.before a0 Z = true) (ws : List Jvm.Cond) (p1 : Int32) (w_NONE w_SET_RATE_CLASS w_HOST_RATE_CLASS w_CLASSED_UNDERLYING w_DEPOSITOR w_NETTING_SET w_SWAPPED_COLLATERAL w_COLLATERAL w_SUBSTITUTION w_UNDERLYING w_COUNTERPARTY : Addr) (h0 : Heap) (FX : own_F Z h0 w_NONE w_SET_RATE_CLASS w_HOST_RATE_CLASS w_CLASSED_UNDERLYING w_DEPOSITOR w_NETTING_SET w_SWAPPED_COLLATERAL w_COLLATERAL w_SUBSTITUTION w_UNDERLYING w_COUNTERPARTY) :
    own_Met l x code maxLocals ret ws room_1 Z #[(.int p1)] h0 (fun v _ L => v = some (.int (1 : Int32)) ∧ Fr h0.size L) := by
  refine MetFree.of_bodySF (plainFor_of_name (by first | (simp [plainName, overriddenIn]; done) | decide +kernel)) hisR ?_
  intro p e s m args below meth c s₁ Bd hml0 hP hK
  obtain ⟨rfl, hZ, hh⟩ := hP
  have hx := Bd.exec
  have hby := Bd.bytes
  have hml : c.maxLocals = 3 := hml0
  have hown : s.vm.findClass "com/example/ryudo/ryudo/model/KindTakesRateClassPinLaw" = some m.cls := findClass_of_methodNamed Bd.named
  have hnm := (name_of_methodNamed Bd.named Bd.method).1
  have hlk : meth.locks = false := Bd.notSynchronized
  have hret := Bd.returns
  have X0 : Stand p l e room_1 s m #[(.int p1)] below meth c s₁ [] 0 0 := Stand.of_body Bd
  have e0 : s₁.heap = h0 := by rw [← hh, Bd.state]; rfl
  refine own_in (Q := fun v _ L => v = some (.int (1 : Int32)) ∧ Fr h0.size L) (ef := by first | (simp [entryFrame, mkF, argsToLocals, Value.category, maxLocals]; done) | rfl) (g' := (mkF m 0 #[.val (.int p1), .unset, .unset] [])) ?_
  obtain ⟨S_NONE, E_NONE, S_SET_RATE_CLASS, E_SET_RATE_CLASS, S_HOST_RATE_CLASS, E_HOST_RATE_CLASS, S_CLASSED_UNDERLYING, E_CLASSED_UNDERLYING, S_DEPOSITOR, E_DEPOSITOR, S_NETTING_SET, E_NETTING_SET, S_SWAPPED_COLLATERAL, E_SWAPPED_COLLATERAL, S_COLLATERAL, E_COLLATERAL, S_SUBSTITUTION, E_SUBSTITUTION, S_UNDERLYING, E_UNDERLYING, S_COUNTERPARTY, E_COUNTERPARTY, F_NONE_ordinal, F_SET_RATE_CLASS_ordinal, F_HOST_RATE_CLASS_ordinal, F_CLASSED_UNDERLYING_ordinal, F_DEPOSITOR_ordinal, F_NETTING_SET_ordinal, F_SWAPPED_COLLATERAL_ordinal, F_COLLATERAL_ordinal, F_SUBSTITUTION_ordinal, F_UNDERLYING_ordinal, F_COUNTERPARTY_ordinal, ne_NONE_SET_RATE_CLASS, ne_NONE_HOST_RATE_CLASS, ne_NONE_CLASSED_UNDERLYING, ne_NONE_DEPOSITOR, ne_SET_RATE_CLASS_HOST_RATE_CLASS, ne_SET_RATE_CLASS_CLASSED_UNDERLYING, ne_SET_RATE_CLASS_DEPOSITOR, ne_SET_RATE_CLASS_NETTING_SET, ne_SET_RATE_CLASS_SWAPPED_COLLATERAL, ne_SET_RATE_CLASS_COLLATERAL, ne_SET_RATE_CLASS_SUBSTITUTION, ne_SET_RATE_CLASS_UNDERLYING, ne_SET_RATE_CLASS_COUNTERPARTY, ne_HOST_RATE_CLASS_CLASSED_UNDERLYING, ne_HOST_RATE_CLASS_DEPOSITOR, ne_HOST_RATE_CLASS_NETTING_SET, ne_HOST_RATE_CLASS_SWAPPED_COLLATERAL, ne_HOST_RATE_CLASS_COLLATERAL, ne_HOST_RATE_CLASS_SUBSTITUTION, ne_HOST_RATE_CLASS_UNDERLYING, ne_HOST_RATE_CLASS_COUNTERPARTY, ne_CLASSED_UNDERLYING_DEPOSITOR, ne_CLASSED_UNDERLYING_NETTING_SET, ne_CLASSED_UNDERLYING_SWAPPED_COLLATERAL, ne_CLASSED_UNDERLYING_COLLATERAL, ne_CLASSED_UNDERLYING_SUBSTITUTION, ne_CLASSED_UNDERLYING_UNDERLYING, ne_CLASSED_UNDERLYING_COUNTERPARTY, ne_DEPOSITOR_NETTING_SET, ne_DEPOSITOR_SWAPPED_COLLATERAL, ne_DEPOSITOR_COLLATERAL, ne_DEPOSITOR_SUBSTITUTION, ne_DEPOSITOR_UNDERLYING, ne_DEPOSITOR_COUNTERPARTY⟩ := id FX
  refine own_go (T' := s₁) (g' := (mkF m 1 #[.val (.int p1), .unset, .unset] [(.int p1)])) (fun t q => XS.iloadN X0.here hx rfl (hb hby at_0) rfl q) ?_
  refine own_go (T' := s₁) (g' := (mkF m 3 #[.val (.int p1), .unset, .unset] [(.int (2147483647 : Int32)), (.int p1)])) (fun t q => X0.ldcInt hx hown (mvT hZ (hw _ (List.mem_of_getElem? (i := 0) rfl))) (g := (mkF m 1 #[.val (.int p1), .unset, .unset] [(.int p1)])) rfl (hb hby at_1) t q) ?_
  refine own_go (T' := s₁) (g' := (mkF m 4 #[.val (.int p1), .unset, .unset] [(.int (p1 &&& (2147483647 : Int32)))])) (fun t q => XS.iand X0.here hx rfl (hb hby at_3) rfl q) ?_
  refine own_go (T' := s₁) (g' := (mkF m 6 #[.val (.int p1), .unset, .unset] [(.int (11 : Int32)), (.int (p1 &&& (2147483647 : Int32)))])) (fun t q => XS.bipush X0.here hx rfl (hb hby at_4) q) ?_
  refine own_go (T' := s₁) (g' := (mkF m 7 #[.val (.int p1), .unset, .unset] [(.int ((p1 &&& (2147483647 : Int32)) % (11 : Int32)))])) (fun t q => iremM X0 hx rfl (hb hby at_6) rfl (by decide) q) ?_
  obtain ⟨kk, hk0⟩ : ∃ z : Int32, z = ((p1 &&& (2147483647 : Int32)) % (11 : Int32)) := ⟨_, rfl⟩
  rw [← hk0]
  refine own_go (T' := s₁) (g' := (mkF m 8 #[.val (.int p1), .val (.int kk), .unset] [])) (fun t q => XS.istoreN X0.here hx rfl (hb hby at_7) rfl (l' := #[.val (.int p1), .val (.int kk), .unset]) rfl q) ?_
  refine own_go (T' := s₁) (g' := (mkF m 9 #[.val (.int p1), .val (.int kk), .unset] [(.int kk)])) (fun t q => XS.iloadN X0.here hx rfl (hb hby at_8) rfl q) ?_
  obtain ⟨v1, T1, L1, X1, Q1, st1⟩ := own_callS X0 hx hZ (y := (⟨"com/example/ryudo/ryudo/model/KindTakesRateClassPinLaw", "kindOf", "(I)Lcom/example/ryudo/ryudo/model/Terms$Kind;"⟩ : MethodName)) (argsL := [(.int kk)]) (rest := []) hown (hw _ (List.mem_of_getElem? (i := 1) rfl)) (hw _ (List.mem_of_getElem? (i := 2) rfl)) (hw _ (List.mem_of_getElem? (i := 3) rfl)) (hw _ (List.mem_of_getElem? (i := 4) rfl)) (rm1 l Z a0 hw [] kk w_NONE w_SET_RATE_CLASS w_HOST_RATE_CLASS w_CLASSED_UNDERLYING w_DEPOSITOR w_NETTING_SET w_SWAPPED_COLLATERAL w_COLLATERAL w_SUBSTITUTION w_UNDERLYING w_COUNTERPARTY h0 FX) e0 (by decide) (by decide) 0 (by decide) (by decide) (by decide) (g := (mkF m 9 #[.val (.int p1), .val (.int kk), .unset] [(.int kk)])) rfl (by rw [hml]; rfl) (lenOf (ps := [.int]) (r := (some (.object "com/example/ryudo/ryudo/model/Terms$Kind"))) (by decide +kernel) rfl) rfl (by show 2 * 0 + _ ≤ _; exact Nat.le_of_eq rfl) (hb hby at_9)
  obtain ⟨Q1, e1, rfl⟩ := Q1
  rcases Q1 with ⟨hk, rfl⟩ | ⟨hk, rfl⟩ | ⟨hk, rfl⟩ | ⟨hk, rfl⟩ | ⟨hk, rfl⟩ | ⟨hk, rfl⟩ | ⟨hk, rfl⟩ | ⟨hk, rfl⟩ | ⟨hk, rfl⟩ | ⟨hk, rfl⟩ | ⟨hk, rfl⟩
  · refine own_go (T' := T1) (g' := (mkF m 12 #[.val (.int p1), .val (.int kk), .unset] [(.ref w_NONE)])) (fun t q => st1 t q) ?_
    refine own_go (T' := T1) (g' := (mkF m 13 #[.val (.int p1), .val (.int kk), .val (.ref w_NONE)] [])) (fun t q => XS.astoreN X1.here hx rfl (hb hby at_12) rfl rfl (l' := #[.val (.int p1), .val (.int kk), .val (.ref w_NONE)]) rfl q) ?_
    refine own_go (T' := T1) (g' := (mkF m 14 #[.val (.int p1), .val (.int kk), .val (.ref w_NONE)] [(.ref w_NONE)])) (fun t q => XS.aloadN X1.here hx rfl (hb hby at_13) rfl rfl q) ?_
    obtain ⟨v2, T2, L2, X2, Q2, st2⟩ := own_callV X1 hx hZ (y := (⟨"com/example/ryudo/ryudo/model/Terms$Kind", "takesRateClass", "()Z"⟩ : MethodName)) (b := w_NONE) (argsL := []) (rest := []) hown (hw _ (List.mem_of_getElem? (i := 8) rfl)) (hw _ (List.mem_of_getElem? (i := 9) rfl)) (hw _ (List.mem_of_getElem? (i := 11) rfl)) (hw _ (List.mem_of_getElem? (i := 10) rfl)) (hw _ (List.mem_of_getElem? (i := 6) rfl)) (hw _ (List.mem_of_getElem? (i := 12) rfl)) (rm2_0 l Z a0 hw [] w_NONE w_SET_RATE_CLASS w_HOST_RATE_CLASS w_CLASSED_UNDERLYING w_DEPOSITOR w_NETTING_SET w_SWAPPED_COLLATERAL w_COLLATERAL w_SUBSTITUTION w_UNDERLYING w_COUNTERPARTY h0 FX) e1 E_NONE (by decide) (by decide) 0 (by decide) (by decide) (by decide) (g := (mkF m 14 #[.val (.int p1), .val (.int kk), .val (.ref w_NONE)] [(.ref w_NONE)])) rfl (by rw [hml]; rfl) (lenOf (ps := []) (r := (some .boolean)) (by decide +kernel) rfl) rfl (by show 2 * 0 + _ ≤ _; exact Nat.le_of_eq rfl) (hb hby at_14)
    obtain ⟨rfl, e2, rfl⟩ := Q2
    refine own_go (T' := T2) (g' := (mkF m 17 #[.val (.int p1), .val (.int kk), .val (.ref w_NONE)] [(.int (0 : Int32))])) (fun t q => st2 t q) ?_
    refine own_go (T' := T2) (g' := (mkF m 18 #[.val (.int p1), .val (.int kk), .val (.ref w_NONE)] [(.int kk), (.int (0 : Int32))])) (fun t q => XS.iloadN X2.here hx rfl (hb hby at_17) rfl q) ?_
    obtain ⟨v3, T3, L3, X3, Q3, st3⟩ := own_callS X2 hx hZ (y := (⟨"com/example/ryudo/ryudo/model/KindTakesRateClassPinLaw", "expected", "(I)Z"⟩ : MethodName)) (argsL := [(.int kk)]) (rest := [(.int (0 : Int32))]) hown (hw _ (List.mem_of_getElem? (i := 21) rfl)) (hw _ (List.mem_of_getElem? (i := 22) rfl)) (hw _ (List.mem_of_getElem? (i := 3) rfl)) (hw _ (List.mem_of_getElem? (i := 23) rfl)) (rm3_0 l Z a0 hw [] kk h0 hk) e2 (by decide) (by decide) 1 (by decide) (by decide) (by decide) (g := (mkF m 18 #[.val (.int p1), .val (.int kk), .val (.ref w_NONE)] [(.int kk), (.int (0 : Int32))])) rfl (by rw [hml]; rfl) (lenOf (ps := [.int]) (r := (some .boolean)) (by decide +kernel) rfl) rfl (by show 2 * 0 + _ ≤ _; exact Nat.le_of_eq rfl) (hb hby at_18)
    obtain ⟨rfl, e3, rfl⟩ := Q3
    refine own_go (T' := T3) (g' := (mkF m 21 #[.val (.int p1), .val (.int kk), .val (.ref w_NONE)] [(.int (0 : Int32)), (.int (0 : Int32))])) (fun t q => st3 t q) ?_
    have c4 : (0 : Int32) = (0 : Int32) := by decide
    refine own_go (T' := T3) (g' := (mkF m 24 #[.val (.int p1), .val (.int kk), .val (.ref w_NONE)] [])) (fun t q => XS.icmpNo X3.here hx rfl (hb hby at_21) rfl (teq c4).2 q) ?_
    refine own_go (T' := T3) (g' := (mkF m 25 #[.val (.int p1), .val (.int kk), .val (.ref w_NONE)] [(.int (1 : Int32))])) (fun t q => XS.iconst X3.here hx rfl (hb hby at_24) q) ?_
    refine own_go (T' := T3) (g' := (mkF m 29 #[.val (.int p1), .val (.int kk), .val (.ref w_NONE)] [(.int (1 : Int32))])) (fun t q => XS.goto X3.here hx rfl (pc0 := 25) (pc' := 29) rfl (hb hby at_25) (by decide) (by decide) q) ?_
    refine own_outN X3 hx hlk hret (t := .boolean) (by simp) (hb hby at_29) (w := (1 : Int32)) (by decide) ?_ (by decide) (by decide)
    exact ⟨rfl, Fr.nil _⟩
  · refine own_go (T' := T1) (g' := (mkF m 12 #[.val (.int p1), .val (.int kk), .unset] [(.ref w_COLLATERAL)])) (fun t q => st1 t q) ?_
    refine own_go (T' := T1) (g' := (mkF m 13 #[.val (.int p1), .val (.int kk), .val (.ref w_COLLATERAL)] [])) (fun t q => XS.astoreN X1.here hx rfl (hb hby at_12) rfl rfl (l' := #[.val (.int p1), .val (.int kk), .val (.ref w_COLLATERAL)]) rfl q) ?_
    refine own_go (T' := T1) (g' := (mkF m 14 #[.val (.int p1), .val (.int kk), .val (.ref w_COLLATERAL)] [(.ref w_COLLATERAL)])) (fun t q => XS.aloadN X1.here hx rfl (hb hby at_13) rfl rfl q) ?_
    obtain ⟨v5, T5, L5, X5, Q5, st5⟩ := own_callV X1 hx hZ (y := (⟨"com/example/ryudo/ryudo/model/Terms$Kind", "takesRateClass", "()Z"⟩ : MethodName)) (b := w_COLLATERAL) (argsL := []) (rest := []) hown (hw _ (List.mem_of_getElem? (i := 8) rfl)) (hw _ (List.mem_of_getElem? (i := 9) rfl)) (hw _ (List.mem_of_getElem? (i := 11) rfl)) (hw _ (List.mem_of_getElem? (i := 10) rfl)) (hw _ (List.mem_of_getElem? (i := 6) rfl)) (hw _ (List.mem_of_getElem? (i := 12) rfl)) (rm2_1 l Z a0 hw [] w_NONE w_SET_RATE_CLASS w_HOST_RATE_CLASS w_CLASSED_UNDERLYING w_DEPOSITOR w_NETTING_SET w_SWAPPED_COLLATERAL w_COLLATERAL w_SUBSTITUTION w_UNDERLYING w_COUNTERPARTY h0 FX) e1 E_COLLATERAL (by decide) (by decide) 0 (by decide) (by decide) (by decide) (g := (mkF m 14 #[.val (.int p1), .val (.int kk), .val (.ref w_COLLATERAL)] [(.ref w_COLLATERAL)])) rfl (by rw [hml]; rfl) (lenOf (ps := []) (r := (some .boolean)) (by decide +kernel) rfl) rfl (by show 2 * 0 + _ ≤ _; exact Nat.le_of_eq rfl) (hb hby at_14)
    obtain ⟨rfl, e5, rfl⟩ := Q5
    refine own_go (T' := T5) (g' := (mkF m 17 #[.val (.int p1), .val (.int kk), .val (.ref w_COLLATERAL)] [(.int (0 : Int32))])) (fun t q => st5 t q) ?_
    refine own_go (T' := T5) (g' := (mkF m 18 #[.val (.int p1), .val (.int kk), .val (.ref w_COLLATERAL)] [(.int kk), (.int (0 : Int32))])) (fun t q => XS.iloadN X5.here hx rfl (hb hby at_17) rfl q) ?_
    obtain ⟨v6, T6, L6, X6, Q6, st6⟩ := own_callS X5 hx hZ (y := (⟨"com/example/ryudo/ryudo/model/KindTakesRateClassPinLaw", "expected", "(I)Z"⟩ : MethodName)) (argsL := [(.int kk)]) (rest := [(.int (0 : Int32))]) hown (hw _ (List.mem_of_getElem? (i := 21) rfl)) (hw _ (List.mem_of_getElem? (i := 22) rfl)) (hw _ (List.mem_of_getElem? (i := 3) rfl)) (hw _ (List.mem_of_getElem? (i := 23) rfl)) (rm3_1 l Z a0 hw [] kk h0 hk) e5 (by decide) (by decide) 1 (by decide) (by decide) (by decide) (g := (mkF m 18 #[.val (.int p1), .val (.int kk), .val (.ref w_COLLATERAL)] [(.int kk), (.int (0 : Int32))])) rfl (by rw [hml]; rfl) (lenOf (ps := [.int]) (r := (some .boolean)) (by decide +kernel) rfl) rfl (by show 2 * 0 + _ ≤ _; exact Nat.le_of_eq rfl) (hb hby at_18)
    obtain ⟨rfl, e6, rfl⟩ := Q6
    refine own_go (T' := T6) (g' := (mkF m 21 #[.val (.int p1), .val (.int kk), .val (.ref w_COLLATERAL)] [(.int (0 : Int32)), (.int (0 : Int32))])) (fun t q => st6 t q) ?_
    have c7 : (0 : Int32) = (0 : Int32) := by decide
    refine own_go (T' := T6) (g' := (mkF m 24 #[.val (.int p1), .val (.int kk), .val (.ref w_COLLATERAL)] [])) (fun t q => XS.icmpNo X6.here hx rfl (hb hby at_21) rfl (teq c7).2 q) ?_
    refine own_go (T' := T6) (g' := (mkF m 25 #[.val (.int p1), .val (.int kk), .val (.ref w_COLLATERAL)] [(.int (1 : Int32))])) (fun t q => XS.iconst X6.here hx rfl (hb hby at_24) q) ?_
    refine own_go (T' := T6) (g' := (mkF m 29 #[.val (.int p1), .val (.int kk), .val (.ref w_COLLATERAL)] [(.int (1 : Int32))])) (fun t q => XS.goto X6.here hx rfl (pc0 := 25) (pc' := 29) rfl (hb hby at_25) (by decide) (by decide) q) ?_
    refine own_outN X6 hx hlk hret (t := .boolean) (by simp) (hb hby at_29) (w := (1 : Int32)) (by decide) ?_ (by decide) (by decide)
    exact ⟨rfl, Fr.nil _⟩
  · refine own_go (T' := T1) (g' := (mkF m 12 #[.val (.int p1), .val (.int kk), .unset] [(.ref w_SWAPPED_COLLATERAL)])) (fun t q => st1 t q) ?_
    refine own_go (T' := T1) (g' := (mkF m 13 #[.val (.int p1), .val (.int kk), .val (.ref w_SWAPPED_COLLATERAL)] [])) (fun t q => XS.astoreN X1.here hx rfl (hb hby at_12) rfl rfl (l' := #[.val (.int p1), .val (.int kk), .val (.ref w_SWAPPED_COLLATERAL)]) rfl q) ?_
    refine own_go (T' := T1) (g' := (mkF m 14 #[.val (.int p1), .val (.int kk), .val (.ref w_SWAPPED_COLLATERAL)] [(.ref w_SWAPPED_COLLATERAL)])) (fun t q => XS.aloadN X1.here hx rfl (hb hby at_13) rfl rfl q) ?_
    obtain ⟨v8, T8, L8, X8, Q8, st8⟩ := own_callV X1 hx hZ (y := (⟨"com/example/ryudo/ryudo/model/Terms$Kind", "takesRateClass", "()Z"⟩ : MethodName)) (b := w_SWAPPED_COLLATERAL) (argsL := []) (rest := []) hown (hw _ (List.mem_of_getElem? (i := 8) rfl)) (hw _ (List.mem_of_getElem? (i := 9) rfl)) (hw _ (List.mem_of_getElem? (i := 11) rfl)) (hw _ (List.mem_of_getElem? (i := 10) rfl)) (hw _ (List.mem_of_getElem? (i := 6) rfl)) (hw _ (List.mem_of_getElem? (i := 12) rfl)) (rm2_2 l Z a0 hw [] w_NONE w_SET_RATE_CLASS w_HOST_RATE_CLASS w_CLASSED_UNDERLYING w_DEPOSITOR w_NETTING_SET w_SWAPPED_COLLATERAL w_COLLATERAL w_SUBSTITUTION w_UNDERLYING w_COUNTERPARTY h0 FX) e1 E_SWAPPED_COLLATERAL (by decide) (by decide) 0 (by decide) (by decide) (by decide) (g := (mkF m 14 #[.val (.int p1), .val (.int kk), .val (.ref w_SWAPPED_COLLATERAL)] [(.ref w_SWAPPED_COLLATERAL)])) rfl (by rw [hml]; rfl) (lenOf (ps := []) (r := (some .boolean)) (by decide +kernel) rfl) rfl (by show 2 * 0 + _ ≤ _; exact Nat.le_of_eq rfl) (hb hby at_14)
    obtain ⟨rfl, e8, rfl⟩ := Q8
    refine own_go (T' := T8) (g' := (mkF m 17 #[.val (.int p1), .val (.int kk), .val (.ref w_SWAPPED_COLLATERAL)] [(.int (0 : Int32))])) (fun t q => st8 t q) ?_
    refine own_go (T' := T8) (g' := (mkF m 18 #[.val (.int p1), .val (.int kk), .val (.ref w_SWAPPED_COLLATERAL)] [(.int kk), (.int (0 : Int32))])) (fun t q => XS.iloadN X8.here hx rfl (hb hby at_17) rfl q) ?_
    obtain ⟨v9, T9, L9, X9, Q9, st9⟩ := own_callS X8 hx hZ (y := (⟨"com/example/ryudo/ryudo/model/KindTakesRateClassPinLaw", "expected", "(I)Z"⟩ : MethodName)) (argsL := [(.int kk)]) (rest := [(.int (0 : Int32))]) hown (hw _ (List.mem_of_getElem? (i := 21) rfl)) (hw _ (List.mem_of_getElem? (i := 22) rfl)) (hw _ (List.mem_of_getElem? (i := 3) rfl)) (hw _ (List.mem_of_getElem? (i := 23) rfl)) (rm3_2 l Z a0 hw [] kk h0 hk) e8 (by decide) (by decide) 1 (by decide) (by decide) (by decide) (g := (mkF m 18 #[.val (.int p1), .val (.int kk), .val (.ref w_SWAPPED_COLLATERAL)] [(.int kk), (.int (0 : Int32))])) rfl (by rw [hml]; rfl) (lenOf (ps := [.int]) (r := (some .boolean)) (by decide +kernel) rfl) rfl (by show 2 * 0 + _ ≤ _; exact Nat.le_of_eq rfl) (hb hby at_18)
    obtain ⟨rfl, e9, rfl⟩ := Q9
    refine own_go (T' := T9) (g' := (mkF m 21 #[.val (.int p1), .val (.int kk), .val (.ref w_SWAPPED_COLLATERAL)] [(.int (0 : Int32)), (.int (0 : Int32))])) (fun t q => st9 t q) ?_
    have c10 : (0 : Int32) = (0 : Int32) := by decide
    refine own_go (T' := T9) (g' := (mkF m 24 #[.val (.int p1), .val (.int kk), .val (.ref w_SWAPPED_COLLATERAL)] [])) (fun t q => XS.icmpNo X9.here hx rfl (hb hby at_21) rfl (teq c10).2 q) ?_
    refine own_go (T' := T9) (g' := (mkF m 25 #[.val (.int p1), .val (.int kk), .val (.ref w_SWAPPED_COLLATERAL)] [(.int (1 : Int32))])) (fun t q => XS.iconst X9.here hx rfl (hb hby at_24) q) ?_
    refine own_go (T' := T9) (g' := (mkF m 29 #[.val (.int p1), .val (.int kk), .val (.ref w_SWAPPED_COLLATERAL)] [(.int (1 : Int32))])) (fun t q => XS.goto X9.here hx rfl (pc0 := 25) (pc' := 29) rfl (hb hby at_25) (by decide) (by decide) q) ?_
    refine own_outN X9 hx hlk hret (t := .boolean) (by simp) (hb hby at_29) (w := (1 : Int32)) (by decide) ?_ (by decide) (by decide)
    exact ⟨rfl, Fr.nil _⟩
  · refine own_go (T' := T1) (g' := (mkF m 12 #[.val (.int p1), .val (.int kk), .unset] [(.ref w_NETTING_SET)])) (fun t q => st1 t q) ?_
    refine own_go (T' := T1) (g' := (mkF m 13 #[.val (.int p1), .val (.int kk), .val (.ref w_NETTING_SET)] [])) (fun t q => XS.astoreN X1.here hx rfl (hb hby at_12) rfl rfl (l' := #[.val (.int p1), .val (.int kk), .val (.ref w_NETTING_SET)]) rfl q) ?_
    refine own_go (T' := T1) (g' := (mkF m 14 #[.val (.int p1), .val (.int kk), .val (.ref w_NETTING_SET)] [(.ref w_NETTING_SET)])) (fun t q => XS.aloadN X1.here hx rfl (hb hby at_13) rfl rfl q) ?_
    obtain ⟨v11, T11, L11, X11, Q11, st11⟩ := own_callV X1 hx hZ (y := (⟨"com/example/ryudo/ryudo/model/Terms$Kind", "takesRateClass", "()Z"⟩ : MethodName)) (b := w_NETTING_SET) (argsL := []) (rest := []) hown (hw _ (List.mem_of_getElem? (i := 8) rfl)) (hw _ (List.mem_of_getElem? (i := 9) rfl)) (hw _ (List.mem_of_getElem? (i := 11) rfl)) (hw _ (List.mem_of_getElem? (i := 10) rfl)) (hw _ (List.mem_of_getElem? (i := 6) rfl)) (hw _ (List.mem_of_getElem? (i := 12) rfl)) (rm2_3 l Z a0 hw [] w_NONE w_SET_RATE_CLASS w_HOST_RATE_CLASS w_CLASSED_UNDERLYING w_DEPOSITOR w_NETTING_SET w_SWAPPED_COLLATERAL w_COLLATERAL w_SUBSTITUTION w_UNDERLYING w_COUNTERPARTY h0 FX) e1 E_NETTING_SET (by decide) (by decide) 0 (by decide) (by decide) (by decide) (g := (mkF m 14 #[.val (.int p1), .val (.int kk), .val (.ref w_NETTING_SET)] [(.ref w_NETTING_SET)])) rfl (by rw [hml]; rfl) (lenOf (ps := []) (r := (some .boolean)) (by decide +kernel) rfl) rfl (by show 2 * 0 + _ ≤ _; exact Nat.le_of_eq rfl) (hb hby at_14)
    obtain ⟨rfl, e11, rfl⟩ := Q11
    refine own_go (T' := T11) (g' := (mkF m 17 #[.val (.int p1), .val (.int kk), .val (.ref w_NETTING_SET)] [(.int (0 : Int32))])) (fun t q => st11 t q) ?_
    refine own_go (T' := T11) (g' := (mkF m 18 #[.val (.int p1), .val (.int kk), .val (.ref w_NETTING_SET)] [(.int kk), (.int (0 : Int32))])) (fun t q => XS.iloadN X11.here hx rfl (hb hby at_17) rfl q) ?_
    obtain ⟨v12, T12, L12, X12, Q12, st12⟩ := own_callS X11 hx hZ (y := (⟨"com/example/ryudo/ryudo/model/KindTakesRateClassPinLaw", "expected", "(I)Z"⟩ : MethodName)) (argsL := [(.int kk)]) (rest := [(.int (0 : Int32))]) hown (hw _ (List.mem_of_getElem? (i := 21) rfl)) (hw _ (List.mem_of_getElem? (i := 22) rfl)) (hw _ (List.mem_of_getElem? (i := 3) rfl)) (hw _ (List.mem_of_getElem? (i := 23) rfl)) (rm3_3 l Z a0 hw [] kk h0 hk) e11 (by decide) (by decide) 1 (by decide) (by decide) (by decide) (g := (mkF m 18 #[.val (.int p1), .val (.int kk), .val (.ref w_NETTING_SET)] [(.int kk), (.int (0 : Int32))])) rfl (by rw [hml]; rfl) (lenOf (ps := [.int]) (r := (some .boolean)) (by decide +kernel) rfl) rfl (by show 2 * 0 + _ ≤ _; exact Nat.le_of_eq rfl) (hb hby at_18)
    obtain ⟨rfl, e12, rfl⟩ := Q12
    refine own_go (T' := T12) (g' := (mkF m 21 #[.val (.int p1), .val (.int kk), .val (.ref w_NETTING_SET)] [(.int (0 : Int32)), (.int (0 : Int32))])) (fun t q => st12 t q) ?_
    have c13 : (0 : Int32) = (0 : Int32) := by decide
    refine own_go (T' := T12) (g' := (mkF m 24 #[.val (.int p1), .val (.int kk), .val (.ref w_NETTING_SET)] [])) (fun t q => XS.icmpNo X12.here hx rfl (hb hby at_21) rfl (teq c13).2 q) ?_
    refine own_go (T' := T12) (g' := (mkF m 25 #[.val (.int p1), .val (.int kk), .val (.ref w_NETTING_SET)] [(.int (1 : Int32))])) (fun t q => XS.iconst X12.here hx rfl (hb hby at_24) q) ?_
    refine own_go (T' := T12) (g' := (mkF m 29 #[.val (.int p1), .val (.int kk), .val (.ref w_NETTING_SET)] [(.int (1 : Int32))])) (fun t q => XS.goto X12.here hx rfl (pc0 := 25) (pc' := 29) rfl (hb hby at_25) (by decide) (by decide) q) ?_
    refine own_outN X12 hx hlk hret (t := .boolean) (by simp) (hb hby at_29) (w := (1 : Int32)) (by decide) ?_ (by decide) (by decide)
    exact ⟨rfl, Fr.nil _⟩
  · refine own_go (T' := T1) (g' := (mkF m 12 #[.val (.int p1), .val (.int kk), .unset] [(.ref w_COUNTERPARTY)])) (fun t q => st1 t q) ?_
    refine own_go (T' := T1) (g' := (mkF m 13 #[.val (.int p1), .val (.int kk), .val (.ref w_COUNTERPARTY)] [])) (fun t q => XS.astoreN X1.here hx rfl (hb hby at_12) rfl rfl (l' := #[.val (.int p1), .val (.int kk), .val (.ref w_COUNTERPARTY)]) rfl q) ?_
    refine own_go (T' := T1) (g' := (mkF m 14 #[.val (.int p1), .val (.int kk), .val (.ref w_COUNTERPARTY)] [(.ref w_COUNTERPARTY)])) (fun t q => XS.aloadN X1.here hx rfl (hb hby at_13) rfl rfl q) ?_
    obtain ⟨v14, T14, L14, X14, Q14, st14⟩ := own_callV X1 hx hZ (y := (⟨"com/example/ryudo/ryudo/model/Terms$Kind", "takesRateClass", "()Z"⟩ : MethodName)) (b := w_COUNTERPARTY) (argsL := []) (rest := []) hown (hw _ (List.mem_of_getElem? (i := 8) rfl)) (hw _ (List.mem_of_getElem? (i := 9) rfl)) (hw _ (List.mem_of_getElem? (i := 11) rfl)) (hw _ (List.mem_of_getElem? (i := 10) rfl)) (hw _ (List.mem_of_getElem? (i := 6) rfl)) (hw _ (List.mem_of_getElem? (i := 12) rfl)) (rm2_4 l Z a0 hw [] w_NONE w_SET_RATE_CLASS w_HOST_RATE_CLASS w_CLASSED_UNDERLYING w_DEPOSITOR w_NETTING_SET w_SWAPPED_COLLATERAL w_COLLATERAL w_SUBSTITUTION w_UNDERLYING w_COUNTERPARTY h0 FX) e1 E_COUNTERPARTY (by decide) (by decide) 0 (by decide) (by decide) (by decide) (g := (mkF m 14 #[.val (.int p1), .val (.int kk), .val (.ref w_COUNTERPARTY)] [(.ref w_COUNTERPARTY)])) rfl (by rw [hml]; rfl) (lenOf (ps := []) (r := (some .boolean)) (by decide +kernel) rfl) rfl (by show 2 * 0 + _ ≤ _; exact Nat.le_of_eq rfl) (hb hby at_14)
    obtain ⟨rfl, e14, rfl⟩ := Q14
    refine own_go (T' := T14) (g' := (mkF m 17 #[.val (.int p1), .val (.int kk), .val (.ref w_COUNTERPARTY)] [(.int (0 : Int32))])) (fun t q => st14 t q) ?_
    refine own_go (T' := T14) (g' := (mkF m 18 #[.val (.int p1), .val (.int kk), .val (.ref w_COUNTERPARTY)] [(.int kk), (.int (0 : Int32))])) (fun t q => XS.iloadN X14.here hx rfl (hb hby at_17) rfl q) ?_
    obtain ⟨v15, T15, L15, X15, Q15, st15⟩ := own_callS X14 hx hZ (y := (⟨"com/example/ryudo/ryudo/model/KindTakesRateClassPinLaw", "expected", "(I)Z"⟩ : MethodName)) (argsL := [(.int kk)]) (rest := [(.int (0 : Int32))]) hown (hw _ (List.mem_of_getElem? (i := 21) rfl)) (hw _ (List.mem_of_getElem? (i := 22) rfl)) (hw _ (List.mem_of_getElem? (i := 3) rfl)) (hw _ (List.mem_of_getElem? (i := 23) rfl)) (rm3_4 l Z a0 hw [] kk h0 hk) e14 (by decide) (by decide) 1 (by decide) (by decide) (by decide) (g := (mkF m 18 #[.val (.int p1), .val (.int kk), .val (.ref w_COUNTERPARTY)] [(.int kk), (.int (0 : Int32))])) rfl (by rw [hml]; rfl) (lenOf (ps := [.int]) (r := (some .boolean)) (by decide +kernel) rfl) rfl (by show 2 * 0 + _ ≤ _; exact Nat.le_of_eq rfl) (hb hby at_18)
    obtain ⟨rfl, e15, rfl⟩ := Q15
    refine own_go (T' := T15) (g' := (mkF m 21 #[.val (.int p1), .val (.int kk), .val (.ref w_COUNTERPARTY)] [(.int (0 : Int32)), (.int (0 : Int32))])) (fun t q => st15 t q) ?_
    have c16 : (0 : Int32) = (0 : Int32) := by decide
    refine own_go (T' := T15) (g' := (mkF m 24 #[.val (.int p1), .val (.int kk), .val (.ref w_COUNTERPARTY)] [])) (fun t q => XS.icmpNo X15.here hx rfl (hb hby at_21) rfl (teq c16).2 q) ?_
    refine own_go (T' := T15) (g' := (mkF m 25 #[.val (.int p1), .val (.int kk), .val (.ref w_COUNTERPARTY)] [(.int (1 : Int32))])) (fun t q => XS.iconst X15.here hx rfl (hb hby at_24) q) ?_
    refine own_go (T' := T15) (g' := (mkF m 29 #[.val (.int p1), .val (.int kk), .val (.ref w_COUNTERPARTY)] [(.int (1 : Int32))])) (fun t q => XS.goto X15.here hx rfl (pc0 := 25) (pc' := 29) rfl (hb hby at_25) (by decide) (by decide) q) ?_
    refine own_outN X15 hx hlk hret (t := .boolean) (by simp) (hb hby at_29) (w := (1 : Int32)) (by decide) ?_ (by decide) (by decide)
    exact ⟨rfl, Fr.nil _⟩
  · refine own_go (T' := T1) (g' := (mkF m 12 #[.val (.int p1), .val (.int kk), .unset] [(.ref w_SUBSTITUTION)])) (fun t q => st1 t q) ?_
    refine own_go (T' := T1) (g' := (mkF m 13 #[.val (.int p1), .val (.int kk), .val (.ref w_SUBSTITUTION)] [])) (fun t q => XS.astoreN X1.here hx rfl (hb hby at_12) rfl rfl (l' := #[.val (.int p1), .val (.int kk), .val (.ref w_SUBSTITUTION)]) rfl q) ?_
    refine own_go (T' := T1) (g' := (mkF m 14 #[.val (.int p1), .val (.int kk), .val (.ref w_SUBSTITUTION)] [(.ref w_SUBSTITUTION)])) (fun t q => XS.aloadN X1.here hx rfl (hb hby at_13) rfl rfl q) ?_
    obtain ⟨v17, T17, L17, X17, Q17, st17⟩ := own_callV X1 hx hZ (y := (⟨"com/example/ryudo/ryudo/model/Terms$Kind", "takesRateClass", "()Z"⟩ : MethodName)) (b := w_SUBSTITUTION) (argsL := []) (rest := []) hown (hw _ (List.mem_of_getElem? (i := 8) rfl)) (hw _ (List.mem_of_getElem? (i := 9) rfl)) (hw _ (List.mem_of_getElem? (i := 11) rfl)) (hw _ (List.mem_of_getElem? (i := 10) rfl)) (hw _ (List.mem_of_getElem? (i := 6) rfl)) (hw _ (List.mem_of_getElem? (i := 12) rfl)) (rm2_5 l Z a0 hw [] w_NONE w_SET_RATE_CLASS w_HOST_RATE_CLASS w_CLASSED_UNDERLYING w_DEPOSITOR w_NETTING_SET w_SWAPPED_COLLATERAL w_COLLATERAL w_SUBSTITUTION w_UNDERLYING w_COUNTERPARTY h0 FX) e1 E_SUBSTITUTION (by decide) (by decide) 0 (by decide) (by decide) (by decide) (g := (mkF m 14 #[.val (.int p1), .val (.int kk), .val (.ref w_SUBSTITUTION)] [(.ref w_SUBSTITUTION)])) rfl (by rw [hml]; rfl) (lenOf (ps := []) (r := (some .boolean)) (by decide +kernel) rfl) rfl (by show 2 * 0 + _ ≤ _; exact Nat.le_of_eq rfl) (hb hby at_14)
    obtain ⟨rfl, e17, rfl⟩ := Q17
    refine own_go (T' := T17) (g' := (mkF m 17 #[.val (.int p1), .val (.int kk), .val (.ref w_SUBSTITUTION)] [(.int (0 : Int32))])) (fun t q => st17 t q) ?_
    refine own_go (T' := T17) (g' := (mkF m 18 #[.val (.int p1), .val (.int kk), .val (.ref w_SUBSTITUTION)] [(.int kk), (.int (0 : Int32))])) (fun t q => XS.iloadN X17.here hx rfl (hb hby at_17) rfl q) ?_
    obtain ⟨v18, T18, L18, X18, Q18, st18⟩ := own_callS X17 hx hZ (y := (⟨"com/example/ryudo/ryudo/model/KindTakesRateClassPinLaw", "expected", "(I)Z"⟩ : MethodName)) (argsL := [(.int kk)]) (rest := [(.int (0 : Int32))]) hown (hw _ (List.mem_of_getElem? (i := 21) rfl)) (hw _ (List.mem_of_getElem? (i := 22) rfl)) (hw _ (List.mem_of_getElem? (i := 3) rfl)) (hw _ (List.mem_of_getElem? (i := 23) rfl)) (rm3_5 l Z a0 hw [] kk h0 hk) e17 (by decide) (by decide) 1 (by decide) (by decide) (by decide) (g := (mkF m 18 #[.val (.int p1), .val (.int kk), .val (.ref w_SUBSTITUTION)] [(.int kk), (.int (0 : Int32))])) rfl (by rw [hml]; rfl) (lenOf (ps := [.int]) (r := (some .boolean)) (by decide +kernel) rfl) rfl (by show 2 * 0 + _ ≤ _; exact Nat.le_of_eq rfl) (hb hby at_18)
    obtain ⟨rfl, e18, rfl⟩ := Q18
    refine own_go (T' := T18) (g' := (mkF m 21 #[.val (.int p1), .val (.int kk), .val (.ref w_SUBSTITUTION)] [(.int (0 : Int32)), (.int (0 : Int32))])) (fun t q => st18 t q) ?_
    have c19 : (0 : Int32) = (0 : Int32) := by decide
    refine own_go (T' := T18) (g' := (mkF m 24 #[.val (.int p1), .val (.int kk), .val (.ref w_SUBSTITUTION)] [])) (fun t q => XS.icmpNo X18.here hx rfl (hb hby at_21) rfl (teq c19).2 q) ?_
    refine own_go (T' := T18) (g' := (mkF m 25 #[.val (.int p1), .val (.int kk), .val (.ref w_SUBSTITUTION)] [(.int (1 : Int32))])) (fun t q => XS.iconst X18.here hx rfl (hb hby at_24) q) ?_
    refine own_go (T' := T18) (g' := (mkF m 29 #[.val (.int p1), .val (.int kk), .val (.ref w_SUBSTITUTION)] [(.int (1 : Int32))])) (fun t q => XS.goto X18.here hx rfl (pc0 := 25) (pc' := 29) rfl (hb hby at_25) (by decide) (by decide) q) ?_
    refine own_outN X18 hx hlk hret (t := .boolean) (by simp) (hb hby at_29) (w := (1 : Int32)) (by decide) ?_ (by decide) (by decide)
    exact ⟨rfl, Fr.nil _⟩
  · refine own_go (T' := T1) (g' := (mkF m 12 #[.val (.int p1), .val (.int kk), .unset] [(.ref w_UNDERLYING)])) (fun t q => st1 t q) ?_
    refine own_go (T' := T1) (g' := (mkF m 13 #[.val (.int p1), .val (.int kk), .val (.ref w_UNDERLYING)] [])) (fun t q => XS.astoreN X1.here hx rfl (hb hby at_12) rfl rfl (l' := #[.val (.int p1), .val (.int kk), .val (.ref w_UNDERLYING)]) rfl q) ?_
    refine own_go (T' := T1) (g' := (mkF m 14 #[.val (.int p1), .val (.int kk), .val (.ref w_UNDERLYING)] [(.ref w_UNDERLYING)])) (fun t q => XS.aloadN X1.here hx rfl (hb hby at_13) rfl rfl q) ?_
    obtain ⟨v20, T20, L20, X20, Q20, st20⟩ := own_callV X1 hx hZ (y := (⟨"com/example/ryudo/ryudo/model/Terms$Kind", "takesRateClass", "()Z"⟩ : MethodName)) (b := w_UNDERLYING) (argsL := []) (rest := []) hown (hw _ (List.mem_of_getElem? (i := 8) rfl)) (hw _ (List.mem_of_getElem? (i := 9) rfl)) (hw _ (List.mem_of_getElem? (i := 11) rfl)) (hw _ (List.mem_of_getElem? (i := 10) rfl)) (hw _ (List.mem_of_getElem? (i := 6) rfl)) (hw _ (List.mem_of_getElem? (i := 12) rfl)) (rm2_6 l Z a0 hw [] w_NONE w_SET_RATE_CLASS w_HOST_RATE_CLASS w_CLASSED_UNDERLYING w_DEPOSITOR w_NETTING_SET w_SWAPPED_COLLATERAL w_COLLATERAL w_SUBSTITUTION w_UNDERLYING w_COUNTERPARTY h0 FX) e1 E_UNDERLYING (by decide) (by decide) 0 (by decide) (by decide) (by decide) (g := (mkF m 14 #[.val (.int p1), .val (.int kk), .val (.ref w_UNDERLYING)] [(.ref w_UNDERLYING)])) rfl (by rw [hml]; rfl) (lenOf (ps := []) (r := (some .boolean)) (by decide +kernel) rfl) rfl (by show 2 * 0 + _ ≤ _; exact Nat.le_of_eq rfl) (hb hby at_14)
    obtain ⟨rfl, e20, rfl⟩ := Q20
    refine own_go (T' := T20) (g' := (mkF m 17 #[.val (.int p1), .val (.int kk), .val (.ref w_UNDERLYING)] [(.int (0 : Int32))])) (fun t q => st20 t q) ?_
    refine own_go (T' := T20) (g' := (mkF m 18 #[.val (.int p1), .val (.int kk), .val (.ref w_UNDERLYING)] [(.int kk), (.int (0 : Int32))])) (fun t q => XS.iloadN X20.here hx rfl (hb hby at_17) rfl q) ?_
    obtain ⟨v21, T21, L21, X21, Q21, st21⟩ := own_callS X20 hx hZ (y := (⟨"com/example/ryudo/ryudo/model/KindTakesRateClassPinLaw", "expected", "(I)Z"⟩ : MethodName)) (argsL := [(.int kk)]) (rest := [(.int (0 : Int32))]) hown (hw _ (List.mem_of_getElem? (i := 21) rfl)) (hw _ (List.mem_of_getElem? (i := 22) rfl)) (hw _ (List.mem_of_getElem? (i := 3) rfl)) (hw _ (List.mem_of_getElem? (i := 23) rfl)) (rm3_6 l Z a0 hw [] kk h0 hk) e20 (by decide) (by decide) 1 (by decide) (by decide) (by decide) (g := (mkF m 18 #[.val (.int p1), .val (.int kk), .val (.ref w_UNDERLYING)] [(.int kk), (.int (0 : Int32))])) rfl (by rw [hml]; rfl) (lenOf (ps := [.int]) (r := (some .boolean)) (by decide +kernel) rfl) rfl (by show 2 * 0 + _ ≤ _; exact Nat.le_of_eq rfl) (hb hby at_18)
    obtain ⟨rfl, e21, rfl⟩ := Q21
    refine own_go (T' := T21) (g' := (mkF m 21 #[.val (.int p1), .val (.int kk), .val (.ref w_UNDERLYING)] [(.int (0 : Int32)), (.int (0 : Int32))])) (fun t q => st21 t q) ?_
    have c22 : (0 : Int32) = (0 : Int32) := by decide
    refine own_go (T' := T21) (g' := (mkF m 24 #[.val (.int p1), .val (.int kk), .val (.ref w_UNDERLYING)] [])) (fun t q => XS.icmpNo X21.here hx rfl (hb hby at_21) rfl (teq c22).2 q) ?_
    refine own_go (T' := T21) (g' := (mkF m 25 #[.val (.int p1), .val (.int kk), .val (.ref w_UNDERLYING)] [(.int (1 : Int32))])) (fun t q => XS.iconst X21.here hx rfl (hb hby at_24) q) ?_
    refine own_go (T' := T21) (g' := (mkF m 29 #[.val (.int p1), .val (.int kk), .val (.ref w_UNDERLYING)] [(.int (1 : Int32))])) (fun t q => XS.goto X21.here hx rfl (pc0 := 25) (pc' := 29) rfl (hb hby at_25) (by decide) (by decide) q) ?_
    refine own_outN X21 hx hlk hret (t := .boolean) (by simp) (hb hby at_29) (w := (1 : Int32)) (by decide) ?_ (by decide) (by decide)
    exact ⟨rfl, Fr.nil _⟩
  · refine own_go (T' := T1) (g' := (mkF m 12 #[.val (.int p1), .val (.int kk), .unset] [(.ref w_CLASSED_UNDERLYING)])) (fun t q => st1 t q) ?_
    refine own_go (T' := T1) (g' := (mkF m 13 #[.val (.int p1), .val (.int kk), .val (.ref w_CLASSED_UNDERLYING)] [])) (fun t q => XS.astoreN X1.here hx rfl (hb hby at_12) rfl rfl (l' := #[.val (.int p1), .val (.int kk), .val (.ref w_CLASSED_UNDERLYING)]) rfl q) ?_
    refine own_go (T' := T1) (g' := (mkF m 14 #[.val (.int p1), .val (.int kk), .val (.ref w_CLASSED_UNDERLYING)] [(.ref w_CLASSED_UNDERLYING)])) (fun t q => XS.aloadN X1.here hx rfl (hb hby at_13) rfl rfl q) ?_
    obtain ⟨v23, T23, L23, X23, Q23, st23⟩ := own_callV X1 hx hZ (y := (⟨"com/example/ryudo/ryudo/model/Terms$Kind", "takesRateClass", "()Z"⟩ : MethodName)) (b := w_CLASSED_UNDERLYING) (argsL := []) (rest := []) hown (hw _ (List.mem_of_getElem? (i := 8) rfl)) (hw _ (List.mem_of_getElem? (i := 9) rfl)) (hw _ (List.mem_of_getElem? (i := 11) rfl)) (hw _ (List.mem_of_getElem? (i := 10) rfl)) (hw _ (List.mem_of_getElem? (i := 6) rfl)) (hw _ (List.mem_of_getElem? (i := 12) rfl)) (rm2_7 l Z a0 hw [] w_NONE w_SET_RATE_CLASS w_HOST_RATE_CLASS w_CLASSED_UNDERLYING w_DEPOSITOR w_NETTING_SET w_SWAPPED_COLLATERAL w_COLLATERAL w_SUBSTITUTION w_UNDERLYING w_COUNTERPARTY h0 FX) e1 E_CLASSED_UNDERLYING (by decide) (by decide) 0 (by decide) (by decide) (by decide) (g := (mkF m 14 #[.val (.int p1), .val (.int kk), .val (.ref w_CLASSED_UNDERLYING)] [(.ref w_CLASSED_UNDERLYING)])) rfl (by rw [hml]; rfl) (lenOf (ps := []) (r := (some .boolean)) (by decide +kernel) rfl) rfl (by show 2 * 0 + _ ≤ _; exact Nat.le_of_eq rfl) (hb hby at_14)
    obtain ⟨rfl, e23, rfl⟩ := Q23
    refine own_go (T' := T23) (g' := (mkF m 17 #[.val (.int p1), .val (.int kk), .val (.ref w_CLASSED_UNDERLYING)] [(.int (1 : Int32))])) (fun t q => st23 t q) ?_
    refine own_go (T' := T23) (g' := (mkF m 18 #[.val (.int p1), .val (.int kk), .val (.ref w_CLASSED_UNDERLYING)] [(.int kk), (.int (1 : Int32))])) (fun t q => XS.iloadN X23.here hx rfl (hb hby at_17) rfl q) ?_
    obtain ⟨v24, T24, L24, X24, Q24, st24⟩ := own_callS X23 hx hZ (y := (⟨"com/example/ryudo/ryudo/model/KindTakesRateClassPinLaw", "expected", "(I)Z"⟩ : MethodName)) (argsL := [(.int kk)]) (rest := [(.int (1 : Int32))]) hown (hw _ (List.mem_of_getElem? (i := 21) rfl)) (hw _ (List.mem_of_getElem? (i := 22) rfl)) (hw _ (List.mem_of_getElem? (i := 3) rfl)) (hw _ (List.mem_of_getElem? (i := 23) rfl)) (rm3_7 l Z a0 hw [] kk h0 hk) e23 (by decide) (by decide) 1 (by decide) (by decide) (by decide) (g := (mkF m 18 #[.val (.int p1), .val (.int kk), .val (.ref w_CLASSED_UNDERLYING)] [(.int kk), (.int (1 : Int32))])) rfl (by rw [hml]; rfl) (lenOf (ps := [.int]) (r := (some .boolean)) (by decide +kernel) rfl) rfl (by show 2 * 0 + _ ≤ _; exact Nat.le_of_eq rfl) (hb hby at_18)
    obtain ⟨rfl, e24, rfl⟩ := Q24
    refine own_go (T' := T24) (g' := (mkF m 21 #[.val (.int p1), .val (.int kk), .val (.ref w_CLASSED_UNDERLYING)] [(.int (1 : Int32)), (.int (1 : Int32))])) (fun t q => st24 t q) ?_
    have c25 : (1 : Int32) = (1 : Int32) := by decide
    refine own_go (T' := T24) (g' := (mkF m 24 #[.val (.int p1), .val (.int kk), .val (.ref w_CLASSED_UNDERLYING)] [])) (fun t q => XS.icmpNo X24.here hx rfl (hb hby at_21) rfl (teq c25).2 q) ?_
    refine own_go (T' := T24) (g' := (mkF m 25 #[.val (.int p1), .val (.int kk), .val (.ref w_CLASSED_UNDERLYING)] [(.int (1 : Int32))])) (fun t q => XS.iconst X24.here hx rfl (hb hby at_24) q) ?_
    refine own_go (T' := T24) (g' := (mkF m 29 #[.val (.int p1), .val (.int kk), .val (.ref w_CLASSED_UNDERLYING)] [(.int (1 : Int32))])) (fun t q => XS.goto X24.here hx rfl (pc0 := 25) (pc' := 29) rfl (hb hby at_25) (by decide) (by decide) q) ?_
    refine own_outN X24 hx hlk hret (t := .boolean) (by simp) (hb hby at_29) (w := (1 : Int32)) (by decide) ?_ (by decide) (by decide)
    exact ⟨rfl, Fr.nil _⟩
  · refine own_go (T' := T1) (g' := (mkF m 12 #[.val (.int p1), .val (.int kk), .unset] [(.ref w_SET_RATE_CLASS)])) (fun t q => st1 t q) ?_
    refine own_go (T' := T1) (g' := (mkF m 13 #[.val (.int p1), .val (.int kk), .val (.ref w_SET_RATE_CLASS)] [])) (fun t q => XS.astoreN X1.here hx rfl (hb hby at_12) rfl rfl (l' := #[.val (.int p1), .val (.int kk), .val (.ref w_SET_RATE_CLASS)]) rfl q) ?_
    refine own_go (T' := T1) (g' := (mkF m 14 #[.val (.int p1), .val (.int kk), .val (.ref w_SET_RATE_CLASS)] [(.ref w_SET_RATE_CLASS)])) (fun t q => XS.aloadN X1.here hx rfl (hb hby at_13) rfl rfl q) ?_
    obtain ⟨v26, T26, L26, X26, Q26, st26⟩ := own_callV X1 hx hZ (y := (⟨"com/example/ryudo/ryudo/model/Terms$Kind", "takesRateClass", "()Z"⟩ : MethodName)) (b := w_SET_RATE_CLASS) (argsL := []) (rest := []) hown (hw _ (List.mem_of_getElem? (i := 8) rfl)) (hw _ (List.mem_of_getElem? (i := 9) rfl)) (hw _ (List.mem_of_getElem? (i := 11) rfl)) (hw _ (List.mem_of_getElem? (i := 10) rfl)) (hw _ (List.mem_of_getElem? (i := 6) rfl)) (hw _ (List.mem_of_getElem? (i := 12) rfl)) (rm2_8 l Z a0 hw [] w_NONE w_SET_RATE_CLASS w_HOST_RATE_CLASS w_CLASSED_UNDERLYING w_DEPOSITOR w_NETTING_SET w_SWAPPED_COLLATERAL w_COLLATERAL w_SUBSTITUTION w_UNDERLYING w_COUNTERPARTY h0 FX) e1 E_SET_RATE_CLASS (by decide) (by decide) 0 (by decide) (by decide) (by decide) (g := (mkF m 14 #[.val (.int p1), .val (.int kk), .val (.ref w_SET_RATE_CLASS)] [(.ref w_SET_RATE_CLASS)])) rfl (by rw [hml]; rfl) (lenOf (ps := []) (r := (some .boolean)) (by decide +kernel) rfl) rfl (by show 2 * 0 + _ ≤ _; exact Nat.le_of_eq rfl) (hb hby at_14)
    obtain ⟨rfl, e26, rfl⟩ := Q26
    refine own_go (T' := T26) (g' := (mkF m 17 #[.val (.int p1), .val (.int kk), .val (.ref w_SET_RATE_CLASS)] [(.int (1 : Int32))])) (fun t q => st26 t q) ?_
    refine own_go (T' := T26) (g' := (mkF m 18 #[.val (.int p1), .val (.int kk), .val (.ref w_SET_RATE_CLASS)] [(.int kk), (.int (1 : Int32))])) (fun t q => XS.iloadN X26.here hx rfl (hb hby at_17) rfl q) ?_
    obtain ⟨v27, T27, L27, X27, Q27, st27⟩ := own_callS X26 hx hZ (y := (⟨"com/example/ryudo/ryudo/model/KindTakesRateClassPinLaw", "expected", "(I)Z"⟩ : MethodName)) (argsL := [(.int kk)]) (rest := [(.int (1 : Int32))]) hown (hw _ (List.mem_of_getElem? (i := 21) rfl)) (hw _ (List.mem_of_getElem? (i := 22) rfl)) (hw _ (List.mem_of_getElem? (i := 3) rfl)) (hw _ (List.mem_of_getElem? (i := 23) rfl)) (rm3_8 l Z a0 hw [] kk h0 hk) e26 (by decide) (by decide) 1 (by decide) (by decide) (by decide) (g := (mkF m 18 #[.val (.int p1), .val (.int kk), .val (.ref w_SET_RATE_CLASS)] [(.int kk), (.int (1 : Int32))])) rfl (by rw [hml]; rfl) (lenOf (ps := [.int]) (r := (some .boolean)) (by decide +kernel) rfl) rfl (by show 2 * 0 + _ ≤ _; exact Nat.le_of_eq rfl) (hb hby at_18)
    obtain ⟨rfl, e27, rfl⟩ := Q27
    refine own_go (T' := T27) (g' := (mkF m 21 #[.val (.int p1), .val (.int kk), .val (.ref w_SET_RATE_CLASS)] [(.int (1 : Int32)), (.int (1 : Int32))])) (fun t q => st27 t q) ?_
    have c28 : (1 : Int32) = (1 : Int32) := by decide
    refine own_go (T' := T27) (g' := (mkF m 24 #[.val (.int p1), .val (.int kk), .val (.ref w_SET_RATE_CLASS)] [])) (fun t q => XS.icmpNo X27.here hx rfl (hb hby at_21) rfl (teq c28).2 q) ?_
    refine own_go (T' := T27) (g' := (mkF m 25 #[.val (.int p1), .val (.int kk), .val (.ref w_SET_RATE_CLASS)] [(.int (1 : Int32))])) (fun t q => XS.iconst X27.here hx rfl (hb hby at_24) q) ?_
    refine own_go (T' := T27) (g' := (mkF m 29 #[.val (.int p1), .val (.int kk), .val (.ref w_SET_RATE_CLASS)] [(.int (1 : Int32))])) (fun t q => XS.goto X27.here hx rfl (pc0 := 25) (pc' := 29) rfl (hb hby at_25) (by decide) (by decide) q) ?_
    refine own_outN X27 hx hlk hret (t := .boolean) (by simp) (hb hby at_29) (w := (1 : Int32)) (by decide) ?_ (by decide) (by decide)
    exact ⟨rfl, Fr.nil _⟩
  · refine own_go (T' := T1) (g' := (mkF m 12 #[.val (.int p1), .val (.int kk), .unset] [(.ref w_HOST_RATE_CLASS)])) (fun t q => st1 t q) ?_
    refine own_go (T' := T1) (g' := (mkF m 13 #[.val (.int p1), .val (.int kk), .val (.ref w_HOST_RATE_CLASS)] [])) (fun t q => XS.astoreN X1.here hx rfl (hb hby at_12) rfl rfl (l' := #[.val (.int p1), .val (.int kk), .val (.ref w_HOST_RATE_CLASS)]) rfl q) ?_
    refine own_go (T' := T1) (g' := (mkF m 14 #[.val (.int p1), .val (.int kk), .val (.ref w_HOST_RATE_CLASS)] [(.ref w_HOST_RATE_CLASS)])) (fun t q => XS.aloadN X1.here hx rfl (hb hby at_13) rfl rfl q) ?_
    obtain ⟨v29, T29, L29, X29, Q29, st29⟩ := own_callV X1 hx hZ (y := (⟨"com/example/ryudo/ryudo/model/Terms$Kind", "takesRateClass", "()Z"⟩ : MethodName)) (b := w_HOST_RATE_CLASS) (argsL := []) (rest := []) hown (hw _ (List.mem_of_getElem? (i := 8) rfl)) (hw _ (List.mem_of_getElem? (i := 9) rfl)) (hw _ (List.mem_of_getElem? (i := 11) rfl)) (hw _ (List.mem_of_getElem? (i := 10) rfl)) (hw _ (List.mem_of_getElem? (i := 6) rfl)) (hw _ (List.mem_of_getElem? (i := 12) rfl)) (rm2_9 l Z a0 hw [] w_NONE w_SET_RATE_CLASS w_HOST_RATE_CLASS w_CLASSED_UNDERLYING w_DEPOSITOR w_NETTING_SET w_SWAPPED_COLLATERAL w_COLLATERAL w_SUBSTITUTION w_UNDERLYING w_COUNTERPARTY h0 FX) e1 E_HOST_RATE_CLASS (by decide) (by decide) 0 (by decide) (by decide) (by decide) (g := (mkF m 14 #[.val (.int p1), .val (.int kk), .val (.ref w_HOST_RATE_CLASS)] [(.ref w_HOST_RATE_CLASS)])) rfl (by rw [hml]; rfl) (lenOf (ps := []) (r := (some .boolean)) (by decide +kernel) rfl) rfl (by show 2 * 0 + _ ≤ _; exact Nat.le_of_eq rfl) (hb hby at_14)
    obtain ⟨rfl, e29, rfl⟩ := Q29
    refine own_go (T' := T29) (g' := (mkF m 17 #[.val (.int p1), .val (.int kk), .val (.ref w_HOST_RATE_CLASS)] [(.int (1 : Int32))])) (fun t q => st29 t q) ?_
    refine own_go (T' := T29) (g' := (mkF m 18 #[.val (.int p1), .val (.int kk), .val (.ref w_HOST_RATE_CLASS)] [(.int kk), (.int (1 : Int32))])) (fun t q => XS.iloadN X29.here hx rfl (hb hby at_17) rfl q) ?_
    obtain ⟨v30, T30, L30, X30, Q30, st30⟩ := own_callS X29 hx hZ (y := (⟨"com/example/ryudo/ryudo/model/KindTakesRateClassPinLaw", "expected", "(I)Z"⟩ : MethodName)) (argsL := [(.int kk)]) (rest := [(.int (1 : Int32))]) hown (hw _ (List.mem_of_getElem? (i := 21) rfl)) (hw _ (List.mem_of_getElem? (i := 22) rfl)) (hw _ (List.mem_of_getElem? (i := 3) rfl)) (hw _ (List.mem_of_getElem? (i := 23) rfl)) (rm3_9 l Z a0 hw [] kk h0 hk) e29 (by decide) (by decide) 1 (by decide) (by decide) (by decide) (g := (mkF m 18 #[.val (.int p1), .val (.int kk), .val (.ref w_HOST_RATE_CLASS)] [(.int kk), (.int (1 : Int32))])) rfl (by rw [hml]; rfl) (lenOf (ps := [.int]) (r := (some .boolean)) (by decide +kernel) rfl) rfl (by show 2 * 0 + _ ≤ _; exact Nat.le_of_eq rfl) (hb hby at_18)
    obtain ⟨rfl, e30, rfl⟩ := Q30
    refine own_go (T' := T30) (g' := (mkF m 21 #[.val (.int p1), .val (.int kk), .val (.ref w_HOST_RATE_CLASS)] [(.int (1 : Int32)), (.int (1 : Int32))])) (fun t q => st30 t q) ?_
    have c31 : (1 : Int32) = (1 : Int32) := by decide
    refine own_go (T' := T30) (g' := (mkF m 24 #[.val (.int p1), .val (.int kk), .val (.ref w_HOST_RATE_CLASS)] [])) (fun t q => XS.icmpNo X30.here hx rfl (hb hby at_21) rfl (teq c31).2 q) ?_
    refine own_go (T' := T30) (g' := (mkF m 25 #[.val (.int p1), .val (.int kk), .val (.ref w_HOST_RATE_CLASS)] [(.int (1 : Int32))])) (fun t q => XS.iconst X30.here hx rfl (hb hby at_24) q) ?_
    refine own_go (T' := T30) (g' := (mkF m 29 #[.val (.int p1), .val (.int kk), .val (.ref w_HOST_RATE_CLASS)] [(.int (1 : Int32))])) (fun t q => XS.goto X30.here hx rfl (pc0 := 25) (pc' := 29) rfl (hb hby at_25) (by decide) (by decide) q) ?_
    refine own_outN X30 hx hlk hret (t := .boolean) (by simp) (hb hby at_29) (w := (1 : Int32)) (by decide) ?_ (by decide) (by decide)
    exact ⟨rfl, Fr.nil _⟩
  · have hk := own_last hk0 hk
    refine own_go (T' := T1) (g' := (mkF m 12 #[.val (.int p1), .val (.int kk), .unset] [(.ref w_DEPOSITOR)])) (fun t q => st1 t q) ?_
    refine own_go (T' := T1) (g' := (mkF m 13 #[.val (.int p1), .val (.int kk), .val (.ref w_DEPOSITOR)] [])) (fun t q => XS.astoreN X1.here hx rfl (hb hby at_12) rfl rfl (l' := #[.val (.int p1), .val (.int kk), .val (.ref w_DEPOSITOR)]) rfl q) ?_
    refine own_go (T' := T1) (g' := (mkF m 14 #[.val (.int p1), .val (.int kk), .val (.ref w_DEPOSITOR)] [(.ref w_DEPOSITOR)])) (fun t q => XS.aloadN X1.here hx rfl (hb hby at_13) rfl rfl q) ?_
    obtain ⟨v32, T32, L32, X32, Q32, st32⟩ := own_callV X1 hx hZ (y := (⟨"com/example/ryudo/ryudo/model/Terms$Kind", "takesRateClass", "()Z"⟩ : MethodName)) (b := w_DEPOSITOR) (argsL := []) (rest := []) hown (hw _ (List.mem_of_getElem? (i := 8) rfl)) (hw _ (List.mem_of_getElem? (i := 9) rfl)) (hw _ (List.mem_of_getElem? (i := 11) rfl)) (hw _ (List.mem_of_getElem? (i := 10) rfl)) (hw _ (List.mem_of_getElem? (i := 6) rfl)) (hw _ (List.mem_of_getElem? (i := 12) rfl)) (rm2_10 l Z a0 hw [] w_NONE w_SET_RATE_CLASS w_HOST_RATE_CLASS w_CLASSED_UNDERLYING w_DEPOSITOR w_NETTING_SET w_SWAPPED_COLLATERAL w_COLLATERAL w_SUBSTITUTION w_UNDERLYING w_COUNTERPARTY h0 FX) e1 E_DEPOSITOR (by decide) (by decide) 0 (by decide) (by decide) (by decide) (g := (mkF m 14 #[.val (.int p1), .val (.int kk), .val (.ref w_DEPOSITOR)] [(.ref w_DEPOSITOR)])) rfl (by rw [hml]; rfl) (lenOf (ps := []) (r := (some .boolean)) (by decide +kernel) rfl) rfl (by show 2 * 0 + _ ≤ _; exact Nat.le_of_eq rfl) (hb hby at_14)
    obtain ⟨rfl, e32, rfl⟩ := Q32
    refine own_go (T' := T32) (g' := (mkF m 17 #[.val (.int p1), .val (.int kk), .val (.ref w_DEPOSITOR)] [(.int (1 : Int32))])) (fun t q => st32 t q) ?_
    refine own_go (T' := T32) (g' := (mkF m 18 #[.val (.int p1), .val (.int kk), .val (.ref w_DEPOSITOR)] [(.int kk), (.int (1 : Int32))])) (fun t q => XS.iloadN X32.here hx rfl (hb hby at_17) rfl q) ?_
    obtain ⟨v33, T33, L33, X33, Q33, st33⟩ := own_callS X32 hx hZ (y := (⟨"com/example/ryudo/ryudo/model/KindTakesRateClassPinLaw", "expected", "(I)Z"⟩ : MethodName)) (argsL := [(.int kk)]) (rest := [(.int (1 : Int32))]) hown (hw _ (List.mem_of_getElem? (i := 21) rfl)) (hw _ (List.mem_of_getElem? (i := 22) rfl)) (hw _ (List.mem_of_getElem? (i := 3) rfl)) (hw _ (List.mem_of_getElem? (i := 23) rfl)) (rm3_10 l Z a0 hw [] kk h0 hk) e32 (by decide) (by decide) 1 (by decide) (by decide) (by decide) (g := (mkF m 18 #[.val (.int p1), .val (.int kk), .val (.ref w_DEPOSITOR)] [(.int kk), (.int (1 : Int32))])) rfl (by rw [hml]; rfl) (lenOf (ps := [.int]) (r := (some .boolean)) (by decide +kernel) rfl) rfl (by show 2 * 0 + _ ≤ _; exact Nat.le_of_eq rfl) (hb hby at_18)
    obtain ⟨rfl, e33, rfl⟩ := Q33
    refine own_go (T' := T33) (g' := (mkF m 21 #[.val (.int p1), .val (.int kk), .val (.ref w_DEPOSITOR)] [(.int (1 : Int32)), (.int (1 : Int32))])) (fun t q => st33 t q) ?_
    have c34 : (1 : Int32) = (1 : Int32) := by decide
    refine own_go (T' := T33) (g' := (mkF m 24 #[.val (.int p1), .val (.int kk), .val (.ref w_DEPOSITOR)] [])) (fun t q => XS.icmpNo X33.here hx rfl (hb hby at_21) rfl (teq c34).2 q) ?_
    refine own_go (T' := T33) (g' := (mkF m 25 #[.val (.int p1), .val (.int kk), .val (.ref w_DEPOSITOR)] [(.int (1 : Int32))])) (fun t q => XS.iconst X33.here hx rfl (hb hby at_24) q) ?_
    refine own_go (T' := T33) (g' := (mkF m 29 #[.val (.int p1), .val (.int kk), .val (.ref w_DEPOSITOR)] [(.int (1 : Int32))])) (fun t q => XS.goto X33.here hx rfl (pc0 := 25) (pc' := 29) rfl (hb hby at_25) (by decide) (by decide) q) ?_
    refine own_outN X33 hx hlk hret (t := .boolean) (by simp) (hb hby at_29) (w := (1 : Int32)) (by decide) ?_ (by decide) (by decide)
    exact ⟨rfl, Fr.nil _⟩
set_option maxRecDepth 65536 in
set_option maxHeartbeats 40000000 in
theorem comes_1 {Post : Tables → Env → Array Value → State → Outcome → State → Prop} (hpost : ∀ tb e args s v u, (limb_1_1.after args s (.returned v) u = true ∧ limb_1_2.after args s (.returned v) u = true ∧ True) → FrameEnd s (.returned v) u (Jvm.fieldLocs frame_1_writes args s ++ Jvm.arrayLocs frame_1_arrays args s ++ Jvm.staticLocs frame_1_statics s) 0 0 → Post tb e args s (.returned v) u) :
    ArmFor flags0 classFile x code maxLocals ret World_1 tables_1 room_1 Calls_1 rest_1 Pre_1 Post := by
  intro l hfl _ _ p e ha hc hk s m args below hf hA hF happ hP
  obtain ⟨hcalls, hrest, hpre⟩ := hP
  obtain ⟨-, -, -, hnamed, -, -, -, hat⟩ := (Spec.applies_iff hf).mp happ
  obtain ⟨hg, hn⟩ := and_e (Cond.before_iff.mp (show (Jvm.Cond.and given_1 narrow_1).before args s = true from hpre))
  obtain ⟨h1, hg⟩ := and_e hg
  have g0 := hg
  obtain ⟨w0, rfl⟩ : ∃ w0 : Value, args = #[w0] := by
    have hs : args.size = 1 := by simpa [Cond.value, given_1] using h1
    obtain ⟨L⟩ := args
    match L, hs with
    | [w0], _ => exact ⟨w0, rfl⟩
  have hw := fun d (hd : d ∈ tables_1) => atoms_spec (ws := Jvm.Cond.code x code maxLocals ret :: tables_1) hat d (List.mem_cons_of_mem _ hd)
  have hfit : Fit s := fun {y c} hc i hi => by
    obtain ⟨ha, rfl⟩ := Array.getElem?_eq_some_iff.mp hc
    have q := List.all_eq_true.mp ((Array.all_eq_true_iff_forall_mem.mp hF) _ (Array.getElem_mem ha)) i (List.mem_range.mpr hi)
    simpa [Array.getElem?_eq_getElem hi] using q
  obtain ⟨i0, b0⟩ := is_v g0
  obtain rfl : w0 = (.int i0) := Option.some.inj b0
  obtain ⟨n0, hn⟩ := and_e hn
  obtain ⟨n1, hn⟩ := and_e hn
  obtain ⟨n2, hn⟩ := and_e hn
  obtain ⟨n3, hn⟩ := and_e hn
  obtain ⟨n4, hn⟩ := and_e hn
  obtain ⟨n5, hn⟩ := and_e hn
  obtain ⟨n6, hn⟩ := and_e hn
  obtain ⟨n7, hn⟩ := and_e hn
  obtain ⟨n8, hn⟩ := and_e hn
  obtain ⟨n9, hn⟩ := and_e hn
  obtain ⟨n10, hn⟩ := and_e hn
  obtain ⟨n11, hn⟩ := and_e hn
  obtain ⟨n12, hn⟩ := and_e hn
  obtain ⟨n13, hn⟩ := and_e hn
  obtain ⟨n14, hn⟩ := and_e hn
  obtain ⟨n15, hn⟩ := and_e hn
  obtain ⟨n16, hn⟩ := and_e hn
  obtain ⟨n17, hn⟩ := and_e hn
  obtain ⟨n18, hn⟩ := and_e hn
  obtain ⟨n19, hn⟩ := and_e hn
  obtain ⟨n20, hn⟩ := and_e hn
  have n21 := hn
  obtain ⟨w_NONE, ev_NONE⟩ := exa_v n0
  have S_NONE := Sta.start ev_NONE (Or.inr ⟨(hw _ (List.mem_of_getElem? (i := 6) rfl)), (hw _ (List.mem_of_getElem? (i := 7) rfl))⟩)
  have E_NONE := Exa.start ev_NONE n0
  obtain ⟨w_SET_RATE_CLASS, ev_SET_RATE_CLASS⟩ := exa_v n1
  have S_SET_RATE_CLASS := Sta.start ev_SET_RATE_CLASS (Or.inr ⟨(hw _ (List.mem_of_getElem? (i := 6) rfl)), (hw _ (List.mem_of_getElem? (i := 14) rfl))⟩)
  have E_SET_RATE_CLASS := Exa.start ev_SET_RATE_CLASS n1
  obtain ⟨w_HOST_RATE_CLASS, ev_HOST_RATE_CLASS⟩ := exa_v n4
  have S_HOST_RATE_CLASS := Sta.start ev_HOST_RATE_CLASS (Or.inr ⟨(hw _ (List.mem_of_getElem? (i := 6) rfl)), (hw _ (List.mem_of_getElem? (i := 16) rfl))⟩)
  have E_HOST_RATE_CLASS := Exa.start ev_HOST_RATE_CLASS n4
  obtain ⟨w_CLASSED_UNDERLYING, ev_CLASSED_UNDERLYING⟩ := exa_v n6
  have S_CLASSED_UNDERLYING := Sta.start ev_CLASSED_UNDERLYING (Or.inr ⟨(hw _ (List.mem_of_getElem? (i := 6) rfl)), (hw _ (List.mem_of_getElem? (i := 18) rfl))⟩)
  have E_CLASSED_UNDERLYING := Exa.start ev_CLASSED_UNDERLYING n6
  obtain ⟨w_DEPOSITOR, ev_DEPOSITOR⟩ := exa_v n8
  have S_DEPOSITOR := Sta.start ev_DEPOSITOR (Or.inr ⟨(hw _ (List.mem_of_getElem? (i := 6) rfl)), (hw _ (List.mem_of_getElem? (i := 20) rfl))⟩)
  have E_DEPOSITOR := Exa.start ev_DEPOSITOR n8
  obtain ⟨w_NETTING_SET, ev_NETTING_SET⟩ := exa_v n10
  have S_NETTING_SET := Sta.start ev_NETTING_SET (Or.inr ⟨(hw _ (List.mem_of_getElem? (i := 6) rfl)), (hw _ (List.mem_of_getElem? (i := 25) rfl))⟩)
  have E_NETTING_SET := Exa.start ev_NETTING_SET n10
  obtain ⟨w_SWAPPED_COLLATERAL, ev_SWAPPED_COLLATERAL⟩ := exa_v n12
  have S_SWAPPED_COLLATERAL := Sta.start ev_SWAPPED_COLLATERAL (Or.inr ⟨(hw _ (List.mem_of_getElem? (i := 6) rfl)), (hw _ (List.mem_of_getElem? (i := 29) rfl))⟩)
  have E_SWAPPED_COLLATERAL := Exa.start ev_SWAPPED_COLLATERAL n12
  obtain ⟨w_COLLATERAL, ev_COLLATERAL⟩ := exa_v n14
  have S_COLLATERAL := Sta.start ev_COLLATERAL (Or.inr ⟨(hw _ (List.mem_of_getElem? (i := 6) rfl)), (hw _ (List.mem_of_getElem? (i := 32) rfl))⟩)
  have E_COLLATERAL := Exa.start ev_COLLATERAL n14
  obtain ⟨w_SUBSTITUTION, ev_SUBSTITUTION⟩ := exa_v n16
  have S_SUBSTITUTION := Sta.start ev_SUBSTITUTION (Or.inr ⟨(hw _ (List.mem_of_getElem? (i := 6) rfl)), (hw _ (List.mem_of_getElem? (i := 35) rfl))⟩)
  have E_SUBSTITUTION := Exa.start ev_SUBSTITUTION n16
  obtain ⟨w_UNDERLYING, ev_UNDERLYING⟩ := exa_v n18
  have S_UNDERLYING := Sta.start ev_UNDERLYING (Or.inr ⟨(hw _ (List.mem_of_getElem? (i := 6) rfl)), (hw _ (List.mem_of_getElem? (i := 37) rfl))⟩)
  have E_UNDERLYING := Exa.start ev_UNDERLYING n18
  obtain ⟨w_COUNTERPARTY, ev_COUNTERPARTY⟩ := exa_v n20
  have S_COUNTERPARTY := Sta.start ev_COUNTERPARTY (Or.inr ⟨(hw _ (List.mem_of_getElem? (i := 6) rfl)), (hw _ (List.mem_of_getElem? (i := 39) rfl))⟩)
  have E_COUNTERPARTY := Exa.start ev_COUNTERPARTY n20
  have F_NONE_ordinal := own_fld ev_NONE (Term.int_eval _) n2
  have F_SET_RATE_CLASS_ordinal := own_fld ev_SET_RATE_CLASS (Term.int_eval _) n3
  have F_HOST_RATE_CLASS_ordinal := own_fld ev_HOST_RATE_CLASS (Term.int_eval _) n5
  have F_CLASSED_UNDERLYING_ordinal := own_fld ev_CLASSED_UNDERLYING (Term.int_eval _) n7
  have F_DEPOSITOR_ordinal := own_fld ev_DEPOSITOR (Term.int_eval _) n9
  have F_NETTING_SET_ordinal := own_fld ev_NETTING_SET (Term.int_eval _) n11
  have F_SWAPPED_COLLATERAL_ordinal := own_fld ev_SWAPPED_COLLATERAL (Term.int_eval _) n13
  have F_COLLATERAL_ordinal := own_fld ev_COLLATERAL (Term.int_eval _) n15
  have F_SUBSTITUTION_ordinal := own_fld ev_SUBSTITUTION (Term.int_eval _) n17
  have F_UNDERLYING_ordinal := own_fld ev_UNDERLYING (Term.int_eval _) n19
  have F_COUNTERPARTY_ordinal := own_fld ev_COUNTERPARTY (Term.int_eval _) n21
  have ne_NONE_SET_RATE_CLASS := Fld.ne F_NONE_ordinal F_SET_RATE_CLASS_ordinal (by decide)
  have ne_NONE_HOST_RATE_CLASS := Fld.ne F_NONE_ordinal F_HOST_RATE_CLASS_ordinal (by decide)
  have ne_NONE_CLASSED_UNDERLYING := Fld.ne F_NONE_ordinal F_CLASSED_UNDERLYING_ordinal (by decide)
  have ne_NONE_DEPOSITOR := Fld.ne F_NONE_ordinal F_DEPOSITOR_ordinal (by decide)
  have ne_SET_RATE_CLASS_HOST_RATE_CLASS := Fld.ne F_SET_RATE_CLASS_ordinal F_HOST_RATE_CLASS_ordinal (by decide)
  have ne_SET_RATE_CLASS_CLASSED_UNDERLYING := Fld.ne F_SET_RATE_CLASS_ordinal F_CLASSED_UNDERLYING_ordinal (by decide)
  have ne_SET_RATE_CLASS_DEPOSITOR := Fld.ne F_SET_RATE_CLASS_ordinal F_DEPOSITOR_ordinal (by decide)
  have ne_SET_RATE_CLASS_NETTING_SET := Fld.ne F_SET_RATE_CLASS_ordinal F_NETTING_SET_ordinal (by decide)
  have ne_SET_RATE_CLASS_SWAPPED_COLLATERAL := Fld.ne F_SET_RATE_CLASS_ordinal F_SWAPPED_COLLATERAL_ordinal (by decide)
  have ne_SET_RATE_CLASS_COLLATERAL := Fld.ne F_SET_RATE_CLASS_ordinal F_COLLATERAL_ordinal (by decide)
  have ne_SET_RATE_CLASS_SUBSTITUTION := Fld.ne F_SET_RATE_CLASS_ordinal F_SUBSTITUTION_ordinal (by decide)
  have ne_SET_RATE_CLASS_UNDERLYING := Fld.ne F_SET_RATE_CLASS_ordinal F_UNDERLYING_ordinal (by decide)
  have ne_SET_RATE_CLASS_COUNTERPARTY := Fld.ne F_SET_RATE_CLASS_ordinal F_COUNTERPARTY_ordinal (by decide)
  have ne_HOST_RATE_CLASS_CLASSED_UNDERLYING := Fld.ne F_HOST_RATE_CLASS_ordinal F_CLASSED_UNDERLYING_ordinal (by decide)
  have ne_HOST_RATE_CLASS_DEPOSITOR := Fld.ne F_HOST_RATE_CLASS_ordinal F_DEPOSITOR_ordinal (by decide)
  have ne_HOST_RATE_CLASS_NETTING_SET := Fld.ne F_HOST_RATE_CLASS_ordinal F_NETTING_SET_ordinal (by decide)
  have ne_HOST_RATE_CLASS_SWAPPED_COLLATERAL := Fld.ne F_HOST_RATE_CLASS_ordinal F_SWAPPED_COLLATERAL_ordinal (by decide)
  have ne_HOST_RATE_CLASS_COLLATERAL := Fld.ne F_HOST_RATE_CLASS_ordinal F_COLLATERAL_ordinal (by decide)
  have ne_HOST_RATE_CLASS_SUBSTITUTION := Fld.ne F_HOST_RATE_CLASS_ordinal F_SUBSTITUTION_ordinal (by decide)
  have ne_HOST_RATE_CLASS_UNDERLYING := Fld.ne F_HOST_RATE_CLASS_ordinal F_UNDERLYING_ordinal (by decide)
  have ne_HOST_RATE_CLASS_COUNTERPARTY := Fld.ne F_HOST_RATE_CLASS_ordinal F_COUNTERPARTY_ordinal (by decide)
  have ne_CLASSED_UNDERLYING_DEPOSITOR := Fld.ne F_CLASSED_UNDERLYING_ordinal F_DEPOSITOR_ordinal (by decide)
  have ne_CLASSED_UNDERLYING_NETTING_SET := Fld.ne F_CLASSED_UNDERLYING_ordinal F_NETTING_SET_ordinal (by decide)
  have ne_CLASSED_UNDERLYING_SWAPPED_COLLATERAL := Fld.ne F_CLASSED_UNDERLYING_ordinal F_SWAPPED_COLLATERAL_ordinal (by decide)
  have ne_CLASSED_UNDERLYING_COLLATERAL := Fld.ne F_CLASSED_UNDERLYING_ordinal F_COLLATERAL_ordinal (by decide)
  have ne_CLASSED_UNDERLYING_SUBSTITUTION := Fld.ne F_CLASSED_UNDERLYING_ordinal F_SUBSTITUTION_ordinal (by decide)
  have ne_CLASSED_UNDERLYING_UNDERLYING := Fld.ne F_CLASSED_UNDERLYING_ordinal F_UNDERLYING_ordinal (by decide)
  have ne_CLASSED_UNDERLYING_COUNTERPARTY := Fld.ne F_CLASSED_UNDERLYING_ordinal F_COUNTERPARTY_ordinal (by decide)
  have ne_DEPOSITOR_NETTING_SET := Fld.ne F_DEPOSITOR_ordinal F_NETTING_SET_ordinal (by decide)
  have ne_DEPOSITOR_SWAPPED_COLLATERAL := Fld.ne F_DEPOSITOR_ordinal F_SWAPPED_COLLATERAL_ordinal (by decide)
  have ne_DEPOSITOR_COLLATERAL := Fld.ne F_DEPOSITOR_ordinal F_COLLATERAL_ordinal (by decide)
  have ne_DEPOSITOR_SUBSTITUTION := Fld.ne F_DEPOSITOR_ordinal F_SUBSTITUTION_ordinal (by decide)
  have ne_DEPOSITOR_UNDERLYING := Fld.ne F_DEPOSITOR_ordinal F_UNDERLYING_ordinal (by decide)
  have ne_DEPOSITOR_COUNTERPARTY := Fld.ne F_DEPOSITOR_ordinal F_COUNTERPARTY_ordinal (by decide)
  have FX : own_F s s.heap w_NONE w_SET_RATE_CLASS w_HOST_RATE_CLASS w_CLASSED_UNDERLYING w_DEPOSITOR w_NETTING_SET w_SWAPPED_COLLATERAL w_COLLATERAL w_SUBSTITUTION w_UNDERLYING w_COUNTERPARTY := ⟨S_NONE, E_NONE, S_SET_RATE_CLASS, E_SET_RATE_CLASS, S_HOST_RATE_CLASS, E_HOST_RATE_CLASS, S_CLASSED_UNDERLYING, E_CLASSED_UNDERLYING, S_DEPOSITOR, E_DEPOSITOR, S_NETTING_SET, E_NETTING_SET, S_SWAPPED_COLLATERAL, E_SWAPPED_COLLATERAL, S_COLLATERAL, E_COLLATERAL, S_SUBSTITUTION, E_SUBSTITUTION, S_UNDERLYING, E_UNDERLYING, S_COUNTERPARTY, E_COUNTERPARTY, F_NONE_ordinal, F_SET_RATE_CLASS_ordinal, F_HOST_RATE_CLASS_ordinal, F_CLASSED_UNDERLYING_ordinal, F_DEPOSITOR_ordinal, F_NETTING_SET_ordinal, F_SWAPPED_COLLATERAL_ordinal, F_COLLATERAL_ordinal, F_SUBSTITUTION_ordinal, F_UNDERLYING_ordinal, F_COUNTERPARTY_ordinal, ne_NONE_SET_RATE_CLASS, ne_NONE_HOST_RATE_CLASS, ne_NONE_CLASSED_UNDERLYING, ne_NONE_DEPOSITOR, ne_SET_RATE_CLASS_HOST_RATE_CLASS, ne_SET_RATE_CLASS_CLASSED_UNDERLYING, ne_SET_RATE_CLASS_DEPOSITOR, ne_SET_RATE_CLASS_NETTING_SET, ne_SET_RATE_CLASS_SWAPPED_COLLATERAL, ne_SET_RATE_CLASS_COLLATERAL, ne_SET_RATE_CLASS_SUBSTITUTION, ne_SET_RATE_CLASS_UNDERLYING, ne_SET_RATE_CLASS_COUNTERPARTY, ne_HOST_RATE_CLASS_CLASSED_UNDERLYING, ne_HOST_RATE_CLASS_DEPOSITOR, ne_HOST_RATE_CLASS_NETTING_SET, ne_HOST_RATE_CLASS_SWAPPED_COLLATERAL, ne_HOST_RATE_CLASS_COLLATERAL, ne_HOST_RATE_CLASS_SUBSTITUTION, ne_HOST_RATE_CLASS_UNDERLYING, ne_HOST_RATE_CLASS_COUNTERPARTY, ne_CLASSED_UNDERLYING_DEPOSITOR, ne_CLASSED_UNDERLYING_NETTING_SET, ne_CLASSED_UNDERLYING_SWAPPED_COLLATERAL, ne_CLASSED_UNDERLYING_COLLATERAL, ne_CLASSED_UNDERLYING_SUBSTITUTION, ne_CLASSED_UNDERLYING_UNDERLYING, ne_CLASSED_UNDERLYING_COUNTERPARTY, ne_DEPOSITOR_NETTING_SET, ne_DEPOSITOR_SWAPPED_COLLATERAL, ne_DEPOSITOR_COLLATERAL, ne_DEPOSITOR_SUBSTITUTION, ne_DEPOSITOR_UNDERLYING, ne_DEPOSITOR_COUNTERPARTY⟩
  obtain ⟨n, o, h1, h2, h3, _, L, rfl, ⟨rfl, N⟩, hq⟩ := rm0 l s _ hw tables_1 i0 w_NONE w_SET_RATE_CLASS w_HOST_RATE_CLASS w_CLASSED_UNDERLYING w_DEPOSITOR w_NETTING_SET w_SWAPPED_COLLATERAL w_COLLATERAL w_SUBSTITUTION w_UNDERLYING w_COUNTERPARTY s.heap FX p e ha hc hk s m _ below hf ((Spec.applies_iff_loose hf).mp happ).1 ⟨rfl, State.Warmed39.refl s, rfl⟩ trivial
  refine ⟨n, _, h1, h2, h3, hpost _ _ _ _ _ _ ⟨Cond.after_iff.mpr rfl, Cond.after_iff.mpr (eq_i res_at (Term.int_eval (1)) rfl), trivial⟩ ⟨hq.1, hq.2.1, (hq.2.2.sift fun y hy => Or.inr (N y hy)).mono (by decide) (by decide)⟩⟩
theorem main_1_1 : Claimed_1_1 := comes_1 fun _ _ _ _ _ _ h hF => ⟨h.1, hF⟩
theorem main_1_2 : Claimed_1_2 := comes_1 fun _ _ _ _ _ _ h hF => ⟨h.2.1, hF⟩
end Jvm.Pilot.@@N@@
namespace Jvm.Pilot.@@N@@
open Jvm Jvm.ClassFile Sem Op Lib Jvm.Free Jvm.Stand Jvm.Pilot.@@N@@.Jvm.D
/-! MADE BY PROGRAM (witnessworld.py) out of the Statement's table words and the real class files: 12 classes; the members and pool entries that the words name. The judged class is class 1, her method 3. -/
namespace start1
open Jvm.ClassFile
def u (s : String) : CpInfo := .utf8 (stringToUtf16 s)
/-- a pool by its gaps: so many unusable entries, then the entry; so many at the end -/
def gap : Nat → List CpInfo → List CpInfo
  | 0, r => r
  | n + 1, r => .unusable :: gap n r
def poolList (es : List (Nat × CpInfo)) (last : Nat) : List CpInfo := es.foldr (fun e r => gap e.1 (e.2 :: r)) (gap last [])
def pool (es : List (Nat × CpInfo)) (last : Nat) : Array CpInfo := ⟨poolList es last⟩
def fileOf (pool : Array CpInfo) (this : Nat) (attrs : Array Attribute := #[]) (ms : Array MethodInfo := #[]) (fl : Nat := 33) (sup : Nat := 0) (ifs : Array Nat := #[]) (fds : Array FieldInfo := #[]) : ClassFile where
  minorVersion := 0
  majorVersion := 65
  constantPool := pool
  accessFlags := fl
  thisClass := this
  superClass := sup
  interfaces := ifs
  fields := fds
  methods := ms
  attributes := attrs
def plain (name : String) (sup : Option ClassId) : Class where
  name := name
  kind := .ordinary
  loader := none
  accessFlags := 33
  super := sup
  interfaces := #[]
  cf := none
  fields := #[]
  methods := #[]
  instanceTypes := #[]
  staticTypes := #[]
  resolved := #[]
  callSites := []
  init := .initialized
  statics := none
  mirror := none

def pool0 : Array CpInfo := pool [(5, u "<init>"), (0, u "()V"), (1, .class_ 10), (1, u "java/lang/Object")] 113

def k0m0 : Method := { name := "<init>", desc := "()V", sig := { parameters := [], returnType := none }, accessFlags := 1, code := none }
/-- java/lang/Object -/
def k0 : Class := { plain "java/lang/Object" none with
  accessFlags := 33
  interfaces := #[]
  cf := some (fileOf pool0 8 #[] #[{ accessFlags := 1, nameIndex := 5, descriptorIndex := 6, attributes := #[] }] 33 0 #[] #[])
  fields := #[]
  methods := #[k0m0]
  instanceTypes := #[]
  staticTypes := #[]
  resolved := Array.replicate 124 none
  statics := none }

def pool1 : Array CpInfo := pool [(2, .class_ 4), (1, u "java/lang/Object"), (0, u "<init>"), (0, u "()V"), (0, .fieldref 8 9), (0, .class_ 10), (0, .nameAndType 11 12), (0, u "com/example/ryudo/ryudo/model/Terms$Kind"), (0, u "NONE"), (0, u "Lcom/example/ryudo/ryudo/model/Terms$Kind;"), (0, .fieldref 8 14), (0, .nameAndType 15 12), (0, u "COLLATERAL"), (0, .fieldref 8 17), (0, .nameAndType 18 12), (0, u "SWAPPED_COLLATERAL"), (0, .fieldref 8 20), (0, .nameAndType 21 12), (0, u "NETTING_SET"), (0, .fieldref 8 23), (0, .nameAndType 24 12), (0, u "COUNTERPARTY"), (0, .fieldref 8 26), (0, .nameAndType 27 12), (0, u "SUBSTITUTION"), (0, .fieldref 8 29), (0, .nameAndType 30 12), (0, u "UNDERLYING"), (0, .fieldref 8 32), (0, .nameAndType 33 12), (0, u "CLASSED_UNDERLYING"), (0, .fieldref 8 35), (0, .nameAndType 36 12), (0, u "SET_RATE_CLASS"), (0, .fieldref 8 38), (0, .nameAndType 39 12), (0, u "HOST_RATE_CLASS"), (0, .fieldref 8 41), (0, .nameAndType 42 12), (0, u "DEPOSITOR"), (0, .integer 2147483647), (0, .methodref 45 46), (0, .class_ 47), (0, .nameAndType 48 49), (0, u "com/example/ryudo/ryudo/model/KindTakesRateClassPinLaw"), (0, u "kindOf"), (0, u "(I)Lcom/example/ryudo/ryudo/model/Terms$Kind;"), (0, .methodref 8 51), (0, .nameAndType 52 53), (0, u "takesRateClass"), (0, u "()Z"), (0, .methodref 45 55), (0, .nameAndType 56 57), (0, u "expected"), (0, u "(I)Z"), (3, u "law")] 6

def k1m0 : Method := { name := "<init>", desc := "()V", sig := { parameters := [], returnType := none }, accessFlags := 2, code := none }
def k1c1 : Code := { maxStack := 2, maxLocals := 1, code := method_2_code, exceptionTable := #[], attributes := #[] }
def k1m1 : Method := { name := "kindOf", desc := "(I)Lcom/example/ryudo/ryudo/model/Terms$Kind;", sig := { parameters := [.int], returnType := some (.object "com/example/ryudo/ryudo/model/Terms$Kind") }, accessFlags := 10, code := some k1c1 }
def k1c2 : Code := { maxStack := 2, maxLocals := 1, code := method_3_code, exceptionTable := #[], attributes := #[] }
def k1m2 : Method := { name := "expected", desc := "(I)Z", sig := { parameters := [.int], returnType := some .boolean }, accessFlags := 10, code := some k1c2 }
def k1c3 : Code := { maxStack := 2, maxLocals := 3, code := code, exceptionTable := #[], attributes := #[] }
def k1m3 : Method := { name := "law", desc := "(I)Z", sig := { parameters := [.int], returnType := some .boolean }, accessFlags := 9, code := some k1c3 }
/-- com/example/ryudo/ryudo/model/KindTakesRateClassPinLaw -/
def k1 : Class := { plain "com/example/ryudo/ryudo/model/KindTakesRateClassPinLaw" (some 0) with
  accessFlags := 49
  interfaces := #[]
  cf := some (fileOf pool1 45 #[] #[{ accessFlags := 2, nameIndex := 5, descriptorIndex := 6, attributes := #[] }, { accessFlags := 10, nameIndex := 48, descriptorIndex := 49, attributes := #[] }, { accessFlags := 10, nameIndex := 56, descriptorIndex := 57, attributes := #[] }, { accessFlags := 9, nameIndex := 61, descriptorIndex := 57, attributes := #[] }] 49 2 #[] #[])
  fields := #[]
  methods := #[k1m0, k1m1, k1m2, k1m3]
  instanceTypes := #[]
  staticTypes := #[]
  resolved := Array.replicate 68 none
  statics := none }

def pool2 : Array CpInfo := pool [(1, .class_ 2), (0, u "java/lang/constant/Constable"), (0, .class_ 4), (0, u "java/lang/Object")] 6

/-- java/lang/constant/Constable -/
def k2 : Class := { plain "java/lang/constant/Constable" (some 0) with
  accessFlags := 1537
  interfaces := #[]
  cf := some (fileOf pool2 1 #[] #[] 1537 3 #[] #[])
  fields := #[]
  methods := #[]
  instanceTypes := #[]
  staticTypes := #[]
  resolved := Array.replicate 11 none
  statics := none }

def pool3 : Array CpInfo := pool [(1, .class_ 2), (0, u "java/lang/Comparable"), (0, .class_ 4), (0, u "java/lang/Object")] 7

/-- java/lang/Comparable -/
def k3 : Class := { plain "java/lang/Comparable" (some 0) with
  accessFlags := 1537
  interfaces := #[]
  cf := some (fileOf pool3 1 #[] #[] 1537 3 #[] #[])
  fields := #[]
  methods := #[]
  instanceTypes := #[]
  staticTypes := #[]
  resolved := Array.replicate 12 none
  statics := none }

def pool4 : Array CpInfo := pool [(1, .class_ 2), (0, u "java/io/Serializable"), (0, .class_ 4), (0, u "java/lang/Object")] 2

/-- java/io/Serializable -/
def k4 : Class := { plain "java/io/Serializable" (some 0) with
  accessFlags := 1537
  interfaces := #[]
  cf := some (fileOf pool4 1 #[] #[] 1537 3 #[] #[])
  fields := #[]
  methods := #[]
  instanceTypes := #[]
  staticTypes := #[]
  resolved := Array.replicate 7 none
  statics := none }

def pool5 : Array CpInfo := pool [(2, .class_ 4), (1, u "java/lang/Enum"), (0, u "name"), (0, u "Ljava/lang/String;"), (2, u "ordinal"), (0, u "I"), (1, .class_ 14), (1, u "java/lang/Object"), (4, u "hash"), (86, .class_ 108), (1, u "java/lang/Enum$EnumDesc"), (2, .class_ 112), (0, u "java/lang/constant/Constable"), (0, .class_ 114), (0, u "java/lang/Comparable"), (0, .class_ 116), (0, u "java/io/Serializable")] 87

/-- java/lang/Enum -/
def k5 : Class := { plain "java/lang/Enum" (some 0) with
  accessFlags := 1057
  interfaces := #[2, 3, 4]
  cf := some (fileOf pool5 2 #[.nestMembers #[106]] #[] 1057 12 #[111, 113, 115] #[{ accessFlags := 18, nameIndex := 5, descriptorIndex := 6, attributes := #[] }, { accessFlags := 18, nameIndex := 9, descriptorIndex := 10, attributes := #[] }, { accessFlags := 2, nameIndex := 19, descriptorIndex := 10, attributes := #[] }])
  fields := #[{ name := "name", type := (.object "java/lang/String"), accessFlags := 18, slot := 0, constantValue := 0 }, { name := "ordinal", type := .int, accessFlags := 18, slot := 1, constantValue := 0 }, { name := "hash", type := .int, accessFlags := 2, slot := 2, constantValue := 0 }]
  methods := #[]
  instanceTypes := #[(.object "java/lang/String"), .int, .int]
  staticTypes := #[]
  resolved := Array.replicate 204 none
  statics := none }

def pool6 : Array CpInfo := pool [(1, .class_ 2), (0, u "com/example/ryudo/ryudo/model/Terms$Kind"), (2, u "NONE"), (0, u "Lcom/example/ryudo/ryudo/model/Terms$Kind;"), (2, u "COLLATERAL"), (2, u "SWAPPED_COLLATERAL"), (2, u "NETTING_SET"), (2, u "COUNTERPARTY"), (2, u "SUBSTITUTION"), (2, u "UNDERLYING"), (0, .fieldref 1 26), (0, .nameAndType 27 6), (0, u "CLASSED_UNDERLYING"), (0, .fieldref 1 29), (0, .nameAndType 30 6), (0, u "SET_RATE_CLASS"), (0, .fieldref 1 32), (0, .nameAndType 33 6), (0, u "HOST_RATE_CLASS"), (0, .fieldref 1 35), (0, .nameAndType 36 6), (0, u "DEPOSITOR"), (2, u "$VALUES"), (0, u "[Lcom/example/ryudo/ryudo/model/Terms$Kind;"), (6, .class_ 49), (1, u "java/lang/Enum"), (8, u "description"), (0, u "Ljava/lang/String;"), (78, u "takesRateClass"), (0, u "()Z"), (6, .class_ 147), (0, u "com/example/ryudo/ryudo/model/Terms")] 2

def k6c0 : Code := { maxStack := 2, maxLocals := 1, code := prog_96_method_6_code, exceptionTable := #[], attributes := #[] }
def k6m0 : Method := { name := "takesRateClass", desc := "()Z", sig := { parameters := [], returnType := some .boolean }, accessFlags := 1, code := some k6c0 }
/-- com/example/ryudo/ryudo/model/Terms$Kind -/
def k6 : Class := { plain "com/example/ryudo/ryudo/model/Terms$Kind" (some 5) with
  accessFlags := 16433
  interfaces := #[]
  cf := some (fileOf pool6 1 #[.nestHost 146] #[{ accessFlags := 1, nameIndex := 138, descriptorIndex := 139, attributes := #[] }] 16433 47 #[] #[{ accessFlags := 16409, nameIndex := 5, descriptorIndex := 6, attributes := #[] }, { accessFlags := 16409, nameIndex := 9, descriptorIndex := 6, attributes := #[] }, { accessFlags := 16409, nameIndex := 12, descriptorIndex := 6, attributes := #[] }, { accessFlags := 16409, nameIndex := 15, descriptorIndex := 6, attributes := #[] }, { accessFlags := 16409, nameIndex := 18, descriptorIndex := 6, attributes := #[] }, { accessFlags := 16409, nameIndex := 21, descriptorIndex := 6, attributes := #[] }, { accessFlags := 16409, nameIndex := 24, descriptorIndex := 6, attributes := #[] }, { accessFlags := 16409, nameIndex := 27, descriptorIndex := 6, attributes := #[] }, { accessFlags := 16409, nameIndex := 30, descriptorIndex := 6, attributes := #[] }, { accessFlags := 16409, nameIndex := 33, descriptorIndex := 6, attributes := #[] }, { accessFlags := 16409, nameIndex := 36, descriptorIndex := 6, attributes := #[] }, { accessFlags := 18, nameIndex := 58, descriptorIndex := 59, attributes := #[] }, { accessFlags := 4122, nameIndex := 39, descriptorIndex := 40, attributes := #[] }])
  fields := #[{ name := "NONE", type := (.object "com/example/ryudo/ryudo/model/Terms$Kind"), accessFlags := 16409, slot := 0, constantValue := 0 }, { name := "COLLATERAL", type := (.object "com/example/ryudo/ryudo/model/Terms$Kind"), accessFlags := 16409, slot := 1, constantValue := 0 }, { name := "SWAPPED_COLLATERAL", type := (.object "com/example/ryudo/ryudo/model/Terms$Kind"), accessFlags := 16409, slot := 2, constantValue := 0 }, { name := "NETTING_SET", type := (.object "com/example/ryudo/ryudo/model/Terms$Kind"), accessFlags := 16409, slot := 3, constantValue := 0 }, { name := "COUNTERPARTY", type := (.object "com/example/ryudo/ryudo/model/Terms$Kind"), accessFlags := 16409, slot := 4, constantValue := 0 }, { name := "SUBSTITUTION", type := (.object "com/example/ryudo/ryudo/model/Terms$Kind"), accessFlags := 16409, slot := 5, constantValue := 0 }, { name := "UNDERLYING", type := (.object "com/example/ryudo/ryudo/model/Terms$Kind"), accessFlags := 16409, slot := 6, constantValue := 0 }, { name := "CLASSED_UNDERLYING", type := (.object "com/example/ryudo/ryudo/model/Terms$Kind"), accessFlags := 16409, slot := 7, constantValue := 0 }, { name := "SET_RATE_CLASS", type := (.object "com/example/ryudo/ryudo/model/Terms$Kind"), accessFlags := 16409, slot := 8, constantValue := 0 }, { name := "HOST_RATE_CLASS", type := (.object "com/example/ryudo/ryudo/model/Terms$Kind"), accessFlags := 16409, slot := 9, constantValue := 0 }, { name := "DEPOSITOR", type := (.object "com/example/ryudo/ryudo/model/Terms$Kind"), accessFlags := 16409, slot := 10, constantValue := 0 }, { name := "description", type := (.object "java/lang/String"), accessFlags := 18, slot := 3, constantValue := 0 }, { name := "$VALUES", type := (.array (.object "com/example/ryudo/ryudo/model/Terms$Kind")), accessFlags := 4122, slot := 11, constantValue := 0 }]
  methods := #[k6m0]
  instanceTypes := #[(.object "java/lang/String"), .int, .int, (.object "java/lang/String")]
  staticTypes := #[(.object "com/example/ryudo/ryudo/model/Terms$Kind"), (.object "com/example/ryudo/ryudo/model/Terms$Kind"), (.object "com/example/ryudo/ryudo/model/Terms$Kind"), (.object "com/example/ryudo/ryudo/model/Terms$Kind"), (.object "com/example/ryudo/ryudo/model/Terms$Kind"), (.object "com/example/ryudo/ryudo/model/Terms$Kind"), (.object "com/example/ryudo/ryudo/model/Terms$Kind"), (.object "com/example/ryudo/ryudo/model/Terms$Kind"), (.object "com/example/ryudo/ryudo/model/Terms$Kind"), (.object "com/example/ryudo/ryudo/model/Terms$Kind"), (.object "com/example/ryudo/ryudo/model/Terms$Kind"), (.array (.object "com/example/ryudo/ryudo/model/Terms$Kind"))]
  resolved := Array.replicate 150 none
  statics := some 0 }

def pool7 : Array CpInfo := pool [(1, u "java/lang/Cloneable"), (0, .class_ 1), (0, u "java/lang/Object"), (0, .class_ 3)] 3

/-- java/lang/Cloneable -/
def k7 : Class := { plain "java/lang/Cloneable" (some 0) with
  accessFlags := 1537
  interfaces := #[]
  cf := some (fileOf pool7 2 #[] #[] 1537 4 #[] #[])
  fields := #[]
  methods := #[]
  instanceTypes := #[]
  staticTypes := #[]
  resolved := Array.replicate 8 none
  statics := none }

/-- the primitive byte -/
def k8 : Class := { plain "byte" none with kind := .primitive 'B', accessFlags := 0x411 }
/-- [B -/
def k9 : Class := { plain "[B" (some 0) with kind := .array 8 .byte, interfaces := #[7, 4], accessFlags := 1041 }

/-- the primitive int -/
def k10 : Class := { plain "int" none with kind := .primitive 'I', accessFlags := 0x411 }
/-- [I -/
def k11 : Class := { plain "[I" (some 0) with kind := .array 10 .int, interfaces := #[7, 4], accessFlags := 1041 }

def heap : Heap := #[{ cls := 6, slots := #[.ref 1, .ref 8, .ref 7, .ref 6, .ref 11, .ref 9, .ref 10, .ref 4, .ref 2, .ref 3, .ref 5, .null], vm := .statics 6 },
  { cls := 6, slots := #[.null, .int 0, .int 0, .null], vm := .none },
  { cls := 6, slots := #[.null, .int 8, .int 0, .null], vm := .none },
  { cls := 6, slots := #[.null, .int 9, .int 0, .null], vm := .none },
  { cls := 6, slots := #[.null, .int 7, .int 0, .null], vm := .none },
  { cls := 6, slots := #[.null, .int 10, .int 0, .null], vm := .none },
  { cls := 6, slots := #[.null, .int 3, .int 0, .null], vm := .none },
  { cls := 6, slots := #[.null, .int 2, .int 0, .null], vm := .none },
  { cls := 6, slots := #[.null, .int 1, .int 0, .null], vm := .none },
  { cls := 6, slots := #[.null, .int 5, .int 0, .null], vm := .none },
  { cls := 6, slots := #[.null, .int 6, .int 0, .null], vm := .none },
  { cls := 6, slots := #[.null, .int 4, .int 0, .null], vm := .none }]
def classes : Array Class := #[k0, k1, k2, k3, k4, k5, k6, k7, k8, k9, k10, k11]
def interned : List (Array UInt16 × Addr) := []
def slotsUsed : Nat := 56
def theMethod : MethodId := ⟨1, 3⟩
def args0 : Array Value := #[.int 5]
def aboutOver (below : List Frame) : State where
  vm := { classes := classes, interned := interned.toArray }
  heap := heap
  slotsUsed := slotsUsed
  threads := #[{ frames := .invoking theMethod args0 :: below }]
def below0 : List Frame := [.native { method := ⟨0, 0⟩, args := #[] }]
def about1 : State := aboutOver below0
def p0 : Program := .bare "" "" ""
def e0 : Env := launch0.env 0 0 0
theorem w_frames : about1.frames = Frame.invoking theMethod args0 :: below0 := rfl
set_option maxRecDepth 65536 in
theorem w_args : argsFit about1.vm theMethod args0 = true := by decide +kernel
set_option maxRecDepth 65536 in
theorem w_heap : heapFits about1 = true := by decide +kernel
set_option maxRecDepth 65536 in
theorem w_runnable : about1.curStatus? = some .runnable := by decide +kernel
set_option maxRecDepth 65536 in
theorem w_alone : about1.alone = true := by decide +kernel
set_option maxRecDepth 65536 in
theorem w_named : about1.methodNamed? x = some theMethod := by decide +kernel
set_option maxRecDepth 65536 in
theorem w_hears : about1.hears theMethod below0 = true := by decide +kernel
set_option maxRecDepth 65536 in
theorem w_ripe : about1.ripe theMethod args0 below0 = true := by decide +kernel
theorem w_running : about1.status = .running := rfl
set_option maxRecDepth 65536 in
theorem w_room : about1.hasRoom e0.platform room_1 = true :=
  launch0.hasRoom_least _ room_1 (by decide +kernel) (by decide +kernel) (by decide +kernel) (by decide +kernel) (by decide +kernel) (by decide +kernel)
theorem allAtoms_all (ts : List Jvm.Cond) (a : Array Jvm.Value) (st : Jvm.State) : (allAtoms ts).before a st = ts.all (fun c => c.before a st) := by
  induction ts with
  | nil => rfl
  | cons c t ih =>
    show (Jvm.Cond.and c (allAtoms t)).before a st = _
    rw [Jvm.Cond.before_and, ih, List.all_cons]
def words1 : List Jvm.Cond := Jvm.Cond.code x code maxLocals ret :: tables_1
/-- a 'code' word, met by the world's own term for the bytes: nothing is compared byte by byte -/
theorem code_word {y : MethodName} {bytes : ByteArray} {mx : Nat} {rt : Option FieldType} {a : Array Value} {s : State} {m : MethodId} {meth : Method} {c : Code} (h1 : s.methodNamed? y = some m) (h2 : s.vm.method? m = some meth) (h3 : meth.code = some c) (h4 : c.code = bytes)
    (h5 : (c.maxLocals == mx && c.exceptionTable.isEmpty && decide (c.maxStack ≤ mostOperands) && decide (meth.sig.returnType = rt) && !meth.locks && decide (parseMethodDescriptor y.desc = some meth.sig)) = true) : (Jvm.Cond.code y bytes mx rt).before a s = true := by
  simp only [Bool.and_eq_true, beq_iff_eq, Bool.not_eq_true', decide_eq_true_eq] at h5
  obtain ⟨⟨⟨⟨⟨g1, g2⟩, g3⟩, g4⟩, g5⟩, g6⟩ := h5
  simp [Cond.before, Cond.holds, Cond.value, h1, h2, h3, h4, g1, g2, g3, g4, g5, g6]
def isCode : Jvm.Cond → Bool
  | .code _ _ _ _ => true
  | _ => false
theorem all_split {L : List Jvm.Cond} {P : Jvm.Cond → Bool} (h1 : L.all (fun c => isCode c || P c) = true) (h2 : ∀ c ∈ L.filter isCode, P c = true) : L.all P = true := by
  refine List.all_eq_true.mpr fun c hc => ?_
  have h := List.all_eq_true.mp h1 c hc
  rcases Bool.eq_false_or_eq_true (isCode c) with hi | hi
  · exact h2 c (List.mem_filter.mpr ⟨hc, hi⟩)
  · simpa [hi] using h
set_option maxRecDepth 65536 in
theorem w_c0 : (Jvm.Cond.code x code maxLocals ret).before args0 about1 = true := code_word (m := ⟨1, 3⟩) (meth := k1m3) (c := k1c3) (by decide +kernel) rfl rfl rfl (by decide +kernel)
set_option maxRecDepth 65536 in
theorem w_c1 : (Jvm.Cond.code ({ cls := "com/example/ryudo/ryudo/model/KindTakesRateClassPinLaw", name := "kindOf", desc := "(I)Lcom/example/ryudo/ryudo/model/Terms$Kind;" } : Jvm.MethodName) method_2_code (1 : Nat) (Option.some (Jvm.ClassFile.FieldType.object "com/example/ryudo/ryudo/model/Terms$Kind"))).before args0 about1 = true := code_word (m := ⟨1, 1⟩) (meth := k1m1) (c := k1c1) (by decide +kernel) rfl rfl rfl (by decide +kernel)
set_option maxRecDepth 65536 in
theorem w_c2 : (Jvm.Cond.code ({ cls := "com/example/ryudo/ryudo/model/Terms$Kind", name := "takesRateClass", desc := "()Z" } : Jvm.MethodName) prog_96_method_6_code (1 : Nat) (Option.some Jvm.ClassFile.FieldType.boolean)).before args0 about1 = true := code_word (m := ⟨6, 0⟩) (meth := k6m0) (c := k6c0) (by decide +kernel) rfl rfl rfl (by decide +kernel)
set_option maxRecDepth 65536 in
theorem w_c3 : (Jvm.Cond.code ({ cls := "com/example/ryudo/ryudo/model/KindTakesRateClassPinLaw", name := "expected", desc := "(I)Z" } : Jvm.MethodName) method_3_code (1 : Nat) (Option.some Jvm.ClassFile.FieldType.boolean)).before args0 about1 = true := code_word (m := ⟨1, 2⟩) (meth := k1m2) (c := k1c2) (by decide +kernel) rfl rfl rfl (by decide +kernel)
def codes1 : List Jvm.Cond := [Jvm.Cond.code x code maxLocals ret, Jvm.Cond.code ({ cls := "com/example/ryudo/ryudo/model/KindTakesRateClassPinLaw", name := "kindOf", desc := "(I)Lcom/example/ryudo/ryudo/model/Terms$Kind;" } : Jvm.MethodName) method_2_code (1 : Nat) (Option.some (Jvm.ClassFile.FieldType.object "com/example/ryudo/ryudo/model/Terms$Kind")), Jvm.Cond.code ({ cls := "com/example/ryudo/ryudo/model/Terms$Kind", name := "takesRateClass", desc := "()Z" } : Jvm.MethodName) prog_96_method_6_code (1 : Nat) (Option.some Jvm.ClassFile.FieldType.boolean), Jvm.Cond.code ({ cls := "com/example/ryudo/ryudo/model/KindTakesRateClassPinLaw", name := "expected", desc := "(I)Z" } : Jvm.MethodName) method_3_code (1 : Nat) (Option.some Jvm.ClassFile.FieldType.boolean)]
set_option maxRecDepth 65536 in
theorem codes_eq : words1.filter isCode = codes1 := rfl
theorem w_codes : ∀ c ∈ words1.filter isCode, c.before args0 about1 = true := by
  rw [codes_eq]
  intro c hc
  simp only [codes1, List.mem_cons, List.not_mem_nil, or_false] at hc
  rcases hc with rfl | rfl | rfl | rfl
  · exact w_c0
  · exact w_c1
  · exact w_c2
  · exact w_c3
set_option maxRecDepth 65536 in
theorem w_t1 : (words1.take 24).all (fun c => isCode c || c.before args0 about1) = true := by decide +kernel
set_option maxRecDepth 65536 in
theorem w_t2 : (words1.drop 24).all (fun c => isCode c || c.before args0 about1) = true := by decide +kernel
theorem w_tables : (allAtoms (Jvm.Cond.code x code maxLocals ret :: tables_1)).before args0 about1 = true := by
  rw [allAtoms_all]
  show words1.all (fun c => c.before args0 about1) = true
  refine all_split ?_ w_codes
  rw [← List.take_append_drop 24 words1, List.all_append, w_t1, w_t2]
  rfl
set_option maxRecDepth 65536 in
theorem w_case : (Jvm.Cond.and given_1 narrow_1).before args0 about1 = true := by decide +kernel
theorem w_applies : (headSpec (Jvm.Cond.code x code maxLocals ret :: tables_1) room_1).applies x e0.platform about1 = true :=
  (Spec.applies_iff w_frames).mpr ⟨w_running, w_runnable, w_alone, w_named, w_hears, w_ripe, w_room, w_tables⟩
theorem atStart : AtStart classFile x code maxLocals ret World_1 tables_1 room_1 Calls_1 rest_1 Pre_1 launch0 p0 e0 about1 theMethod args0 below0 :=
  ⟨lists_1, trivial, launch0.admits_env _ _ _, launch0.least_env, fairChoices_fair.cas, fairChoices_fair.clock, w_frames, w_args, w_heap, w_applies, trivial, trivial, w_case⟩
end start1
theorem witness_1 : WitnessClaimed_1 := ⟨start1.p0, start1.e0, start1.about1, start1.theMethod, start1.args0, start1.below0, start1.atStart⟩
end Jvm.Pilot.@@N@@
