import JvmDerived
import JvmDerived.Pilot.@@N@@Statement
import JvmDerived.Pilot.@@N@@Code
set_option linter.unusedVariables false
set_option linter.unusedSimpArgs false
namespace Jvm.RoadKit
open Sem ClassFile Op Lib Jvm.Stand Jvm.Free Jvm.LawKit
section OwnWalk
variable {p : Program} {l : Launch} {e : Env} {R : Room} {s : State} {m : MethodId} {args : Array Value} {below : List Frame} {meth : Method} {c : Code} {T : State} {locs : List Loc} {cells slots : Nat} {Z : State} {a0 : Array Value} {h : Heap}
theorem retI (X : Stand p l e R s m args below meth c T locs cells slots) (hx : p.tables.exec = Jvm.exec) {pc : Nat} {Ls : Array Slot} {z : Int32} {rest : List Value} (hret : meth.sig.returnType = some .int) (hd : decode c.code pc = .ok (.ireturn, 1)) {fs : List Frame}
    (hl : ∀ (f : JFrame) (acts : List Action), f.method = m → f.locked = none → f.entered = [] → (doReturn e (T.setTop f) acts (some (.int z))).1 = T.setFrames fs) : Steps p.tables e below (T.setTop (mkF m pc Ls (.int z :: rest))) (T.setFrames fs) := by
  have hm' : T.vm.method? m = some meth := X.method'
  have hn : narrow .int (.int z) = .int z := rfl
  show Steps p.tables e below (T.setTop { method := m, pc := pc, locals := Ls, stack := _ :: rest, locked := none }) _
  jvm_step X.here [X.here.top, hx, hd, hm', hret, hn]
  first | (intro acts; rw [hl _ acts rfl rfl rfl]) | rw [hl _ _ rfl rfl rfl]
  exact Steps.refl _
/-- a body's contract at given arguments and a given heap -/
abbrev own_Met (l : Launch) (y : MethodName) (bytes : ByteArray) (maxL : Nat) (ret : Option FieldType) (ws : List Cond) (rm : Room) (Z : State) (as' : Array Value) (h : Heap) (Q : Option Value → Heap → List Loc → Prop) : Prop :=
  MetFree l y (head1 (Cond.code y bytes maxL ret :: ws) rm) (fun a U => a = as' ∧ Z.Warmed39 U.vm ∧ U.heap = h) (fun _ _ _ _ _ => True) (fun _ U o U' => ∃ v L, o = .returned v ∧ Q v U'.heap L ∧ FrameEnd U o U' L rm.cells rm.slots)
/-- from here the walk comes to its end, and Q holds there -/
def own_Go (p : Program) (e : Env) (below : List Frame) (s T : State) (g : JFrame) (k n : Nat) (Q : Option Value → Heap → List Loc → Prop) : Prop :=
  ∃ s₂ o, Steps p.tables e below (T.setTop g) s₂ ∧ s₂.status = .running ∧ Ended s₂ below o ∧ ∃ v L, o = .returned v ∧ Q v s₂.heap L ∧ FrameEnd s o s₂ L k n
variable {k n : Nat} {Q : Option Value → Heap → List Loc → Prop}
theorem own_in {g g' : JFrame} (ef : g = g') (q : own_Go p e below s T g' k n Q) : ∃ s₂ o, Steps p.tables e below (T.setTop g) s₂ ∧ s₂.status = .running ∧ Ended s₂ below o ∧ ∃ v L, o = .returned v ∧ Q v s₂.heap L ∧ FrameEnd s o s₂ L k n := by
  subst ef; exact q
theorem own_go {T' : State} {g g' : JFrame} (f : ∀ t, Steps p.tables e below (T'.setTop g') t → Steps p.tables e below (T.setTop g) t) (q : own_Go p e below s T' g' k n Q) : own_Go p e below s T g k n Q := by
  obtain ⟨s₂, o, h1, h2⟩ := q; exact ⟨s₂, o, f _ h1, h2⟩
theorem own_outI (X : Stand p l e R s m args below meth c T locs cells slots) (hx : p.tables.exec = Jvm.exec) (hlk : meth.locks = false) (hret : meth.sig.returnType = some .int) {pc : Nat} {Ls : Array Slot} {z : Int32} {rest : List Value} (hd : decode c.code pc = .ok (.ireturn, 1))
    (q : Q (some (.int z)) T.heap locs) (hk : cells ≤ k) (hn : slots ≤ n) : own_Go p e below s T (mkF m pc Ls (.int z :: rest)) k n Q := by
  obtain ⟨fs, hr, hrun, hended, hW, hsame⟩ := X.leave (v := some (.int z)) (fun h => by rw [hret] at h; cases h) hlk
  exact ⟨_, _, retI X hx hret hd hr, hrun, hended, _, _, rfl, q, ⟨_, rfl⟩, hW, hsame.mono hk hn⟩
theorem own_outN (X : Stand p l e R s m args below meth c T locs cells slots) (hx : p.tables.exec = Jvm.exec) (hlk : meth.locks = false) {t : FieldType} (hret : meth.sig.returnType = some t) (ht : t = .boolean ∨ t = .byte ∨ t = .char ∨ t = .short) {pc : Nat} {Ls : Array Slot} {z w : Int32} {rest : List Value} (hd : decode c.code pc = .ok (.ireturn, 1))
    (hw : nar t z = w) (q : Q (some (.int w)) T.heap locs) (hk : cells ≤ k) (hn : slots ≤ n) : own_Go p e below s T (mkF m pc Ls (.int z :: rest)) k n Q := by
  subst hw
  obtain ⟨fs, hr, hrun, hended, hW, hsame⟩ := X.leave (v := some (.int (nar t z))) (fun h => by rw [hret] at h; cases h) hlk
  exact ⟨_, _, retN X hx hret ht hd hr, hrun, hended, _, _, rfl, q, ⟨_, rfl⟩, hW, hsame.mono hk hn⟩
theorem own_outJ (X : Stand p l e R s m args below meth c T locs cells slots) (hx : p.tables.exec = Jvm.exec) (hlk : meth.locks = false) (hret : meth.sig.returnType = some .long) {pc : Nat} {Ls : Array Slot} {z : Int64} {rest : List Value} (hd : decode c.code pc = .ok (.lreturn, 1))
    (q : Q (some (.long z)) T.heap locs) (hk : cells ≤ k) (hn : slots ≤ n) : own_Go p e below s T (mkF m pc Ls (.long z :: rest)) k n Q := by
  obtain ⟨fs, hr, hrun, hended, hW, hsame⟩ := X.leave (v := some (.long z)) (fun h => by rw [hret] at h; cases h) hlk
  exact ⟨_, _, retOut X hx hret rfl (Or.inr (Or.inl ⟨rfl, rfl, _, rfl⟩)) hd hr, hrun, hended, _, _, rfl, q, ⟨_, rfl⟩, hW, hsame.mono hk hn⟩
theorem own_outD (X : Stand p l e R s m args below meth c T locs cells slots) (hx : p.tables.exec = Jvm.exec) (hlk : meth.locks = false) (hret : meth.sig.returnType = some .double) {pc : Nat} {Ls : Array Slot} {z : UInt64} {rest : List Value} (hd : decode c.code pc = .ok (.dreturn, 1))
    (q : Q (some (.double z)) T.heap locs) (hk : cells ≤ k) (hn : slots ≤ n) : own_Go p e below s T (mkF m pc Ls (.double z :: rest)) k n Q := by
  obtain ⟨fs, hr, hrun, hended, hW, hsame⟩ := X.leave (v := some (.double z)) (fun h => by rw [hret] at h; cases h) hlk
  exact ⟨_, _, retOut X hx hret rfl (Or.inr (Or.inr (Or.inl ⟨rfl, rfl, _, rfl⟩))) hd hr, hrun, hended, _, _, rfl, q, ⟨_, rfl⟩, hW, hsame.mono hk hn⟩
theorem own_outA (X : Stand p l e R s m args below meth c T locs cells slots) (hx : p.tables.exec = Jvm.exec) (hlk : meth.locks = false) {t : FieldType} (hret : meth.sig.returnType = some t) (ht : t.isReference = true) {pc : Nat} {Ls : Array Slot} {w : Value} {rest : List Value} (hwr : w.isRef = true) (hd : decode c.code pc = .ok (.areturn, 1))
    (q : Q (some w) T.heap locs) (hk : cells ≤ k) (hn : slots ≤ n) : own_Go p e below s T (mkF m pc Ls (w :: rest)) k n Q := by
  obtain ⟨fs, hr, hrun, hended, hW, hsame⟩ := X.leave (v := some w) (fun h => by rw [hret] at h; cases h) hlk
  have hnw : narrow t w = w := by rcases ref_cases hwr with rfl | ⟨a, rfl⟩ <;> cases t <;> first | rfl | cases ht
  exact ⟨_, _, retOut X hx hret hnw (Or.inr (Or.inr (Or.inr (Or.inr ⟨rfl, ht, hwr⟩)))) hd hr, hrun, hended, _, _, rfl, q, ⟨_, rfl⟩, hW, hsame.mono hk hn⟩
theorem own_outV (X : Stand p l e R s m args below meth c T locs cells slots) (hx : p.tables.exec = Jvm.exec) (hlk : meth.locks = false) (hret : meth.sig.returnType = none) {pc : Nat} {Ls : Array Slot} (hd : decode c.code pc = .ok (.return_, 1))
    (q : Q none T.heap locs) (hk : cells ≤ k) (hn : slots ≤ n) : own_Go p e below s T (mkF m pc Ls []) k n Q := by
  obtain ⟨fs, hr, hrun, hended, hW, hsame⟩ := X.leave (v := none) (fun _ => rfl) hlk
  exact ⟨_, _, X.returnOut hx hret hd hr, hrun, hended, _, _, rfl, q, ⟨_, rfl⟩, hW, hsame.mono hk hn⟩
theorem own_callS (X : Stand p l e R s m args below meth c T locs cells slots) (hx : p.tables.exec = Jvm.exec) (hZ : Z.Warmed39 s.vm) {own : String} {index : Nat} {y : MethodName} {bytes : ByteArray} {maxL : Nat} {ret : Option FieldType} {rm : Room} {argsL rest : List Value}
    (hown : s.vm.findClass own = some m.cls) (w1 : (Cond.methodLink own index y).before a0 Z = true) (w2 : (Cond.static y).before a0 Z = true) (w3 : (Cond.initialized y.cls).before a0 Z = true) (w4 : (Cond.code y bytes maxL ret).before a0 Z = true)
    (hM : own_Met l y bytes maxL ret [] rm Z argsL.toArray h Q) (eT : T.heap = h) (hy : y.cls ≠ "java/lang/invoke/MethodHandle" ∧ y.cls ≠ "java/lang/invoke/VarHandle") (hf : rm.frames + 1 ≤ R.frames) (W : Nat) (hl : W + (maxL + 11) + rm.locals ≤ R.locals) (hc : cells + rm.cells ≤ R.cells) (hs : slots + rm.slots ≤ R.slots)
    {g : JFrame} (hg : g.method = m) (hsize : g.locals.size = c.maxLocals) (hlen : ∀ sig, parseMethodDescriptor y.desc = some sig → argsL.length = sig.parameters.length) (hstack : g.stack = argsL.reverse ++ rest) (hW : 2 * g.monitorRoom + (rest.map fun v => v.category).sum ≤ W) (hd : decode c.code g.pc = .ok (.invokestatic index, 3)) :
    ∃ v T' L, Stand p l e R s m args below meth c T' (locs ++ L) (cells + rm.cells) (slots + rm.slots) ∧ Q v T'.heap L ∧ ∀ t, Steps p.tables e below (T'.setTop { g with pc := g.pc + 3, stack := v.toList ++ rest }) t → Steps p.tables e below (T.setTop g) t := by
  obtain ⟨v, _, ⟨T', L', k', n'⟩, -, X', ⟨Lc, hQ, l1, l2, l3⟩, st⟩ := Jvm.LawKit.callS X hx (y := y) hown (mvT hZ w1) (mvT hZ w2) (mvT hZ w3) (mvT hZ w4) hy (backOf (W := W) hM hZ w4 w3 hf hl) hg hsize (argsL := argsL) (rest := rest) hlen hstack hW hd (fun _ _ => ⟨rfl, eT, hc, hs⟩)
  dsimp only [Pt.U, Pt.locs, Pt.cells, Pt.slots] at X' l1 l2 l3 st hQ
  subst l1 l2 l3
  exact ⟨v, T', Lc, X', hQ, st⟩
theorem own_callV (X : Stand p l e R s m args below meth c T locs cells slots) (hx : p.tables.exec = Jvm.exec) (hZ : Z.Warmed39 s.vm) {own C : String} {index : Nat} {y : MethodName} {bytes : ByteArray} {maxL : Nat} {ret : Option FieldType} {rm : Room} {b : Addr} {argsL rest : List Value}
    (hown : s.vm.findClass own = some m.cls) (w1 : (Cond.methodLink own index y).before a0 Z = true) (w2 : (Cond.declares y).before a0 Z = true) (w3 : (Cond.selects C y y).before a0 Z = true) (w4 : (Cond.instanceMethod y).before a0 Z = true) (w5 : (Cond.initialized y.cls).before a0 Z = true) (w6 : (Cond.code y bytes maxL ret).before a0 Z = true)
    (hM : own_Met l y bytes maxL ret [] rm Z (.ref b :: argsL).toArray h Q) (eT : T.heap = h) (E : Exa Z h b C) (hy : y.cls ≠ "java/lang/invoke/MethodHandle" ∧ y.cls ≠ "java/lang/invoke/VarHandle") (hf : rm.frames + 1 ≤ R.frames) (W : Nat) (hl : W + (maxL + 11) + rm.locals ≤ R.locals) (hc : cells + rm.cells ≤ R.cells) (hs : slots + rm.slots ≤ R.slots)
    {g : JFrame} (hg : g.method = m) (hsize : g.locals.size = c.maxLocals) (hlen : ∀ sig, parseMethodDescriptor y.desc = some sig → argsL.length = sig.parameters.length) (hstack : g.stack = argsL.reverse ++ .ref b :: rest) (hW : 2 * g.monitorRoom + (rest.map fun v => v.category).sum ≤ W) (hd : decode c.code g.pc = .ok (.invokevirtual index, 3)) :
    ∃ v T' L, Stand p l e R s m args below meth c T' (locs ++ L) (cells + rm.cells) (slots + rm.slots) ∧ Q v T'.heap L ∧ ∀ t, Steps p.tables e below (T'.setTop { g with pc := g.pc + 3, stack := v.toList ++ rest }) t → Steps p.tables e below (T.setTop g) t := by
  obtain ⟨cq, kq, qa, qb, qc⟩ := isOf hZ eT E
  obtain ⟨v, _, ⟨T', L', k', n'⟩, -, X', ⟨Lc, hQ, l1, l2, l3⟩, st⟩ := X.virtualBack hx (y := y) (z := y) hown (mvT hZ w1) (mvT hZ w2) (notFace_of_selects (args := #[]) (mvT hZ w3)) (mvT hZ w3) (mvT hZ w4) hy (backOf (W := W) hM hZ w6 w5 hf hl) qa qc hg hsize (Steps.refl _) (argsL := argsL) (rest := rest) hlen hstack hW hd (fun _ _ => ⟨rfl, eT, hc, hs⟩)
  dsimp only [Pt.U, Pt.locs, Pt.cells, Pt.slots] at X' l1 l2 l3 st hQ
  subst l1 l2 l3
  exact ⟨v, T', Lc, X', hQ, fun t q => st.trans q⟩
theorem own_callP (X : Stand p l e R s m args below meth c T locs cells slots) (hx : p.tables.exec = Jvm.exec) (hZ : Z.Warmed39 s.vm) {own : String} {index : Nat} {y : MethodName} {bytes : ByteArray} {maxL : Nat} {rm : Room} {a : Addr} {argsL rest : List Value}
    (hown : s.vm.findClass own = some m.cls) (hy1 : y.name = "<init>") (w1 : (Cond.methodLink own index y).before a0 Z = true) (w2 : (Cond.instanceMethod y).before a0 Z = true) (w3 : (Cond.initialized y.cls).before a0 Z = true) (w4 : (Cond.code y bytes maxL none).before a0 Z = true)
    (hM : own_Met l y bytes maxL none [] rm Z (.ref a :: argsL).toArray h Q) (eT : T.heap = h) (hy : y.cls ≠ "java/lang/invoke/MethodHandle" ∧ y.cls ≠ "java/lang/invoke/VarHandle") (hf : rm.frames + 1 ≤ R.frames) (W : Nat) (hl : W + (maxL + 11) + rm.locals ≤ R.locals) (hc : cells + rm.cells ≤ R.cells) (hs : slots + rm.slots ≤ R.slots)
    {g : JFrame} (hg : g.method = m) (hsize : g.locals.size = c.maxLocals) (hlen : ∀ sig, parseMethodDescriptor y.desc = some sig → argsL.length = sig.parameters.length) (hstack : g.stack = argsL.reverse ++ .ref a :: rest) (hW : 2 * g.monitorRoom + (rest.map fun v => v.category).sum ≤ W) (hd : decode c.code g.pc = .ok (.invokespecial index, 3)) :
    ∃ v T' L, Stand p l e R s m args below meth c T' (locs ++ L) (cells + rm.cells) (slots + rm.slots) ∧ Q v T'.heap L ∧ ∀ t, Steps p.tables e below (T'.setTop { g with pc := g.pc + 3, stack := v.toList ++ rest }) t → Steps p.tables e below (T.setTop g) t := by
  obtain ⟨v, _, ⟨T', L', k', n'⟩, -, X', ⟨Lc, hQ, l1, l2, l3⟩, st⟩ := X.specialBack hx (y := y) hy1 hown (mvT hZ w1) (mvT hZ w2) (mvT hZ w4) hy (backOf (W := W) hM hZ w4 w3 hf hl) hg hsize (Steps.refl _) (a := a) (argsL := argsL) (rest := rest) hlen hstack hW hd (fun _ _ => ⟨rfl, eT, hc, hs⟩)
  dsimp only [Pt.U, Pt.locs, Pt.cells, Pt.slots] at X' l1 l2 l3 st hQ
  subst l1 l2 l3
  exact ⟨v, T', Lc, X', hQ, fun t q => st.trans q⟩
end OwnWalk
theorem own_llt (x y : Int64) : XT.cmpL x y < 0 ↔ x < y := by
  show (if y < x then (1 : Int32) else if x = y then 0 else -1) < 0 ↔ _
  split
  · rename_i h; exact ⟨fun q => absurd q (by decide), fun q => by rw [Int64.lt_iff_toInt_lt] at h q; omega⟩
  · rename_i h; split
    · rename_i h2; subst h2; exact ⟨fun q => absurd q (by decide), fun q => absurd q h⟩
    · rename_i h2; refine ⟨fun _ => ?_, fun _ => by decide⟩
      rw [← Int64.toInt_inj] at h2; rw [Int64.lt_iff_toInt_lt] at h ⊢; omega
theorem own_lgt (x y : Int64) : 0 < XT.cmpL x y ↔ y < x := by
  show 0 < (if y < x then (1 : Int32) else if x = y then 0 else -1) ↔ _
  split
  · rename_i h; exact ⟨fun _ => h, fun _ => by decide⟩
  · rename_i h; split
    · exact ⟨fun q => absurd q (by decide), fun q => absurd q h⟩
    · exact ⟨fun q => absurd q (by decide), fun q => absurd q h⟩
theorem own_leq (x y : Int64) : XT.cmpL x y = 0 ↔ x = y := by
  show (if y < x then (1 : Int32) else if x = y then 0 else -1) = 0 ↔ _
  split
  · rename_i h; refine ⟨fun q => absurd q (by decide), fun q => ?_⟩; subst q; exact absurd h (by simp only [Int64.lt_iff_toInt_lt]; omega)
  · split
    · rename_i h; exact ⟨fun _ => h, fun _ => rfl⟩
    · rename_i h; exact ⟨fun q => absurd q (by decide), fun q => absurd q h⟩
theorem own_at {x y : Value} (h : x = y) : XT.acmp .eq x y = true ∧ XT.acmp .ne x y = false := by subst h; exact ⟨decide_eq_true rfl, decide_eq_false fun q => q rfl⟩
theorem own_af {x y : Value} (h : ¬ (x = y)) : XT.acmp .eq x y = false ∧ XT.acmp .ne x y = true := ⟨decide_eq_false h, decide_eq_true h⟩
theorem own_fld {s : State} {args : Array Value} {t u : Term} {C n d : String} {a : Addr} {v : Value} (ev : t.eval args s none [] s = some (.ref a)) (hu : u.eval args s none [] s = some v) (hq : (Cond.eq (.field t C n d) u).value args s none s [] = some true) : Fld s s.heap a C n d v := by
  refine Fld.start ?_
  obtain ⟨x, y, h1, h2, -, -⟩ := cmp_v (Or.inl hq)
  cases hu.symm.trans h2
  have h3 := h1
  rw [fld_at ev] at h3
  simp only [Cond.value, h1, h2] at hq
  rw [h3]
  cases x <;> cases v <;> simp at hq ⊢ <;> exact hq
end Jvm.RoadKit
namespace Jvm.Pilot.@@N@@
open Jvm Jvm.ClassFile Sem Op Lib Jvm.Free Jvm.Stand Jvm.LawKit Jvm.RoadKit Bundle Jvm.Pilot.@@N@@.Jvm.D
def own_pc (p w : Int64) : UInt64 := if w = (0 : Int64) then FP.dconst0 else FP.ddiv (FP.dmul (4636737291354636288 : UInt64) (FP.l2d p)) (FP.l2d w)
theorem own_c100 : (4636737291354636288 : UInt64) = FP.l2d 100 := by decide +kernel
theorem own_mm (p : Int64) : Jvm.Free.Fl.Mag64 1154 (FP.dmul (4636737291354636288 : UInt64) (FP.l2d p)) := by
  rw [own_c100]; exact (Jvm.Free.Fl.dmul_mag (Ka := 1088) (Kb := 1088) (Jvm.Free.Fl.l2d_mag 100) (Jvm.Free.Fl.l2d_mag p) (by decide) (by decide)).mono (by decide)
theorem own_nm (p : Int64) : Jvm.Free.Fl.NoNaN64 (FP.dmul (4636737291354636288 : UInt64) (FP.l2d p)) := ((own_mm p).fin (by decide)).noNaN
theorem own_nd (p : Int64) {w : Int64} (h : ¬ (w = (0 : Int64))) : Jvm.Free.Fl.NoNaN64 (FP.ddiv (FP.dmul (4636737291354636288 : UInt64) (FP.l2d p)) (FP.l2d w)) :=
  ((ddiv_mag (own_mm p) (l2d_big h) (by decide) (by decide)).fin (by decide)).noNaN
theorem own_npc (p w : Int64) : Jvm.Free.Fl.NoNaN64 (own_pc p w) := by
  show Jvm.Free.Fl.NoNaN64 (if w = (0 : Int64) then FP.dconst0 else _)
  by_cases h : w = (0 : Int64)
  · rw [if_pos h]; exact Jvm.Free.Fl.SumD.zero_noNaN
  · rw [if_neg h]; exact own_nd p h
theorem own_i0 (x : Int32) : x.toInt64 = (0 : Int64) ↔ x = (0 : Int32) := by
  rw [← Int64.toInt_inj, ← Int32.toInt_inj, c_i2l]; exact Iff.rfl
theorem own_nx (a : Int64) {w : Int64} (h : ¬ (w = (0 : Int64))) : Jvm.Free.Fl.NoNaN64 (FP.ddiv (FP.l2d a) (FP.l2d w)) :=
  ((ddiv_mag (Jvm.Free.Fl.l2d_mag a) (l2d_big h) (by decide) (by decide)).fin (by decide)).noNaN
theorem own_exact {p w : Int64} (h1 : ¬ (p < (-(70368744177664 : Int64)))) (h2 : ¬ ((70368744177664 : Int64) < p)) (hw : ¬ (w = (0 : Int64))) : own_pc p w = FP.ddiv (FP.l2d ((100 : Int64) * p)) (FP.l2d w) := by
  show (if w = (0 : Int64) then FP.dconst0 else FP.ddiv (FP.dmul (4636737291354636288 : UInt64) (FP.l2d p)) (FP.l2d w)) = _
  rw [if_neg hw, own_c100]
  rw [Int64.lt_iff_toInt_lt] at h1 h2
  have e1 : (-(70368744177664 : Int64)).toInt = -70368744177664 := by decide
  have e2 : (70368744177664 : Int64).toInt = 70368744177664 := by decide
  have e3 : (100 : Int64).toInt = 100 := by decide
  rw [e1] at h1; rw [e2] at h2
  rw [dmul_k (A := 100) (B := 70368744177664) (by omega) (by omega) (by omega) (by omega) (by decide) (by decide) (by decide) (fun z => absurd z.1 (by decide)) (fun z => absurd z.2 (by decide))]
open Jvm.FP.Core in
theorem own_prodR (x y : Datum) : exactProduct x (negate y) = negate (exactProduct x y) := by
  rw [exactProduct_comm x (negate y), exactProduct_negate, exactProduct_comm y x]
open Jvm.FP.Core in
theorem own_quotR (f : Fmt) (x y : Datum) : quotient f x (negate y) = negate (quotient f x y) := by
  have hb : ∀ s t : Bool, (s != (!t)) = !(s != t) := by decide
  rcases x with _ | s | ⟨s, c, q⟩ <;> rcases y with _ | t | ⟨t, d, r⟩ <;> try rfl
  · exact congrArg Datum.inf (hb s t)
  · exact congrArg (Datum.fin · 0 f.qmin) (hb s t)
  · by_cases hd : d = 0
    · subst hd
      by_cases hc : c = 0
      · subst hc; rfl
      · have e : ∀ b : Bool, (if c = 0 then Datum.nan else Datum.inf b) = .inf b := fun b => if_neg hc
        exact (e _).trans ((congrArg Datum.inf (hb s t)).trans (congrArg negate (e _).symm))
    · have e : ∀ t' : Bool, quotient f (.fin s c q) (.fin t' d r) = roundRatio f (s != t') c d (q - r) := fun t' => if_neg hd
      rw [e t, negate_roundRatio, ← hb s t]; exact e (!t)
open Jvm.FP.Core in
theorem own_ofInt {i : Int} (h : i ≠ 0) : ofInt (-i) = negate (ofInt i) := by
  show Datum.fin (decide (-i < 0)) (-i).natAbs 0 = Datum.fin (!decide (i < 0)) i.natAbs 0
  rw [Int.natAbs_neg]
  congr 1
  by_cases h1 : i < 0
  · rw [decide_eq_true h1, decide_eq_false (by omega)]; rfl
  · rw [decide_eq_false h1, decide_eq_true (by omega)]; rfl
theorem own_toneg {p : Int64} (hm : ¬ (p = (-9223372036854775808 : Int64))) : (-p).toInt = -p.toInt := by
  have h1 := c_lneg p; have h2 := rng64 (-p); have h3 := rng64 p
  have h4 : p.toInt ≠ -9223372036854775808 := fun z => hm (Int64.toInt_inj.mp (z.trans (by decide)))
  omega
open Jvm.FP.Core in
theorem own_l2dn {p : Int64} (h0 : ¬ (p = (0 : Int64))) (hm : ¬ (p = (-9223372036854775808 : Int64))) : val64 (FP.l2d (-p)) = negate (val64 (FP.l2d p)) := by
  show val64 (l2d (-p)) = negate (val64 (l2d p))
  rw [val64_l2d, val64_l2d, own_toneg hm, own_ofInt (fun z => h0 (Int64.toInt_inj.mp (z.trans (by decide)))), negate_round]
open Jvm.FP.Core in
theorem own_same {x y : UInt64} (hx : Jvm.Free.Fl.NoNaN64 x) (hn : val64 x ≠ .nan) (h : val64 x = negate (val64 y)) (o : CmpOp) : cmpValue (FP.dcmp x (FP.dneg y)) o = 0 := by
  refine dcmpV_eq (val64_inj hn ?_) hx o
  rw [FP.val64_dneg]; exact h
theorem own_pc0 {p w : Int64} (h : w = (0 : Int64)) : own_pc p w = FP.dconst0 := if_pos h
theorem own_pc1 {p w : Int64} (h : ¬ (w = (0 : Int64))) : own_pc p w = FP.ddiv (FP.dmul (4636737291354636288 : UInt64) (FP.l2d p)) (FP.l2d w) := if_neg h
open Jvm.FP.Core in
theorem own_qz (f : Fmt) (s : Bool) (q : Int) (y : Datum) (h : quotient f (.fin s 0 q) y ≠ .nan) : ∃ t, quotient f (.fin s 0 q) y = .fin t 0 f.qmin := by
  cases y with
  | nan => exact absurd rfl h
  | inf t => exact ⟨_, rfl⟩
  | fin t d r =>
    by_cases hd : d = 0
    · refine absurd ?_ h
      show (if d = 0 then (if (0 : Nat) = 0 then Datum.nan else .inf (s != t)) else roundRatio f (s != t) 0 d (q - r)) = .nan
      rw [if_pos hd, if_pos rfl]
    · refine ⟨s != t, ?_⟩
      show (if d = 0 then (if (0 : Nat) = 0 then Datum.nan else .inf (s != t)) else (if (0 : Nat) = 0 then Datum.fin (s != t) 0 f.qmin else _)) = _
      rw [if_neg hd, if_pos rfl]
open Jvm.FP.Core in
theorem own_ordz (s t : Bool) (q : Int) : order (.fin s 0 q) (.fin t 0 q) = some .eq := by
  have h : ∀ b : Bool, signed b (inUnits 0 q (min q q)) = 0 := fun b => by
    have : inUnits 0 q (min q q) = 0 := Nat.zero_mul _
    rw [this]; cases b <;> rfl
  show some (compare (signed s (inUnits 0 q (min q q))) (signed t (inUnits 0 q (min q q)))) = _
  rw [h, h]; rfl
open Jvm.FP.Core in
theorem own_zz {x : UInt64} {t : Bool} (h : val64 x = .fin t 0 b64.qmin) : cmpValue (FP.dcmp x (FP.dneg x)) .l = 0 := by
  have h2 : FP.dcmp x (FP.dneg x) = some .eq := by
    show order (val64 x) (val64 (FP.dneg x)) = _
    rw [FP.val64_dneg, h]; exact own_ordz t (!t) _
  rw [h2]; rfl
theorem own_c0 : cmpValue (FP.dcmp FP.dconst0 (FP.dneg FP.dconst0)) .l = 0 := by decide +kernel
theorem own_m0 : FP.dmul (4636737291354636288 : UInt64) (FP.l2d 0) = FP.dconst0 := by decide +kernel
open Jvm.FP.Core in
theorem own_negp {p w : Int64} (hm : ¬ (p = (-9223372036854775808 : Int64))) : cmpValue (FP.dcmp (own_pc (-p) w) (FP.dneg (own_pc p w))) .l = 0 := by
  by_cases hw : w = (0 : Int64)
  · rw [own_pc0 hw, own_pc0 hw]; exact own_c0
  · by_cases h0 : p = (0 : Int64)
    · subst h0
      have e : (-(0 : Int64)) = 0 := by decide
      rw [e]
      have hn := Jvm.Free.Fl.val64_no.mp (own_npc 0 w)
      have hv : val64 (own_pc 0 w) = quotient b64 (.fin false 0 b64.qmin) (val64 (FP.l2d w)) := by
        rw [own_pc1 hw, own_m0]
        show val64 (ddiv dconst0 (l2d w)) = _
        rw [val64_ddiv, val64_dconst0]
      rw [hv] at hn
      obtain ⟨t, ht⟩ := own_qz _ _ _ _ hn
      exact own_zz (hv.trans ht)
    · refine own_same (own_npc _ _) (Jvm.Free.Fl.val64_no.mp (own_npc _ _)) ?_ _
      rw [own_pc1 hw, own_pc1 hw]
      show val64 (ddiv (dmul _ (l2d (-p))) (l2d w)) = negate (val64 (ddiv (dmul _ (l2d p)) (l2d w)))
      rw [val64_ddiv, val64_ddiv, val64_dmul, val64_dmul, own_l2dn h0 hm, own_prodR, ← negate_round, quotient_negate]
open Jvm.FP.Core in
theorem own_negw {p w : Int64} (hm : ¬ (w = (-9223372036854775808 : Int64))) : cmpValue (FP.dcmp (own_pc p (-w)) (FP.dneg (own_pc p w))) .l = 0 := by
  by_cases hw : w = (0 : Int64)
  · have hw' : -w = (0 : Int64) := by rw [hw]; decide
    rw [own_pc0 hw, own_pc0 hw']; exact own_c0
  · have hw' : ¬ (-w = (0 : Int64)) := fun z => hw (Int64.toInt_inj.mp (by
      have h1 := own_toneg hm; rw [z] at h1
      have e0 : (0 : Int64).toInt = 0 := by decide
      rw [e0] at h1 ⊢; omega))
    refine own_same (own_npc _ _) (Jvm.Free.Fl.val64_no.mp (own_npc _ _)) ?_ _
    rw [own_pc1 hw, own_pc1 hw']
    show val64 (ddiv _ (l2d (-w))) = negate (val64 (ddiv _ (l2d w)))
    rw [val64_ddiv, val64_ddiv, own_l2dn hw hm, own_quotR]
theorem d1_0 : decode prog_122_method_4_code 0 = .ok (.lload_n 2, 1) := by decide +kernel
theorem d1_1 : decode prog_122_method_4_code 1 = .ok (.lconst 0, 1) := by decide +kernel
theorem d1_2 : decode prog_122_method_4_code 2 = .ok (.lcmp, 1) := by decide +kernel
theorem d1_3 : decode prog_122_method_4_code 3 = .ok (.ifCond .ne 7, 3) := by decide +kernel
theorem d1_6 : decode prog_122_method_4_code 6 = .ok (.dconst 0, 1) := by decide +kernel
theorem d1_7 : decode prog_122_method_4_code 7 = .ok (.goto 12, 3) := by decide +kernel
theorem d1_10 : decode prog_122_method_4_code 10 = .ok (.ldc2_w 108, 3) := by decide +kernel
theorem d1_13 : decode prog_122_method_4_code 13 = .ok (.lload_n 0, 1) := by decide +kernel
theorem d1_14 : decode prog_122_method_4_code 14 = .ok (.l2d, 1) := by decide +kernel
theorem d1_15 : decode prog_122_method_4_code 15 = .ok (.dmul, 1) := by decide +kernel
theorem d1_16 : decode prog_122_method_4_code 16 = .ok (.lload_n 2, 1) := by decide +kernel
theorem d1_17 : decode prog_122_method_4_code 17 = .ok (.l2d, 1) := by decide +kernel
theorem d1_18 : decode prog_122_method_4_code 18 = .ok (.ddiv, 1) := by decide +kernel
theorem d1_19 : decode prog_122_method_4_code 19 = .ok (.dreturn, 1) := by decide +kernel
set_option maxRecDepth 65536 in
set_option maxHeartbeats 40000000 in
theorem rm_pc (l : Launch) (Z : State) (a0 : Array Value) (hw : ∀ d ∈ tables_1, d.before a0 Z = true) (ws : List Jvm.Cond) (p1 p2 : Int64) (h0 : Heap)  :
    own_Met l (⟨"org/headwood/service/ScoreSummary", "percent", "(JJ)D"⟩ : MethodName) prog_122_method_4_code 4 (some .double) ws ({ frames := 0, cells := 0, slots := 0, locals := 0 } : Room) Z #[(.long p1), (.long p2)] h0 (fun v h L => v = some (.double (own_pc p1 p2)) ∧ h = h0 ∧ L = []) := by
  refine MetFree.of_bodySF (plainFor_of_name (by first | (simp [plainName, overriddenIn]; done) | decide +kernel)) hisR ?_
  intro p e s m args below meth c s₁ Bd hml0 hP hK
  obtain ⟨rfl, hZ, hh⟩ := hP
  have hx := Bd.exec
  have hby := Bd.bytes
  have hml : c.maxLocals = 4 := hml0
  have hown : s.vm.findClass "org/headwood/service/ScoreSummary" = some m.cls := findClass_of_methodNamed Bd.named
  have hnm := (name_of_methodNamed Bd.named Bd.method).1
  have hlk : meth.locks = false := Bd.notSynchronized
  have hret := Bd.returns
  have X0 : Stand p l e ({ frames := 0, cells := 0, slots := 0, locals := 0 } : Room) s m #[(.long p1), (.long p2)] below meth c s₁ [] 0 0 := Stand.of_body Bd
  have e0 : s₁.heap = h0 := by rw [← hh, Bd.state]; rfl
  refine own_in (Q := fun v h L => v = some (.double (own_pc p1 p2)) ∧ h = h0 ∧ L = []) (ef := by first | (simp [entryFrame, mkF, argsToLocals, Value.category, maxLocals]; done) | rfl) (g' := (mkF m 0 #[.val (.long p1), .second, .val (.long p2), .second] [])) ?_
  refine own_go (T' := s₁) (g' := (mkF m 1 #[.val (.long p1), .second, .val (.long p2), .second] [(.long p2)])) (fun t q => XT.lloadN X0.here hx rfl (hb hby d1_0) rfl q) ?_
  refine own_go (T' := s₁) (g' := (mkF m 2 #[.val (.long p1), .second, .val (.long p2), .second] [(.long (0 : Int64)), (.long p2)])) (fun t q => XT.lconst X0.here hx rfl (hb hby d1_1) q) ?_
  refine own_go (T' := s₁) (g' := (mkF m 3 #[.val (.long p1), .second, .val (.long p2), .second] [(.int (XT.cmpL p2 (0 : Int64)))])) (fun t q => XT.lcmp X0.here hx rfl (hb hby d1_2) rfl q) ?_
  by_cases c1 : p2 = (0 : Int64)
  · refine own_go (T' := s₁) (g' := (mkF m 6 #[.val (.long p1), .second, .val (.long p2), .second] [])) (fun t q => XS.ifNo X0.here hx rfl (hb hby d1_3) rfl ((if0 _ _).trans (teq ((own_leq p2 (0 : Int64)).mpr c1)).2) q) ?_
    refine own_go (T' := s₁) (g' := (mkF m 7 #[.val (.long p1), .second, .val (.long p2), .second] [(.double (FP.dconst0))])) (fun t q => XS.dconst0 X0.here hx rfl (hb hby d1_6) rfl q) ?_
    refine own_go (T' := s₁) (g' := (mkF m 19 #[.val (.long p1), .second, .val (.long p2), .second] [(.double (FP.dconst0))])) (fun t q => XS.goto X0.here hx rfl (pc0 := 7) (pc' := 19) rfl (hb hby d1_7) (by decide) (by decide) q) ?_
    refine own_outD X0 hx hlk hret (hb hby d1_19) ?_ (by decide) (by decide)
    exact ⟨congrArg (fun z => some (Value.double z)) (if_pos c1).symm, e0, rfl⟩
  · refine own_go (T' := s₁) (g' := (mkF m 10 #[.val (.long p1), .second, .val (.long p2), .second] [])) (fun t q => XS.ifYes X0.here hx rfl (pc0 := 3) (pc' := 10) rfl (hb hby d1_3) rfl ((if0 _ _).trans (feq (fun z => c1 ((own_leq p2 (0 : Int64)).mp z))).2) (by decide) (by decide) q) ?_
    refine own_go (T' := s₁) (g' := (mkF m 13 #[.val (.long p1), .second, .val (.long p2), .second] [(.double (4636737291354636288 : UInt64))])) (fun t q => X0.ldc2DoubleC hx hown (mvT hZ (hw _ (List.mem_of_getElem? (i := 7) rfl))) (g := (mkF m 10 #[.val (.long p1), .second, .val (.long p2), .second] [])) rfl (hb hby d1_10) t q) ?_
    refine own_go (T' := s₁) (g' := (mkF m 14 #[.val (.long p1), .second, .val (.long p2), .second] [(.long p1), (.double (4636737291354636288 : UInt64))])) (fun t q => XT.lloadN X0.here hx rfl (hb hby d1_13) rfl q) ?_
    refine own_go (T' := s₁) (g' := (mkF m 15 #[.val (.long p1), .second, .val (.long p2), .second] [(.double (FP.l2d p1)), (.double (4636737291354636288 : UInt64))])) (fun t q => XS.l2dS X0.here hx rfl (hb hby d1_14) rfl rfl q) ?_
    refine own_go (T' := s₁) (g' := (mkF m 16 #[.val (.long p1), .second, .val (.long p2), .second] [(.double (FP.dmul (4636737291354636288 : UInt64) (FP.l2d p1)))])) (fun t q => XS.dmulS X0.here hx rfl (hb hby d1_15) rfl (own_nm p1) rfl q) ?_
    refine own_go (T' := s₁) (g' := (mkF m 17 #[.val (.long p1), .second, .val (.long p2), .second] [(.long p2), (.double (FP.dmul (4636737291354636288 : UInt64) (FP.l2d p1)))])) (fun t q => XT.lloadN X0.here hx rfl (hb hby d1_16) rfl q) ?_
    refine own_go (T' := s₁) (g' := (mkF m 18 #[.val (.long p1), .second, .val (.long p2), .second] [(.double (FP.l2d p2)), (.double (FP.dmul (4636737291354636288 : UInt64) (FP.l2d p1)))])) (fun t q => XS.l2dS X0.here hx rfl (hb hby d1_17) rfl rfl q) ?_
    refine own_go (T' := s₁) (g' := (mkF m 19 #[.val (.long p1), .second, .val (.long p2), .second] [(.double (FP.ddiv (FP.dmul (4636737291354636288 : UInt64) (FP.l2d p1)) (FP.l2d p2)))])) (fun t q => XS.ddivS X0.here hx rfl (hb hby d1_18) rfl (own_nd p1 c1) rfl q) ?_
    refine own_outD X0 hx hlk hret (hb hby d1_19) ?_ (by decide) (by decide)
    exact ⟨congrArg (fun z => some (Value.double z)) (if_neg c1).symm, e0, rfl⟩
set_option maxRecDepth 65536 in
set_option maxHeartbeats 40000000 in
theorem rm0 (l : Launch) (Z : State) (a0 : Array Value) (hw : ∀ d ∈ tables_1, d.before a0 Z = true) (ws : List Jvm.Cond) (p1 p2 : Int64) (p3 : Int32) (h0 : Heap)  :
    own_Met l x code maxLocals ret ws room_1 Z #[(.long p1), (.long p2), (.int p3)] h0 (fun v _ L => v = some (.int (1 : Int32)) ∧ Fr h0.size L) := by
  refine MetFree.of_bodySF (plainFor_of_name (by first | (simp [plainName, overriddenIn]; done) | decide +kernel)) hisR ?_
  intro p e s m args below meth c s₁ Bd hml0 hP hK
  obtain ⟨rfl, hZ, hh⟩ := hP
  have hx := Bd.exec
  have hby := Bd.bytes
  have hml : c.maxLocals = 18 := hml0
  have hown : s.vm.findClass "org/headwood/service/ScoreSummaryPercentPinLaw" = some m.cls := findClass_of_methodNamed Bd.named
  have hnm := (name_of_methodNamed Bd.named Bd.method).1
  have hlk : meth.locks = false := Bd.notSynchronized
  have hret := Bd.returns
  have X0 : Stand p l e room_1 s m #[(.long p1), (.long p2), (.int p3)] below meth c s₁ [] 0 0 := Stand.of_body Bd
  have e0 : s₁.heap = h0 := by rw [← hh, Bd.state]; rfl
  refine own_in (Q := fun v _ L => v = some (.int (1 : Int32)) ∧ Fr h0.size L) (ef := by first | (simp [entryFrame, mkF, argsToLocals, Value.category, maxLocals]; done) | rfl) (g' := (mkF m 0 #[.val (.long p1), .second, .val (.long p2), .second, .val (.int p3), .unset, .unset, .unset, .unset, .unset, .unset, .unset, .unset, .unset, .unset, .unset, .unset, .unset] [])) ?_
  have tail : ∀ pp ww : Int64, own_Go p e below s s₁ (mkF m 34 #[.val (.long p1), .second, .val (.long p2), .second, .val (.int p3), .val (.long pp), .second, .val (.long ww), .second, .unset, .unset, .unset, .unset, .unset, .unset, .unset, .unset, .unset] []) room_1.cells room_1.slots (fun v _ L => v = some (.int (1 : Int32)) ∧ Fr h0.size L) := by
    intro pp ww
    refine own_go (T' := s₁) (g' := (mkF m 36 #[.val (.long p1), .second, .val (.long p2), .second, .val (.int p3), .val (.long pp), .second, .val (.long ww), .second, .unset, .unset, .unset, .unset, .unset, .unset, .unset, .unset, .unset] [(.long pp)])) (fun t q => XT.lload X0.here hx rfl (hb hby at_34) rfl q) ?_
    refine own_go (T' := s₁) (g' := (mkF m 38 #[.val (.long p1), .second, .val (.long p2), .second, .val (.int p3), .val (.long pp), .second, .val (.long ww), .second, .unset, .unset, .unset, .unset, .unset, .unset, .unset, .unset, .unset] [(.long ww), (.long pp)])) (fun t q => XT.lload X0.here hx rfl (hb hby at_36) rfl q) ?_
    obtain ⟨v1, T1, L1, X1, Q1, st1⟩ := own_callS X0 hx hZ (y := (⟨"org/headwood/service/ScoreSummary", "percent", "(JJ)D"⟩ : MethodName)) (argsL := [(.long pp), (.long ww)]) (rest := []) hown (hw _ (List.mem_of_getElem? (i := 0) rfl)) (hw _ (List.mem_of_getElem? (i := 1) rfl)) (hw _ (List.mem_of_getElem? (i := 2) rfl)) (hw _ (List.mem_of_getElem? (i := 3) rfl)) (rm_pc l Z a0 hw [] pp ww h0) e0 (by decide) (by decide) 0 (by decide) (by decide) (by decide) (g := (mkF m 38 #[.val (.long p1), .second, .val (.long p2), .second, .val (.int p3), .val (.long pp), .second, .val (.long ww), .second, .unset, .unset, .unset, .unset, .unset, .unset, .unset, .unset, .unset] [(.long ww), (.long pp)])) rfl (by rw [hml]; rfl) (lenOf (ps := [.long, .long]) (r := (some .double)) (by decide +kernel) rfl) rfl (by show 2 * 0 + _ ≤ _; exact Nat.le_of_eq rfl) (hb hby at_38)
    obtain ⟨rfl, e1, rfl⟩ := Q1
    refine own_go (T' := T1) (g' := (mkF m 41 #[.val (.long p1), .second, .val (.long p2), .second, .val (.int p3), .val (.long pp), .second, .val (.long ww), .second, .unset, .unset, .unset, .unset, .unset, .unset, .unset, .unset, .unset] [(.double (own_pc pp ww))])) (fun t q => st1 t q) ?_
    refine own_go (T' := T1) (g' := (mkF m 43 #[.val (.long p1), .second, .val (.long p2), .second, .val (.int p3), .val (.long pp), .second, .val (.long ww), .second, .val (.double (own_pc pp ww)), .second, .unset, .unset, .unset, .unset, .unset, .unset, .unset] [])) (fun t q => XS.dstore X1.here hx rfl (hb hby at_41) rfl (l' := #[.val (.long p1), .second, .val (.long p2), .second, .val (.int p3), .val (.long pp), .second, .val (.long ww), .second, .val (.double (own_pc pp ww)), .second, .unset, .unset, .unset, .unset, .unset, .unset, .unset]) rfl q) ?_
    refine own_go (T' := T1) (g' := (mkF m 44 #[.val (.long p1), .second, .val (.long p2), .second, .val (.int p3), .val (.long pp), .second, .val (.long ww), .second, .val (.double (own_pc pp ww)), .second, .unset, .unset, .unset, .unset, .unset, .unset, .unset] [(.int (1 : Int32))])) (fun t q => XS.iconst X1.here hx rfl (hb hby at_43) q) ?_
    refine own_go (T' := T1) (g' := (mkF m 46 #[.val (.long p1), .second, .val (.long p2), .second, .val (.int p3), .val (.long pp), .second, .val (.long ww), .second, .val (.double (own_pc pp ww)), .second, .val (.int (1 : Int32)), .unset, .unset, .unset, .unset, .unset, .unset] [])) (fun t q => XS.istore X1.here hx rfl (hb hby at_44) rfl (l' := #[.val (.long p1), .second, .val (.long p2), .second, .val (.int p3), .val (.long pp), .second, .val (.long ww), .second, .val (.double (own_pc pp ww)), .second, .val (.int (1 : Int32)), .unset, .unset, .unset, .unset, .unset, .unset]) rfl q) ?_
    refine own_go (T' := T1) (g' := (mkF m 49 #[.val (.long p1), .second, .val (.long p2), .second, .val (.int p3), .val (.long pp), .second, .val (.long ww), .second, .val (.double (own_pc pp ww)), .second, .val (.int (1 : Int32)), .unset, .unset, .unset, .unset, .unset, .unset] [(.long (70368744177664 : Int64))])) (fun t q => X1.ldc2Long hx hown (mvT hZ (hw _ (List.mem_of_getElem? (i := 4) rfl))) (g := (mkF m 46 #[.val (.long p1), .second, .val (.long p2), .second, .val (.int p3), .val (.long pp), .second, .val (.long ww), .second, .val (.double (own_pc pp ww)), .second, .val (.int (1 : Int32)), .unset, .unset, .unset, .unset, .unset, .unset] [])) rfl (hb hby at_46) t q) ?_
    refine own_go (T' := T1) (g' := (mkF m 51 #[.val (.long p1), .second, .val (.long p2), .second, .val (.int p3), .val (.long pp), .second, .val (.long ww), .second, .val (.double (own_pc pp ww)), .second, .val (.int (1 : Int32)), .val (.long (70368744177664 : Int64)), .second, .unset, .unset, .unset, .unset] [])) (fun t q => XT.lstore X1.here hx rfl (hb hby at_49) rfl (l' := #[.val (.long p1), .second, .val (.long p2), .second, .val (.int p3), .val (.long pp), .second, .val (.long ww), .second, .val (.double (own_pc pp ww)), .second, .val (.int (1 : Int32)), .val (.long (70368744177664 : Int64)), .second, .unset, .unset, .unset, .unset]) rfl q) ?_
    refine own_go (T' := T1) (g' := (mkF m 54 #[.val (.long p1), .second, .val (.long p2), .second, .val (.int p3), .val (.long pp), .second, .val (.long ww), .second, .val (.double (own_pc pp ww)), .second, .val (.int (1 : Int32)), .val (.long (70368744177664 : Int64)), .second, .unset, .unset, .unset, .unset] [(.long (9007199254740992 : Int64))])) (fun t q => X1.ldc2Long hx hown (mvT hZ (hw _ (List.mem_of_getElem? (i := 5) rfl))) (g := (mkF m 51 #[.val (.long p1), .second, .val (.long p2), .second, .val (.int p3), .val (.long pp), .second, .val (.long ww), .second, .val (.double (own_pc pp ww)), .second, .val (.int (1 : Int32)), .val (.long (70368744177664 : Int64)), .second, .unset, .unset, .unset, .unset] [])) rfl (hb hby at_51) t q) ?_
    refine own_go (T' := T1) (g' := (mkF m 56 #[.val (.long p1), .second, .val (.long p2), .second, .val (.int p3), .val (.long pp), .second, .val (.long ww), .second, .val (.double (own_pc pp ww)), .second, .val (.int (1 : Int32)), .val (.long (70368744177664 : Int64)), .second, .val (.long (9007199254740992 : Int64)), .second, .unset, .unset] [])) (fun t q => XT.lstore X1.here hx rfl (hb hby at_54) rfl (l' := #[.val (.long p1), .second, .val (.long p2), .second, .val (.int p3), .val (.long pp), .second, .val (.long ww), .second, .val (.double (own_pc pp ww)), .second, .val (.int (1 : Int32)), .val (.long (70368744177664 : Int64)), .second, .val (.long (9007199254740992 : Int64)), .second, .unset, .unset]) rfl q) ?_
    have tail2 : ∀ s16 s17 : Slot, own_Go p e below s T1 (mkF m 129 #[.val (.long p1), .second, .val (.long p2), .second, .val (.int p3), .val (.long pp), .second, .val (.long ww), .second, .val (.double (own_pc pp ww)), .second, .val (.int (1 : Int32)), .val (.long (70368744177664 : Int64)), .second, .val (.long (9007199254740992 : Int64)), .second, s16, s17] []) room_1.cells room_1.slots (fun v _ L => v = some (.int (1 : Int32)) ∧ Fr h0.size L) := by
      intro s16 s17
      refine own_go (T' := T1) (g' := (mkF m 131 #[.val (.long p1), .second, .val (.long p2), .second, .val (.int p3), .val (.long pp), .second, .val (.long ww), .second, .val (.double (own_pc pp ww)), .second, .val (.int (1 : Int32)), .val (.long (70368744177664 : Int64)), .second, .val (.long (9007199254740992 : Int64)), .second, s16, s17] [(.long ww)])) (fun t q => XT.lload X1.here hx rfl (hb hby at_129) rfl q) ?_
      refine own_go (T' := T1) (g' := (mkF m 132 #[.val (.long p1), .second, .val (.long p2), .second, .val (.int p3), .val (.long pp), .second, .val (.long ww), .second, .val (.double (own_pc pp ww)), .second, .val (.int (1 : Int32)), .val (.long (70368744177664 : Int64)), .second, .val (.long (9007199254740992 : Int64)), .second, s16, s17] [(.long (0 : Int64)), (.long ww)])) (fun t q => XT.lconst X1.here hx rfl (hb hby at_131) q) ?_
      refine own_go (T' := T1) (g' := (mkF m 133 #[.val (.long p1), .second, .val (.long p2), .second, .val (.int p3), .val (.long pp), .second, .val (.long ww), .second, .val (.double (own_pc pp ww)), .second, .val (.int (1 : Int32)), .val (.long (70368744177664 : Int64)), .second, .val (.long (9007199254740992 : Int64)), .second, s16, s17] [(.int (XT.cmpL ww (0 : Int64)))])) (fun t q => XT.lcmp X1.here hx rfl (hb hby at_132) rfl q) ?_
      by_cases c2 : ww = (0 : Int64)
      · refine own_go (T' := T1) (g' := (mkF m 136 #[.val (.long p1), .second, .val (.long p2), .second, .val (.int p3), .val (.long pp), .second, .val (.long ww), .second, .val (.double (own_pc pp ww)), .second, .val (.int (1 : Int32)), .val (.long (70368744177664 : Int64)), .second, .val (.long (9007199254740992 : Int64)), .second, s16, s17] [])) (fun t q => XS.ifNo X1.here hx rfl (hb hby at_133) rfl ((if0 _ _).trans (teq ((own_leq ww (0 : Int64)).mpr c2)).2) q) ?_
        refine own_go (T' := T1) (g' := (mkF m 138 #[.val (.long p1), .second, .val (.long p2), .second, .val (.int p3), .val (.long pp), .second, .val (.long ww), .second, .val (.double (own_pc pp ww)), .second, .val (.int (1 : Int32)), .val (.long (70368744177664 : Int64)), .second, .val (.long (9007199254740992 : Int64)), .second, s16, s17] [(.int (1 : Int32))])) (fun t q => XS.iload X1.here hx rfl (hb hby at_136) rfl q) ?_
        have c3 : ¬ ((1 : Int32) = (0 : Int32)) := by decide
        refine own_go (T' := T1) (g' := (mkF m 141 #[.val (.long p1), .second, .val (.long p2), .second, .val (.int p3), .val (.long pp), .second, .val (.long ww), .second, .val (.double (own_pc pp ww)), .second, .val (.int (1 : Int32)), .val (.long (70368744177664 : Int64)), .second, .val (.long (9007199254740992 : Int64)), .second, s16, s17] [])) (fun t q => XS.ifNo X1.here hx rfl (hb hby at_138) rfl ((if0 _ _).trans (feq c3).1) q) ?_
        refine own_go (T' := T1) (g' := (mkF m 143 #[.val (.long p1), .second, .val (.long p2), .second, .val (.int p3), .val (.long pp), .second, .val (.long ww), .second, .val (.double (own_pc pp ww)), .second, .val (.int (1 : Int32)), .val (.long (70368744177664 : Int64)), .second, .val (.long (9007199254740992 : Int64)), .second, s16, s17] [(.double (own_pc pp ww))])) (fun t q => XS.dload X1.here hx rfl (hb hby at_141) rfl q) ?_
        refine own_go (T' := T1) (g' := (mkF m 144 #[.val (.long p1), .second, .val (.long p2), .second, .val (.int p3), .val (.long pp), .second, .val (.long ww), .second, .val (.double (own_pc pp ww)), .second, .val (.int (1 : Int32)), .val (.long (70368744177664 : Int64)), .second, .val (.long (9007199254740992 : Int64)), .second, s16, s17] [(.double (FP.dconst0)), (.double (own_pc pp ww))])) (fun t q => XS.dconst0 X1.here hx rfl (hb hby at_143) rfl q) ?_
        refine own_go (T' := T1) (g' := (mkF m 145 #[.val (.long p1), .second, .val (.long p2), .second, .val (.int p3), .val (.long pp), .second, .val (.long ww), .second, .val (.double (own_pc pp ww)), .second, .val (.int (1 : Int32)), .val (.long (70368744177664 : Int64)), .second, .val (.long (9007199254740992 : Int64)), .second, s16, s17] [(.int (0 : Int32))])) (fun t q => XS.dcmpS X1.here hx rfl (hb hby at_144) rfl (dcmpV_eq (if_pos c2) (own_npc _ _) _) q) ?_
        have c4 : (0 : Int32) = (0 : Int32) := by decide
        refine own_go (T' := T1) (g' := (mkF m 148 #[.val (.long p1), .second, .val (.long p2), .second, .val (.int p3), .val (.long pp), .second, .val (.long ww), .second, .val (.double (own_pc pp ww)), .second, .val (.int (1 : Int32)), .val (.long (70368744177664 : Int64)), .second, .val (.long (9007199254740992 : Int64)), .second, s16, s17] [])) (fun t q => XS.ifNo X1.here hx rfl (hb hby at_145) rfl ((if0 _ _).trans (teq c4).2) q) ?_
        refine own_go (T' := T1) (g' := (mkF m 149 #[.val (.long p1), .second, .val (.long p2), .second, .val (.int p3), .val (.long pp), .second, .val (.long ww), .second, .val (.double (own_pc pp ww)), .second, .val (.int (1 : Int32)), .val (.long (70368744177664 : Int64)), .second, .val (.long (9007199254740992 : Int64)), .second, s16, s17] [(.int (1 : Int32))])) (fun t q => XS.iconst X1.here hx rfl (hb hby at_148) q) ?_
        refine own_go (T' := T1) (g' := (mkF m 153 #[.val (.long p1), .second, .val (.long p2), .second, .val (.int p3), .val (.long pp), .second, .val (.long ww), .second, .val (.double (own_pc pp ww)), .second, .val (.int (1 : Int32)), .val (.long (70368744177664 : Int64)), .second, .val (.long (9007199254740992 : Int64)), .second, s16, s17] [(.int (1 : Int32))])) (fun t q => XS.goto X1.here hx rfl (pc0 := 149) (pc' := 153) rfl (hb hby at_149) (by decide) (by decide) q) ?_
        refine own_go (T' := T1) (g' := (mkF m 155 #[.val (.long p1), .second, .val (.long p2), .second, .val (.int p3), .val (.long pp), .second, .val (.long ww), .second, .val (.double (own_pc pp ww)), .second, .val (.int (1 : Int32)), .val (.long (70368744177664 : Int64)), .second, .val (.long (9007199254740992 : Int64)), .second, s16, s17] [])) (fun t q => XS.istore X1.here hx rfl (hb hby at_153) rfl (l' := #[.val (.long p1), .second, .val (.long p2), .second, .val (.int p3), .val (.long pp), .second, .val (.long ww), .second, .val (.double (own_pc pp ww)), .second, .val (.int (1 : Int32)), .val (.long (70368744177664 : Int64)), .second, .val (.long (9007199254740992 : Int64)), .second, s16, s17]) rfl q) ?_
        refine own_go (T' := T1) (g' := (mkF m 157 #[.val (.long p1), .second, .val (.long p2), .second, .val (.int p3), .val (.long pp), .second, .val (.long ww), .second, .val (.double (own_pc pp ww)), .second, .val (.int (1 : Int32)), .val (.long (70368744177664 : Int64)), .second, .val (.long (9007199254740992 : Int64)), .second, s16, s17] [(.long pp)])) (fun t q => XT.lload X1.here hx rfl (hb hby at_155) rfl q) ?_
        refine own_go (T' := T1) (g' := (mkF m 160 #[.val (.long p1), .second, .val (.long p2), .second, .val (.int p3), .val (.long pp), .second, .val (.long ww), .second, .val (.double (own_pc pp ww)), .second, .val (.int (1 : Int32)), .val (.long (70368744177664 : Int64)), .second, .val (.long (9007199254740992 : Int64)), .second, s16, s17] [(.long (-9223372036854775808 : Int64)), (.long pp)])) (fun t q => X1.ldc2Long hx hown (mvT hZ (hw _ (List.mem_of_getElem? (i := 6) rfl))) (g := (mkF m 157 #[.val (.long p1), .second, .val (.long p2), .second, .val (.int p3), .val (.long pp), .second, .val (.long ww), .second, .val (.double (own_pc pp ww)), .second, .val (.int (1 : Int32)), .val (.long (70368744177664 : Int64)), .second, .val (.long (9007199254740992 : Int64)), .second, s16, s17] [(.long pp)])) rfl (hb hby at_157) t q) ?_
        refine own_go (T' := T1) (g' := (mkF m 161 #[.val (.long p1), .second, .val (.long p2), .second, .val (.int p3), .val (.long pp), .second, .val (.long ww), .second, .val (.double (own_pc pp ww)), .second, .val (.int (1 : Int32)), .val (.long (70368744177664 : Int64)), .second, .val (.long (9007199254740992 : Int64)), .second, s16, s17] [(.int (XT.cmpL pp (-9223372036854775808 : Int64)))])) (fun t q => XT.lcmp X1.here hx rfl (hb hby at_160) rfl q) ?_
        by_cases c5 : pp = (-9223372036854775808 : Int64)
        · refine own_go (T' := T1) (g' := (mkF m 191 #[.val (.long p1), .second, .val (.long p2), .second, .val (.int p3), .val (.long pp), .second, .val (.long ww), .second, .val (.double (own_pc pp ww)), .second, .val (.int (1 : Int32)), .val (.long (70368744177664 : Int64)), .second, .val (.long (9007199254740992 : Int64)), .second, s16, s17] [])) (fun t q => XS.ifYes X1.here hx rfl (pc0 := 161) (pc' := 191) rfl (hb hby at_161) rfl ((if0 _ _).trans (teq ((own_leq pp (-9223372036854775808 : Int64)).mpr c5)).1) (by decide) (by decide) q) ?_
          refine own_go (T' := T1) (g' := (mkF m 193 #[.val (.long p1), .second, .val (.long p2), .second, .val (.int p3), .val (.long pp), .second, .val (.long ww), .second, .val (.double (own_pc pp ww)), .second, .val (.int (1 : Int32)), .val (.long (70368744177664 : Int64)), .second, .val (.long (9007199254740992 : Int64)), .second, s16, s17] [(.long ww)])) (fun t q => XT.lload X1.here hx rfl (hb hby at_191) rfl q) ?_
          refine own_go (T' := T1) (g' := (mkF m 196 #[.val (.long p1), .second, .val (.long p2), .second, .val (.int p3), .val (.long pp), .second, .val (.long ww), .second, .val (.double (own_pc pp ww)), .second, .val (.int (1 : Int32)), .val (.long (70368744177664 : Int64)), .second, .val (.long (9007199254740992 : Int64)), .second, s16, s17] [(.long (-9223372036854775808 : Int64)), (.long ww)])) (fun t q => X1.ldc2Long hx hown (mvT hZ (hw _ (List.mem_of_getElem? (i := 6) rfl))) (g := (mkF m 193 #[.val (.long p1), .second, .val (.long p2), .second, .val (.int p3), .val (.long pp), .second, .val (.long ww), .second, .val (.double (own_pc pp ww)), .second, .val (.int (1 : Int32)), .val (.long (70368744177664 : Int64)), .second, .val (.long (9007199254740992 : Int64)), .second, s16, s17] [(.long ww)])) rfl (hb hby at_193) t q) ?_
          refine own_go (T' := T1) (g' := (mkF m 197 #[.val (.long p1), .second, .val (.long p2), .second, .val (.int p3), .val (.long pp), .second, .val (.long ww), .second, .val (.double (own_pc pp ww)), .second, .val (.int (1 : Int32)), .val (.long (70368744177664 : Int64)), .second, .val (.long (9007199254740992 : Int64)), .second, s16, s17] [(.int (XT.cmpL ww (-9223372036854775808 : Int64)))])) (fun t q => XT.lcmp X1.here hx rfl (hb hby at_196) rfl q) ?_
          by_cases c6 : ww = (-9223372036854775808 : Int64)
          · refine own_go (T' := T1) (g' := (mkF m 227 #[.val (.long p1), .second, .val (.long p2), .second, .val (.int p3), .val (.long pp), .second, .val (.long ww), .second, .val (.double (own_pc pp ww)), .second, .val (.int (1 : Int32)), .val (.long (70368744177664 : Int64)), .second, .val (.long (9007199254740992 : Int64)), .second, s16, s17] [])) (fun t q => XS.ifYes X1.here hx rfl (pc0 := 197) (pc' := 227) rfl (hb hby at_197) rfl ((if0 _ _).trans (teq ((own_leq ww (-9223372036854775808 : Int64)).mpr c6)).1) (by decide) (by decide) q) ?_
            refine own_go (T' := T1) (g' := (mkF m 229 #[.val (.long p1), .second, .val (.long p2), .second, .val (.int p3), .val (.long pp), .second, .val (.long ww), .second, .val (.double (own_pc pp ww)), .second, .val (.int (1 : Int32)), .val (.long (70368744177664 : Int64)), .second, .val (.long (9007199254740992 : Int64)), .second, s16, s17] [(.int (1 : Int32))])) (fun t q => XS.iload X1.here hx rfl (hb hby at_227) rfl q) ?_
            refine own_outN X1 hx hlk hret (t := .boolean) (by simp) (hb hby at_229) (w := (1 : Int32)) (by decide) ?_ (by decide) (by decide)
            exact ⟨rfl, (Fr.app (Fr.nil _) (Fr.nil _))⟩
          · refine own_go (T' := T1) (g' := (mkF m 200 #[.val (.long p1), .second, .val (.long p2), .second, .val (.int p3), .val (.long pp), .second, .val (.long ww), .second, .val (.double (own_pc pp ww)), .second, .val (.int (1 : Int32)), .val (.long (70368744177664 : Int64)), .second, .val (.long (9007199254740992 : Int64)), .second, s16, s17] [])) (fun t q => XS.ifNo X1.here hx rfl (hb hby at_197) rfl ((if0 _ _).trans (feq (fun z => c6 ((own_leq ww (-9223372036854775808 : Int64)).mp z))).1) q) ?_
            refine own_go (T' := T1) (g' := (mkF m 202 #[.val (.long p1), .second, .val (.long p2), .second, .val (.int p3), .val (.long pp), .second, .val (.long ww), .second, .val (.double (own_pc pp ww)), .second, .val (.int (1 : Int32)), .val (.long (70368744177664 : Int64)), .second, .val (.long (9007199254740992 : Int64)), .second, s16, s17] [(.int (1 : Int32))])) (fun t q => XS.iload X1.here hx rfl (hb hby at_200) rfl q) ?_
            have c7 : ¬ ((1 : Int32) = (0 : Int32)) := by decide
            refine own_go (T' := T1) (g' := (mkF m 205 #[.val (.long p1), .second, .val (.long p2), .second, .val (.int p3), .val (.long pp), .second, .val (.long ww), .second, .val (.double (own_pc pp ww)), .second, .val (.int (1 : Int32)), .val (.long (70368744177664 : Int64)), .second, .val (.long (9007199254740992 : Int64)), .second, s16, s17] [])) (fun t q => XS.ifNo X1.here hx rfl (hb hby at_202) rfl ((if0 _ _).trans (feq c7).1) q) ?_
            refine own_go (T' := T1) (g' := (mkF m 207 #[.val (.long p1), .second, .val (.long p2), .second, .val (.int p3), .val (.long pp), .second, .val (.long ww), .second, .val (.double (own_pc pp ww)), .second, .val (.int (1 : Int32)), .val (.long (70368744177664 : Int64)), .second, .val (.long (9007199254740992 : Int64)), .second, s16, s17] [(.long pp)])) (fun t q => XT.lload X1.here hx rfl (hb hby at_205) rfl q) ?_
            refine own_go (T' := T1) (g' := (mkF m 209 #[.val (.long p1), .second, .val (.long p2), .second, .val (.int p3), .val (.long pp), .second, .val (.long ww), .second, .val (.double (own_pc pp ww)), .second, .val (.int (1 : Int32)), .val (.long (70368744177664 : Int64)), .second, .val (.long (9007199254740992 : Int64)), .second, s16, s17] [(.long ww), (.long pp)])) (fun t q => XT.lload X1.here hx rfl (hb hby at_207) rfl q) ?_
            refine own_go (T' := T1) (g' := (mkF m 210 #[.val (.long p1), .second, .val (.long p2), .second, .val (.int p3), .val (.long pp), .second, .val (.long ww), .second, .val (.double (own_pc pp ww)), .second, .val (.int (1 : Int32)), .val (.long (70368744177664 : Int64)), .second, .val (.long (9007199254740992 : Int64)), .second, s16, s17] [(.long (-ww)), (.long pp)])) (fun t q => XT.lneg X1.here hx rfl (hb hby at_209) rfl q) ?_
            obtain ⟨v8, T8, L8, X8, Q8, st8⟩ := own_callS X1 hx hZ (y := (⟨"org/headwood/service/ScoreSummary", "percent", "(JJ)D"⟩ : MethodName)) (argsL := [(.long pp), (.long (-ww))]) (rest := []) hown (hw _ (List.mem_of_getElem? (i := 0) rfl)) (hw _ (List.mem_of_getElem? (i := 1) rfl)) (hw _ (List.mem_of_getElem? (i := 2) rfl)) (hw _ (List.mem_of_getElem? (i := 3) rfl)) (rm_pc l Z a0 hw [] pp (-ww) h0) e1 (by decide) (by decide) 0 (by decide) (by decide) (by decide) (g := (mkF m 210 #[.val (.long p1), .second, .val (.long p2), .second, .val (.int p3), .val (.long pp), .second, .val (.long ww), .second, .val (.double (own_pc pp ww)), .second, .val (.int (1 : Int32)), .val (.long (70368744177664 : Int64)), .second, .val (.long (9007199254740992 : Int64)), .second, s16, s17] [(.long (-ww)), (.long pp)])) rfl (by rw [hml]; rfl) (lenOf (ps := [.long, .long]) (r := (some .double)) (by decide +kernel) rfl) rfl (by show 2 * 0 + _ ≤ _; exact Nat.le_of_eq rfl) (hb hby at_210)
            obtain ⟨rfl, e8, rfl⟩ := Q8
            refine own_go (T' := T8) (g' := (mkF m 213 #[.val (.long p1), .second, .val (.long p2), .second, .val (.int p3), .val (.long pp), .second, .val (.long ww), .second, .val (.double (own_pc pp ww)), .second, .val (.int (1 : Int32)), .val (.long (70368744177664 : Int64)), .second, .val (.long (9007199254740992 : Int64)), .second, s16, s17] [(.double (own_pc pp (-ww)))])) (fun t q => st8 t q) ?_
            refine own_go (T' := T8) (g' := (mkF m 215 #[.val (.long p1), .second, .val (.long p2), .second, .val (.int p3), .val (.long pp), .second, .val (.long ww), .second, .val (.double (own_pc pp ww)), .second, .val (.int (1 : Int32)), .val (.long (70368744177664 : Int64)), .second, .val (.long (9007199254740992 : Int64)), .second, s16, s17] [(.double (own_pc pp ww)), (.double (own_pc pp (-ww)))])) (fun t q => XS.dload X8.here hx rfl (hb hby at_213) rfl q) ?_
            refine own_go (T' := T8) (g' := (mkF m 216 #[.val (.long p1), .second, .val (.long p2), .second, .val (.int p3), .val (.long pp), .second, .val (.long ww), .second, .val (.double (own_pc pp ww)), .second, .val (.int (1 : Int32)), .val (.long (70368744177664 : Int64)), .second, .val (.long (9007199254740992 : Int64)), .second, s16, s17] [(.double (FP.dneg (own_pc pp ww))), (.double (own_pc pp (-ww)))])) (fun t q => XS.dnegS X8.here hx rfl (hb hby at_215) rfl rfl q) ?_
            refine own_go (T' := T8) (g' := (mkF m 217 #[.val (.long p1), .second, .val (.long p2), .second, .val (.int p3), .val (.long pp), .second, .val (.long ww), .second, .val (.double (own_pc pp ww)), .second, .val (.int (1 : Int32)), .val (.long (70368744177664 : Int64)), .second, .val (.long (9007199254740992 : Int64)), .second, s16, s17] [(.int (0 : Int32))])) (fun t q => XS.dcmpS X8.here hx rfl (hb hby at_216) rfl (own_negw c6) q) ?_
            have c9 : (0 : Int32) = (0 : Int32) := by decide
            refine own_go (T' := T8) (g' := (mkF m 220 #[.val (.long p1), .second, .val (.long p2), .second, .val (.int p3), .val (.long pp), .second, .val (.long ww), .second, .val (.double (own_pc pp ww)), .second, .val (.int (1 : Int32)), .val (.long (70368744177664 : Int64)), .second, .val (.long (9007199254740992 : Int64)), .second, s16, s17] [])) (fun t q => XS.ifNo X8.here hx rfl (hb hby at_217) rfl ((if0 _ _).trans (teq c9).2) q) ?_
            refine own_go (T' := T8) (g' := (mkF m 221 #[.val (.long p1), .second, .val (.long p2), .second, .val (.int p3), .val (.long pp), .second, .val (.long ww), .second, .val (.double (own_pc pp ww)), .second, .val (.int (1 : Int32)), .val (.long (70368744177664 : Int64)), .second, .val (.long (9007199254740992 : Int64)), .second, s16, s17] [(.int (1 : Int32))])) (fun t q => XS.iconst X8.here hx rfl (hb hby at_220) q) ?_
            refine own_go (T' := T8) (g' := (mkF m 225 #[.val (.long p1), .second, .val (.long p2), .second, .val (.int p3), .val (.long pp), .second, .val (.long ww), .second, .val (.double (own_pc pp ww)), .second, .val (.int (1 : Int32)), .val (.long (70368744177664 : Int64)), .second, .val (.long (9007199254740992 : Int64)), .second, s16, s17] [(.int (1 : Int32))])) (fun t q => XS.goto X8.here hx rfl (pc0 := 221) (pc' := 225) rfl (hb hby at_221) (by decide) (by decide) q) ?_
            refine own_go (T' := T8) (g' := (mkF m 227 #[.val (.long p1), .second, .val (.long p2), .second, .val (.int p3), .val (.long pp), .second, .val (.long ww), .second, .val (.double (own_pc pp ww)), .second, .val (.int (1 : Int32)), .val (.long (70368744177664 : Int64)), .second, .val (.long (9007199254740992 : Int64)), .second, s16, s17] [])) (fun t q => XS.istore X8.here hx rfl (hb hby at_225) rfl (l' := #[.val (.long p1), .second, .val (.long p2), .second, .val (.int p3), .val (.long pp), .second, .val (.long ww), .second, .val (.double (own_pc pp ww)), .second, .val (.int (1 : Int32)), .val (.long (70368744177664 : Int64)), .second, .val (.long (9007199254740992 : Int64)), .second, s16, s17]) rfl q) ?_
            refine own_go (T' := T8) (g' := (mkF m 229 #[.val (.long p1), .second, .val (.long p2), .second, .val (.int p3), .val (.long pp), .second, .val (.long ww), .second, .val (.double (own_pc pp ww)), .second, .val (.int (1 : Int32)), .val (.long (70368744177664 : Int64)), .second, .val (.long (9007199254740992 : Int64)), .second, s16, s17] [(.int (1 : Int32))])) (fun t q => XS.iload X8.here hx rfl (hb hby at_227) rfl q) ?_
            refine own_outN X8 hx hlk hret (t := .boolean) (by simp) (hb hby at_229) (w := (1 : Int32)) (by decide) ?_ (by decide) (by decide)
            exact ⟨rfl, (Fr.app (Fr.app (Fr.nil _) (Fr.nil _)) (Fr.nil _))⟩
        · refine own_go (T' := T1) (g' := (mkF m 164 #[.val (.long p1), .second, .val (.long p2), .second, .val (.int p3), .val (.long pp), .second, .val (.long ww), .second, .val (.double (own_pc pp ww)), .second, .val (.int (1 : Int32)), .val (.long (70368744177664 : Int64)), .second, .val (.long (9007199254740992 : Int64)), .second, s16, s17] [])) (fun t q => XS.ifNo X1.here hx rfl (hb hby at_161) rfl ((if0 _ _).trans (feq (fun z => c5 ((own_leq pp (-9223372036854775808 : Int64)).mp z))).1) q) ?_
          refine own_go (T' := T1) (g' := (mkF m 166 #[.val (.long p1), .second, .val (.long p2), .second, .val (.int p3), .val (.long pp), .second, .val (.long ww), .second, .val (.double (own_pc pp ww)), .second, .val (.int (1 : Int32)), .val (.long (70368744177664 : Int64)), .second, .val (.long (9007199254740992 : Int64)), .second, s16, s17] [(.int (1 : Int32))])) (fun t q => XS.iload X1.here hx rfl (hb hby at_164) rfl q) ?_
          have c10 : ¬ ((1 : Int32) = (0 : Int32)) := by decide
          refine own_go (T' := T1) (g' := (mkF m 169 #[.val (.long p1), .second, .val (.long p2), .second, .val (.int p3), .val (.long pp), .second, .val (.long ww), .second, .val (.double (own_pc pp ww)), .second, .val (.int (1 : Int32)), .val (.long (70368744177664 : Int64)), .second, .val (.long (9007199254740992 : Int64)), .second, s16, s17] [])) (fun t q => XS.ifNo X1.here hx rfl (hb hby at_166) rfl ((if0 _ _).trans (feq c10).1) q) ?_
          refine own_go (T' := T1) (g' := (mkF m 171 #[.val (.long p1), .second, .val (.long p2), .second, .val (.int p3), .val (.long pp), .second, .val (.long ww), .second, .val (.double (own_pc pp ww)), .second, .val (.int (1 : Int32)), .val (.long (70368744177664 : Int64)), .second, .val (.long (9007199254740992 : Int64)), .second, s16, s17] [(.long pp)])) (fun t q => XT.lload X1.here hx rfl (hb hby at_169) rfl q) ?_
          refine own_go (T' := T1) (g' := (mkF m 172 #[.val (.long p1), .second, .val (.long p2), .second, .val (.int p3), .val (.long pp), .second, .val (.long ww), .second, .val (.double (own_pc pp ww)), .second, .val (.int (1 : Int32)), .val (.long (70368744177664 : Int64)), .second, .val (.long (9007199254740992 : Int64)), .second, s16, s17] [(.long (-pp))])) (fun t q => XT.lneg X1.here hx rfl (hb hby at_171) rfl q) ?_
          refine own_go (T' := T1) (g' := (mkF m 174 #[.val (.long p1), .second, .val (.long p2), .second, .val (.int p3), .val (.long pp), .second, .val (.long ww), .second, .val (.double (own_pc pp ww)), .second, .val (.int (1 : Int32)), .val (.long (70368744177664 : Int64)), .second, .val (.long (9007199254740992 : Int64)), .second, s16, s17] [(.long ww), (.long (-pp))])) (fun t q => XT.lload X1.here hx rfl (hb hby at_172) rfl q) ?_
          obtain ⟨v11, T11, L11, X11, Q11, st11⟩ := own_callS X1 hx hZ (y := (⟨"org/headwood/service/ScoreSummary", "percent", "(JJ)D"⟩ : MethodName)) (argsL := [(.long (-pp)), (.long ww)]) (rest := []) hown (hw _ (List.mem_of_getElem? (i := 0) rfl)) (hw _ (List.mem_of_getElem? (i := 1) rfl)) (hw _ (List.mem_of_getElem? (i := 2) rfl)) (hw _ (List.mem_of_getElem? (i := 3) rfl)) (rm_pc l Z a0 hw [] (-pp) ww h0) e1 (by decide) (by decide) 0 (by decide) (by decide) (by decide) (g := (mkF m 174 #[.val (.long p1), .second, .val (.long p2), .second, .val (.int p3), .val (.long pp), .second, .val (.long ww), .second, .val (.double (own_pc pp ww)), .second, .val (.int (1 : Int32)), .val (.long (70368744177664 : Int64)), .second, .val (.long (9007199254740992 : Int64)), .second, s16, s17] [(.long ww), (.long (-pp))])) rfl (by rw [hml]; rfl) (lenOf (ps := [.long, .long]) (r := (some .double)) (by decide +kernel) rfl) rfl (by show 2 * 0 + _ ≤ _; exact Nat.le_of_eq rfl) (hb hby at_174)
          obtain ⟨rfl, e11, rfl⟩ := Q11
          refine own_go (T' := T11) (g' := (mkF m 177 #[.val (.long p1), .second, .val (.long p2), .second, .val (.int p3), .val (.long pp), .second, .val (.long ww), .second, .val (.double (own_pc pp ww)), .second, .val (.int (1 : Int32)), .val (.long (70368744177664 : Int64)), .second, .val (.long (9007199254740992 : Int64)), .second, s16, s17] [(.double (own_pc (-pp) ww))])) (fun t q => st11 t q) ?_
          refine own_go (T' := T11) (g' := (mkF m 179 #[.val (.long p1), .second, .val (.long p2), .second, .val (.int p3), .val (.long pp), .second, .val (.long ww), .second, .val (.double (own_pc pp ww)), .second, .val (.int (1 : Int32)), .val (.long (70368744177664 : Int64)), .second, .val (.long (9007199254740992 : Int64)), .second, s16, s17] [(.double (own_pc pp ww)), (.double (own_pc (-pp) ww))])) (fun t q => XS.dload X11.here hx rfl (hb hby at_177) rfl q) ?_
          refine own_go (T' := T11) (g' := (mkF m 180 #[.val (.long p1), .second, .val (.long p2), .second, .val (.int p3), .val (.long pp), .second, .val (.long ww), .second, .val (.double (own_pc pp ww)), .second, .val (.int (1 : Int32)), .val (.long (70368744177664 : Int64)), .second, .val (.long (9007199254740992 : Int64)), .second, s16, s17] [(.double (FP.dneg (own_pc pp ww))), (.double (own_pc (-pp) ww))])) (fun t q => XS.dnegS X11.here hx rfl (hb hby at_179) rfl rfl q) ?_
          refine own_go (T' := T11) (g' := (mkF m 181 #[.val (.long p1), .second, .val (.long p2), .second, .val (.int p3), .val (.long pp), .second, .val (.long ww), .second, .val (.double (own_pc pp ww)), .second, .val (.int (1 : Int32)), .val (.long (70368744177664 : Int64)), .second, .val (.long (9007199254740992 : Int64)), .second, s16, s17] [(.int (0 : Int32))])) (fun t q => XS.dcmpS X11.here hx rfl (hb hby at_180) rfl (own_negp c5) q) ?_
          have c12 : (0 : Int32) = (0 : Int32) := by decide
          refine own_go (T' := T11) (g' := (mkF m 184 #[.val (.long p1), .second, .val (.long p2), .second, .val (.int p3), .val (.long pp), .second, .val (.long ww), .second, .val (.double (own_pc pp ww)), .second, .val (.int (1 : Int32)), .val (.long (70368744177664 : Int64)), .second, .val (.long (9007199254740992 : Int64)), .second, s16, s17] [])) (fun t q => XS.ifNo X11.here hx rfl (hb hby at_181) rfl ((if0 _ _).trans (teq c12).2) q) ?_
          refine own_go (T' := T11) (g' := (mkF m 185 #[.val (.long p1), .second, .val (.long p2), .second, .val (.int p3), .val (.long pp), .second, .val (.long ww), .second, .val (.double (own_pc pp ww)), .second, .val (.int (1 : Int32)), .val (.long (70368744177664 : Int64)), .second, .val (.long (9007199254740992 : Int64)), .second, s16, s17] [(.int (1 : Int32))])) (fun t q => XS.iconst X11.here hx rfl (hb hby at_184) q) ?_
          refine own_go (T' := T11) (g' := (mkF m 189 #[.val (.long p1), .second, .val (.long p2), .second, .val (.int p3), .val (.long pp), .second, .val (.long ww), .second, .val (.double (own_pc pp ww)), .second, .val (.int (1 : Int32)), .val (.long (70368744177664 : Int64)), .second, .val (.long (9007199254740992 : Int64)), .second, s16, s17] [(.int (1 : Int32))])) (fun t q => XS.goto X11.here hx rfl (pc0 := 185) (pc' := 189) rfl (hb hby at_185) (by decide) (by decide) q) ?_
          refine own_go (T' := T11) (g' := (mkF m 191 #[.val (.long p1), .second, .val (.long p2), .second, .val (.int p3), .val (.long pp), .second, .val (.long ww), .second, .val (.double (own_pc pp ww)), .second, .val (.int (1 : Int32)), .val (.long (70368744177664 : Int64)), .second, .val (.long (9007199254740992 : Int64)), .second, s16, s17] [])) (fun t q => XS.istore X11.here hx rfl (hb hby at_189) rfl (l' := #[.val (.long p1), .second, .val (.long p2), .second, .val (.int p3), .val (.long pp), .second, .val (.long ww), .second, .val (.double (own_pc pp ww)), .second, .val (.int (1 : Int32)), .val (.long (70368744177664 : Int64)), .second, .val (.long (9007199254740992 : Int64)), .second, s16, s17]) rfl q) ?_
          refine own_go (T' := T11) (g' := (mkF m 193 #[.val (.long p1), .second, .val (.long p2), .second, .val (.int p3), .val (.long pp), .second, .val (.long ww), .second, .val (.double (own_pc pp ww)), .second, .val (.int (1 : Int32)), .val (.long (70368744177664 : Int64)), .second, .val (.long (9007199254740992 : Int64)), .second, s16, s17] [(.long ww)])) (fun t q => XT.lload X11.here hx rfl (hb hby at_191) rfl q) ?_
          refine own_go (T' := T11) (g' := (mkF m 196 #[.val (.long p1), .second, .val (.long p2), .second, .val (.int p3), .val (.long pp), .second, .val (.long ww), .second, .val (.double (own_pc pp ww)), .second, .val (.int (1 : Int32)), .val (.long (70368744177664 : Int64)), .second, .val (.long (9007199254740992 : Int64)), .second, s16, s17] [(.long (-9223372036854775808 : Int64)), (.long ww)])) (fun t q => X11.ldc2Long hx hown (mvT hZ (hw _ (List.mem_of_getElem? (i := 6) rfl))) (g := (mkF m 193 #[.val (.long p1), .second, .val (.long p2), .second, .val (.int p3), .val (.long pp), .second, .val (.long ww), .second, .val (.double (own_pc pp ww)), .second, .val (.int (1 : Int32)), .val (.long (70368744177664 : Int64)), .second, .val (.long (9007199254740992 : Int64)), .second, s16, s17] [(.long ww)])) rfl (hb hby at_193) t q) ?_
          refine own_go (T' := T11) (g' := (mkF m 197 #[.val (.long p1), .second, .val (.long p2), .second, .val (.int p3), .val (.long pp), .second, .val (.long ww), .second, .val (.double (own_pc pp ww)), .second, .val (.int (1 : Int32)), .val (.long (70368744177664 : Int64)), .second, .val (.long (9007199254740992 : Int64)), .second, s16, s17] [(.int (XT.cmpL ww (-9223372036854775808 : Int64)))])) (fun t q => XT.lcmp X11.here hx rfl (hb hby at_196) rfl q) ?_
          by_cases c13 : ww = (-9223372036854775808 : Int64)
          · refine own_go (T' := T11) (g' := (mkF m 227 #[.val (.long p1), .second, .val (.long p2), .second, .val (.int p3), .val (.long pp), .second, .val (.long ww), .second, .val (.double (own_pc pp ww)), .second, .val (.int (1 : Int32)), .val (.long (70368744177664 : Int64)), .second, .val (.long (9007199254740992 : Int64)), .second, s16, s17] [])) (fun t q => XS.ifYes X11.here hx rfl (pc0 := 197) (pc' := 227) rfl (hb hby at_197) rfl ((if0 _ _).trans (teq ((own_leq ww (-9223372036854775808 : Int64)).mpr c13)).1) (by decide) (by decide) q) ?_
            refine own_go (T' := T11) (g' := (mkF m 229 #[.val (.long p1), .second, .val (.long p2), .second, .val (.int p3), .val (.long pp), .second, .val (.long ww), .second, .val (.double (own_pc pp ww)), .second, .val (.int (1 : Int32)), .val (.long (70368744177664 : Int64)), .second, .val (.long (9007199254740992 : Int64)), .second, s16, s17] [(.int (1 : Int32))])) (fun t q => XS.iload X11.here hx rfl (hb hby at_227) rfl q) ?_
            refine own_outN X11 hx hlk hret (t := .boolean) (by simp) (hb hby at_229) (w := (1 : Int32)) (by decide) ?_ (by decide) (by decide)
            exact ⟨rfl, (Fr.app (Fr.app (Fr.nil _) (Fr.nil _)) (Fr.nil _))⟩
          · refine own_go (T' := T11) (g' := (mkF m 200 #[.val (.long p1), .second, .val (.long p2), .second, .val (.int p3), .val (.long pp), .second, .val (.long ww), .second, .val (.double (own_pc pp ww)), .second, .val (.int (1 : Int32)), .val (.long (70368744177664 : Int64)), .second, .val (.long (9007199254740992 : Int64)), .second, s16, s17] [])) (fun t q => XS.ifNo X11.here hx rfl (hb hby at_197) rfl ((if0 _ _).trans (feq (fun z => c13 ((own_leq ww (-9223372036854775808 : Int64)).mp z))).1) q) ?_
            refine own_go (T' := T11) (g' := (mkF m 202 #[.val (.long p1), .second, .val (.long p2), .second, .val (.int p3), .val (.long pp), .second, .val (.long ww), .second, .val (.double (own_pc pp ww)), .second, .val (.int (1 : Int32)), .val (.long (70368744177664 : Int64)), .second, .val (.long (9007199254740992 : Int64)), .second, s16, s17] [(.int (1 : Int32))])) (fun t q => XS.iload X11.here hx rfl (hb hby at_200) rfl q) ?_
            have c14 : ¬ ((1 : Int32) = (0 : Int32)) := by decide
            refine own_go (T' := T11) (g' := (mkF m 205 #[.val (.long p1), .second, .val (.long p2), .second, .val (.int p3), .val (.long pp), .second, .val (.long ww), .second, .val (.double (own_pc pp ww)), .second, .val (.int (1 : Int32)), .val (.long (70368744177664 : Int64)), .second, .val (.long (9007199254740992 : Int64)), .second, s16, s17] [])) (fun t q => XS.ifNo X11.here hx rfl (hb hby at_202) rfl ((if0 _ _).trans (feq c14).1) q) ?_
            refine own_go (T' := T11) (g' := (mkF m 207 #[.val (.long p1), .second, .val (.long p2), .second, .val (.int p3), .val (.long pp), .second, .val (.long ww), .second, .val (.double (own_pc pp ww)), .second, .val (.int (1 : Int32)), .val (.long (70368744177664 : Int64)), .second, .val (.long (9007199254740992 : Int64)), .second, s16, s17] [(.long pp)])) (fun t q => XT.lload X11.here hx rfl (hb hby at_205) rfl q) ?_
            refine own_go (T' := T11) (g' := (mkF m 209 #[.val (.long p1), .second, .val (.long p2), .second, .val (.int p3), .val (.long pp), .second, .val (.long ww), .second, .val (.double (own_pc pp ww)), .second, .val (.int (1 : Int32)), .val (.long (70368744177664 : Int64)), .second, .val (.long (9007199254740992 : Int64)), .second, s16, s17] [(.long ww), (.long pp)])) (fun t q => XT.lload X11.here hx rfl (hb hby at_207) rfl q) ?_
            refine own_go (T' := T11) (g' := (mkF m 210 #[.val (.long p1), .second, .val (.long p2), .second, .val (.int p3), .val (.long pp), .second, .val (.long ww), .second, .val (.double (own_pc pp ww)), .second, .val (.int (1 : Int32)), .val (.long (70368744177664 : Int64)), .second, .val (.long (9007199254740992 : Int64)), .second, s16, s17] [(.long (-ww)), (.long pp)])) (fun t q => XT.lneg X11.here hx rfl (hb hby at_209) rfl q) ?_
            obtain ⟨v15, T15, L15, X15, Q15, st15⟩ := own_callS X11 hx hZ (y := (⟨"org/headwood/service/ScoreSummary", "percent", "(JJ)D"⟩ : MethodName)) (argsL := [(.long pp), (.long (-ww))]) (rest := []) hown (hw _ (List.mem_of_getElem? (i := 0) rfl)) (hw _ (List.mem_of_getElem? (i := 1) rfl)) (hw _ (List.mem_of_getElem? (i := 2) rfl)) (hw _ (List.mem_of_getElem? (i := 3) rfl)) (rm_pc l Z a0 hw [] pp (-ww) h0) e11 (by decide) (by decide) 0 (by decide) (by decide) (by decide) (g := (mkF m 210 #[.val (.long p1), .second, .val (.long p2), .second, .val (.int p3), .val (.long pp), .second, .val (.long ww), .second, .val (.double (own_pc pp ww)), .second, .val (.int (1 : Int32)), .val (.long (70368744177664 : Int64)), .second, .val (.long (9007199254740992 : Int64)), .second, s16, s17] [(.long (-ww)), (.long pp)])) rfl (by rw [hml]; rfl) (lenOf (ps := [.long, .long]) (r := (some .double)) (by decide +kernel) rfl) rfl (by show 2 * 0 + _ ≤ _; exact Nat.le_of_eq rfl) (hb hby at_210)
            obtain ⟨rfl, e15, rfl⟩ := Q15
            refine own_go (T' := T15) (g' := (mkF m 213 #[.val (.long p1), .second, .val (.long p2), .second, .val (.int p3), .val (.long pp), .second, .val (.long ww), .second, .val (.double (own_pc pp ww)), .second, .val (.int (1 : Int32)), .val (.long (70368744177664 : Int64)), .second, .val (.long (9007199254740992 : Int64)), .second, s16, s17] [(.double (own_pc pp (-ww)))])) (fun t q => st15 t q) ?_
            refine own_go (T' := T15) (g' := (mkF m 215 #[.val (.long p1), .second, .val (.long p2), .second, .val (.int p3), .val (.long pp), .second, .val (.long ww), .second, .val (.double (own_pc pp ww)), .second, .val (.int (1 : Int32)), .val (.long (70368744177664 : Int64)), .second, .val (.long (9007199254740992 : Int64)), .second, s16, s17] [(.double (own_pc pp ww)), (.double (own_pc pp (-ww)))])) (fun t q => XS.dload X15.here hx rfl (hb hby at_213) rfl q) ?_
            refine own_go (T' := T15) (g' := (mkF m 216 #[.val (.long p1), .second, .val (.long p2), .second, .val (.int p3), .val (.long pp), .second, .val (.long ww), .second, .val (.double (own_pc pp ww)), .second, .val (.int (1 : Int32)), .val (.long (70368744177664 : Int64)), .second, .val (.long (9007199254740992 : Int64)), .second, s16, s17] [(.double (FP.dneg (own_pc pp ww))), (.double (own_pc pp (-ww)))])) (fun t q => XS.dnegS X15.here hx rfl (hb hby at_215) rfl rfl q) ?_
            refine own_go (T' := T15) (g' := (mkF m 217 #[.val (.long p1), .second, .val (.long p2), .second, .val (.int p3), .val (.long pp), .second, .val (.long ww), .second, .val (.double (own_pc pp ww)), .second, .val (.int (1 : Int32)), .val (.long (70368744177664 : Int64)), .second, .val (.long (9007199254740992 : Int64)), .second, s16, s17] [(.int (0 : Int32))])) (fun t q => XS.dcmpS X15.here hx rfl (hb hby at_216) rfl (own_negw c13) q) ?_
            have c16 : (0 : Int32) = (0 : Int32) := by decide
            refine own_go (T' := T15) (g' := (mkF m 220 #[.val (.long p1), .second, .val (.long p2), .second, .val (.int p3), .val (.long pp), .second, .val (.long ww), .second, .val (.double (own_pc pp ww)), .second, .val (.int (1 : Int32)), .val (.long (70368744177664 : Int64)), .second, .val (.long (9007199254740992 : Int64)), .second, s16, s17] [])) (fun t q => XS.ifNo X15.here hx rfl (hb hby at_217) rfl ((if0 _ _).trans (teq c16).2) q) ?_
            refine own_go (T' := T15) (g' := (mkF m 221 #[.val (.long p1), .second, .val (.long p2), .second, .val (.int p3), .val (.long pp), .second, .val (.long ww), .second, .val (.double (own_pc pp ww)), .second, .val (.int (1 : Int32)), .val (.long (70368744177664 : Int64)), .second, .val (.long (9007199254740992 : Int64)), .second, s16, s17] [(.int (1 : Int32))])) (fun t q => XS.iconst X15.here hx rfl (hb hby at_220) q) ?_
            refine own_go (T' := T15) (g' := (mkF m 225 #[.val (.long p1), .second, .val (.long p2), .second, .val (.int p3), .val (.long pp), .second, .val (.long ww), .second, .val (.double (own_pc pp ww)), .second, .val (.int (1 : Int32)), .val (.long (70368744177664 : Int64)), .second, .val (.long (9007199254740992 : Int64)), .second, s16, s17] [(.int (1 : Int32))])) (fun t q => XS.goto X15.here hx rfl (pc0 := 221) (pc' := 225) rfl (hb hby at_221) (by decide) (by decide) q) ?_
            refine own_go (T' := T15) (g' := (mkF m 227 #[.val (.long p1), .second, .val (.long p2), .second, .val (.int p3), .val (.long pp), .second, .val (.long ww), .second, .val (.double (own_pc pp ww)), .second, .val (.int (1 : Int32)), .val (.long (70368744177664 : Int64)), .second, .val (.long (9007199254740992 : Int64)), .second, s16, s17] [])) (fun t q => XS.istore X15.here hx rfl (hb hby at_225) rfl (l' := #[.val (.long p1), .second, .val (.long p2), .second, .val (.int p3), .val (.long pp), .second, .val (.long ww), .second, .val (.double (own_pc pp ww)), .second, .val (.int (1 : Int32)), .val (.long (70368744177664 : Int64)), .second, .val (.long (9007199254740992 : Int64)), .second, s16, s17]) rfl q) ?_
            refine own_go (T' := T15) (g' := (mkF m 229 #[.val (.long p1), .second, .val (.long p2), .second, .val (.int p3), .val (.long pp), .second, .val (.long ww), .second, .val (.double (own_pc pp ww)), .second, .val (.int (1 : Int32)), .val (.long (70368744177664 : Int64)), .second, .val (.long (9007199254740992 : Int64)), .second, s16, s17] [(.int (1 : Int32))])) (fun t q => XS.iload X15.here hx rfl (hb hby at_227) rfl q) ?_
            refine own_outN X15 hx hlk hret (t := .boolean) (by simp) (hb hby at_229) (w := (1 : Int32)) (by decide) ?_ (by decide) (by decide)
            exact ⟨rfl, (Fr.app (Fr.app (Fr.app (Fr.nil _) (Fr.nil _)) (Fr.nil _)) (Fr.nil _))⟩
      · refine own_go (T' := T1) (g' := (mkF m 155 #[.val (.long p1), .second, .val (.long p2), .second, .val (.int p3), .val (.long pp), .second, .val (.long ww), .second, .val (.double (own_pc pp ww)), .second, .val (.int (1 : Int32)), .val (.long (70368744177664 : Int64)), .second, .val (.long (9007199254740992 : Int64)), .second, s16, s17] [])) (fun t q => XS.ifYes X1.here hx rfl (pc0 := 133) (pc' := 155) rfl (hb hby at_133) rfl ((if0 _ _).trans (feq (fun z => c2 ((own_leq ww (0 : Int64)).mp z))).2) (by decide) (by decide) q) ?_
        refine own_go (T' := T1) (g' := (mkF m 157 #[.val (.long p1), .second, .val (.long p2), .second, .val (.int p3), .val (.long pp), .second, .val (.long ww), .second, .val (.double (own_pc pp ww)), .second, .val (.int (1 : Int32)), .val (.long (70368744177664 : Int64)), .second, .val (.long (9007199254740992 : Int64)), .second, s16, s17] [(.long pp)])) (fun t q => XT.lload X1.here hx rfl (hb hby at_155) rfl q) ?_
        refine own_go (T' := T1) (g' := (mkF m 160 #[.val (.long p1), .second, .val (.long p2), .second, .val (.int p3), .val (.long pp), .second, .val (.long ww), .second, .val (.double (own_pc pp ww)), .second, .val (.int (1 : Int32)), .val (.long (70368744177664 : Int64)), .second, .val (.long (9007199254740992 : Int64)), .second, s16, s17] [(.long (-9223372036854775808 : Int64)), (.long pp)])) (fun t q => X1.ldc2Long hx hown (mvT hZ (hw _ (List.mem_of_getElem? (i := 6) rfl))) (g := (mkF m 157 #[.val (.long p1), .second, .val (.long p2), .second, .val (.int p3), .val (.long pp), .second, .val (.long ww), .second, .val (.double (own_pc pp ww)), .second, .val (.int (1 : Int32)), .val (.long (70368744177664 : Int64)), .second, .val (.long (9007199254740992 : Int64)), .second, s16, s17] [(.long pp)])) rfl (hb hby at_157) t q) ?_
        refine own_go (T' := T1) (g' := (mkF m 161 #[.val (.long p1), .second, .val (.long p2), .second, .val (.int p3), .val (.long pp), .second, .val (.long ww), .second, .val (.double (own_pc pp ww)), .second, .val (.int (1 : Int32)), .val (.long (70368744177664 : Int64)), .second, .val (.long (9007199254740992 : Int64)), .second, s16, s17] [(.int (XT.cmpL pp (-9223372036854775808 : Int64)))])) (fun t q => XT.lcmp X1.here hx rfl (hb hby at_160) rfl q) ?_
        by_cases c17 : pp = (-9223372036854775808 : Int64)
        · refine own_go (T' := T1) (g' := (mkF m 191 #[.val (.long p1), .second, .val (.long p2), .second, .val (.int p3), .val (.long pp), .second, .val (.long ww), .second, .val (.double (own_pc pp ww)), .second, .val (.int (1 : Int32)), .val (.long (70368744177664 : Int64)), .second, .val (.long (9007199254740992 : Int64)), .second, s16, s17] [])) (fun t q => XS.ifYes X1.here hx rfl (pc0 := 161) (pc' := 191) rfl (hb hby at_161) rfl ((if0 _ _).trans (teq ((own_leq pp (-9223372036854775808 : Int64)).mpr c17)).1) (by decide) (by decide) q) ?_
          refine own_go (T' := T1) (g' := (mkF m 193 #[.val (.long p1), .second, .val (.long p2), .second, .val (.int p3), .val (.long pp), .second, .val (.long ww), .second, .val (.double (own_pc pp ww)), .second, .val (.int (1 : Int32)), .val (.long (70368744177664 : Int64)), .second, .val (.long (9007199254740992 : Int64)), .second, s16, s17] [(.long ww)])) (fun t q => XT.lload X1.here hx rfl (hb hby at_191) rfl q) ?_
          refine own_go (T' := T1) (g' := (mkF m 196 #[.val (.long p1), .second, .val (.long p2), .second, .val (.int p3), .val (.long pp), .second, .val (.long ww), .second, .val (.double (own_pc pp ww)), .second, .val (.int (1 : Int32)), .val (.long (70368744177664 : Int64)), .second, .val (.long (9007199254740992 : Int64)), .second, s16, s17] [(.long (-9223372036854775808 : Int64)), (.long ww)])) (fun t q => X1.ldc2Long hx hown (mvT hZ (hw _ (List.mem_of_getElem? (i := 6) rfl))) (g := (mkF m 193 #[.val (.long p1), .second, .val (.long p2), .second, .val (.int p3), .val (.long pp), .second, .val (.long ww), .second, .val (.double (own_pc pp ww)), .second, .val (.int (1 : Int32)), .val (.long (70368744177664 : Int64)), .second, .val (.long (9007199254740992 : Int64)), .second, s16, s17] [(.long ww)])) rfl (hb hby at_193) t q) ?_
          refine own_go (T' := T1) (g' := (mkF m 197 #[.val (.long p1), .second, .val (.long p2), .second, .val (.int p3), .val (.long pp), .second, .val (.long ww), .second, .val (.double (own_pc pp ww)), .second, .val (.int (1 : Int32)), .val (.long (70368744177664 : Int64)), .second, .val (.long (9007199254740992 : Int64)), .second, s16, s17] [(.int (XT.cmpL ww (-9223372036854775808 : Int64)))])) (fun t q => XT.lcmp X1.here hx rfl (hb hby at_196) rfl q) ?_
          by_cases c18 : ww = (-9223372036854775808 : Int64)
          · refine own_go (T' := T1) (g' := (mkF m 227 #[.val (.long p1), .second, .val (.long p2), .second, .val (.int p3), .val (.long pp), .second, .val (.long ww), .second, .val (.double (own_pc pp ww)), .second, .val (.int (1 : Int32)), .val (.long (70368744177664 : Int64)), .second, .val (.long (9007199254740992 : Int64)), .second, s16, s17] [])) (fun t q => XS.ifYes X1.here hx rfl (pc0 := 197) (pc' := 227) rfl (hb hby at_197) rfl ((if0 _ _).trans (teq ((own_leq ww (-9223372036854775808 : Int64)).mpr c18)).1) (by decide) (by decide) q) ?_
            refine own_go (T' := T1) (g' := (mkF m 229 #[.val (.long p1), .second, .val (.long p2), .second, .val (.int p3), .val (.long pp), .second, .val (.long ww), .second, .val (.double (own_pc pp ww)), .second, .val (.int (1 : Int32)), .val (.long (70368744177664 : Int64)), .second, .val (.long (9007199254740992 : Int64)), .second, s16, s17] [(.int (1 : Int32))])) (fun t q => XS.iload X1.here hx rfl (hb hby at_227) rfl q) ?_
            refine own_outN X1 hx hlk hret (t := .boolean) (by simp) (hb hby at_229) (w := (1 : Int32)) (by decide) ?_ (by decide) (by decide)
            exact ⟨rfl, (Fr.app (Fr.nil _) (Fr.nil _))⟩
          · refine own_go (T' := T1) (g' := (mkF m 200 #[.val (.long p1), .second, .val (.long p2), .second, .val (.int p3), .val (.long pp), .second, .val (.long ww), .second, .val (.double (own_pc pp ww)), .second, .val (.int (1 : Int32)), .val (.long (70368744177664 : Int64)), .second, .val (.long (9007199254740992 : Int64)), .second, s16, s17] [])) (fun t q => XS.ifNo X1.here hx rfl (hb hby at_197) rfl ((if0 _ _).trans (feq (fun z => c18 ((own_leq ww (-9223372036854775808 : Int64)).mp z))).1) q) ?_
            refine own_go (T' := T1) (g' := (mkF m 202 #[.val (.long p1), .second, .val (.long p2), .second, .val (.int p3), .val (.long pp), .second, .val (.long ww), .second, .val (.double (own_pc pp ww)), .second, .val (.int (1 : Int32)), .val (.long (70368744177664 : Int64)), .second, .val (.long (9007199254740992 : Int64)), .second, s16, s17] [(.int (1 : Int32))])) (fun t q => XS.iload X1.here hx rfl (hb hby at_200) rfl q) ?_
            have c19 : ¬ ((1 : Int32) = (0 : Int32)) := by decide
            refine own_go (T' := T1) (g' := (mkF m 205 #[.val (.long p1), .second, .val (.long p2), .second, .val (.int p3), .val (.long pp), .second, .val (.long ww), .second, .val (.double (own_pc pp ww)), .second, .val (.int (1 : Int32)), .val (.long (70368744177664 : Int64)), .second, .val (.long (9007199254740992 : Int64)), .second, s16, s17] [])) (fun t q => XS.ifNo X1.here hx rfl (hb hby at_202) rfl ((if0 _ _).trans (feq c19).1) q) ?_
            refine own_go (T' := T1) (g' := (mkF m 207 #[.val (.long p1), .second, .val (.long p2), .second, .val (.int p3), .val (.long pp), .second, .val (.long ww), .second, .val (.double (own_pc pp ww)), .second, .val (.int (1 : Int32)), .val (.long (70368744177664 : Int64)), .second, .val (.long (9007199254740992 : Int64)), .second, s16, s17] [(.long pp)])) (fun t q => XT.lload X1.here hx rfl (hb hby at_205) rfl q) ?_
            refine own_go (T' := T1) (g' := (mkF m 209 #[.val (.long p1), .second, .val (.long p2), .second, .val (.int p3), .val (.long pp), .second, .val (.long ww), .second, .val (.double (own_pc pp ww)), .second, .val (.int (1 : Int32)), .val (.long (70368744177664 : Int64)), .second, .val (.long (9007199254740992 : Int64)), .second, s16, s17] [(.long ww), (.long pp)])) (fun t q => XT.lload X1.here hx rfl (hb hby at_207) rfl q) ?_
            refine own_go (T' := T1) (g' := (mkF m 210 #[.val (.long p1), .second, .val (.long p2), .second, .val (.int p3), .val (.long pp), .second, .val (.long ww), .second, .val (.double (own_pc pp ww)), .second, .val (.int (1 : Int32)), .val (.long (70368744177664 : Int64)), .second, .val (.long (9007199254740992 : Int64)), .second, s16, s17] [(.long (-ww)), (.long pp)])) (fun t q => XT.lneg X1.here hx rfl (hb hby at_209) rfl q) ?_
            obtain ⟨v20, T20, L20, X20, Q20, st20⟩ := own_callS X1 hx hZ (y := (⟨"org/headwood/service/ScoreSummary", "percent", "(JJ)D"⟩ : MethodName)) (argsL := [(.long pp), (.long (-ww))]) (rest := []) hown (hw _ (List.mem_of_getElem? (i := 0) rfl)) (hw _ (List.mem_of_getElem? (i := 1) rfl)) (hw _ (List.mem_of_getElem? (i := 2) rfl)) (hw _ (List.mem_of_getElem? (i := 3) rfl)) (rm_pc l Z a0 hw [] pp (-ww) h0) e1 (by decide) (by decide) 0 (by decide) (by decide) (by decide) (g := (mkF m 210 #[.val (.long p1), .second, .val (.long p2), .second, .val (.int p3), .val (.long pp), .second, .val (.long ww), .second, .val (.double (own_pc pp ww)), .second, .val (.int (1 : Int32)), .val (.long (70368744177664 : Int64)), .second, .val (.long (9007199254740992 : Int64)), .second, s16, s17] [(.long (-ww)), (.long pp)])) rfl (by rw [hml]; rfl) (lenOf (ps := [.long, .long]) (r := (some .double)) (by decide +kernel) rfl) rfl (by show 2 * 0 + _ ≤ _; exact Nat.le_of_eq rfl) (hb hby at_210)
            obtain ⟨rfl, e20, rfl⟩ := Q20
            refine own_go (T' := T20) (g' := (mkF m 213 #[.val (.long p1), .second, .val (.long p2), .second, .val (.int p3), .val (.long pp), .second, .val (.long ww), .second, .val (.double (own_pc pp ww)), .second, .val (.int (1 : Int32)), .val (.long (70368744177664 : Int64)), .second, .val (.long (9007199254740992 : Int64)), .second, s16, s17] [(.double (own_pc pp (-ww)))])) (fun t q => st20 t q) ?_
            refine own_go (T' := T20) (g' := (mkF m 215 #[.val (.long p1), .second, .val (.long p2), .second, .val (.int p3), .val (.long pp), .second, .val (.long ww), .second, .val (.double (own_pc pp ww)), .second, .val (.int (1 : Int32)), .val (.long (70368744177664 : Int64)), .second, .val (.long (9007199254740992 : Int64)), .second, s16, s17] [(.double (own_pc pp ww)), (.double (own_pc pp (-ww)))])) (fun t q => XS.dload X20.here hx rfl (hb hby at_213) rfl q) ?_
            refine own_go (T' := T20) (g' := (mkF m 216 #[.val (.long p1), .second, .val (.long p2), .second, .val (.int p3), .val (.long pp), .second, .val (.long ww), .second, .val (.double (own_pc pp ww)), .second, .val (.int (1 : Int32)), .val (.long (70368744177664 : Int64)), .second, .val (.long (9007199254740992 : Int64)), .second, s16, s17] [(.double (FP.dneg (own_pc pp ww))), (.double (own_pc pp (-ww)))])) (fun t q => XS.dnegS X20.here hx rfl (hb hby at_215) rfl rfl q) ?_
            refine own_go (T' := T20) (g' := (mkF m 217 #[.val (.long p1), .second, .val (.long p2), .second, .val (.int p3), .val (.long pp), .second, .val (.long ww), .second, .val (.double (own_pc pp ww)), .second, .val (.int (1 : Int32)), .val (.long (70368744177664 : Int64)), .second, .val (.long (9007199254740992 : Int64)), .second, s16, s17] [(.int (0 : Int32))])) (fun t q => XS.dcmpS X20.here hx rfl (hb hby at_216) rfl (own_negw c18) q) ?_
            have c21 : (0 : Int32) = (0 : Int32) := by decide
            refine own_go (T' := T20) (g' := (mkF m 220 #[.val (.long p1), .second, .val (.long p2), .second, .val (.int p3), .val (.long pp), .second, .val (.long ww), .second, .val (.double (own_pc pp ww)), .second, .val (.int (1 : Int32)), .val (.long (70368744177664 : Int64)), .second, .val (.long (9007199254740992 : Int64)), .second, s16, s17] [])) (fun t q => XS.ifNo X20.here hx rfl (hb hby at_217) rfl ((if0 _ _).trans (teq c21).2) q) ?_
            refine own_go (T' := T20) (g' := (mkF m 221 #[.val (.long p1), .second, .val (.long p2), .second, .val (.int p3), .val (.long pp), .second, .val (.long ww), .second, .val (.double (own_pc pp ww)), .second, .val (.int (1 : Int32)), .val (.long (70368744177664 : Int64)), .second, .val (.long (9007199254740992 : Int64)), .second, s16, s17] [(.int (1 : Int32))])) (fun t q => XS.iconst X20.here hx rfl (hb hby at_220) q) ?_
            refine own_go (T' := T20) (g' := (mkF m 225 #[.val (.long p1), .second, .val (.long p2), .second, .val (.int p3), .val (.long pp), .second, .val (.long ww), .second, .val (.double (own_pc pp ww)), .second, .val (.int (1 : Int32)), .val (.long (70368744177664 : Int64)), .second, .val (.long (9007199254740992 : Int64)), .second, s16, s17] [(.int (1 : Int32))])) (fun t q => XS.goto X20.here hx rfl (pc0 := 221) (pc' := 225) rfl (hb hby at_221) (by decide) (by decide) q) ?_
            refine own_go (T' := T20) (g' := (mkF m 227 #[.val (.long p1), .second, .val (.long p2), .second, .val (.int p3), .val (.long pp), .second, .val (.long ww), .second, .val (.double (own_pc pp ww)), .second, .val (.int (1 : Int32)), .val (.long (70368744177664 : Int64)), .second, .val (.long (9007199254740992 : Int64)), .second, s16, s17] [])) (fun t q => XS.istore X20.here hx rfl (hb hby at_225) rfl (l' := #[.val (.long p1), .second, .val (.long p2), .second, .val (.int p3), .val (.long pp), .second, .val (.long ww), .second, .val (.double (own_pc pp ww)), .second, .val (.int (1 : Int32)), .val (.long (70368744177664 : Int64)), .second, .val (.long (9007199254740992 : Int64)), .second, s16, s17]) rfl q) ?_
            refine own_go (T' := T20) (g' := (mkF m 229 #[.val (.long p1), .second, .val (.long p2), .second, .val (.int p3), .val (.long pp), .second, .val (.long ww), .second, .val (.double (own_pc pp ww)), .second, .val (.int (1 : Int32)), .val (.long (70368744177664 : Int64)), .second, .val (.long (9007199254740992 : Int64)), .second, s16, s17] [(.int (1 : Int32))])) (fun t q => XS.iload X20.here hx rfl (hb hby at_227) rfl q) ?_
            refine own_outN X20 hx hlk hret (t := .boolean) (by simp) (hb hby at_229) (w := (1 : Int32)) (by decide) ?_ (by decide) (by decide)
            exact ⟨rfl, (Fr.app (Fr.app (Fr.nil _) (Fr.nil _)) (Fr.nil _))⟩
        · refine own_go (T' := T1) (g' := (mkF m 164 #[.val (.long p1), .second, .val (.long p2), .second, .val (.int p3), .val (.long pp), .second, .val (.long ww), .second, .val (.double (own_pc pp ww)), .second, .val (.int (1 : Int32)), .val (.long (70368744177664 : Int64)), .second, .val (.long (9007199254740992 : Int64)), .second, s16, s17] [])) (fun t q => XS.ifNo X1.here hx rfl (hb hby at_161) rfl ((if0 _ _).trans (feq (fun z => c17 ((own_leq pp (-9223372036854775808 : Int64)).mp z))).1) q) ?_
          refine own_go (T' := T1) (g' := (mkF m 166 #[.val (.long p1), .second, .val (.long p2), .second, .val (.int p3), .val (.long pp), .second, .val (.long ww), .second, .val (.double (own_pc pp ww)), .second, .val (.int (1 : Int32)), .val (.long (70368744177664 : Int64)), .second, .val (.long (9007199254740992 : Int64)), .second, s16, s17] [(.int (1 : Int32))])) (fun t q => XS.iload X1.here hx rfl (hb hby at_164) rfl q) ?_
          have c22 : ¬ ((1 : Int32) = (0 : Int32)) := by decide
          refine own_go (T' := T1) (g' := (mkF m 169 #[.val (.long p1), .second, .val (.long p2), .second, .val (.int p3), .val (.long pp), .second, .val (.long ww), .second, .val (.double (own_pc pp ww)), .second, .val (.int (1 : Int32)), .val (.long (70368744177664 : Int64)), .second, .val (.long (9007199254740992 : Int64)), .second, s16, s17] [])) (fun t q => XS.ifNo X1.here hx rfl (hb hby at_166) rfl ((if0 _ _).trans (feq c22).1) q) ?_
          refine own_go (T' := T1) (g' := (mkF m 171 #[.val (.long p1), .second, .val (.long p2), .second, .val (.int p3), .val (.long pp), .second, .val (.long ww), .second, .val (.double (own_pc pp ww)), .second, .val (.int (1 : Int32)), .val (.long (70368744177664 : Int64)), .second, .val (.long (9007199254740992 : Int64)), .second, s16, s17] [(.long pp)])) (fun t q => XT.lload X1.here hx rfl (hb hby at_169) rfl q) ?_
          refine own_go (T' := T1) (g' := (mkF m 172 #[.val (.long p1), .second, .val (.long p2), .second, .val (.int p3), .val (.long pp), .second, .val (.long ww), .second, .val (.double (own_pc pp ww)), .second, .val (.int (1 : Int32)), .val (.long (70368744177664 : Int64)), .second, .val (.long (9007199254740992 : Int64)), .second, s16, s17] [(.long (-pp))])) (fun t q => XT.lneg X1.here hx rfl (hb hby at_171) rfl q) ?_
          refine own_go (T' := T1) (g' := (mkF m 174 #[.val (.long p1), .second, .val (.long p2), .second, .val (.int p3), .val (.long pp), .second, .val (.long ww), .second, .val (.double (own_pc pp ww)), .second, .val (.int (1 : Int32)), .val (.long (70368744177664 : Int64)), .second, .val (.long (9007199254740992 : Int64)), .second, s16, s17] [(.long ww), (.long (-pp))])) (fun t q => XT.lload X1.here hx rfl (hb hby at_172) rfl q) ?_
          obtain ⟨v23, T23, L23, X23, Q23, st23⟩ := own_callS X1 hx hZ (y := (⟨"org/headwood/service/ScoreSummary", "percent", "(JJ)D"⟩ : MethodName)) (argsL := [(.long (-pp)), (.long ww)]) (rest := []) hown (hw _ (List.mem_of_getElem? (i := 0) rfl)) (hw _ (List.mem_of_getElem? (i := 1) rfl)) (hw _ (List.mem_of_getElem? (i := 2) rfl)) (hw _ (List.mem_of_getElem? (i := 3) rfl)) (rm_pc l Z a0 hw [] (-pp) ww h0) e1 (by decide) (by decide) 0 (by decide) (by decide) (by decide) (g := (mkF m 174 #[.val (.long p1), .second, .val (.long p2), .second, .val (.int p3), .val (.long pp), .second, .val (.long ww), .second, .val (.double (own_pc pp ww)), .second, .val (.int (1 : Int32)), .val (.long (70368744177664 : Int64)), .second, .val (.long (9007199254740992 : Int64)), .second, s16, s17] [(.long ww), (.long (-pp))])) rfl (by rw [hml]; rfl) (lenOf (ps := [.long, .long]) (r := (some .double)) (by decide +kernel) rfl) rfl (by show 2 * 0 + _ ≤ _; exact Nat.le_of_eq rfl) (hb hby at_174)
          obtain ⟨rfl, e23, rfl⟩ := Q23
          refine own_go (T' := T23) (g' := (mkF m 177 #[.val (.long p1), .second, .val (.long p2), .second, .val (.int p3), .val (.long pp), .second, .val (.long ww), .second, .val (.double (own_pc pp ww)), .second, .val (.int (1 : Int32)), .val (.long (70368744177664 : Int64)), .second, .val (.long (9007199254740992 : Int64)), .second, s16, s17] [(.double (own_pc (-pp) ww))])) (fun t q => st23 t q) ?_
          refine own_go (T' := T23) (g' := (mkF m 179 #[.val (.long p1), .second, .val (.long p2), .second, .val (.int p3), .val (.long pp), .second, .val (.long ww), .second, .val (.double (own_pc pp ww)), .second, .val (.int (1 : Int32)), .val (.long (70368744177664 : Int64)), .second, .val (.long (9007199254740992 : Int64)), .second, s16, s17] [(.double (own_pc pp ww)), (.double (own_pc (-pp) ww))])) (fun t q => XS.dload X23.here hx rfl (hb hby at_177) rfl q) ?_
          refine own_go (T' := T23) (g' := (mkF m 180 #[.val (.long p1), .second, .val (.long p2), .second, .val (.int p3), .val (.long pp), .second, .val (.long ww), .second, .val (.double (own_pc pp ww)), .second, .val (.int (1 : Int32)), .val (.long (70368744177664 : Int64)), .second, .val (.long (9007199254740992 : Int64)), .second, s16, s17] [(.double (FP.dneg (own_pc pp ww))), (.double (own_pc (-pp) ww))])) (fun t q => XS.dnegS X23.here hx rfl (hb hby at_179) rfl rfl q) ?_
          refine own_go (T' := T23) (g' := (mkF m 181 #[.val (.long p1), .second, .val (.long p2), .second, .val (.int p3), .val (.long pp), .second, .val (.long ww), .second, .val (.double (own_pc pp ww)), .second, .val (.int (1 : Int32)), .val (.long (70368744177664 : Int64)), .second, .val (.long (9007199254740992 : Int64)), .second, s16, s17] [(.int (0 : Int32))])) (fun t q => XS.dcmpS X23.here hx rfl (hb hby at_180) rfl (own_negp c17) q) ?_
          have c24 : (0 : Int32) = (0 : Int32) := by decide
          refine own_go (T' := T23) (g' := (mkF m 184 #[.val (.long p1), .second, .val (.long p2), .second, .val (.int p3), .val (.long pp), .second, .val (.long ww), .second, .val (.double (own_pc pp ww)), .second, .val (.int (1 : Int32)), .val (.long (70368744177664 : Int64)), .second, .val (.long (9007199254740992 : Int64)), .second, s16, s17] [])) (fun t q => XS.ifNo X23.here hx rfl (hb hby at_181) rfl ((if0 _ _).trans (teq c24).2) q) ?_
          refine own_go (T' := T23) (g' := (mkF m 185 #[.val (.long p1), .second, .val (.long p2), .second, .val (.int p3), .val (.long pp), .second, .val (.long ww), .second, .val (.double (own_pc pp ww)), .second, .val (.int (1 : Int32)), .val (.long (70368744177664 : Int64)), .second, .val (.long (9007199254740992 : Int64)), .second, s16, s17] [(.int (1 : Int32))])) (fun t q => XS.iconst X23.here hx rfl (hb hby at_184) q) ?_
          refine own_go (T' := T23) (g' := (mkF m 189 #[.val (.long p1), .second, .val (.long p2), .second, .val (.int p3), .val (.long pp), .second, .val (.long ww), .second, .val (.double (own_pc pp ww)), .second, .val (.int (1 : Int32)), .val (.long (70368744177664 : Int64)), .second, .val (.long (9007199254740992 : Int64)), .second, s16, s17] [(.int (1 : Int32))])) (fun t q => XS.goto X23.here hx rfl (pc0 := 185) (pc' := 189) rfl (hb hby at_185) (by decide) (by decide) q) ?_
          refine own_go (T' := T23) (g' := (mkF m 191 #[.val (.long p1), .second, .val (.long p2), .second, .val (.int p3), .val (.long pp), .second, .val (.long ww), .second, .val (.double (own_pc pp ww)), .second, .val (.int (1 : Int32)), .val (.long (70368744177664 : Int64)), .second, .val (.long (9007199254740992 : Int64)), .second, s16, s17] [])) (fun t q => XS.istore X23.here hx rfl (hb hby at_189) rfl (l' := #[.val (.long p1), .second, .val (.long p2), .second, .val (.int p3), .val (.long pp), .second, .val (.long ww), .second, .val (.double (own_pc pp ww)), .second, .val (.int (1 : Int32)), .val (.long (70368744177664 : Int64)), .second, .val (.long (9007199254740992 : Int64)), .second, s16, s17]) rfl q) ?_
          refine own_go (T' := T23) (g' := (mkF m 193 #[.val (.long p1), .second, .val (.long p2), .second, .val (.int p3), .val (.long pp), .second, .val (.long ww), .second, .val (.double (own_pc pp ww)), .second, .val (.int (1 : Int32)), .val (.long (70368744177664 : Int64)), .second, .val (.long (9007199254740992 : Int64)), .second, s16, s17] [(.long ww)])) (fun t q => XT.lload X23.here hx rfl (hb hby at_191) rfl q) ?_
          refine own_go (T' := T23) (g' := (mkF m 196 #[.val (.long p1), .second, .val (.long p2), .second, .val (.int p3), .val (.long pp), .second, .val (.long ww), .second, .val (.double (own_pc pp ww)), .second, .val (.int (1 : Int32)), .val (.long (70368744177664 : Int64)), .second, .val (.long (9007199254740992 : Int64)), .second, s16, s17] [(.long (-9223372036854775808 : Int64)), (.long ww)])) (fun t q => X23.ldc2Long hx hown (mvT hZ (hw _ (List.mem_of_getElem? (i := 6) rfl))) (g := (mkF m 193 #[.val (.long p1), .second, .val (.long p2), .second, .val (.int p3), .val (.long pp), .second, .val (.long ww), .second, .val (.double (own_pc pp ww)), .second, .val (.int (1 : Int32)), .val (.long (70368744177664 : Int64)), .second, .val (.long (9007199254740992 : Int64)), .second, s16, s17] [(.long ww)])) rfl (hb hby at_193) t q) ?_
          refine own_go (T' := T23) (g' := (mkF m 197 #[.val (.long p1), .second, .val (.long p2), .second, .val (.int p3), .val (.long pp), .second, .val (.long ww), .second, .val (.double (own_pc pp ww)), .second, .val (.int (1 : Int32)), .val (.long (70368744177664 : Int64)), .second, .val (.long (9007199254740992 : Int64)), .second, s16, s17] [(.int (XT.cmpL ww (-9223372036854775808 : Int64)))])) (fun t q => XT.lcmp X23.here hx rfl (hb hby at_196) rfl q) ?_
          by_cases c25 : ww = (-9223372036854775808 : Int64)
          · refine own_go (T' := T23) (g' := (mkF m 227 #[.val (.long p1), .second, .val (.long p2), .second, .val (.int p3), .val (.long pp), .second, .val (.long ww), .second, .val (.double (own_pc pp ww)), .second, .val (.int (1 : Int32)), .val (.long (70368744177664 : Int64)), .second, .val (.long (9007199254740992 : Int64)), .second, s16, s17] [])) (fun t q => XS.ifYes X23.here hx rfl (pc0 := 197) (pc' := 227) rfl (hb hby at_197) rfl ((if0 _ _).trans (teq ((own_leq ww (-9223372036854775808 : Int64)).mpr c25)).1) (by decide) (by decide) q) ?_
            refine own_go (T' := T23) (g' := (mkF m 229 #[.val (.long p1), .second, .val (.long p2), .second, .val (.int p3), .val (.long pp), .second, .val (.long ww), .second, .val (.double (own_pc pp ww)), .second, .val (.int (1 : Int32)), .val (.long (70368744177664 : Int64)), .second, .val (.long (9007199254740992 : Int64)), .second, s16, s17] [(.int (1 : Int32))])) (fun t q => XS.iload X23.here hx rfl (hb hby at_227) rfl q) ?_
            refine own_outN X23 hx hlk hret (t := .boolean) (by simp) (hb hby at_229) (w := (1 : Int32)) (by decide) ?_ (by decide) (by decide)
            exact ⟨rfl, (Fr.app (Fr.app (Fr.nil _) (Fr.nil _)) (Fr.nil _))⟩
          · refine own_go (T' := T23) (g' := (mkF m 200 #[.val (.long p1), .second, .val (.long p2), .second, .val (.int p3), .val (.long pp), .second, .val (.long ww), .second, .val (.double (own_pc pp ww)), .second, .val (.int (1 : Int32)), .val (.long (70368744177664 : Int64)), .second, .val (.long (9007199254740992 : Int64)), .second, s16, s17] [])) (fun t q => XS.ifNo X23.here hx rfl (hb hby at_197) rfl ((if0 _ _).trans (feq (fun z => c25 ((own_leq ww (-9223372036854775808 : Int64)).mp z))).1) q) ?_
            refine own_go (T' := T23) (g' := (mkF m 202 #[.val (.long p1), .second, .val (.long p2), .second, .val (.int p3), .val (.long pp), .second, .val (.long ww), .second, .val (.double (own_pc pp ww)), .second, .val (.int (1 : Int32)), .val (.long (70368744177664 : Int64)), .second, .val (.long (9007199254740992 : Int64)), .second, s16, s17] [(.int (1 : Int32))])) (fun t q => XS.iload X23.here hx rfl (hb hby at_200) rfl q) ?_
            have c26 : ¬ ((1 : Int32) = (0 : Int32)) := by decide
            refine own_go (T' := T23) (g' := (mkF m 205 #[.val (.long p1), .second, .val (.long p2), .second, .val (.int p3), .val (.long pp), .second, .val (.long ww), .second, .val (.double (own_pc pp ww)), .second, .val (.int (1 : Int32)), .val (.long (70368744177664 : Int64)), .second, .val (.long (9007199254740992 : Int64)), .second, s16, s17] [])) (fun t q => XS.ifNo X23.here hx rfl (hb hby at_202) rfl ((if0 _ _).trans (feq c26).1) q) ?_
            refine own_go (T' := T23) (g' := (mkF m 207 #[.val (.long p1), .second, .val (.long p2), .second, .val (.int p3), .val (.long pp), .second, .val (.long ww), .second, .val (.double (own_pc pp ww)), .second, .val (.int (1 : Int32)), .val (.long (70368744177664 : Int64)), .second, .val (.long (9007199254740992 : Int64)), .second, s16, s17] [(.long pp)])) (fun t q => XT.lload X23.here hx rfl (hb hby at_205) rfl q) ?_
            refine own_go (T' := T23) (g' := (mkF m 209 #[.val (.long p1), .second, .val (.long p2), .second, .val (.int p3), .val (.long pp), .second, .val (.long ww), .second, .val (.double (own_pc pp ww)), .second, .val (.int (1 : Int32)), .val (.long (70368744177664 : Int64)), .second, .val (.long (9007199254740992 : Int64)), .second, s16, s17] [(.long ww), (.long pp)])) (fun t q => XT.lload X23.here hx rfl (hb hby at_207) rfl q) ?_
            refine own_go (T' := T23) (g' := (mkF m 210 #[.val (.long p1), .second, .val (.long p2), .second, .val (.int p3), .val (.long pp), .second, .val (.long ww), .second, .val (.double (own_pc pp ww)), .second, .val (.int (1 : Int32)), .val (.long (70368744177664 : Int64)), .second, .val (.long (9007199254740992 : Int64)), .second, s16, s17] [(.long (-ww)), (.long pp)])) (fun t q => XT.lneg X23.here hx rfl (hb hby at_209) rfl q) ?_
            obtain ⟨v27, T27, L27, X27, Q27, st27⟩ := own_callS X23 hx hZ (y := (⟨"org/headwood/service/ScoreSummary", "percent", "(JJ)D"⟩ : MethodName)) (argsL := [(.long pp), (.long (-ww))]) (rest := []) hown (hw _ (List.mem_of_getElem? (i := 0) rfl)) (hw _ (List.mem_of_getElem? (i := 1) rfl)) (hw _ (List.mem_of_getElem? (i := 2) rfl)) (hw _ (List.mem_of_getElem? (i := 3) rfl)) (rm_pc l Z a0 hw [] pp (-ww) h0) e23 (by decide) (by decide) 0 (by decide) (by decide) (by decide) (g := (mkF m 210 #[.val (.long p1), .second, .val (.long p2), .second, .val (.int p3), .val (.long pp), .second, .val (.long ww), .second, .val (.double (own_pc pp ww)), .second, .val (.int (1 : Int32)), .val (.long (70368744177664 : Int64)), .second, .val (.long (9007199254740992 : Int64)), .second, s16, s17] [(.long (-ww)), (.long pp)])) rfl (by rw [hml]; rfl) (lenOf (ps := [.long, .long]) (r := (some .double)) (by decide +kernel) rfl) rfl (by show 2 * 0 + _ ≤ _; exact Nat.le_of_eq rfl) (hb hby at_210)
            obtain ⟨rfl, e27, rfl⟩ := Q27
            refine own_go (T' := T27) (g' := (mkF m 213 #[.val (.long p1), .second, .val (.long p2), .second, .val (.int p3), .val (.long pp), .second, .val (.long ww), .second, .val (.double (own_pc pp ww)), .second, .val (.int (1 : Int32)), .val (.long (70368744177664 : Int64)), .second, .val (.long (9007199254740992 : Int64)), .second, s16, s17] [(.double (own_pc pp (-ww)))])) (fun t q => st27 t q) ?_
            refine own_go (T' := T27) (g' := (mkF m 215 #[.val (.long p1), .second, .val (.long p2), .second, .val (.int p3), .val (.long pp), .second, .val (.long ww), .second, .val (.double (own_pc pp ww)), .second, .val (.int (1 : Int32)), .val (.long (70368744177664 : Int64)), .second, .val (.long (9007199254740992 : Int64)), .second, s16, s17] [(.double (own_pc pp ww)), (.double (own_pc pp (-ww)))])) (fun t q => XS.dload X27.here hx rfl (hb hby at_213) rfl q) ?_
            refine own_go (T' := T27) (g' := (mkF m 216 #[.val (.long p1), .second, .val (.long p2), .second, .val (.int p3), .val (.long pp), .second, .val (.long ww), .second, .val (.double (own_pc pp ww)), .second, .val (.int (1 : Int32)), .val (.long (70368744177664 : Int64)), .second, .val (.long (9007199254740992 : Int64)), .second, s16, s17] [(.double (FP.dneg (own_pc pp ww))), (.double (own_pc pp (-ww)))])) (fun t q => XS.dnegS X27.here hx rfl (hb hby at_215) rfl rfl q) ?_
            refine own_go (T' := T27) (g' := (mkF m 217 #[.val (.long p1), .second, .val (.long p2), .second, .val (.int p3), .val (.long pp), .second, .val (.long ww), .second, .val (.double (own_pc pp ww)), .second, .val (.int (1 : Int32)), .val (.long (70368744177664 : Int64)), .second, .val (.long (9007199254740992 : Int64)), .second, s16, s17] [(.int (0 : Int32))])) (fun t q => XS.dcmpS X27.here hx rfl (hb hby at_216) rfl (own_negw c25) q) ?_
            have c28 : (0 : Int32) = (0 : Int32) := by decide
            refine own_go (T' := T27) (g' := (mkF m 220 #[.val (.long p1), .second, .val (.long p2), .second, .val (.int p3), .val (.long pp), .second, .val (.long ww), .second, .val (.double (own_pc pp ww)), .second, .val (.int (1 : Int32)), .val (.long (70368744177664 : Int64)), .second, .val (.long (9007199254740992 : Int64)), .second, s16, s17] [])) (fun t q => XS.ifNo X27.here hx rfl (hb hby at_217) rfl ((if0 _ _).trans (teq c28).2) q) ?_
            refine own_go (T' := T27) (g' := (mkF m 221 #[.val (.long p1), .second, .val (.long p2), .second, .val (.int p3), .val (.long pp), .second, .val (.long ww), .second, .val (.double (own_pc pp ww)), .second, .val (.int (1 : Int32)), .val (.long (70368744177664 : Int64)), .second, .val (.long (9007199254740992 : Int64)), .second, s16, s17] [(.int (1 : Int32))])) (fun t q => XS.iconst X27.here hx rfl (hb hby at_220) q) ?_
            refine own_go (T' := T27) (g' := (mkF m 225 #[.val (.long p1), .second, .val (.long p2), .second, .val (.int p3), .val (.long pp), .second, .val (.long ww), .second, .val (.double (own_pc pp ww)), .second, .val (.int (1 : Int32)), .val (.long (70368744177664 : Int64)), .second, .val (.long (9007199254740992 : Int64)), .second, s16, s17] [(.int (1 : Int32))])) (fun t q => XS.goto X27.here hx rfl (pc0 := 221) (pc' := 225) rfl (hb hby at_221) (by decide) (by decide) q) ?_
            refine own_go (T' := T27) (g' := (mkF m 227 #[.val (.long p1), .second, .val (.long p2), .second, .val (.int p3), .val (.long pp), .second, .val (.long ww), .second, .val (.double (own_pc pp ww)), .second, .val (.int (1 : Int32)), .val (.long (70368744177664 : Int64)), .second, .val (.long (9007199254740992 : Int64)), .second, s16, s17] [])) (fun t q => XS.istore X27.here hx rfl (hb hby at_225) rfl (l' := #[.val (.long p1), .second, .val (.long p2), .second, .val (.int p3), .val (.long pp), .second, .val (.long ww), .second, .val (.double (own_pc pp ww)), .second, .val (.int (1 : Int32)), .val (.long (70368744177664 : Int64)), .second, .val (.long (9007199254740992 : Int64)), .second, s16, s17]) rfl q) ?_
            refine own_go (T' := T27) (g' := (mkF m 229 #[.val (.long p1), .second, .val (.long p2), .second, .val (.int p3), .val (.long pp), .second, .val (.long ww), .second, .val (.double (own_pc pp ww)), .second, .val (.int (1 : Int32)), .val (.long (70368744177664 : Int64)), .second, .val (.long (9007199254740992 : Int64)), .second, s16, s17] [(.int (1 : Int32))])) (fun t q => XS.iload X27.here hx rfl (hb hby at_227) rfl q) ?_
            refine own_outN X27 hx hlk hret (t := .boolean) (by simp) (hb hby at_229) (w := (1 : Int32)) (by decide) ?_ (by decide) (by decide)
            exact ⟨rfl, (Fr.app (Fr.app (Fr.app (Fr.nil _) (Fr.nil _)) (Fr.nil _)) (Fr.nil _))⟩
    refine own_go (T' := T1) (g' := (mkF m 58 #[.val (.long p1), .second, .val (.long p2), .second, .val (.int p3), .val (.long pp), .second, .val (.long ww), .second, .val (.double (own_pc pp ww)), .second, .val (.int (1 : Int32)), .val (.long (70368744177664 : Int64)), .second, .val (.long (9007199254740992 : Int64)), .second, .unset, .unset] [(.long pp)])) (fun t q => XT.lload X1.here hx rfl (hb hby at_56) rfl q) ?_
    refine own_go (T' := T1) (g' := (mkF m 60 #[.val (.long p1), .second, .val (.long p2), .second, .val (.int p3), .val (.long pp), .second, .val (.long ww), .second, .val (.double (own_pc pp ww)), .second, .val (.int (1 : Int32)), .val (.long (70368744177664 : Int64)), .second, .val (.long (9007199254740992 : Int64)), .second, .unset, .unset] [(.long (70368744177664 : Int64)), (.long pp)])) (fun t q => XT.lload X1.here hx rfl (hb hby at_58) rfl q) ?_
    refine own_go (T' := T1) (g' := (mkF m 61 #[.val (.long p1), .second, .val (.long p2), .second, .val (.int p3), .val (.long pp), .second, .val (.long ww), .second, .val (.double (own_pc pp ww)), .second, .val (.int (1 : Int32)), .val (.long (70368744177664 : Int64)), .second, .val (.long (9007199254740992 : Int64)), .second, .unset, .unset] [(.long (-(70368744177664 : Int64))), (.long pp)])) (fun t q => XT.lneg X1.here hx rfl (hb hby at_60) rfl q) ?_
    refine own_go (T' := T1) (g' := (mkF m 62 #[.val (.long p1), .second, .val (.long p2), .second, .val (.int p3), .val (.long pp), .second, .val (.long ww), .second, .val (.double (own_pc pp ww)), .second, .val (.int (1 : Int32)), .val (.long (70368744177664 : Int64)), .second, .val (.long (9007199254740992 : Int64)), .second, .unset, .unset] [(.int (XT.cmpL pp (-(70368744177664 : Int64))))])) (fun t q => XT.lcmp X1.here hx rfl (hb hby at_61) rfl q) ?_
    by_cases c29 : pp < (-(70368744177664 : Int64))
    · refine own_go (T' := T1) (g' := (mkF m 129 #[.val (.long p1), .second, .val (.long p2), .second, .val (.int p3), .val (.long pp), .second, .val (.long ww), .second, .val (.double (own_pc pp ww)), .second, .val (.int (1 : Int32)), .val (.long (70368744177664 : Int64)), .second, .val (.long (9007199254740992 : Int64)), .second, .unset, .unset] [])) (fun t q => XS.ifYes X1.here hx rfl (pc0 := 62) (pc' := 129) rfl (hb hby at_62) rfl ((if0 _ _).trans (tlt ((own_llt pp (-(70368744177664 : Int64))).mpr c29)).1) (by decide) (by decide) q) ?_
      exact tail2 _ _
    · refine own_go (T' := T1) (g' := (mkF m 65 #[.val (.long p1), .second, .val (.long p2), .second, .val (.int p3), .val (.long pp), .second, .val (.long ww), .second, .val (.double (own_pc pp ww)), .second, .val (.int (1 : Int32)), .val (.long (70368744177664 : Int64)), .second, .val (.long (9007199254740992 : Int64)), .second, .unset, .unset] [])) (fun t q => XS.ifNo X1.here hx rfl (hb hby at_62) rfl ((if0 _ _).trans (flt (fun z => c29 ((own_llt pp (-(70368744177664 : Int64))).mp z))).1) q) ?_
      refine own_go (T' := T1) (g' := (mkF m 67 #[.val (.long p1), .second, .val (.long p2), .second, .val (.int p3), .val (.long pp), .second, .val (.long ww), .second, .val (.double (own_pc pp ww)), .second, .val (.int (1 : Int32)), .val (.long (70368744177664 : Int64)), .second, .val (.long (9007199254740992 : Int64)), .second, .unset, .unset] [(.long pp)])) (fun t q => XT.lload X1.here hx rfl (hb hby at_65) rfl q) ?_
      refine own_go (T' := T1) (g' := (mkF m 69 #[.val (.long p1), .second, .val (.long p2), .second, .val (.int p3), .val (.long pp), .second, .val (.long ww), .second, .val (.double (own_pc pp ww)), .second, .val (.int (1 : Int32)), .val (.long (70368744177664 : Int64)), .second, .val (.long (9007199254740992 : Int64)), .second, .unset, .unset] [(.long (70368744177664 : Int64)), (.long pp)])) (fun t q => XT.lload X1.here hx rfl (hb hby at_67) rfl q) ?_
      refine own_go (T' := T1) (g' := (mkF m 70 #[.val (.long p1), .second, .val (.long p2), .second, .val (.int p3), .val (.long pp), .second, .val (.long ww), .second, .val (.double (own_pc pp ww)), .second, .val (.int (1 : Int32)), .val (.long (70368744177664 : Int64)), .second, .val (.long (9007199254740992 : Int64)), .second, .unset, .unset] [(.int (XT.cmpL pp (70368744177664 : Int64)))])) (fun t q => XT.lcmp X1.here hx rfl (hb hby at_69) rfl q) ?_
      by_cases c30 : (70368744177664 : Int64) < pp
      · refine own_go (T' := T1) (g' := (mkF m 129 #[.val (.long p1), .second, .val (.long p2), .second, .val (.int p3), .val (.long pp), .second, .val (.long ww), .second, .val (.double (own_pc pp ww)), .second, .val (.int (1 : Int32)), .val (.long (70368744177664 : Int64)), .second, .val (.long (9007199254740992 : Int64)), .second, .unset, .unset] [])) (fun t q => XS.ifYes X1.here hx rfl (pc0 := 70) (pc' := 129) rfl (hb hby at_70) rfl ((if0 _ _).trans (tlt ((own_lgt pp (70368744177664 : Int64)).mpr c30)).2.2.1) (by decide) (by decide) q) ?_
        exact tail2 _ _
      · refine own_go (T' := T1) (g' := (mkF m 73 #[.val (.long p1), .second, .val (.long p2), .second, .val (.int p3), .val (.long pp), .second, .val (.long ww), .second, .val (.double (own_pc pp ww)), .second, .val (.int (1 : Int32)), .val (.long (70368744177664 : Int64)), .second, .val (.long (9007199254740992 : Int64)), .second, .unset, .unset] [])) (fun t q => XS.ifNo X1.here hx rfl (hb hby at_70) rfl ((if0 _ _).trans (flt (fun z => c30 ((own_lgt pp (70368744177664 : Int64)).mp z))).2.2.1) q) ?_
        refine own_go (T' := T1) (g' := (mkF m 75 #[.val (.long p1), .second, .val (.long p2), .second, .val (.int p3), .val (.long pp), .second, .val (.long ww), .second, .val (.double (own_pc pp ww)), .second, .val (.int (1 : Int32)), .val (.long (70368744177664 : Int64)), .second, .val (.long (9007199254740992 : Int64)), .second, .unset, .unset] [(.long ww)])) (fun t q => XT.lload X1.here hx rfl (hb hby at_73) rfl q) ?_
        refine own_go (T' := T1) (g' := (mkF m 77 #[.val (.long p1), .second, .val (.long p2), .second, .val (.int p3), .val (.long pp), .second, .val (.long ww), .second, .val (.double (own_pc pp ww)), .second, .val (.int (1 : Int32)), .val (.long (70368744177664 : Int64)), .second, .val (.long (9007199254740992 : Int64)), .second, .unset, .unset] [(.long (9007199254740992 : Int64)), (.long ww)])) (fun t q => XT.lload X1.here hx rfl (hb hby at_75) rfl q) ?_
        refine own_go (T' := T1) (g' := (mkF m 78 #[.val (.long p1), .second, .val (.long p2), .second, .val (.int p3), .val (.long pp), .second, .val (.long ww), .second, .val (.double (own_pc pp ww)), .second, .val (.int (1 : Int32)), .val (.long (70368744177664 : Int64)), .second, .val (.long (9007199254740992 : Int64)), .second, .unset, .unset] [(.long (-(9007199254740992 : Int64))), (.long ww)])) (fun t q => XT.lneg X1.here hx rfl (hb hby at_77) rfl q) ?_
        refine own_go (T' := T1) (g' := (mkF m 79 #[.val (.long p1), .second, .val (.long p2), .second, .val (.int p3), .val (.long pp), .second, .val (.long ww), .second, .val (.double (own_pc pp ww)), .second, .val (.int (1 : Int32)), .val (.long (70368744177664 : Int64)), .second, .val (.long (9007199254740992 : Int64)), .second, .unset, .unset] [(.int (XT.cmpL ww (-(9007199254740992 : Int64))))])) (fun t q => XT.lcmp X1.here hx rfl (hb hby at_78) rfl q) ?_
        by_cases c31 : ww < (-(9007199254740992 : Int64))
        · refine own_go (T' := T1) (g' := (mkF m 129 #[.val (.long p1), .second, .val (.long p2), .second, .val (.int p3), .val (.long pp), .second, .val (.long ww), .second, .val (.double (own_pc pp ww)), .second, .val (.int (1 : Int32)), .val (.long (70368744177664 : Int64)), .second, .val (.long (9007199254740992 : Int64)), .second, .unset, .unset] [])) (fun t q => XS.ifYes X1.here hx rfl (pc0 := 79) (pc' := 129) rfl (hb hby at_79) rfl ((if0 _ _).trans (tlt ((own_llt ww (-(9007199254740992 : Int64))).mpr c31)).1) (by decide) (by decide) q) ?_
          exact tail2 _ _
        · refine own_go (T' := T1) (g' := (mkF m 82 #[.val (.long p1), .second, .val (.long p2), .second, .val (.int p3), .val (.long pp), .second, .val (.long ww), .second, .val (.double (own_pc pp ww)), .second, .val (.int (1 : Int32)), .val (.long (70368744177664 : Int64)), .second, .val (.long (9007199254740992 : Int64)), .second, .unset, .unset] [])) (fun t q => XS.ifNo X1.here hx rfl (hb hby at_79) rfl ((if0 _ _).trans (flt (fun z => c31 ((own_llt ww (-(9007199254740992 : Int64))).mp z))).1) q) ?_
          refine own_go (T' := T1) (g' := (mkF m 84 #[.val (.long p1), .second, .val (.long p2), .second, .val (.int p3), .val (.long pp), .second, .val (.long ww), .second, .val (.double (own_pc pp ww)), .second, .val (.int (1 : Int32)), .val (.long (70368744177664 : Int64)), .second, .val (.long (9007199254740992 : Int64)), .second, .unset, .unset] [(.long ww)])) (fun t q => XT.lload X1.here hx rfl (hb hby at_82) rfl q) ?_
          refine own_go (T' := T1) (g' := (mkF m 86 #[.val (.long p1), .second, .val (.long p2), .second, .val (.int p3), .val (.long pp), .second, .val (.long ww), .second, .val (.double (own_pc pp ww)), .second, .val (.int (1 : Int32)), .val (.long (70368744177664 : Int64)), .second, .val (.long (9007199254740992 : Int64)), .second, .unset, .unset] [(.long (9007199254740992 : Int64)), (.long ww)])) (fun t q => XT.lload X1.here hx rfl (hb hby at_84) rfl q) ?_
          refine own_go (T' := T1) (g' := (mkF m 87 #[.val (.long p1), .second, .val (.long p2), .second, .val (.int p3), .val (.long pp), .second, .val (.long ww), .second, .val (.double (own_pc pp ww)), .second, .val (.int (1 : Int32)), .val (.long (70368744177664 : Int64)), .second, .val (.long (9007199254740992 : Int64)), .second, .unset, .unset] [(.int (XT.cmpL ww (9007199254740992 : Int64)))])) (fun t q => XT.lcmp X1.here hx rfl (hb hby at_86) rfl q) ?_
          by_cases c32 : (9007199254740992 : Int64) < ww
          · refine own_go (T' := T1) (g' := (mkF m 129 #[.val (.long p1), .second, .val (.long p2), .second, .val (.int p3), .val (.long pp), .second, .val (.long ww), .second, .val (.double (own_pc pp ww)), .second, .val (.int (1 : Int32)), .val (.long (70368744177664 : Int64)), .second, .val (.long (9007199254740992 : Int64)), .second, .unset, .unset] [])) (fun t q => XS.ifYes X1.here hx rfl (pc0 := 87) (pc' := 129) rfl (hb hby at_87) rfl ((if0 _ _).trans (tlt ((own_lgt ww (9007199254740992 : Int64)).mpr c32)).2.2.1) (by decide) (by decide) q) ?_
            exact tail2 _ _
          · refine own_go (T' := T1) (g' := (mkF m 90 #[.val (.long p1), .second, .val (.long p2), .second, .val (.int p3), .val (.long pp), .second, .val (.long ww), .second, .val (.double (own_pc pp ww)), .second, .val (.int (1 : Int32)), .val (.long (70368744177664 : Int64)), .second, .val (.long (9007199254740992 : Int64)), .second, .unset, .unset] [])) (fun t q => XS.ifNo X1.here hx rfl (hb hby at_87) rfl ((if0 _ _).trans (flt (fun z => c32 ((own_lgt ww (9007199254740992 : Int64)).mp z))).2.2.1) q) ?_
            refine own_go (T' := T1) (g' := (mkF m 92 #[.val (.long p1), .second, .val (.long p2), .second, .val (.int p3), .val (.long pp), .second, .val (.long ww), .second, .val (.double (own_pc pp ww)), .second, .val (.int (1 : Int32)), .val (.long (70368744177664 : Int64)), .second, .val (.long (9007199254740992 : Int64)), .second, .unset, .unset] [(.long ww)])) (fun t q => XT.lload X1.here hx rfl (hb hby at_90) rfl q) ?_
            refine own_go (T' := T1) (g' := (mkF m 93 #[.val (.long p1), .second, .val (.long p2), .second, .val (.int p3), .val (.long pp), .second, .val (.long ww), .second, .val (.double (own_pc pp ww)), .second, .val (.int (1 : Int32)), .val (.long (70368744177664 : Int64)), .second, .val (.long (9007199254740992 : Int64)), .second, .unset, .unset] [(.long (0 : Int64)), (.long ww)])) (fun t q => XT.lconst X1.here hx rfl (hb hby at_92) q) ?_
            refine own_go (T' := T1) (g' := (mkF m 94 #[.val (.long p1), .second, .val (.long p2), .second, .val (.int p3), .val (.long pp), .second, .val (.long ww), .second, .val (.double (own_pc pp ww)), .second, .val (.int (1 : Int32)), .val (.long (70368744177664 : Int64)), .second, .val (.long (9007199254740992 : Int64)), .second, .unset, .unset] [(.int (XT.cmpL ww (0 : Int64)))])) (fun t q => XT.lcmp X1.here hx rfl (hb hby at_93) rfl q) ?_
            by_cases c33 : ww = (0 : Int64)
            · refine own_go (T' := T1) (g' := (mkF m 97 #[.val (.long p1), .second, .val (.long p2), .second, .val (.int p3), .val (.long pp), .second, .val (.long ww), .second, .val (.double (own_pc pp ww)), .second, .val (.int (1 : Int32)), .val (.long (70368744177664 : Int64)), .second, .val (.long (9007199254740992 : Int64)), .second, .unset, .unset] [])) (fun t q => XS.ifNo X1.here hx rfl (hb hby at_94) rfl ((if0 _ _).trans (teq ((own_leq ww (0 : Int64)).mpr c33)).2) q) ?_
              refine own_go (T' := T1) (g' := (mkF m 98 #[.val (.long p1), .second, .val (.long p2), .second, .val (.int p3), .val (.long pp), .second, .val (.long ww), .second, .val (.double (own_pc pp ww)), .second, .val (.int (1 : Int32)), .val (.long (70368744177664 : Int64)), .second, .val (.long (9007199254740992 : Int64)), .second, .unset, .unset] [(.double (FP.dconst0))])) (fun t q => XS.dconst0 X1.here hx rfl (hb hby at_97) rfl q) ?_
              refine own_go (T' := T1) (g' := (mkF m 112 #[.val (.long p1), .second, .val (.long p2), .second, .val (.int p3), .val (.long pp), .second, .val (.long ww), .second, .val (.double (own_pc pp ww)), .second, .val (.int (1 : Int32)), .val (.long (70368744177664 : Int64)), .second, .val (.long (9007199254740992 : Int64)), .second, .unset, .unset] [(.double (FP.dconst0))])) (fun t q => XS.goto X1.here hx rfl (pc0 := 98) (pc' := 112) rfl (hb hby at_98) (by decide) (by decide) q) ?_
              refine own_go (T' := T1) (g' := (mkF m 114 #[.val (.long p1), .second, .val (.long p2), .second, .val (.int p3), .val (.long pp), .second, .val (.long ww), .second, .val (.double (own_pc pp ww)), .second, .val (.int (1 : Int32)), .val (.long (70368744177664 : Int64)), .second, .val (.long (9007199254740992 : Int64)), .second, .val (.double (FP.dconst0)), .second] [])) (fun t q => XS.dstore X1.here hx rfl (hb hby at_112) rfl (l' := #[.val (.long p1), .second, .val (.long p2), .second, .val (.int p3), .val (.long pp), .second, .val (.long ww), .second, .val (.double (own_pc pp ww)), .second, .val (.int (1 : Int32)), .val (.long (70368744177664 : Int64)), .second, .val (.long (9007199254740992 : Int64)), .second, .val (.double (FP.dconst0)), .second]) rfl q) ?_
              refine own_go (T' := T1) (g' := (mkF m 116 #[.val (.long p1), .second, .val (.long p2), .second, .val (.int p3), .val (.long pp), .second, .val (.long ww), .second, .val (.double (own_pc pp ww)), .second, .val (.int (1 : Int32)), .val (.long (70368744177664 : Int64)), .second, .val (.long (9007199254740992 : Int64)), .second, .val (.double (FP.dconst0)), .second] [(.double (own_pc pp ww))])) (fun t q => XS.dload X1.here hx rfl (hb hby at_114) rfl q) ?_
              refine own_go (T' := T1) (g' := (mkF m 118 #[.val (.long p1), .second, .val (.long p2), .second, .val (.int p3), .val (.long pp), .second, .val (.long ww), .second, .val (.double (own_pc pp ww)), .second, .val (.int (1 : Int32)), .val (.long (70368744177664 : Int64)), .second, .val (.long (9007199254740992 : Int64)), .second, .val (.double (FP.dconst0)), .second] [(.double (FP.dconst0)), (.double (own_pc pp ww))])) (fun t q => XS.dload X1.here hx rfl (hb hby at_116) rfl q) ?_
              refine own_go (T' := T1) (g' := (mkF m 119 #[.val (.long p1), .second, .val (.long p2), .second, .val (.int p3), .val (.long pp), .second, .val (.long ww), .second, .val (.double (own_pc pp ww)), .second, .val (.int (1 : Int32)), .val (.long (70368744177664 : Int64)), .second, .val (.long (9007199254740992 : Int64)), .second, .val (.double (FP.dconst0)), .second] [(.int (0 : Int32))])) (fun t q => XS.dcmpS X1.here hx rfl (hb hby at_118) rfl (dcmpV_eq (if_pos c33) (own_npc _ _) _) q) ?_
              have c34 : (0 : Int32) = (0 : Int32) := by decide
              refine own_go (T' := T1) (g' := (mkF m 122 #[.val (.long p1), .second, .val (.long p2), .second, .val (.int p3), .val (.long pp), .second, .val (.long ww), .second, .val (.double (own_pc pp ww)), .second, .val (.int (1 : Int32)), .val (.long (70368744177664 : Int64)), .second, .val (.long (9007199254740992 : Int64)), .second, .val (.double (FP.dconst0)), .second] [])) (fun t q => XS.ifNo X1.here hx rfl (hb hby at_119) rfl ((if0 _ _).trans (teq c34).2) q) ?_
              refine own_go (T' := T1) (g' := (mkF m 123 #[.val (.long p1), .second, .val (.long p2), .second, .val (.int p3), .val (.long pp), .second, .val (.long ww), .second, .val (.double (own_pc pp ww)), .second, .val (.int (1 : Int32)), .val (.long (70368744177664 : Int64)), .second, .val (.long (9007199254740992 : Int64)), .second, .val (.double (FP.dconst0)), .second] [(.int (1 : Int32))])) (fun t q => XS.iconst X1.here hx rfl (hb hby at_122) q) ?_
              refine own_go (T' := T1) (g' := (mkF m 127 #[.val (.long p1), .second, .val (.long p2), .second, .val (.int p3), .val (.long pp), .second, .val (.long ww), .second, .val (.double (own_pc pp ww)), .second, .val (.int (1 : Int32)), .val (.long (70368744177664 : Int64)), .second, .val (.long (9007199254740992 : Int64)), .second, .val (.double (FP.dconst0)), .second] [(.int (1 : Int32))])) (fun t q => XS.goto X1.here hx rfl (pc0 := 123) (pc' := 127) rfl (hb hby at_123) (by decide) (by decide) q) ?_
              refine own_go (T' := T1) (g' := (mkF m 129 #[.val (.long p1), .second, .val (.long p2), .second, .val (.int p3), .val (.long pp), .second, .val (.long ww), .second, .val (.double (own_pc pp ww)), .second, .val (.int (1 : Int32)), .val (.long (70368744177664 : Int64)), .second, .val (.long (9007199254740992 : Int64)), .second, .val (.double (FP.dconst0)), .second] [])) (fun t q => XS.istore X1.here hx rfl (hb hby at_127) rfl (l' := #[.val (.long p1), .second, .val (.long p2), .second, .val (.int p3), .val (.long pp), .second, .val (.long ww), .second, .val (.double (own_pc pp ww)), .second, .val (.int (1 : Int32)), .val (.long (70368744177664 : Int64)), .second, .val (.long (9007199254740992 : Int64)), .second, .val (.double (FP.dconst0)), .second]) rfl q) ?_
              exact tail2 _ _
            · refine own_go (T' := T1) (g' := (mkF m 101 #[.val (.long p1), .second, .val (.long p2), .second, .val (.int p3), .val (.long pp), .second, .val (.long ww), .second, .val (.double (own_pc pp ww)), .second, .val (.int (1 : Int32)), .val (.long (70368744177664 : Int64)), .second, .val (.long (9007199254740992 : Int64)), .second, .unset, .unset] [])) (fun t q => XS.ifYes X1.here hx rfl (pc0 := 94) (pc' := 101) rfl (hb hby at_94) rfl ((if0 _ _).trans (feq (fun z => c33 ((own_leq ww (0 : Int64)).mp z))).2) (by decide) (by decide) q) ?_
              refine own_go (T' := T1) (g' := (mkF m 104 #[.val (.long p1), .second, .val (.long p2), .second, .val (.int p3), .val (.long pp), .second, .val (.long ww), .second, .val (.double (own_pc pp ww)), .second, .val (.int (1 : Int32)), .val (.long (70368744177664 : Int64)), .second, .val (.long (9007199254740992 : Int64)), .second, .unset, .unset] [(.long (100 : Int64))])) (fun t q => X1.ldc2Long hx hown (mvT hZ (hw _ (List.mem_of_getElem? (i := 8) rfl))) (g := (mkF m 101 #[.val (.long p1), .second, .val (.long p2), .second, .val (.int p3), .val (.long pp), .second, .val (.long ww), .second, .val (.double (own_pc pp ww)), .second, .val (.int (1 : Int32)), .val (.long (70368744177664 : Int64)), .second, .val (.long (9007199254740992 : Int64)), .second, .unset, .unset] [])) rfl (hb hby at_101) t q) ?_
              refine own_go (T' := T1) (g' := (mkF m 106 #[.val (.long p1), .second, .val (.long p2), .second, .val (.int p3), .val (.long pp), .second, .val (.long ww), .second, .val (.double (own_pc pp ww)), .second, .val (.int (1 : Int32)), .val (.long (70368744177664 : Int64)), .second, .val (.long (9007199254740992 : Int64)), .second, .unset, .unset] [(.long pp), (.long (100 : Int64))])) (fun t q => XT.lload X1.here hx rfl (hb hby at_104) rfl q) ?_
              refine own_go (T' := T1) (g' := (mkF m 107 #[.val (.long p1), .second, .val (.long p2), .second, .val (.int p3), .val (.long pp), .second, .val (.long ww), .second, .val (.double (own_pc pp ww)), .second, .val (.int (1 : Int32)), .val (.long (70368744177664 : Int64)), .second, .val (.long (9007199254740992 : Int64)), .second, .unset, .unset] [(.long ((100 : Int64) * pp))])) (fun t q => XT.lmul X1.here hx rfl (hb hby at_106) rfl q) ?_
              refine own_go (T' := T1) (g' := (mkF m 108 #[.val (.long p1), .second, .val (.long p2), .second, .val (.int p3), .val (.long pp), .second, .val (.long ww), .second, .val (.double (own_pc pp ww)), .second, .val (.int (1 : Int32)), .val (.long (70368744177664 : Int64)), .second, .val (.long (9007199254740992 : Int64)), .second, .unset, .unset] [(.double (FP.l2d ((100 : Int64) * pp)))])) (fun t q => XS.l2dS X1.here hx rfl (hb hby at_107) rfl rfl q) ?_
              refine own_go (T' := T1) (g' := (mkF m 110 #[.val (.long p1), .second, .val (.long p2), .second, .val (.int p3), .val (.long pp), .second, .val (.long ww), .second, .val (.double (own_pc pp ww)), .second, .val (.int (1 : Int32)), .val (.long (70368744177664 : Int64)), .second, .val (.long (9007199254740992 : Int64)), .second, .unset, .unset] [(.long ww), (.double (FP.l2d ((100 : Int64) * pp)))])) (fun t q => XT.lload X1.here hx rfl (hb hby at_108) rfl q) ?_
              refine own_go (T' := T1) (g' := (mkF m 111 #[.val (.long p1), .second, .val (.long p2), .second, .val (.int p3), .val (.long pp), .second, .val (.long ww), .second, .val (.double (own_pc pp ww)), .second, .val (.int (1 : Int32)), .val (.long (70368744177664 : Int64)), .second, .val (.long (9007199254740992 : Int64)), .second, .unset, .unset] [(.double (FP.l2d ww)), (.double (FP.l2d ((100 : Int64) * pp)))])) (fun t q => XS.l2dS X1.here hx rfl (hb hby at_110) rfl rfl q) ?_
              refine own_go (T' := T1) (g' := (mkF m 112 #[.val (.long p1), .second, .val (.long p2), .second, .val (.int p3), .val (.long pp), .second, .val (.long ww), .second, .val (.double (own_pc pp ww)), .second, .val (.int (1 : Int32)), .val (.long (70368744177664 : Int64)), .second, .val (.long (9007199254740992 : Int64)), .second, .unset, .unset] [(.double (FP.ddiv (FP.l2d ((100 : Int64) * pp)) (FP.l2d ww)))])) (fun t q => XS.ddivS X1.here hx rfl (hb hby at_111) rfl (own_nx _ c33) rfl q) ?_
              refine own_go (T' := T1) (g' := (mkF m 114 #[.val (.long p1), .second, .val (.long p2), .second, .val (.int p3), .val (.long pp), .second, .val (.long ww), .second, .val (.double (own_pc pp ww)), .second, .val (.int (1 : Int32)), .val (.long (70368744177664 : Int64)), .second, .val (.long (9007199254740992 : Int64)), .second, .val (.double (FP.ddiv (FP.l2d ((100 : Int64) * pp)) (FP.l2d ww))), .second] [])) (fun t q => XS.dstore X1.here hx rfl (hb hby at_112) rfl (l' := #[.val (.long p1), .second, .val (.long p2), .second, .val (.int p3), .val (.long pp), .second, .val (.long ww), .second, .val (.double (own_pc pp ww)), .second, .val (.int (1 : Int32)), .val (.long (70368744177664 : Int64)), .second, .val (.long (9007199254740992 : Int64)), .second, .val (.double (FP.ddiv (FP.l2d ((100 : Int64) * pp)) (FP.l2d ww))), .second]) rfl q) ?_
              refine own_go (T' := T1) (g' := (mkF m 116 #[.val (.long p1), .second, .val (.long p2), .second, .val (.int p3), .val (.long pp), .second, .val (.long ww), .second, .val (.double (own_pc pp ww)), .second, .val (.int (1 : Int32)), .val (.long (70368744177664 : Int64)), .second, .val (.long (9007199254740992 : Int64)), .second, .val (.double (FP.ddiv (FP.l2d ((100 : Int64) * pp)) (FP.l2d ww))), .second] [(.double (own_pc pp ww))])) (fun t q => XS.dload X1.here hx rfl (hb hby at_114) rfl q) ?_
              refine own_go (T' := T1) (g' := (mkF m 118 #[.val (.long p1), .second, .val (.long p2), .second, .val (.int p3), .val (.long pp), .second, .val (.long ww), .second, .val (.double (own_pc pp ww)), .second, .val (.int (1 : Int32)), .val (.long (70368744177664 : Int64)), .second, .val (.long (9007199254740992 : Int64)), .second, .val (.double (FP.ddiv (FP.l2d ((100 : Int64) * pp)) (FP.l2d ww))), .second] [(.double (FP.ddiv (FP.l2d ((100 : Int64) * pp)) (FP.l2d ww))), (.double (own_pc pp ww))])) (fun t q => XS.dload X1.here hx rfl (hb hby at_116) rfl q) ?_
              refine own_go (T' := T1) (g' := (mkF m 119 #[.val (.long p1), .second, .val (.long p2), .second, .val (.int p3), .val (.long pp), .second, .val (.long ww), .second, .val (.double (own_pc pp ww)), .second, .val (.int (1 : Int32)), .val (.long (70368744177664 : Int64)), .second, .val (.long (9007199254740992 : Int64)), .second, .val (.double (FP.ddiv (FP.l2d ((100 : Int64) * pp)) (FP.l2d ww))), .second] [(.int (0 : Int32))])) (fun t q => XS.dcmpS X1.here hx rfl (hb hby at_118) rfl (dcmpV_eq (own_exact c29 c30 c33) (own_npc _ _) _) q) ?_
              have c35 : (0 : Int32) = (0 : Int32) := by decide
              refine own_go (T' := T1) (g' := (mkF m 122 #[.val (.long p1), .second, .val (.long p2), .second, .val (.int p3), .val (.long pp), .second, .val (.long ww), .second, .val (.double (own_pc pp ww)), .second, .val (.int (1 : Int32)), .val (.long (70368744177664 : Int64)), .second, .val (.long (9007199254740992 : Int64)), .second, .val (.double (FP.ddiv (FP.l2d ((100 : Int64) * pp)) (FP.l2d ww))), .second] [])) (fun t q => XS.ifNo X1.here hx rfl (hb hby at_119) rfl ((if0 _ _).trans (teq c35).2) q) ?_
              refine own_go (T' := T1) (g' := (mkF m 123 #[.val (.long p1), .second, .val (.long p2), .second, .val (.int p3), .val (.long pp), .second, .val (.long ww), .second, .val (.double (own_pc pp ww)), .second, .val (.int (1 : Int32)), .val (.long (70368744177664 : Int64)), .second, .val (.long (9007199254740992 : Int64)), .second, .val (.double (FP.ddiv (FP.l2d ((100 : Int64) * pp)) (FP.l2d ww))), .second] [(.int (1 : Int32))])) (fun t q => XS.iconst X1.here hx rfl (hb hby at_122) q) ?_
              refine own_go (T' := T1) (g' := (mkF m 127 #[.val (.long p1), .second, .val (.long p2), .second, .val (.int p3), .val (.long pp), .second, .val (.long ww), .second, .val (.double (own_pc pp ww)), .second, .val (.int (1 : Int32)), .val (.long (70368744177664 : Int64)), .second, .val (.long (9007199254740992 : Int64)), .second, .val (.double (FP.ddiv (FP.l2d ((100 : Int64) * pp)) (FP.l2d ww))), .second] [(.int (1 : Int32))])) (fun t q => XS.goto X1.here hx rfl (pc0 := 123) (pc' := 127) rfl (hb hby at_123) (by decide) (by decide) q) ?_
              refine own_go (T' := T1) (g' := (mkF m 129 #[.val (.long p1), .second, .val (.long p2), .second, .val (.int p3), .val (.long pp), .second, .val (.long ww), .second, .val (.double (own_pc pp ww)), .second, .val (.int (1 : Int32)), .val (.long (70368744177664 : Int64)), .second, .val (.long (9007199254740992 : Int64)), .second, .val (.double (FP.ddiv (FP.l2d ((100 : Int64) * pp)) (FP.l2d ww))), .second] [])) (fun t q => XS.istore X1.here hx rfl (hb hby at_127) rfl (l' := #[.val (.long p1), .second, .val (.long p2), .second, .val (.int p3), .val (.long pp), .second, .val (.long ww), .second, .val (.double (own_pc pp ww)), .second, .val (.int (1 : Int32)), .val (.long (70368744177664 : Int64)), .second, .val (.long (9007199254740992 : Int64)), .second, .val (.double (FP.ddiv (FP.l2d ((100 : Int64) * pp)) (FP.l2d ww))), .second]) rfl q) ?_
              exact tail2 _ _
  refine own_go (T' := s₁) (g' := (mkF m 2 #[.val (.long p1), .second, .val (.long p2), .second, .val (.int p3), .unset, .unset, .unset, .unset, .unset, .unset, .unset, .unset, .unset, .unset, .unset, .unset, .unset] [(.int p3)])) (fun t q => XS.iload X0.here hx rfl (hb hby at_0) rfl q) ?_
  refine own_go (T' := s₁) (g' := (mkF m 3 #[.val (.long p1), .second, .val (.long p2), .second, .val (.int p3), .unset, .unset, .unset, .unset, .unset, .unset, .unset, .unset, .unset, .unset, .unset, .unset, .unset] [(.int (1 : Int32)), (.int p3)])) (fun t q => XS.iconst X0.here hx rfl (hb hby at_2) q) ?_
  refine own_go (T' := s₁) (g' := (mkF m 4 #[.val (.long p1), .second, .val (.long p2), .second, .val (.int p3), .unset, .unset, .unset, .unset, .unset, .unset, .unset, .unset, .unset, .unset, .unset, .unset, .unset] [(.int (p3 &&& (1 : Int32)))])) (fun t q => XS.iand X0.here hx rfl (hb hby at_3) rfl q) ?_
  obtain ⟨b4, h_b4⟩ : ∃ z : Int32, z = (p3 &&& (1 : Int32)) := ⟨_, rfl⟩
  rw [← h_b4]
  by_cases c36 : b4 = (0 : Int32)
  · refine own_go (T' := s₁) (g' := (mkF m 11 #[.val (.long p1), .second, .val (.long p2), .second, .val (.int p3), .unset, .unset, .unset, .unset, .unset, .unset, .unset, .unset, .unset, .unset, .unset, .unset, .unset] [])) (fun t q => XS.ifYes X0.here hx rfl (pc0 := 4) (pc' := 11) rfl (hb hby at_4) rfl ((if0 _ _).trans (teq c36).1) (by decide) (by decide) q) ?_
    refine own_go (T' := s₁) (g' := (mkF m 12 #[.val (.long p1), .second, .val (.long p2), .second, .val (.int p3), .unset, .unset, .unset, .unset, .unset, .unset, .unset, .unset, .unset, .unset, .unset, .unset, .unset] [(.long p1)])) (fun t q => XT.lloadN X0.here hx rfl (hb hby at_11) rfl q) ?_
    refine own_go (T' := s₁) (g' := (mkF m 14 #[.val (.long p1), .second, .val (.long p2), .second, .val (.int p3), .unset, .unset, .unset, .unset, .unset, .unset, .unset, .unset, .unset, .unset, .unset, .unset, .unset] [(.int (17 : Int32)), (.long p1)])) (fun t q => XS.bipush X0.here hx rfl (hb hby at_12) q) ?_
    refine own_go (T' := s₁) (g' := (mkF m 15 #[.val (.long p1), .second, .val (.long p2), .second, .val (.int p3), .unset, .unset, .unset, .unset, .unset, .unset, .unset, .unset, .unset, .unset, .unset, .unset, .unset] [(.long (p1 >>> (((17 : Int32)).toInt64 &&& 63)))])) (fun t q => XT.lshr X0.here hx rfl (hb hby at_14) rfl q) ?_
    refine own_go (T' := s₁) (g' := (mkF m 17 #[.val (.long p1), .second, .val (.long p2), .second, .val (.int p3), .val (.long (p1 >>> (((17 : Int32)).toInt64 &&& 63))), .second, .unset, .unset, .unset, .unset, .unset, .unset, .unset, .unset, .unset, .unset, .unset] [])) (fun t q => XT.lstore X0.here hx rfl (hb hby at_15) rfl (l' := #[.val (.long p1), .second, .val (.long p2), .second, .val (.int p3), .val (.long (p1 >>> (((17 : Int32)).toInt64 &&& 63))), .second, .unset, .unset, .unset, .unset, .unset, .unset, .unset, .unset, .unset, .unset, .unset]) rfl q) ?_
    refine own_go (T' := s₁) (g' := (mkF m 19 #[.val (.long p1), .second, .val (.long p2), .second, .val (.int p3), .val (.long (p1 >>> (((17 : Int32)).toInt64 &&& 63))), .second, .unset, .unset, .unset, .unset, .unset, .unset, .unset, .unset, .unset, .unset, .unset] [(.int p3)])) (fun t q => XS.iload X0.here hx rfl (hb hby at_17) rfl q) ?_
    refine own_go (T' := s₁) (g' := (mkF m 20 #[.val (.long p1), .second, .val (.long p2), .second, .val (.int p3), .val (.long (p1 >>> (((17 : Int32)).toInt64 &&& 63))), .second, .unset, .unset, .unset, .unset, .unset, .unset, .unset, .unset, .unset, .unset, .unset] [(.int (2 : Int32)), (.int p3)])) (fun t q => XS.iconst X0.here hx rfl (hb hby at_19) q) ?_
    refine own_go (T' := s₁) (g' := (mkF m 21 #[.val (.long p1), .second, .val (.long p2), .second, .val (.int p3), .val (.long (p1 >>> (((17 : Int32)).toInt64 &&& 63))), .second, .unset, .unset, .unset, .unset, .unset, .unset, .unset, .unset, .unset, .unset, .unset] [(.int (p3 &&& (2 : Int32)))])) (fun t q => XS.iand X0.here hx rfl (hb hby at_20) rfl q) ?_
    obtain ⟨b21, h_b21⟩ : ∃ z : Int32, z = (p3 &&& (2 : Int32)) := ⟨_, rfl⟩
    rw [← h_b21]
    by_cases c37 : b21 = (0 : Int32)
    · refine own_go (T' := s₁) (g' := (mkF m 28 #[.val (.long p1), .second, .val (.long p2), .second, .val (.int p3), .val (.long (p1 >>> (((17 : Int32)).toInt64 &&& 63))), .second, .unset, .unset, .unset, .unset, .unset, .unset, .unset, .unset, .unset, .unset, .unset] [])) (fun t q => XS.ifYes X0.here hx rfl (pc0 := 21) (pc' := 28) rfl (hb hby at_21) rfl ((if0 _ _).trans (teq c37).1) (by decide) (by decide) q) ?_
      refine own_go (T' := s₁) (g' := (mkF m 29 #[.val (.long p1), .second, .val (.long p2), .second, .val (.int p3), .val (.long (p1 >>> (((17 : Int32)).toInt64 &&& 63))), .second, .unset, .unset, .unset, .unset, .unset, .unset, .unset, .unset, .unset, .unset, .unset] [(.long p2)])) (fun t q => XT.lloadN X0.here hx rfl (hb hby at_28) rfl q) ?_
      refine own_go (T' := s₁) (g' := (mkF m 31 #[.val (.long p1), .second, .val (.long p2), .second, .val (.int p3), .val (.long (p1 >>> (((17 : Int32)).toInt64 &&& 63))), .second, .unset, .unset, .unset, .unset, .unset, .unset, .unset, .unset, .unset, .unset, .unset] [(.int (10 : Int32)), (.long p2)])) (fun t q => XS.bipush X0.here hx rfl (hb hby at_29) q) ?_
      refine own_go (T' := s₁) (g' := (mkF m 32 #[.val (.long p1), .second, .val (.long p2), .second, .val (.int p3), .val (.long (p1 >>> (((17 : Int32)).toInt64 &&& 63))), .second, .unset, .unset, .unset, .unset, .unset, .unset, .unset, .unset, .unset, .unset, .unset] [(.long (p2 >>> (((10 : Int32)).toInt64 &&& 63)))])) (fun t q => XT.lshr X0.here hx rfl (hb hby at_31) rfl q) ?_
      refine own_go (T' := s₁) (g' := (mkF m 34 #[.val (.long p1), .second, .val (.long p2), .second, .val (.int p3), .val (.long (p1 >>> (((17 : Int32)).toInt64 &&& 63))), .second, .val (.long (p2 >>> (((10 : Int32)).toInt64 &&& 63))), .second, .unset, .unset, .unset, .unset, .unset, .unset, .unset, .unset, .unset] [])) (fun t q => XT.lstore X0.here hx rfl (hb hby at_32) rfl (l' := #[.val (.long p1), .second, .val (.long p2), .second, .val (.int p3), .val (.long (p1 >>> (((17 : Int32)).toInt64 &&& 63))), .second, .val (.long (p2 >>> (((10 : Int32)).toInt64 &&& 63))), .second, .unset, .unset, .unset, .unset, .unset, .unset, .unset, .unset, .unset]) rfl q) ?_
      exact tail _ _
    · refine own_go (T' := s₁) (g' := (mkF m 24 #[.val (.long p1), .second, .val (.long p2), .second, .val (.int p3), .val (.long (p1 >>> (((17 : Int32)).toInt64 &&& 63))), .second, .unset, .unset, .unset, .unset, .unset, .unset, .unset, .unset, .unset, .unset, .unset] [])) (fun t q => XS.ifNo X0.here hx rfl (hb hby at_21) rfl ((if0 _ _).trans (feq c37).1) q) ?_
      refine own_go (T' := s₁) (g' := (mkF m 25 #[.val (.long p1), .second, .val (.long p2), .second, .val (.int p3), .val (.long (p1 >>> (((17 : Int32)).toInt64 &&& 63))), .second, .unset, .unset, .unset, .unset, .unset, .unset, .unset, .unset, .unset, .unset, .unset] [(.long p2)])) (fun t q => XT.lloadN X0.here hx rfl (hb hby at_24) rfl q) ?_
      refine own_go (T' := s₁) (g' := (mkF m 32 #[.val (.long p1), .second, .val (.long p2), .second, .val (.int p3), .val (.long (p1 >>> (((17 : Int32)).toInt64 &&& 63))), .second, .unset, .unset, .unset, .unset, .unset, .unset, .unset, .unset, .unset, .unset, .unset] [(.long p2)])) (fun t q => XS.goto X0.here hx rfl (pc0 := 25) (pc' := 32) rfl (hb hby at_25) (by decide) (by decide) q) ?_
      refine own_go (T' := s₁) (g' := (mkF m 34 #[.val (.long p1), .second, .val (.long p2), .second, .val (.int p3), .val (.long (p1 >>> (((17 : Int32)).toInt64 &&& 63))), .second, .val (.long p2), .second, .unset, .unset, .unset, .unset, .unset, .unset, .unset, .unset, .unset] [])) (fun t q => XT.lstore X0.here hx rfl (hb hby at_32) rfl (l' := #[.val (.long p1), .second, .val (.long p2), .second, .val (.int p3), .val (.long (p1 >>> (((17 : Int32)).toInt64 &&& 63))), .second, .val (.long p2), .second, .unset, .unset, .unset, .unset, .unset, .unset, .unset, .unset, .unset]) rfl q) ?_
      exact tail _ _
  · refine own_go (T' := s₁) (g' := (mkF m 7 #[.val (.long p1), .second, .val (.long p2), .second, .val (.int p3), .unset, .unset, .unset, .unset, .unset, .unset, .unset, .unset, .unset, .unset, .unset, .unset, .unset] [])) (fun t q => XS.ifNo X0.here hx rfl (hb hby at_4) rfl ((if0 _ _).trans (feq c36).1) q) ?_
    refine own_go (T' := s₁) (g' := (mkF m 8 #[.val (.long p1), .second, .val (.long p2), .second, .val (.int p3), .unset, .unset, .unset, .unset, .unset, .unset, .unset, .unset, .unset, .unset, .unset, .unset, .unset] [(.long p1)])) (fun t q => XT.lloadN X0.here hx rfl (hb hby at_7) rfl q) ?_
    refine own_go (T' := s₁) (g' := (mkF m 15 #[.val (.long p1), .second, .val (.long p2), .second, .val (.int p3), .unset, .unset, .unset, .unset, .unset, .unset, .unset, .unset, .unset, .unset, .unset, .unset, .unset] [(.long p1)])) (fun t q => XS.goto X0.here hx rfl (pc0 := 8) (pc' := 15) rfl (hb hby at_8) (by decide) (by decide) q) ?_
    refine own_go (T' := s₁) (g' := (mkF m 17 #[.val (.long p1), .second, .val (.long p2), .second, .val (.int p3), .val (.long p1), .second, .unset, .unset, .unset, .unset, .unset, .unset, .unset, .unset, .unset, .unset, .unset] [])) (fun t q => XT.lstore X0.here hx rfl (hb hby at_15) rfl (l' := #[.val (.long p1), .second, .val (.long p2), .second, .val (.int p3), .val (.long p1), .second, .unset, .unset, .unset, .unset, .unset, .unset, .unset, .unset, .unset, .unset, .unset]) rfl q) ?_
    refine own_go (T' := s₁) (g' := (mkF m 19 #[.val (.long p1), .second, .val (.long p2), .second, .val (.int p3), .val (.long p1), .second, .unset, .unset, .unset, .unset, .unset, .unset, .unset, .unset, .unset, .unset, .unset] [(.int p3)])) (fun t q => XS.iload X0.here hx rfl (hb hby at_17) rfl q) ?_
    refine own_go (T' := s₁) (g' := (mkF m 20 #[.val (.long p1), .second, .val (.long p2), .second, .val (.int p3), .val (.long p1), .second, .unset, .unset, .unset, .unset, .unset, .unset, .unset, .unset, .unset, .unset, .unset] [(.int (2 : Int32)), (.int p3)])) (fun t q => XS.iconst X0.here hx rfl (hb hby at_19) q) ?_
    refine own_go (T' := s₁) (g' := (mkF m 21 #[.val (.long p1), .second, .val (.long p2), .second, .val (.int p3), .val (.long p1), .second, .unset, .unset, .unset, .unset, .unset, .unset, .unset, .unset, .unset, .unset, .unset] [(.int (p3 &&& (2 : Int32)))])) (fun t q => XS.iand X0.here hx rfl (hb hby at_20) rfl q) ?_
    obtain ⟨b21, h_b21⟩ : ∃ z : Int32, z = (p3 &&& (2 : Int32)) := ⟨_, rfl⟩
    rw [← h_b21]
    by_cases c38 : b21 = (0 : Int32)
    · refine own_go (T' := s₁) (g' := (mkF m 28 #[.val (.long p1), .second, .val (.long p2), .second, .val (.int p3), .val (.long p1), .second, .unset, .unset, .unset, .unset, .unset, .unset, .unset, .unset, .unset, .unset, .unset] [])) (fun t q => XS.ifYes X0.here hx rfl (pc0 := 21) (pc' := 28) rfl (hb hby at_21) rfl ((if0 _ _).trans (teq c38).1) (by decide) (by decide) q) ?_
      refine own_go (T' := s₁) (g' := (mkF m 29 #[.val (.long p1), .second, .val (.long p2), .second, .val (.int p3), .val (.long p1), .second, .unset, .unset, .unset, .unset, .unset, .unset, .unset, .unset, .unset, .unset, .unset] [(.long p2)])) (fun t q => XT.lloadN X0.here hx rfl (hb hby at_28) rfl q) ?_
      refine own_go (T' := s₁) (g' := (mkF m 31 #[.val (.long p1), .second, .val (.long p2), .second, .val (.int p3), .val (.long p1), .second, .unset, .unset, .unset, .unset, .unset, .unset, .unset, .unset, .unset, .unset, .unset] [(.int (10 : Int32)), (.long p2)])) (fun t q => XS.bipush X0.here hx rfl (hb hby at_29) q) ?_
      refine own_go (T' := s₁) (g' := (mkF m 32 #[.val (.long p1), .second, .val (.long p2), .second, .val (.int p3), .val (.long p1), .second, .unset, .unset, .unset, .unset, .unset, .unset, .unset, .unset, .unset, .unset, .unset] [(.long (p2 >>> (((10 : Int32)).toInt64 &&& 63)))])) (fun t q => XT.lshr X0.here hx rfl (hb hby at_31) rfl q) ?_
      refine own_go (T' := s₁) (g' := (mkF m 34 #[.val (.long p1), .second, .val (.long p2), .second, .val (.int p3), .val (.long p1), .second, .val (.long (p2 >>> (((10 : Int32)).toInt64 &&& 63))), .second, .unset, .unset, .unset, .unset, .unset, .unset, .unset, .unset, .unset] [])) (fun t q => XT.lstore X0.here hx rfl (hb hby at_32) rfl (l' := #[.val (.long p1), .second, .val (.long p2), .second, .val (.int p3), .val (.long p1), .second, .val (.long (p2 >>> (((10 : Int32)).toInt64 &&& 63))), .second, .unset, .unset, .unset, .unset, .unset, .unset, .unset, .unset, .unset]) rfl q) ?_
      exact tail _ _
    · refine own_go (T' := s₁) (g' := (mkF m 24 #[.val (.long p1), .second, .val (.long p2), .second, .val (.int p3), .val (.long p1), .second, .unset, .unset, .unset, .unset, .unset, .unset, .unset, .unset, .unset, .unset, .unset] [])) (fun t q => XS.ifNo X0.here hx rfl (hb hby at_21) rfl ((if0 _ _).trans (feq c38).1) q) ?_
      refine own_go (T' := s₁) (g' := (mkF m 25 #[.val (.long p1), .second, .val (.long p2), .second, .val (.int p3), .val (.long p1), .second, .unset, .unset, .unset, .unset, .unset, .unset, .unset, .unset, .unset, .unset, .unset] [(.long p2)])) (fun t q => XT.lloadN X0.here hx rfl (hb hby at_24) rfl q) ?_
      refine own_go (T' := s₁) (g' := (mkF m 32 #[.val (.long p1), .second, .val (.long p2), .second, .val (.int p3), .val (.long p1), .second, .unset, .unset, .unset, .unset, .unset, .unset, .unset, .unset, .unset, .unset, .unset] [(.long p2)])) (fun t q => XS.goto X0.here hx rfl (pc0 := 25) (pc' := 32) rfl (hb hby at_25) (by decide) (by decide) q) ?_
      refine own_go (T' := s₁) (g' := (mkF m 34 #[.val (.long p1), .second, .val (.long p2), .second, .val (.int p3), .val (.long p1), .second, .val (.long p2), .second, .unset, .unset, .unset, .unset, .unset, .unset, .unset, .unset, .unset] [])) (fun t q => XT.lstore X0.here hx rfl (hb hby at_32) rfl (l' := #[.val (.long p1), .second, .val (.long p2), .second, .val (.int p3), .val (.long p1), .second, .val (.long p2), .second, .unset, .unset, .unset, .unset, .unset, .unset, .unset, .unset, .unset]) rfl q) ?_
      exact tail _ _
set_option maxRecDepth 65536 in
set_option maxHeartbeats 40000000 in
theorem comes_1 {Post : Tables → Env → Array Value → State → Outcome → State → Prop} (hpost : ∀ tb e args s v u, (limb_1_1.after args s (.returned v) u = true ∧ limb_1_2.after args s (.returned v) u = true ∧ True) → FrameEnd s (.returned v) u (Jvm.fieldLocs frame_1_writes args s ++ Jvm.arrayLocs frame_1_arrays args s ++ Jvm.staticLocs frame_1_statics s) 0 0 → Post tb e args s (.returned v) u) :
    ArmFor flags0 classFile x code maxLocals ret World_1 tables_1 room_1 Calls_1 rest_1 Pre_1 Post := by
  intro l hfl _ _ p e ha hc hk s m args below hf hA hF happ hP
  obtain ⟨hcalls, hrest, hpre⟩ := hP
  obtain ⟨-, -, -, hnamed, -, -, -, hat⟩ := (Spec.applies_iff hf).mp happ
  obtain ⟨hg, hn⟩ := and_e (Cond.before_iff.mp (show (Jvm.Cond.and given_1 narrow_1).before args s = true from hpre))
  obtain ⟨h1, hg⟩ := and_e hg
  obtain ⟨g0, hg⟩ := and_e hg
  obtain ⟨g1, hg⟩ := and_e hg
  have g2 := hg
  obtain ⟨w0, w1, w2, rfl⟩ : ∃ w0 w1 w2 : Value, args = #[w0, w1, w2] := by
    have hs : args.size = 3 := by simpa [Cond.value, given_1] using h1
    obtain ⟨L⟩ := args
    match L, hs with
    | [w0, w1, w2], _ => exact ⟨w0, w1, w2, rfl⟩
  have hw := fun d (hd : d ∈ tables_1) => atoms_spec (ws := Jvm.Cond.code x code maxLocals ret :: tables_1) hat d (List.mem_cons_of_mem _ hd)
  have hfit : Fit s := fun {y c} hc i hi => by
    obtain ⟨ha, rfl⟩ := Array.getElem?_eq_some_iff.mp hc
    have q := List.all_eq_true.mp ((Array.all_eq_true_iff_forall_mem.mp hF) _ (Array.getElem_mem ha)) i (List.mem_range.mpr hi)
    simpa [Array.getElem?_eq_getElem hi] using q
  obtain ⟨i0, b0⟩ := isL_v g0
  obtain rfl : w0 = (.long i0) := Option.some.inj b0
  obtain ⟨i1, b1⟩ := isL_v g1
  obtain rfl : w1 = (.long i1) := Option.some.inj b1
  obtain ⟨i2, b2⟩ := is_v g2
  obtain rfl : w2 = (.int i2) := Option.some.inj b2
  obtain ⟨n, o, h1, h2, h3, _, L, rfl, ⟨rfl, N⟩, hq⟩ := rm0 l s _ hw tables_1 i0 i1 i2 s.heap p e ha hc hk s m _ below hf ((Spec.applies_iff_loose hf).mp happ).1 ⟨rfl, State.Warmed39.refl s, rfl⟩ trivial
  refine ⟨n, _, h1, h2, h3, hpost _ _ _ _ _ _ ⟨Cond.after_iff.mpr rfl, Cond.after_iff.mpr (eq_i res_at (Term.int_eval (1)) rfl), trivial⟩ ⟨hq.1, hq.2.1, (hq.2.2.sift fun y hy => Or.inr (N y hy)).mono (by decide) (by decide)⟩⟩
theorem main_1_1 : Claimed_1_1 := comes_1 fun _ _ _ _ _ _ h hF => ⟨h.1, hF⟩
theorem main_1_2 : Claimed_1_2 := comes_1 fun _ _ _ _ _ _ h hF => ⟨h.2.1, hF⟩
end Jvm.Pilot.@@N@@
namespace Jvm.Pilot.@@N@@
open Jvm Jvm.ClassFile Sem Op Lib Jvm.Free Jvm.Stand Jvm.Pilot.@@N@@.Jvm.D
/-! MADE BY PROGRAM (witnessworld.py) out of the Statement's table words and the real class files: 9 classes; the members and pool entries that the words name. The judged class is class 1, her method 1. -/
namespace start1
open Jvm.ClassFile
def u (s : String) : CpInfo := .utf8 (stringToUtf16 s)
/-- a pool by its gaps: so many unusable entries, then the entry; so many at the end -/
def gap : Nat → List CpInfo → List CpInfo
  | 0, r => r
  | n + 1, r => .unusable :: gap n r
def poolList (es : List (Nat × CpInfo)) (last : Nat) : List CpInfo := es.foldr (fun e r => gap e.1 (e.2 :: r)) (gap last [])
def pool (es : List (Nat × CpInfo)) (last : Nat) : Array CpInfo := ⟨poolList es last⟩
def fileOf (pool : Array CpInfo) (this : Nat) (attrs : Array Attribute := #[]) (ms : Array MethodInfo := #[]) (fl : Nat := 33) (sup : Nat := 0) (ifs : Array Nat := #[]) (fds : Array FieldInfo := #[]) : ClassFile where
  minorVersion := 0
  majorVersion := 65
  constantPool := pool
  accessFlags := fl
  thisClass := this
  superClass := sup
  interfaces := ifs
  fields := fds
  methods := ms
  attributes := attrs
def plain (name : String) (sup : Option ClassId) : Class where
  name := name
  kind := .ordinary
  loader := none
  accessFlags := 33
  super := sup
  interfaces := #[]
  cf := none
  fields := #[]
  methods := #[]
  instanceTypes := #[]
  staticTypes := #[]
  resolved := #[]
  callSites := []
  init := .initialized
  statics := none
  mirror := none

def pool0 : Array CpInfo := pool [(5, u "<init>"), (0, u "()V"), (1, .class_ 10), (1, u "java/lang/Object")] 113

def k0m0 : Method := { name := "<init>", desc := "()V", sig := { parameters := [], returnType := none }, accessFlags := 1, code := none }
/-- java/lang/Object -/
def k0 : Class := { plain "java/lang/Object" none with
  accessFlags := 33
  interfaces := #[]
  cf := some (fileOf pool0 8 #[] #[{ accessFlags := 1, nameIndex := 5, descriptorIndex := 6, attributes := #[] }] 33 0 #[] #[])
  fields := #[]
  methods := #[k0m0]
  instanceTypes := #[]
  staticTypes := #[]
  resolved := Array.replicate 124 none
  statics := none }

def pool1 : Array CpInfo := pool [(2, .class_ 4), (1, u "java/lang/Object"), (0, u "<init>"), (0, u "()V"), (0, .methodref 8 9), (0, .class_ 10), (0, .nameAndType 11 12), (0, u "org/headwood/service/ScoreSummary"), (0, u "percent"), (0, u "(JJ)D"), (0, .long 70368744177664), (1, .long 9007199254740992), (1, .long 100), (3, .long 9223372036854775808), (1, .class_ 24), (0, u "org/headwood/service/ScoreSummaryPercentPinLaw"), (2, u "law"), (0, u "(JJI)Z")] 3

def k1m0 : Method := { name := "<init>", desc := "()V", sig := { parameters := [], returnType := none }, accessFlags := 1, code := none }
def k1c1 : Code := { maxStack := 4, maxLocals := 18, code := code, exceptionTable := #[], attributes := #[] }
def k1m1 : Method := { name := "law", desc := "(JJI)Z", sig := { parameters := [.long, .long, .int], returnType := some .boolean }, accessFlags := 9, code := some k1c1 }
/-- org/headwood/service/ScoreSummaryPercentPinLaw -/
def k1 : Class := { plain "org/headwood/service/ScoreSummaryPercentPinLaw" (some 0) with
  accessFlags := 49
  interfaces := #[]
  cf := some (fileOf pool1 23 #[] #[{ accessFlags := 1, nameIndex := 5, descriptorIndex := 6, attributes := #[] }, { accessFlags := 9, nameIndex := 27, descriptorIndex := 28, attributes := #[] }] 49 2 #[] #[])
  fields := #[]
  methods := #[k1m0, k1m1]
  instanceTypes := #[]
  staticTypes := #[]
  resolved := Array.replicate 32 none
  statics := none }

def pool2 : Array CpInfo := pool [(2, .class_ 4), (1, u "java/lang/Object"), (21, .class_ 28), (1, u "org/headwood/service/ScoreSummary"), (0, u "sentences"), (0, u "I"), (1, .class_ 34), (1, u "org/headwood/service/ScoreSummary$1"), (14, u "errorSentences"), (2, u "skipSentences"), (11, u "validSentences"), (2, u "matched"), (0, u "J"), (4, u "goldBrackets"), (4, u "parsedBrackets"), (4, u "crossing"), (4, u "words"), (4, u "correctTags"), (4, u "completeMatches"), (2, u "withoutCrossing"), (2, u "twoOrLessCrossing"), (3, .double 4636737291354636288), (3, u "percent"), (0, u "(JJ)D")] 27

def k2c0 : Code := { maxStack := 4, maxLocals := 4, code := prog_122_method_4_code, exceptionTable := #[], attributes := #[] }
def k2m0 : Method := { name := "percent", desc := "(JJ)D", sig := { parameters := [.long, .long], returnType := some .double }, accessFlags := 8, code := some k2c0 }
/-- org/headwood/service/ScoreSummary -/
def k2 : Class := { plain "org/headwood/service/ScoreSummary" (some 0) with
  accessFlags := 49
  interfaces := #[]
  cf := some (fileOf pool2 26 #[.nestMembers #[32]] #[{ accessFlags := 8, nameIndex := 112, descriptorIndex := 113, attributes := #[] }] 49 2 #[] #[{ accessFlags := 2, nameIndex := 29, descriptorIndex := 30, attributes := #[] }, { accessFlags := 2, nameIndex := 49, descriptorIndex := 30, attributes := #[] }, { accessFlags := 2, nameIndex := 52, descriptorIndex := 30, attributes := #[] }, { accessFlags := 2, nameIndex := 64, descriptorIndex := 30, attributes := #[] }, { accessFlags := 2, nameIndex := 67, descriptorIndex := 68, attributes := #[] }, { accessFlags := 2, nameIndex := 73, descriptorIndex := 68, attributes := #[] }, { accessFlags := 2, nameIndex := 78, descriptorIndex := 68, attributes := #[] }, { accessFlags := 2, nameIndex := 83, descriptorIndex := 68, attributes := #[] }, { accessFlags := 2, nameIndex := 88, descriptorIndex := 68, attributes := #[] }, { accessFlags := 2, nameIndex := 93, descriptorIndex := 68, attributes := #[] }, { accessFlags := 2, nameIndex := 98, descriptorIndex := 30, attributes := #[] }, { accessFlags := 2, nameIndex := 101, descriptorIndex := 30, attributes := #[] }, { accessFlags := 2, nameIndex := 104, descriptorIndex := 30, attributes := #[] }])
  fields := #[{ name := "sentences", type := .int, accessFlags := 2, slot := 0, constantValue := 0 }, { name := "errorSentences", type := .int, accessFlags := 2, slot := 1, constantValue := 0 }, { name := "skipSentences", type := .int, accessFlags := 2, slot := 2, constantValue := 0 }, { name := "validSentences", type := .int, accessFlags := 2, slot := 3, constantValue := 0 }, { name := "matched", type := .long, accessFlags := 2, slot := 4, constantValue := 0 }, { name := "goldBrackets", type := .long, accessFlags := 2, slot := 5, constantValue := 0 }, { name := "parsedBrackets", type := .long, accessFlags := 2, slot := 6, constantValue := 0 }, { name := "crossing", type := .long, accessFlags := 2, slot := 7, constantValue := 0 }, { name := "words", type := .long, accessFlags := 2, slot := 8, constantValue := 0 }, { name := "correctTags", type := .long, accessFlags := 2, slot := 9, constantValue := 0 }, { name := "completeMatches", type := .int, accessFlags := 2, slot := 10, constantValue := 0 }, { name := "withoutCrossing", type := .int, accessFlags := 2, slot := 11, constantValue := 0 }, { name := "twoOrLessCrossing", type := .int, accessFlags := 2, slot := 12, constantValue := 0 }]
  methods := #[k2m0]
  instanceTypes := #[.int, .int, .int, .int, .long, .long, .long, .long, .long, .long, .int, .int, .int]
  staticTypes := #[]
  resolved := Array.replicate 141 none
  statics := none }

def pool3 : Array CpInfo := pool [(1, u "java/lang/Cloneable"), (0, .class_ 1), (0, u "java/lang/Object"), (0, .class_ 3)] 3

/-- java/lang/Cloneable -/
def k3 : Class := { plain "java/lang/Cloneable" (some 0) with
  accessFlags := 1537
  interfaces := #[]
  cf := some (fileOf pool3 2 #[] #[] 1537 4 #[] #[])
  fields := #[]
  methods := #[]
  instanceTypes := #[]
  staticTypes := #[]
  resolved := Array.replicate 8 none
  statics := none }

def pool4 : Array CpInfo := pool [(1, u "java/io/Serializable"), (0, .class_ 1), (0, u "java/lang/Object"), (0, .class_ 3)] 3

/-- java/io/Serializable -/
def k4 : Class := { plain "java/io/Serializable" (some 0) with
  accessFlags := 1537
  interfaces := #[]
  cf := some (fileOf pool4 2 #[] #[] 1537 4 #[] #[])
  fields := #[]
  methods := #[]
  instanceTypes := #[]
  staticTypes := #[]
  resolved := Array.replicate 8 none
  statics := none }

/-- the primitive byte -/
def k5 : Class := { plain "byte" none with kind := .primitive 'B', accessFlags := 0x411 }
/-- [B -/
def k6 : Class := { plain "[B" (some 0) with kind := .array 5 .byte, interfaces := #[3, 4], accessFlags := 1041 }

/-- the primitive int -/
def k7 : Class := { plain "int" none with kind := .primitive 'I', accessFlags := 0x411 }
/-- [I -/
def k8 : Class := { plain "[I" (some 0) with kind := .array 7 .int, interfaces := #[3, 4], accessFlags := 1041 }

def heap : Heap := #[]
def classes : Array Class := #[k0, k1, k2, k3, k4, k5, k6, k7, k8]
def interned : List (Array UInt16 × Addr) := []
def slotsUsed : Nat := 0
def theMethod : MethodId := ⟨1, 1⟩
def args0 : Array Value := #[.long 5, .long 7, .int 8]
def aboutOver (below : List Frame) : State where
  vm := { classes := classes, interned := interned.toArray }
  heap := heap
  slotsUsed := slotsUsed
  threads := #[{ frames := .invoking theMethod args0 :: below }]
def below0 : List Frame := [.native { method := ⟨0, 0⟩, args := #[] }]
def about1 : State := aboutOver below0
def p0 : Program := .bare "" "" ""
def e0 : Env := launch0.env 0 0 0
theorem w_frames : about1.frames = Frame.invoking theMethod args0 :: below0 := rfl
set_option maxRecDepth 65536 in
theorem w_args : argsFit about1.vm theMethod args0 = true := by decide +kernel
set_option maxRecDepth 65536 in
theorem w_heap : heapFits about1 = true := by decide +kernel
set_option maxRecDepth 65536 in
theorem w_runnable : about1.curStatus? = some .runnable := by decide +kernel
set_option maxRecDepth 65536 in
theorem w_alone : about1.alone = true := by decide +kernel
set_option maxRecDepth 65536 in
theorem w_named : about1.methodNamed? x = some theMethod := by decide +kernel
set_option maxRecDepth 65536 in
theorem w_hears : about1.hears theMethod below0 = true := by decide +kernel
set_option maxRecDepth 65536 in
theorem w_ripe : about1.ripe theMethod args0 below0 = true := by decide +kernel
theorem w_running : about1.status = .running := rfl
set_option maxRecDepth 65536 in
theorem w_room : about1.hasRoom e0.platform room_1 = true :=
  launch0.hasRoom_least _ room_1 (by decide +kernel) (by decide +kernel) (by decide +kernel) (by decide +kernel) (by decide +kernel) (by decide +kernel)
theorem allAtoms_all (ts : List Jvm.Cond) (a : Array Jvm.Value) (st : Jvm.State) : (allAtoms ts).before a st = ts.all (fun c => c.before a st) := by
  induction ts with
  | nil => rfl
  | cons c t ih =>
    show (Jvm.Cond.and c (allAtoms t)).before a st = _
    rw [Jvm.Cond.before_and, ih, List.all_cons]
def words1 : List Jvm.Cond := Jvm.Cond.code x code maxLocals ret :: tables_1
/-- a 'code' word, met by the world's own term for the bytes: nothing is compared byte by byte -/
theorem code_word {y : MethodName} {bytes : ByteArray} {mx : Nat} {rt : Option FieldType} {a : Array Value} {s : State} {m : MethodId} {meth : Method} {c : Code} (h1 : s.methodNamed? y = some m) (h2 : s.vm.method? m = some meth) (h3 : meth.code = some c) (h4 : c.code = bytes)
    (h5 : (c.maxLocals == mx && c.exceptionTable.isEmpty && decide (c.maxStack ≤ mostOperands) && decide (meth.sig.returnType = rt) && !meth.locks && decide (parseMethodDescriptor y.desc = some meth.sig)) = true) : (Jvm.Cond.code y bytes mx rt).before a s = true := by
  simp only [Bool.and_eq_true, beq_iff_eq, Bool.not_eq_true', decide_eq_true_eq] at h5
  obtain ⟨⟨⟨⟨⟨g1, g2⟩, g3⟩, g4⟩, g5⟩, g6⟩ := h5
  simp [Cond.before, Cond.holds, Cond.value, h1, h2, h3, h4, g1, g2, g3, g4, g5, g6]
def isCode : Jvm.Cond → Bool
  | .code _ _ _ _ => true
  | _ => false
theorem all_split {L : List Jvm.Cond} {P : Jvm.Cond → Bool} (h1 : L.all (fun c => isCode c || P c) = true) (h2 : ∀ c ∈ L.filter isCode, P c = true) : L.all P = true := by
  refine List.all_eq_true.mpr fun c hc => ?_
  have h := List.all_eq_true.mp h1 c hc
  rcases Bool.eq_false_or_eq_true (isCode c) with hi | hi
  · exact h2 c (List.mem_filter.mpr ⟨hc, hi⟩)
  · simpa [hi] using h
set_option maxRecDepth 65536 in
theorem w_c0 : (Jvm.Cond.code x code maxLocals ret).before args0 about1 = true := code_word (m := ⟨1, 1⟩) (meth := k1m1) (c := k1c1) (by decide +kernel) rfl rfl rfl (by decide +kernel)
set_option maxRecDepth 65536 in
theorem w_c1 : (Jvm.Cond.code ({ cls := "org/headwood/service/ScoreSummary", name := "percent", desc := "(JJ)D" } : Jvm.MethodName) prog_122_method_4_code (4 : Nat) (Option.some Jvm.ClassFile.FieldType.double)).before args0 about1 = true := code_word (m := ⟨2, 0⟩) (meth := k2m0) (c := k2c0) (by decide +kernel) rfl rfl rfl (by decide +kernel)
def codes1 : List Jvm.Cond := [Jvm.Cond.code x code maxLocals ret, Jvm.Cond.code ({ cls := "org/headwood/service/ScoreSummary", name := "percent", desc := "(JJ)D" } : Jvm.MethodName) prog_122_method_4_code (4 : Nat) (Option.some Jvm.ClassFile.FieldType.double)]
set_option maxRecDepth 65536 in
theorem codes_eq : words1.filter isCode = codes1 := rfl
theorem w_codes : ∀ c ∈ words1.filter isCode, c.before args0 about1 = true := by
  rw [codes_eq]
  intro c hc
  simp only [codes1, List.mem_cons, List.not_mem_nil, or_false] at hc
  rcases hc with rfl | rfl
  · exact w_c0
  · exact w_c1
set_option maxRecDepth 65536 in
theorem w_t1 : words1.all (fun c => isCode c || c.before args0 about1) = true := by decide +kernel
theorem w_tables : (allAtoms (Jvm.Cond.code x code maxLocals ret :: tables_1)).before args0 about1 = true := by
  rw [allAtoms_all]
  show words1.all (fun c => c.before args0 about1) = true
  refine all_split ?_ w_codes
  rw [w_t1]
set_option maxRecDepth 65536 in
theorem w_case : (Jvm.Cond.and given_1 narrow_1).before args0 about1 = true := by decide +kernel
theorem w_applies : (headSpec (Jvm.Cond.code x code maxLocals ret :: tables_1) room_1).applies x e0.platform about1 = true :=
  (Spec.applies_iff w_frames).mpr ⟨w_running, w_runnable, w_alone, w_named, w_hears, w_ripe, w_room, w_tables⟩
theorem atStart : AtStart classFile x code maxLocals ret World_1 tables_1 room_1 Calls_1 rest_1 Pre_1 launch0 p0 e0 about1 theMethod args0 below0 :=
  ⟨lists_1, trivial, launch0.admits_env _ _ _, launch0.least_env, fairChoices_fair.cas, fairChoices_fair.clock, w_frames, w_args, w_heap, w_applies, trivial, trivial, w_case⟩
end start1
theorem witness_1 : WitnessClaimed_1 := ⟨start1.p0, start1.e0, start1.about1, start1.theMethod, start1.args0, start1.below0, start1.atStart⟩
end Jvm.Pilot.@@N@@
