import JvmDerived
import JvmDerived.Pilot.@@N@@Statement
import JvmDerived.Pilot.@@N@@Code
set_option linter.unusedVariables false
set_option linter.unusedSimpArgs false
namespace Jvm.RoadKit
open Sem ClassFile Op Lib Jvm.Stand Jvm.Free Jvm.LawKit
section OwnWalk
variable {p : Program} {l : Launch} {e : Env} {R : Room} {s : State} {m : MethodId} {args : Array Value} {below : List Frame} {meth : Method} {c : Code} {T : State} {locs : List Loc} {cells slots : Nat} {Z : State} {a0 : Array Value} {h : Heap}
theorem retI (X : Stand p l e R s m args below meth c T locs cells slots) (hx : p.tables.exec = Jvm.exec) {pc : Nat} {Ls : Array Slot} {z : Int32} {rest : List Value} (hret : meth.sig.returnType = some .int) (hd : decode c.code pc = .ok (.ireturn, 1)) {fs : List Frame}
    (hl : ∀ (f : JFrame) (acts : List Action), f.method = m → f.locked = none → f.entered = [] → (doReturn e (T.setTop f) acts (some (.int z))).1 = T.setFrames fs) : Steps p.tables e below (T.setTop (mkF m pc Ls (.int z :: rest))) (T.setFrames fs) := by
  have hm' : T.vm.method? m = some meth := X.method'
  have hn : narrow .int (.int z) = .int z := rfl
  show Steps p.tables e below (T.setTop { method := m, pc := pc, locals := Ls, stack := _ :: rest, locked := none }) _
  jvm_step X.here [X.here.top, hx, hd, hm', hret, hn]
  first | (intro acts; rw [hl _ acts rfl rfl rfl]) | rw [hl _ _ rfl rfl rfl]
  exact Steps.refl _
/-- a body's contract at given arguments and a given heap -/
abbrev own_Met (l : Launch) (y : MethodName) (bytes : ByteArray) (maxL : Nat) (ret : Option FieldType) (ws : List Cond) (rm : Room) (Z : State) (as' : Array Value) (h : Heap) (Q : Option Value → Heap → List Loc → Prop) : Prop :=
  MetFree l y (head1 (Cond.code y bytes maxL ret :: ws) rm) (fun a U => a = as' ∧ Z.Warmed39 U.vm ∧ U.heap = h) (fun _ _ _ _ _ => True) (fun _ U o U' => ∃ v L, o = .returned v ∧ Q v U'.heap L ∧ FrameEnd U o U' L rm.cells rm.slots)
/-- from here the walk comes to its end, and Q holds there -/
def own_Go (p : Program) (e : Env) (below : List Frame) (s T : State) (g : JFrame) (k n : Nat) (Q : Option Value → Heap → List Loc → Prop) : Prop :=
  ∃ s₂ o, Steps p.tables e below (T.setTop g) s₂ ∧ s₂.status = .running ∧ Ended s₂ below o ∧ ∃ v L, o = .returned v ∧ Q v s₂.heap L ∧ FrameEnd s o s₂ L k n
variable {k n : Nat} {Q : Option Value → Heap → List Loc → Prop}
theorem own_in {g g' : JFrame} (ef : g = g') (q : own_Go p e below s T g' k n Q) : ∃ s₂ o, Steps p.tables e below (T.setTop g) s₂ ∧ s₂.status = .running ∧ Ended s₂ below o ∧ ∃ v L, o = .returned v ∧ Q v s₂.heap L ∧ FrameEnd s o s₂ L k n := by
  subst ef; exact q
theorem own_go {T' : State} {g g' : JFrame} (f : ∀ t, Steps p.tables e below (T'.setTop g') t → Steps p.tables e below (T.setTop g) t) (q : own_Go p e below s T' g' k n Q) : own_Go p e below s T g k n Q := by
  obtain ⟨s₂, o, h1, h2⟩ := q; exact ⟨s₂, o, f _ h1, h2⟩
theorem own_outI (X : Stand p l e R s m args below meth c T locs cells slots) (hx : p.tables.exec = Jvm.exec) (hlk : meth.locks = false) (hret : meth.sig.returnType = some .int) {pc : Nat} {Ls : Array Slot} {z : Int32} {rest : List Value} (hd : decode c.code pc = .ok (.ireturn, 1))
    (q : Q (some (.int z)) T.heap locs) (hk : cells ≤ k) (hn : slots ≤ n) : own_Go p e below s T (mkF m pc Ls (.int z :: rest)) k n Q := by
  obtain ⟨fs, hr, hrun, hended, hW, hsame⟩ := X.leave (v := some (.int z)) (fun h => by rw [hret] at h; cases h) hlk
  exact ⟨_, _, retI X hx hret hd hr, hrun, hended, _, _, rfl, q, ⟨_, rfl⟩, hW, hsame.mono hk hn⟩
theorem own_outN (X : Stand p l e R s m args below meth c T locs cells slots) (hx : p.tables.exec = Jvm.exec) (hlk : meth.locks = false) {t : FieldType} (hret : meth.sig.returnType = some t) (ht : t = .boolean ∨ t = .byte ∨ t = .char ∨ t = .short) {pc : Nat} {Ls : Array Slot} {z w : Int32} {rest : List Value} (hd : decode c.code pc = .ok (.ireturn, 1))
    (hw : nar t z = w) (q : Q (some (.int w)) T.heap locs) (hk : cells ≤ k) (hn : slots ≤ n) : own_Go p e below s T (mkF m pc Ls (.int z :: rest)) k n Q := by
  subst hw
  obtain ⟨fs, hr, hrun, hended, hW, hsame⟩ := X.leave (v := some (.int (nar t z))) (fun h => by rw [hret] at h; cases h) hlk
  exact ⟨_, _, retN X hx hret ht hd hr, hrun, hended, _, _, rfl, q, ⟨_, rfl⟩, hW, hsame.mono hk hn⟩
theorem own_outJ (X : Stand p l e R s m args below meth c T locs cells slots) (hx : p.tables.exec = Jvm.exec) (hlk : meth.locks = false) (hret : meth.sig.returnType = some .long) {pc : Nat} {Ls : Array Slot} {z : Int64} {rest : List Value} (hd : decode c.code pc = .ok (.lreturn, 1))
    (q : Q (some (.long z)) T.heap locs) (hk : cells ≤ k) (hn : slots ≤ n) : own_Go p e below s T (mkF m pc Ls (.long z :: rest)) k n Q := by
  obtain ⟨fs, hr, hrun, hended, hW, hsame⟩ := X.leave (v := some (.long z)) (fun h => by rw [hret] at h; cases h) hlk
  exact ⟨_, _, retOut X hx hret rfl (Or.inr (Or.inl ⟨rfl, rfl, _, rfl⟩)) hd hr, hrun, hended, _, _, rfl, q, ⟨_, rfl⟩, hW, hsame.mono hk hn⟩
theorem own_outD (X : Stand p l e R s m args below meth c T locs cells slots) (hx : p.tables.exec = Jvm.exec) (hlk : meth.locks = false) (hret : meth.sig.returnType = some .double) {pc : Nat} {Ls : Array Slot} {z : UInt64} {rest : List Value} (hd : decode c.code pc = .ok (.dreturn, 1))
    (q : Q (some (.double z)) T.heap locs) (hk : cells ≤ k) (hn : slots ≤ n) : own_Go p e below s T (mkF m pc Ls (.double z :: rest)) k n Q := by
  obtain ⟨fs, hr, hrun, hended, hW, hsame⟩ := X.leave (v := some (.double z)) (fun h => by rw [hret] at h; cases h) hlk
  exact ⟨_, _, retOut X hx hret rfl (Or.inr (Or.inr (Or.inl ⟨rfl, rfl, _, rfl⟩))) hd hr, hrun, hended, _, _, rfl, q, ⟨_, rfl⟩, hW, hsame.mono hk hn⟩
theorem own_outA (X : Stand p l e R s m args below meth c T locs cells slots) (hx : p.tables.exec = Jvm.exec) (hlk : meth.locks = false) {t : FieldType} (hret : meth.sig.returnType = some t) (ht : t.isReference = true) {pc : Nat} {Ls : Array Slot} {w : Value} {rest : List Value} (hwr : w.isRef = true) (hd : decode c.code pc = .ok (.areturn, 1))
    (q : Q (some w) T.heap locs) (hk : cells ≤ k) (hn : slots ≤ n) : own_Go p e below s T (mkF m pc Ls (w :: rest)) k n Q := by
  obtain ⟨fs, hr, hrun, hended, hW, hsame⟩ := X.leave (v := some w) (fun h => by rw [hret] at h; cases h) hlk
  have hnw : narrow t w = w := by rcases ref_cases hwr with rfl | ⟨a, rfl⟩ <;> cases t <;> first | rfl | cases ht
  exact ⟨_, _, retOut X hx hret hnw (Or.inr (Or.inr (Or.inr (Or.inr ⟨rfl, ht, hwr⟩)))) hd hr, hrun, hended, _, _, rfl, q, ⟨_, rfl⟩, hW, hsame.mono hk hn⟩
theorem own_outV (X : Stand p l e R s m args below meth c T locs cells slots) (hx : p.tables.exec = Jvm.exec) (hlk : meth.locks = false) (hret : meth.sig.returnType = none) {pc : Nat} {Ls : Array Slot} (hd : decode c.code pc = .ok (.return_, 1))
    (q : Q none T.heap locs) (hk : cells ≤ k) (hn : slots ≤ n) : own_Go p e below s T (mkF m pc Ls []) k n Q := by
  obtain ⟨fs, hr, hrun, hended, hW, hsame⟩ := X.leave (v := none) (fun _ => rfl) hlk
  exact ⟨_, _, X.returnOut hx hret hd hr, hrun, hended, _, _, rfl, q, ⟨_, rfl⟩, hW, hsame.mono hk hn⟩
theorem own_callS (X : Stand p l e R s m args below meth c T locs cells slots) (hx : p.tables.exec = Jvm.exec) (hZ : Z.Warmed39 s.vm) {own : String} {index : Nat} {y : MethodName} {bytes : ByteArray} {maxL : Nat} {ret : Option FieldType} {rm : Room} {argsL rest : List Value}
    (hown : s.vm.findClass own = some m.cls) (w1 : (Cond.methodLink own index y).before a0 Z = true) (w2 : (Cond.static y).before a0 Z = true) (w3 : (Cond.initialized y.cls).before a0 Z = true) (w4 : (Cond.code y bytes maxL ret).before a0 Z = true)
    (hM : own_Met l y bytes maxL ret [] rm Z argsL.toArray h Q) (eT : T.heap = h) (hy : y.cls ≠ "java/lang/invoke/MethodHandle" ∧ y.cls ≠ "java/lang/invoke/VarHandle") (hf : rm.frames + 1 ≤ R.frames) (W : Nat) (hl : W + (maxL + 11) + rm.locals ≤ R.locals) (hc : cells + rm.cells ≤ R.cells) (hs : slots + rm.slots ≤ R.slots)
    {g : JFrame} (hg : g.method = m) (hsize : g.locals.size = c.maxLocals) (hlen : ∀ sig, parseMethodDescriptor y.desc = some sig → argsL.length = sig.parameters.length) (hstack : g.stack = argsL.reverse ++ rest) (hW : 2 * g.monitorRoom + (rest.map fun v => v.category).sum ≤ W) (hd : decode c.code g.pc = .ok (.invokestatic index, 3)) :
    ∃ v T' L, Stand p l e R s m args below meth c T' (locs ++ L) (cells + rm.cells) (slots + rm.slots) ∧ Q v T'.heap L ∧ ∀ t, Steps p.tables e below (T'.setTop { g with pc := g.pc + 3, stack := v.toList ++ rest }) t → Steps p.tables e below (T.setTop g) t := by
  obtain ⟨v, _, ⟨T', L', k', n'⟩, -, X', ⟨Lc, hQ, l1, l2, l3⟩, st⟩ := Jvm.LawKit.callS X hx (y := y) hown (mvT hZ w1) (mvT hZ w2) (mvT hZ w3) (mvT hZ w4) hy (backOf (W := W) hM hZ w4 w3 hf hl) hg hsize (argsL := argsL) (rest := rest) hlen hstack hW hd (fun _ _ => ⟨rfl, eT, hc, hs⟩)
  dsimp only [Pt.U, Pt.locs, Pt.cells, Pt.slots] at X' l1 l2 l3 st hQ
  subst l1 l2 l3
  exact ⟨v, T', Lc, X', hQ, st⟩
theorem own_callV (X : Stand p l e R s m args below meth c T locs cells slots) (hx : p.tables.exec = Jvm.exec) (hZ : Z.Warmed39 s.vm) {own C : String} {index : Nat} {y : MethodName} {bytes : ByteArray} {maxL : Nat} {ret : Option FieldType} {rm : Room} {b : Addr} {argsL rest : List Value}
    (hown : s.vm.findClass own = some m.cls) (w1 : (Cond.methodLink own index y).before a0 Z = true) (w2 : (Cond.declares y).before a0 Z = true) (w3 : (Cond.selects C y y).before a0 Z = true) (w4 : (Cond.instanceMethod y).before a0 Z = true) (w5 : (Cond.initialized y.cls).before a0 Z = true) (w6 : (Cond.code y bytes maxL ret).before a0 Z = true)
    (hM : own_Met l y bytes maxL ret [] rm Z (.ref b :: argsL).toArray h Q) (eT : T.heap = h) (E : Exa Z h b C) (hy : y.cls ≠ "java/lang/invoke/MethodHandle" ∧ y.cls ≠ "java/lang/invoke/VarHandle") (hf : rm.frames + 1 ≤ R.frames) (W : Nat) (hl : W + (maxL + 11) + rm.locals ≤ R.locals) (hc : cells + rm.cells ≤ R.cells) (hs : slots + rm.slots ≤ R.slots)
    {g : JFrame} (hg : g.method = m) (hsize : g.locals.size = c.maxLocals) (hlen : ∀ sig, parseMethodDescriptor y.desc = some sig → argsL.length = sig.parameters.length) (hstack : g.stack = argsL.reverse ++ .ref b :: rest) (hW : 2 * g.monitorRoom + (rest.map fun v => v.category).sum ≤ W) (hd : decode c.code g.pc = .ok (.invokevirtual index, 3)) :
    ∃ v T' L, Stand p l e R s m args below meth c T' (locs ++ L) (cells + rm.cells) (slots + rm.slots) ∧ Q v T'.heap L ∧ ∀ t, Steps p.tables e below (T'.setTop { g with pc := g.pc + 3, stack := v.toList ++ rest }) t → Steps p.tables e below (T.setTop g) t := by
  obtain ⟨cq, kq, qa, qb, qc⟩ := isOf hZ eT E
  obtain ⟨v, _, ⟨T', L', k', n'⟩, -, X', ⟨Lc, hQ, l1, l2, l3⟩, st⟩ := X.virtualBack hx (y := y) (z := y) hown (mvT hZ w1) (mvT hZ w2) (notFace_of_selects (args := #[]) (mvT hZ w3)) (mvT hZ w3) (mvT hZ w4) hy (backOf (W := W) hM hZ w6 w5 hf hl) qa qc hg hsize (Steps.refl _) (argsL := argsL) (rest := rest) hlen hstack hW hd (fun _ _ => ⟨rfl, eT, hc, hs⟩)
  dsimp only [Pt.U, Pt.locs, Pt.cells, Pt.slots] at X' l1 l2 l3 st hQ
  subst l1 l2 l3
  exact ⟨v, T', Lc, X', hQ, fun t q => st.trans q⟩
theorem own_callP (X : Stand p l e R s m args below meth c T locs cells slots) (hx : p.tables.exec = Jvm.exec) (hZ : Z.Warmed39 s.vm) {own : String} {index : Nat} {y : MethodName} {bytes : ByteArray} {maxL : Nat} {rm : Room} {a : Addr} {argsL rest : List Value}
    (hown : s.vm.findClass own = some m.cls) (hy1 : y.name = "<init>") (w1 : (Cond.methodLink own index y).before a0 Z = true) (w2 : (Cond.instanceMethod y).before a0 Z = true) (w3 : (Cond.initialized y.cls).before a0 Z = true) (w4 : (Cond.code y bytes maxL none).before a0 Z = true)
    (hM : own_Met l y bytes maxL none [] rm Z (.ref a :: argsL).toArray h Q) (eT : T.heap = h) (hy : y.cls ≠ "java/lang/invoke/MethodHandle" ∧ y.cls ≠ "java/lang/invoke/VarHandle") (hf : rm.frames + 1 ≤ R.frames) (W : Nat) (hl : W + (maxL + 11) + rm.locals ≤ R.locals) (hc : cells + rm.cells ≤ R.cells) (hs : slots + rm.slots ≤ R.slots)
    {g : JFrame} (hg : g.method = m) (hsize : g.locals.size = c.maxLocals) (hlen : ∀ sig, parseMethodDescriptor y.desc = some sig → argsL.length = sig.parameters.length) (hstack : g.stack = argsL.reverse ++ .ref a :: rest) (hW : 2 * g.monitorRoom + (rest.map fun v => v.category).sum ≤ W) (hd : decode c.code g.pc = .ok (.invokespecial index, 3)) :
    ∃ v T' L, Stand p l e R s m args below meth c T' (locs ++ L) (cells + rm.cells) (slots + rm.slots) ∧ Q v T'.heap L ∧ ∀ t, Steps p.tables e below (T'.setTop { g with pc := g.pc + 3, stack := v.toList ++ rest }) t → Steps p.tables e below (T.setTop g) t := by
  obtain ⟨v, _, ⟨T', L', k', n'⟩, -, X', ⟨Lc, hQ, l1, l2, l3⟩, st⟩ := X.specialBack hx (y := y) hy1 hown (mvT hZ w1) (mvT hZ w2) (mvT hZ w4) hy (backOf (W := W) hM hZ w4 w3 hf hl) hg hsize (Steps.refl _) (a := a) (argsL := argsL) (rest := rest) hlen hstack hW hd (fun _ _ => ⟨rfl, eT, hc, hs⟩)
  dsimp only [Pt.U, Pt.locs, Pt.cells, Pt.slots] at X' l1 l2 l3 st hQ
  subst l1 l2 l3
  exact ⟨v, T', Lc, X', hQ, fun t q => st.trans q⟩
end OwnWalk
theorem own_llt (x y : Int64) : XT.cmpL x y < 0 ↔ x < y := by
  show (if y < x then (1 : Int32) else if x = y then 0 else -1) < 0 ↔ _
  split
  · rename_i h; exact ⟨fun q => absurd q (by decide), fun q => by rw [Int64.lt_iff_toInt_lt] at h q; omega⟩
  · rename_i h; split
    · rename_i h2; subst h2; exact ⟨fun q => absurd q (by decide), fun q => absurd q h⟩
    · rename_i h2; refine ⟨fun _ => ?_, fun _ => by decide⟩
      rw [← Int64.toInt_inj] at h2; rw [Int64.lt_iff_toInt_lt] at h ⊢; omega
theorem own_lgt (x y : Int64) : 0 < XT.cmpL x y ↔ y < x := by
  show 0 < (if y < x then (1 : Int32) else if x = y then 0 else -1) ↔ _
  split
  · rename_i h; exact ⟨fun _ => h, fun _ => by decide⟩
  · rename_i h; split
    · exact ⟨fun q => absurd q (by decide), fun q => absurd q h⟩
    · exact ⟨fun q => absurd q (by decide), fun q => absurd q h⟩
theorem own_leq (x y : Int64) : XT.cmpL x y = 0 ↔ x = y := by
  show (if y < x then (1 : Int32) else if x = y then 0 else -1) = 0 ↔ _
  split
  · rename_i h; refine ⟨fun q => absurd q (by decide), fun q => ?_⟩; subst q; exact absurd h (by simp only [Int64.lt_iff_toInt_lt]; omega)
  · split
    · rename_i h; exact ⟨fun _ => h, fun _ => rfl⟩
    · rename_i h; exact ⟨fun q => absurd q (by decide), fun q => absurd q h⟩
theorem own_at {x y : Value} (h : x = y) : XT.acmp .eq x y = true ∧ XT.acmp .ne x y = false := by subst h; exact ⟨decide_eq_true rfl, decide_eq_false fun q => q rfl⟩
theorem own_af {x y : Value} (h : ¬ (x = y)) : XT.acmp .eq x y = false ∧ XT.acmp .ne x y = true := ⟨decide_eq_false h, decide_eq_true h⟩
theorem own_fld {s : State} {args : Array Value} {t u : Term} {C n d : String} {a : Addr} {v : Value} (ev : t.eval args s none [] s = some (.ref a)) (hu : u.eval args s none [] s = some v) (hq : (Cond.eq (.field t C n d) u).value args s none s [] = some true) : Fld s s.heap a C n d v := by
  refine Fld.start ?_
  obtain ⟨x, y, h1, h2, -, -⟩ := cmp_v (Or.inl hq)
  cases hu.symm.trans h2
  have h3 := h1
  rw [fld_at ev] at h3
  simp only [Cond.value, h1, h2] at hq
  rw [h3]
  cases x <;> cases v <;> simp at hq ⊢ <;> exact hq
end Jvm.RoadKit
namespace Jvm.Pilot.@@N@@
open Jvm Jvm.ClassFile Sem Op Lib Jvm.Free Jvm.Stand Jvm.LawKit Jvm.RoadKit Bundle Jvm.Pilot.@@N@@.Jvm.D
def own_x33 (x : Int64) : Int64 := x ^^^ XT.ushrL x (33 : Int32)
def own_fm (k : Int64) : Int64 := own_x33 (own_x33 (own_x33 k * (-49064778989728563 : Int64)) * (-4265267296055464877 : Int64))
def own_ns (c x : Int64) : Int64 := x * ((2 : Int64) - c * x)
def own_inv (c : Int64) : Int64 := own_ns c (own_ns c (own_ns c (own_ns c (own_ns c c))))
def own_un (k : Int64) : Int64 := own_x33 (own_x33 (own_x33 k * own_inv (-4265267296055464877 : Int64)) * own_inv (-49064778989728563 : Int64))
theorem own_sh : ((33 : Int32).toInt64.toUInt64 &&& Int64.toUInt64 63) = 33 := by decide +kernel
theorem own_x33_bv (x : Int64) : (own_x33 x).toBitVec = x.toBitVec ^^^ (x.toBitVec >>> 33) := by
  show (x ^^^ (x.toUInt64 >>> ((33 : Int32).toInt64.toUInt64 &&& Int64.toUInt64 63)).toInt64).toBitVec = _
  rw [own_sh]; rfl
theorem own_x33_inv (x : Int64) : own_x33 (own_x33 x) = x := by
  apply Int64.toBitVec_inj.mp
  rw [own_x33_bv, own_x33_bv, BitVec.ushiftRight_xor_distrib, ← BitVec.shiftRight_add]
  rw [show x.toBitVec >>> (33 + 33) = 0#64 from BitVec.ushiftRight_eq_zero (by decide)]
  rw [BitVec.xor_zero, BitVec.xor_assoc, BitVec.xor_self, BitVec.xor_zero]
theorem own_i1 : (-49064778989728563 : Int64) * own_inv (-49064778989728563 : Int64) = 1 := by decide +kernel
theorem own_i2 : (-4265267296055464877 : Int64) * own_inv (-4265267296055464877 : Int64) = 1 := by decide +kernel
theorem own_j1 : own_inv (-49064778989728563 : Int64) * (-49064778989728563 : Int64) = 1 := by decide +kernel
theorem own_j2 : own_inv (-4265267296055464877 : Int64) * (-4265267296055464877 : Int64) = 1 := by decide +kernel
theorem own_law1 (k : Int64) : own_un (own_fm k) = k := by
  show own_x33 (own_x33 (own_x33 (own_x33 (own_x33 (own_x33 k * (-49064778989728563 : Int64)) * (-4265267296055464877 : Int64))) * own_inv (-4265267296055464877 : Int64)) * own_inv (-49064778989728563 : Int64)) = k
  rw [own_x33_inv, Int64.mul_assoc, own_i2, Int64.mul_one, own_x33_inv, Int64.mul_assoc, own_i1, Int64.mul_one, own_x33_inv]
theorem own_law2 (k : Int64) : own_fm (own_un k) = k := by
  show own_x33 (own_x33 (own_x33 (own_x33 (own_x33 (own_x33 k * own_inv (-4265267296055464877 : Int64)) * own_inv (-49064778989728563 : Int64))) * (-49064778989728563 : Int64)) * (-4265267296055464877 : Int64)) = k
  rw [own_x33_inv, Int64.mul_assoc, own_j1, Int64.mul_one, own_x33_inv, Int64.mul_assoc, own_j2, Int64.mul_one, own_x33_inv]
theorem d1_0 : decode prog_28_method_10_code 0 = .ok (.lload_n 0, 1) := by decide +kernel
theorem d1_1 : decode prog_28_method_10_code 1 = .ok (.lstore_n 2, 1) := by decide +kernel
theorem d1_2 : decode prog_28_method_10_code 2 = .ok (.lload_n 2, 1) := by decide +kernel
theorem d1_3 : decode prog_28_method_10_code 3 = .ok (.lload_n 2, 1) := by decide +kernel
theorem d1_4 : decode prog_28_method_10_code 4 = .ok (.bipush 33, 2) := by decide +kernel
theorem d1_6 : decode prog_28_method_10_code 6 = .ok (.lushr, 1) := by decide +kernel
theorem d1_7 : decode prog_28_method_10_code 7 = .ok (.lxor, 1) := by decide +kernel
theorem d1_8 : decode prog_28_method_10_code 8 = .ok (.lstore_n 2, 1) := by decide +kernel
theorem d1_9 : decode prog_28_method_10_code 9 = .ok (.lload_n 2, 1) := by decide +kernel
theorem d1_10 : decode prog_28_method_10_code 10 = .ok (.ldc2_w 114, 3) := by decide +kernel
theorem d1_13 : decode prog_28_method_10_code 13 = .ok (.lmul, 1) := by decide +kernel
theorem d1_14 : decode prog_28_method_10_code 14 = .ok (.lstore_n 2, 1) := by decide +kernel
theorem d1_15 : decode prog_28_method_10_code 15 = .ok (.lload_n 2, 1) := by decide +kernel
theorem d1_16 : decode prog_28_method_10_code 16 = .ok (.lload_n 2, 1) := by decide +kernel
theorem d1_17 : decode prog_28_method_10_code 17 = .ok (.bipush 33, 2) := by decide +kernel
theorem d1_19 : decode prog_28_method_10_code 19 = .ok (.lushr, 1) := by decide +kernel
theorem d1_20 : decode prog_28_method_10_code 20 = .ok (.lxor, 1) := by decide +kernel
theorem d1_21 : decode prog_28_method_10_code 21 = .ok (.lstore_n 2, 1) := by decide +kernel
theorem d1_22 : decode prog_28_method_10_code 22 = .ok (.lload_n 2, 1) := by decide +kernel
theorem d1_23 : decode prog_28_method_10_code 23 = .ok (.ldc2_w 116, 3) := by decide +kernel
theorem d1_26 : decode prog_28_method_10_code 26 = .ok (.lmul, 1) := by decide +kernel
theorem d1_27 : decode prog_28_method_10_code 27 = .ok (.lstore_n 2, 1) := by decide +kernel
theorem d1_28 : decode prog_28_method_10_code 28 = .ok (.lload_n 2, 1) := by decide +kernel
theorem d1_29 : decode prog_28_method_10_code 29 = .ok (.lload_n 2, 1) := by decide +kernel
theorem d1_30 : decode prog_28_method_10_code 30 = .ok (.bipush 33, 2) := by decide +kernel
theorem d1_32 : decode prog_28_method_10_code 32 = .ok (.lushr, 1) := by decide +kernel
theorem d1_33 : decode prog_28_method_10_code 33 = .ok (.lxor, 1) := by decide +kernel
theorem d1_34 : decode prog_28_method_10_code 34 = .ok (.lstore_n 2, 1) := by decide +kernel
theorem d1_35 : decode prog_28_method_10_code 35 = .ok (.lload_n 2, 1) := by decide +kernel
theorem d1_36 : decode prog_28_method_10_code 36 = .ok (.lreturn, 1) := by decide +kernel
set_option maxRecDepth 65536 in
set_option maxHeartbeats 40000000 in
theorem rm_fm (l : Launch) (Z : State) (a0 : Array Value) (hw : ∀ d ∈ tables_1, d.before a0 Z = true) (ws : List Jvm.Cond) (p1 : Int64) (h0 : Heap)  :
    own_Met l (⟨"com/example/gannet/gannet/hash/Murmur3", "finalMix", "(J)J"⟩ : MethodName) prog_28_method_10_code 4 (some .long) ws ({ frames := 0, cells := 0, slots := 0, locals := 0 } : Room) Z #[(.long p1)] h0 (fun v h L => v = some (.long (own_fm p1)) ∧ h = h0 ∧ L = []) := by
  refine MetFree.of_bodySF (plainFor_of_name (by first | (simp [plainName, overriddenIn]; done) | decide +kernel)) hisR ?_
  intro p e s m args below meth c s₁ Bd hml0 hP hK
  obtain ⟨rfl, hZ, hh⟩ := hP
  have hx := Bd.exec
  have hby := Bd.bytes
  have hml : c.maxLocals = 4 := hml0
  have hown : s.vm.findClass "com/example/gannet/gannet/hash/Murmur3" = some m.cls := findClass_of_methodNamed Bd.named
  have hnm := (name_of_methodNamed Bd.named Bd.method).1
  have hlk : meth.locks = false := Bd.notSynchronized
  have hret := Bd.returns
  have X0 : Stand p l e ({ frames := 0, cells := 0, slots := 0, locals := 0 } : Room) s m #[(.long p1)] below meth c s₁ [] 0 0 := Stand.of_body Bd
  have e0 : s₁.heap = h0 := by rw [← hh, Bd.state]; rfl
  refine own_in (Q := fun v h L => v = some (.long (own_fm p1)) ∧ h = h0 ∧ L = []) (ef := by first | (simp [entryFrame, mkF, argsToLocals, Value.category, maxLocals]; done) | rfl) (g' := (mkF m 0 #[.val (.long p1), .second, .unset, .unset] [])) ?_
  refine own_go (T' := s₁) (g' := (mkF m 1 #[.val (.long p1), .second, .unset, .unset] [(.long p1)])) (fun t q => XT.lloadN X0.here hx rfl (hb hby d1_0) rfl q) ?_
  refine own_go (T' := s₁) (g' := (mkF m 2 #[.val (.long p1), .second, .val (.long p1), .second] [])) (fun t q => XT.lstoreN X0.here hx rfl (hb hby d1_1) rfl (l' := #[.val (.long p1), .second, .val (.long p1), .second]) rfl q) ?_
  refine own_go (T' := s₁) (g' := (mkF m 3 #[.val (.long p1), .second, .val (.long p1), .second] [(.long p1)])) (fun t q => XT.lloadN X0.here hx rfl (hb hby d1_2) rfl q) ?_
  refine own_go (T' := s₁) (g' := (mkF m 4 #[.val (.long p1), .second, .val (.long p1), .second] [(.long p1), (.long p1)])) (fun t q => XT.lloadN X0.here hx rfl (hb hby d1_3) rfl q) ?_
  refine own_go (T' := s₁) (g' := (mkF m 6 #[.val (.long p1), .second, .val (.long p1), .second] [(.int (33 : Int32)), (.long p1), (.long p1)])) (fun t q => XS.bipush X0.here hx rfl (hb hby d1_4) q) ?_
  refine own_go (T' := s₁) (g' := (mkF m 7 #[.val (.long p1), .second, .val (.long p1), .second] [(.long (XT.ushrL p1 (33 : Int32))), (.long p1)])) (fun t q => XT.lushr X0.here hx rfl (hb hby d1_6) rfl q) ?_
  refine own_go (T' := s₁) (g' := (mkF m 8 #[.val (.long p1), .second, .val (.long p1), .second] [(.long (p1 ^^^ (XT.ushrL p1 (33 : Int32))))])) (fun t q => XT.lxor X0.here hx rfl (hb hby d1_7) rfl q) ?_
  obtain ⟨z1, hz1⟩ : ∃ z : Int64, z = (p1 ^^^ (XT.ushrL p1 (33 : Int32))) := ⟨_, rfl⟩
  rw [← hz1]
  refine own_go (T' := s₁) (g' := (mkF m 9 #[.val (.long p1), .second, .val (.long z1), .second] [])) (fun t q => XT.lstoreN X0.here hx rfl (hb hby d1_8) rfl (l' := #[.val (.long p1), .second, .val (.long z1), .second]) rfl q) ?_
  refine own_go (T' := s₁) (g' := (mkF m 10 #[.val (.long p1), .second, .val (.long z1), .second] [(.long z1)])) (fun t q => XT.lloadN X0.here hx rfl (hb hby d1_9) rfl q) ?_
  refine own_go (T' := s₁) (g' := (mkF m 13 #[.val (.long p1), .second, .val (.long z1), .second] [(.long (-49064778989728563 : Int64)), (.long z1)])) (fun t q => X0.ldc2Long hx hown (mvT hZ (hw _ (List.mem_of_getElem? (i := 4) rfl))) (g := (mkF m 10 #[.val (.long p1), .second, .val (.long z1), .second] [(.long z1)])) rfl (hb hby d1_10) t q) ?_
  refine own_go (T' := s₁) (g' := (mkF m 14 #[.val (.long p1), .second, .val (.long z1), .second] [(.long (z1 * (-49064778989728563 : Int64)))])) (fun t q => XT.lmul X0.here hx rfl (hb hby d1_13) rfl q) ?_
  obtain ⟨z2, hz2⟩ : ∃ z : Int64, z = (z1 * (-49064778989728563 : Int64)) := ⟨_, rfl⟩
  rw [← hz2]
  refine own_go (T' := s₁) (g' := (mkF m 15 #[.val (.long p1), .second, .val (.long z2), .second] [])) (fun t q => XT.lstoreN X0.here hx rfl (hb hby d1_14) rfl (l' := #[.val (.long p1), .second, .val (.long z2), .second]) rfl q) ?_
  refine own_go (T' := s₁) (g' := (mkF m 16 #[.val (.long p1), .second, .val (.long z2), .second] [(.long z2)])) (fun t q => XT.lloadN X0.here hx rfl (hb hby d1_15) rfl q) ?_
  refine own_go (T' := s₁) (g' := (mkF m 17 #[.val (.long p1), .second, .val (.long z2), .second] [(.long z2), (.long z2)])) (fun t q => XT.lloadN X0.here hx rfl (hb hby d1_16) rfl q) ?_
  refine own_go (T' := s₁) (g' := (mkF m 19 #[.val (.long p1), .second, .val (.long z2), .second] [(.int (33 : Int32)), (.long z2), (.long z2)])) (fun t q => XS.bipush X0.here hx rfl (hb hby d1_17) q) ?_
  refine own_go (T' := s₁) (g' := (mkF m 20 #[.val (.long p1), .second, .val (.long z2), .second] [(.long (XT.ushrL z2 (33 : Int32))), (.long z2)])) (fun t q => XT.lushr X0.here hx rfl (hb hby d1_19) rfl q) ?_
  refine own_go (T' := s₁) (g' := (mkF m 21 #[.val (.long p1), .second, .val (.long z2), .second] [(.long (z2 ^^^ (XT.ushrL z2 (33 : Int32))))])) (fun t q => XT.lxor X0.here hx rfl (hb hby d1_20) rfl q) ?_
  obtain ⟨z3, hz3⟩ : ∃ z : Int64, z = (z2 ^^^ (XT.ushrL z2 (33 : Int32))) := ⟨_, rfl⟩
  rw [← hz3]
  refine own_go (T' := s₁) (g' := (mkF m 22 #[.val (.long p1), .second, .val (.long z3), .second] [])) (fun t q => XT.lstoreN X0.here hx rfl (hb hby d1_21) rfl (l' := #[.val (.long p1), .second, .val (.long z3), .second]) rfl q) ?_
  refine own_go (T' := s₁) (g' := (mkF m 23 #[.val (.long p1), .second, .val (.long z3), .second] [(.long z3)])) (fun t q => XT.lloadN X0.here hx rfl (hb hby d1_22) rfl q) ?_
  refine own_go (T' := s₁) (g' := (mkF m 26 #[.val (.long p1), .second, .val (.long z3), .second] [(.long (-4265267296055464877 : Int64)), (.long z3)])) (fun t q => X0.ldc2Long hx hown (mvT hZ (hw _ (List.mem_of_getElem? (i := 5) rfl))) (g := (mkF m 23 #[.val (.long p1), .second, .val (.long z3), .second] [(.long z3)])) rfl (hb hby d1_23) t q) ?_
  refine own_go (T' := s₁) (g' := (mkF m 27 #[.val (.long p1), .second, .val (.long z3), .second] [(.long (z3 * (-4265267296055464877 : Int64)))])) (fun t q => XT.lmul X0.here hx rfl (hb hby d1_26) rfl q) ?_
  obtain ⟨z4, hz4⟩ : ∃ z : Int64, z = (z3 * (-4265267296055464877 : Int64)) := ⟨_, rfl⟩
  rw [← hz4]
  refine own_go (T' := s₁) (g' := (mkF m 28 #[.val (.long p1), .second, .val (.long z4), .second] [])) (fun t q => XT.lstoreN X0.here hx rfl (hb hby d1_27) rfl (l' := #[.val (.long p1), .second, .val (.long z4), .second]) rfl q) ?_
  refine own_go (T' := s₁) (g' := (mkF m 29 #[.val (.long p1), .second, .val (.long z4), .second] [(.long z4)])) (fun t q => XT.lloadN X0.here hx rfl (hb hby d1_28) rfl q) ?_
  refine own_go (T' := s₁) (g' := (mkF m 30 #[.val (.long p1), .second, .val (.long z4), .second] [(.long z4), (.long z4)])) (fun t q => XT.lloadN X0.here hx rfl (hb hby d1_29) rfl q) ?_
  refine own_go (T' := s₁) (g' := (mkF m 32 #[.val (.long p1), .second, .val (.long z4), .second] [(.int (33 : Int32)), (.long z4), (.long z4)])) (fun t q => XS.bipush X0.here hx rfl (hb hby d1_30) q) ?_
  refine own_go (T' := s₁) (g' := (mkF m 33 #[.val (.long p1), .second, .val (.long z4), .second] [(.long (XT.ushrL z4 (33 : Int32))), (.long z4)])) (fun t q => XT.lushr X0.here hx rfl (hb hby d1_32) rfl q) ?_
  refine own_go (T' := s₁) (g' := (mkF m 34 #[.val (.long p1), .second, .val (.long z4), .second] [(.long (z4 ^^^ (XT.ushrL z4 (33 : Int32))))])) (fun t q => XT.lxor X0.here hx rfl (hb hby d1_33) rfl q) ?_
  obtain ⟨z5, hz5⟩ : ∃ z : Int64, z = (z4 ^^^ (XT.ushrL z4 (33 : Int32))) := ⟨_, rfl⟩
  rw [← hz5]
  refine own_go (T' := s₁) (g' := (mkF m 35 #[.val (.long p1), .second, .val (.long z5), .second] [])) (fun t q => XT.lstoreN X0.here hx rfl (hb hby d1_34) rfl (l' := #[.val (.long p1), .second, .val (.long z5), .second]) rfl q) ?_
  refine own_go (T' := s₁) (g' := (mkF m 36 #[.val (.long p1), .second, .val (.long z5), .second] [(.long z5)])) (fun t q => XT.lloadN X0.here hx rfl (hb hby d1_35) rfl q) ?_
  refine own_outJ X0 hx hlk hret (hb hby d1_36) ?_ (by decide) (by decide)
  refine ⟨?_, e0, rfl⟩
  subst_vars
  rfl
theorem d3_0 : decode method_2_code 0 = .ok (.lload_n 0, 1) := by decide +kernel
theorem d3_1 : decode method_2_code 1 = .ok (.lstore_n 2, 1) := by decide +kernel
theorem d3_2 : decode method_2_code 2 = .ok (.lload_n 2, 1) := by decide +kernel
theorem d3_3 : decode method_2_code 3 = .ok (.ldc2_w 7, 3) := by decide +kernel
theorem d3_6 : decode method_2_code 6 = .ok (.lload_n 0, 1) := by decide +kernel
theorem d3_7 : decode method_2_code 7 = .ok (.lload_n 2, 1) := by decide +kernel
theorem d3_8 : decode method_2_code 8 = .ok (.lmul, 1) := by decide +kernel
theorem d3_9 : decode method_2_code 9 = .ok (.lsub, 1) := by decide +kernel
theorem d3_10 : decode method_2_code 10 = .ok (.lmul, 1) := by decide +kernel
theorem d3_11 : decode method_2_code 11 = .ok (.lstore_n 2, 1) := by decide +kernel
theorem d3_12 : decode method_2_code 12 = .ok (.lload_n 2, 1) := by decide +kernel
theorem d3_13 : decode method_2_code 13 = .ok (.ldc2_w 7, 3) := by decide +kernel
theorem d3_16 : decode method_2_code 16 = .ok (.lload_n 0, 1) := by decide +kernel
theorem d3_17 : decode method_2_code 17 = .ok (.lload_n 2, 1) := by decide +kernel
theorem d3_18 : decode method_2_code 18 = .ok (.lmul, 1) := by decide +kernel
theorem d3_19 : decode method_2_code 19 = .ok (.lsub, 1) := by decide +kernel
theorem d3_20 : decode method_2_code 20 = .ok (.lmul, 1) := by decide +kernel
theorem d3_21 : decode method_2_code 21 = .ok (.lstore_n 2, 1) := by decide +kernel
theorem d3_22 : decode method_2_code 22 = .ok (.lload_n 2, 1) := by decide +kernel
theorem d3_23 : decode method_2_code 23 = .ok (.ldc2_w 7, 3) := by decide +kernel
theorem d3_26 : decode method_2_code 26 = .ok (.lload_n 0, 1) := by decide +kernel
theorem d3_27 : decode method_2_code 27 = .ok (.lload_n 2, 1) := by decide +kernel
theorem d3_28 : decode method_2_code 28 = .ok (.lmul, 1) := by decide +kernel
theorem d3_29 : decode method_2_code 29 = .ok (.lsub, 1) := by decide +kernel
theorem d3_30 : decode method_2_code 30 = .ok (.lmul, 1) := by decide +kernel
theorem d3_31 : decode method_2_code 31 = .ok (.lstore_n 2, 1) := by decide +kernel
theorem d3_32 : decode method_2_code 32 = .ok (.lload_n 2, 1) := by decide +kernel
theorem d3_33 : decode method_2_code 33 = .ok (.ldc2_w 7, 3) := by decide +kernel
theorem d3_36 : decode method_2_code 36 = .ok (.lload_n 0, 1) := by decide +kernel
theorem d3_37 : decode method_2_code 37 = .ok (.lload_n 2, 1) := by decide +kernel
theorem d3_38 : decode method_2_code 38 = .ok (.lmul, 1) := by decide +kernel
theorem d3_39 : decode method_2_code 39 = .ok (.lsub, 1) := by decide +kernel
theorem d3_40 : decode method_2_code 40 = .ok (.lmul, 1) := by decide +kernel
theorem d3_41 : decode method_2_code 41 = .ok (.lstore_n 2, 1) := by decide +kernel
theorem d3_42 : decode method_2_code 42 = .ok (.lload_n 2, 1) := by decide +kernel
theorem d3_43 : decode method_2_code 43 = .ok (.ldc2_w 7, 3) := by decide +kernel
theorem d3_46 : decode method_2_code 46 = .ok (.lload_n 0, 1) := by decide +kernel
theorem d3_47 : decode method_2_code 47 = .ok (.lload_n 2, 1) := by decide +kernel
theorem d3_48 : decode method_2_code 48 = .ok (.lmul, 1) := by decide +kernel
theorem d3_49 : decode method_2_code 49 = .ok (.lsub, 1) := by decide +kernel
theorem d3_50 : decode method_2_code 50 = .ok (.lmul, 1) := by decide +kernel
theorem d3_51 : decode method_2_code 51 = .ok (.lstore_n 2, 1) := by decide +kernel
theorem d3_52 : decode method_2_code 52 = .ok (.lload_n 2, 1) := by decide +kernel
theorem d3_53 : decode method_2_code 53 = .ok (.lreturn, 1) := by decide +kernel
set_option maxRecDepth 65536 in
set_option maxHeartbeats 40000000 in
theorem rm_inv (l : Launch) (Z : State) (a0 : Array Value) (hw : ∀ d ∈ tables_1, d.before a0 Z = true) (ws : List Jvm.Cond) (p1 : Int64) (h0 : Heap)  :
    own_Met l (⟨"com/example/gannet/gannet/hash/Murmur3FinalMixPinLaw", "inverse", "(J)J"⟩ : MethodName) method_2_code 4 (some .long) ws ({ frames := 0, cells := 0, slots := 0, locals := 0 } : Room) Z #[(.long p1)] h0 (fun v h L => v = some (.long (own_inv p1)) ∧ h = h0 ∧ L = []) := by
  refine MetFree.of_bodySF (plainFor_of_name (by first | (simp [plainName, overriddenIn]; done) | decide +kernel)) hisR ?_
  intro p e s m args below meth c s₁ Bd hml0 hP hK
  obtain ⟨rfl, hZ, hh⟩ := hP
  have hx := Bd.exec
  have hby := Bd.bytes
  have hml : c.maxLocals = 4 := hml0
  have hown : s.vm.findClass "com/example/gannet/gannet/hash/Murmur3FinalMixPinLaw" = some m.cls := findClass_of_methodNamed Bd.named
  have hnm := (name_of_methodNamed Bd.named Bd.method).1
  have hlk : meth.locks = false := Bd.notSynchronized
  have hret := Bd.returns
  have X0 : Stand p l e ({ frames := 0, cells := 0, slots := 0, locals := 0 } : Room) s m #[(.long p1)] below meth c s₁ [] 0 0 := Stand.of_body Bd
  have e0 : s₁.heap = h0 := by rw [← hh, Bd.state]; rfl
  refine own_in (Q := fun v h L => v = some (.long (own_inv p1)) ∧ h = h0 ∧ L = []) (ef := by first | (simp [entryFrame, mkF, argsToLocals, Value.category, maxLocals]; done) | rfl) (g' := (mkF m 0 #[.val (.long p1), .second, .unset, .unset] [])) ?_
  refine own_go (T' := s₁) (g' := (mkF m 1 #[.val (.long p1), .second, .unset, .unset] [(.long p1)])) (fun t q => XT.lloadN X0.here hx rfl (hb hby d3_0) rfl q) ?_
  refine own_go (T' := s₁) (g' := (mkF m 2 #[.val (.long p1), .second, .val (.long p1), .second] [])) (fun t q => XT.lstoreN X0.here hx rfl (hb hby d3_1) rfl (l' := #[.val (.long p1), .second, .val (.long p1), .second]) rfl q) ?_
  refine own_go (T' := s₁) (g' := (mkF m 3 #[.val (.long p1), .second, .val (.long p1), .second] [(.long p1)])) (fun t q => XT.lloadN X0.here hx rfl (hb hby d3_2) rfl q) ?_
  refine own_go (T' := s₁) (g' := (mkF m 6 #[.val (.long p1), .second, .val (.long p1), .second] [(.long (2 : Int64)), (.long p1)])) (fun t q => X0.ldc2Long hx hown (mvT hZ (hw _ (List.mem_of_getElem? (i := 14) rfl))) (g := (mkF m 3 #[.val (.long p1), .second, .val (.long p1), .second] [(.long p1)])) rfl (hb hby d3_3) t q) ?_
  refine own_go (T' := s₁) (g' := (mkF m 7 #[.val (.long p1), .second, .val (.long p1), .second] [(.long p1), (.long (2 : Int64)), (.long p1)])) (fun t q => XT.lloadN X0.here hx rfl (hb hby d3_6) rfl q) ?_
  refine own_go (T' := s₁) (g' := (mkF m 8 #[.val (.long p1), .second, .val (.long p1), .second] [(.long p1), (.long p1), (.long (2 : Int64)), (.long p1)])) (fun t q => XT.lloadN X0.here hx rfl (hb hby d3_7) rfl q) ?_
  refine own_go (T' := s₁) (g' := (mkF m 9 #[.val (.long p1), .second, .val (.long p1), .second] [(.long (p1 * p1)), (.long (2 : Int64)), (.long p1)])) (fun t q => XT.lmul X0.here hx rfl (hb hby d3_8) rfl q) ?_
  refine own_go (T' := s₁) (g' := (mkF m 10 #[.val (.long p1), .second, .val (.long p1), .second] [(.long ((2 : Int64) - (p1 * p1))), (.long p1)])) (fun t q => XT.lsub X0.here hx rfl (hb hby d3_9) rfl q) ?_
  refine own_go (T' := s₁) (g' := (mkF m 11 #[.val (.long p1), .second, .val (.long p1), .second] [(.long (p1 * ((2 : Int64) - (p1 * p1))))])) (fun t q => XT.lmul X0.here hx rfl (hb hby d3_10) rfl q) ?_
  obtain ⟨z1, hz1⟩ : ∃ z : Int64, z = (p1 * ((2 : Int64) - (p1 * p1))) := ⟨_, rfl⟩
  rw [← hz1]
  refine own_go (T' := s₁) (g' := (mkF m 12 #[.val (.long p1), .second, .val (.long z1), .second] [])) (fun t q => XT.lstoreN X0.here hx rfl (hb hby d3_11) rfl (l' := #[.val (.long p1), .second, .val (.long z1), .second]) rfl q) ?_
  refine own_go (T' := s₁) (g' := (mkF m 13 #[.val (.long p1), .second, .val (.long z1), .second] [(.long z1)])) (fun t q => XT.lloadN X0.here hx rfl (hb hby d3_12) rfl q) ?_
  refine own_go (T' := s₁) (g' := (mkF m 16 #[.val (.long p1), .second, .val (.long z1), .second] [(.long (2 : Int64)), (.long z1)])) (fun t q => X0.ldc2Long hx hown (mvT hZ (hw _ (List.mem_of_getElem? (i := 14) rfl))) (g := (mkF m 13 #[.val (.long p1), .second, .val (.long z1), .second] [(.long z1)])) rfl (hb hby d3_13) t q) ?_
  refine own_go (T' := s₁) (g' := (mkF m 17 #[.val (.long p1), .second, .val (.long z1), .second] [(.long p1), (.long (2 : Int64)), (.long z1)])) (fun t q => XT.lloadN X0.here hx rfl (hb hby d3_16) rfl q) ?_
  refine own_go (T' := s₁) (g' := (mkF m 18 #[.val (.long p1), .second, .val (.long z1), .second] [(.long z1), (.long p1), (.long (2 : Int64)), (.long z1)])) (fun t q => XT.lloadN X0.here hx rfl (hb hby d3_17) rfl q) ?_
  refine own_go (T' := s₁) (g' := (mkF m 19 #[.val (.long p1), .second, .val (.long z1), .second] [(.long (p1 * z1)), (.long (2 : Int64)), (.long z1)])) (fun t q => XT.lmul X0.here hx rfl (hb hby d3_18) rfl q) ?_
  refine own_go (T' := s₁) (g' := (mkF m 20 #[.val (.long p1), .second, .val (.long z1), .second] [(.long ((2 : Int64) - (p1 * z1))), (.long z1)])) (fun t q => XT.lsub X0.here hx rfl (hb hby d3_19) rfl q) ?_
  refine own_go (T' := s₁) (g' := (mkF m 21 #[.val (.long p1), .second, .val (.long z1), .second] [(.long (z1 * ((2 : Int64) - (p1 * z1))))])) (fun t q => XT.lmul X0.here hx rfl (hb hby d3_20) rfl q) ?_
  obtain ⟨z2, hz2⟩ : ∃ z : Int64, z = (z1 * ((2 : Int64) - (p1 * z1))) := ⟨_, rfl⟩
  rw [← hz2]
  refine own_go (T' := s₁) (g' := (mkF m 22 #[.val (.long p1), .second, .val (.long z2), .second] [])) (fun t q => XT.lstoreN X0.here hx rfl (hb hby d3_21) rfl (l' := #[.val (.long p1), .second, .val (.long z2), .second]) rfl q) ?_
  refine own_go (T' := s₁) (g' := (mkF m 23 #[.val (.long p1), .second, .val (.long z2), .second] [(.long z2)])) (fun t q => XT.lloadN X0.here hx rfl (hb hby d3_22) rfl q) ?_
  refine own_go (T' := s₁) (g' := (mkF m 26 #[.val (.long p1), .second, .val (.long z2), .second] [(.long (2 : Int64)), (.long z2)])) (fun t q => X0.ldc2Long hx hown (mvT hZ (hw _ (List.mem_of_getElem? (i := 14) rfl))) (g := (mkF m 23 #[.val (.long p1), .second, .val (.long z2), .second] [(.long z2)])) rfl (hb hby d3_23) t q) ?_
  refine own_go (T' := s₁) (g' := (mkF m 27 #[.val (.long p1), .second, .val (.long z2), .second] [(.long p1), (.long (2 : Int64)), (.long z2)])) (fun t q => XT.lloadN X0.here hx rfl (hb hby d3_26) rfl q) ?_
  refine own_go (T' := s₁) (g' := (mkF m 28 #[.val (.long p1), .second, .val (.long z2), .second] [(.long z2), (.long p1), (.long (2 : Int64)), (.long z2)])) (fun t q => XT.lloadN X0.here hx rfl (hb hby d3_27) rfl q) ?_
  refine own_go (T' := s₁) (g' := (mkF m 29 #[.val (.long p1), .second, .val (.long z2), .second] [(.long (p1 * z2)), (.long (2 : Int64)), (.long z2)])) (fun t q => XT.lmul X0.here hx rfl (hb hby d3_28) rfl q) ?_
  refine own_go (T' := s₁) (g' := (mkF m 30 #[.val (.long p1), .second, .val (.long z2), .second] [(.long ((2 : Int64) - (p1 * z2))), (.long z2)])) (fun t q => XT.lsub X0.here hx rfl (hb hby d3_29) rfl q) ?_
  refine own_go (T' := s₁) (g' := (mkF m 31 #[.val (.long p1), .second, .val (.long z2), .second] [(.long (z2 * ((2 : Int64) - (p1 * z2))))])) (fun t q => XT.lmul X0.here hx rfl (hb hby d3_30) rfl q) ?_
  obtain ⟨z3, hz3⟩ : ∃ z : Int64, z = (z2 * ((2 : Int64) - (p1 * z2))) := ⟨_, rfl⟩
  rw [← hz3]
  refine own_go (T' := s₁) (g' := (mkF m 32 #[.val (.long p1), .second, .val (.long z3), .second] [])) (fun t q => XT.lstoreN X0.here hx rfl (hb hby d3_31) rfl (l' := #[.val (.long p1), .second, .val (.long z3), .second]) rfl q) ?_
  refine own_go (T' := s₁) (g' := (mkF m 33 #[.val (.long p1), .second, .val (.long z3), .second] [(.long z3)])) (fun t q => XT.lloadN X0.here hx rfl (hb hby d3_32) rfl q) ?_
  refine own_go (T' := s₁) (g' := (mkF m 36 #[.val (.long p1), .second, .val (.long z3), .second] [(.long (2 : Int64)), (.long z3)])) (fun t q => X0.ldc2Long hx hown (mvT hZ (hw _ (List.mem_of_getElem? (i := 14) rfl))) (g := (mkF m 33 #[.val (.long p1), .second, .val (.long z3), .second] [(.long z3)])) rfl (hb hby d3_33) t q) ?_
  refine own_go (T' := s₁) (g' := (mkF m 37 #[.val (.long p1), .second, .val (.long z3), .second] [(.long p1), (.long (2 : Int64)), (.long z3)])) (fun t q => XT.lloadN X0.here hx rfl (hb hby d3_36) rfl q) ?_
  refine own_go (T' := s₁) (g' := (mkF m 38 #[.val (.long p1), .second, .val (.long z3), .second] [(.long z3), (.long p1), (.long (2 : Int64)), (.long z3)])) (fun t q => XT.lloadN X0.here hx rfl (hb hby d3_37) rfl q) ?_
  refine own_go (T' := s₁) (g' := (mkF m 39 #[.val (.long p1), .second, .val (.long z3), .second] [(.long (p1 * z3)), (.long (2 : Int64)), (.long z3)])) (fun t q => XT.lmul X0.here hx rfl (hb hby d3_38) rfl q) ?_
  refine own_go (T' := s₁) (g' := (mkF m 40 #[.val (.long p1), .second, .val (.long z3), .second] [(.long ((2 : Int64) - (p1 * z3))), (.long z3)])) (fun t q => XT.lsub X0.here hx rfl (hb hby d3_39) rfl q) ?_
  refine own_go (T' := s₁) (g' := (mkF m 41 #[.val (.long p1), .second, .val (.long z3), .second] [(.long (z3 * ((2 : Int64) - (p1 * z3))))])) (fun t q => XT.lmul X0.here hx rfl (hb hby d3_40) rfl q) ?_
  obtain ⟨z4, hz4⟩ : ∃ z : Int64, z = (z3 * ((2 : Int64) - (p1 * z3))) := ⟨_, rfl⟩
  rw [← hz4]
  refine own_go (T' := s₁) (g' := (mkF m 42 #[.val (.long p1), .second, .val (.long z4), .second] [])) (fun t q => XT.lstoreN X0.here hx rfl (hb hby d3_41) rfl (l' := #[.val (.long p1), .second, .val (.long z4), .second]) rfl q) ?_
  refine own_go (T' := s₁) (g' := (mkF m 43 #[.val (.long p1), .second, .val (.long z4), .second] [(.long z4)])) (fun t q => XT.lloadN X0.here hx rfl (hb hby d3_42) rfl q) ?_
  refine own_go (T' := s₁) (g' := (mkF m 46 #[.val (.long p1), .second, .val (.long z4), .second] [(.long (2 : Int64)), (.long z4)])) (fun t q => X0.ldc2Long hx hown (mvT hZ (hw _ (List.mem_of_getElem? (i := 14) rfl))) (g := (mkF m 43 #[.val (.long p1), .second, .val (.long z4), .second] [(.long z4)])) rfl (hb hby d3_43) t q) ?_
  refine own_go (T' := s₁) (g' := (mkF m 47 #[.val (.long p1), .second, .val (.long z4), .second] [(.long p1), (.long (2 : Int64)), (.long z4)])) (fun t q => XT.lloadN X0.here hx rfl (hb hby d3_46) rfl q) ?_
  refine own_go (T' := s₁) (g' := (mkF m 48 #[.val (.long p1), .second, .val (.long z4), .second] [(.long z4), (.long p1), (.long (2 : Int64)), (.long z4)])) (fun t q => XT.lloadN X0.here hx rfl (hb hby d3_47) rfl q) ?_
  refine own_go (T' := s₁) (g' := (mkF m 49 #[.val (.long p1), .second, .val (.long z4), .second] [(.long (p1 * z4)), (.long (2 : Int64)), (.long z4)])) (fun t q => XT.lmul X0.here hx rfl (hb hby d3_48) rfl q) ?_
  refine own_go (T' := s₁) (g' := (mkF m 50 #[.val (.long p1), .second, .val (.long z4), .second] [(.long ((2 : Int64) - (p1 * z4))), (.long z4)])) (fun t q => XT.lsub X0.here hx rfl (hb hby d3_49) rfl q) ?_
  refine own_go (T' := s₁) (g' := (mkF m 51 #[.val (.long p1), .second, .val (.long z4), .second] [(.long (z4 * ((2 : Int64) - (p1 * z4))))])) (fun t q => XT.lmul X0.here hx rfl (hb hby d3_50) rfl q) ?_
  obtain ⟨z5, hz5⟩ : ∃ z : Int64, z = (z4 * ((2 : Int64) - (p1 * z4))) := ⟨_, rfl⟩
  rw [← hz5]
  refine own_go (T' := s₁) (g' := (mkF m 52 #[.val (.long p1), .second, .val (.long z5), .second] [])) (fun t q => XT.lstoreN X0.here hx rfl (hb hby d3_51) rfl (l' := #[.val (.long p1), .second, .val (.long z5), .second]) rfl q) ?_
  refine own_go (T' := s₁) (g' := (mkF m 53 #[.val (.long p1), .second, .val (.long z5), .second] [(.long z5)])) (fun t q => XT.lloadN X0.here hx rfl (hb hby d3_52) rfl q) ?_
  refine own_outJ X0 hx hlk hret (hb hby d3_53) ?_ (by decide) (by decide)
  refine ⟨?_, e0, rfl⟩
  subst_vars
  rfl
theorem d2_0 : decode method_3_code 0 = .ok (.lload_n 0, 1) := by decide +kernel
theorem d2_1 : decode method_3_code 1 = .ok (.lstore_n 2, 1) := by decide +kernel
theorem d2_2 : decode method_3_code 2 = .ok (.lload_n 2, 1) := by decide +kernel
theorem d2_3 : decode method_3_code 3 = .ok (.lload_n 2, 1) := by decide +kernel
theorem d2_4 : decode method_3_code 4 = .ok (.bipush 33, 2) := by decide +kernel
theorem d2_6 : decode method_3_code 6 = .ok (.lushr, 1) := by decide +kernel
theorem d2_7 : decode method_3_code 7 = .ok (.lxor, 1) := by decide +kernel
theorem d2_8 : decode method_3_code 8 = .ok (.lstore_n 2, 1) := by decide +kernel
theorem d2_9 : decode method_3_code 9 = .ok (.lload_n 2, 1) := by decide +kernel
theorem d2_10 : decode method_3_code 10 = .ok (.ldc2_w 9, 3) := by decide +kernel
theorem d2_13 : decode method_3_code 13 = .ok (.invokestatic 11, 3) := by decide +kernel
theorem d2_16 : decode method_3_code 16 = .ok (.lmul, 1) := by decide +kernel
theorem d2_17 : decode method_3_code 17 = .ok (.lstore_n 2, 1) := by decide +kernel
theorem d2_18 : decode method_3_code 18 = .ok (.lload_n 2, 1) := by decide +kernel
theorem d2_19 : decode method_3_code 19 = .ok (.lload_n 2, 1) := by decide +kernel
theorem d2_20 : decode method_3_code 20 = .ok (.bipush 33, 2) := by decide +kernel
theorem d2_22 : decode method_3_code 22 = .ok (.lushr, 1) := by decide +kernel
theorem d2_23 : decode method_3_code 23 = .ok (.lxor, 1) := by decide +kernel
theorem d2_24 : decode method_3_code 24 = .ok (.lstore_n 2, 1) := by decide +kernel
theorem d2_25 : decode method_3_code 25 = .ok (.lload_n 2, 1) := by decide +kernel
theorem d2_26 : decode method_3_code 26 = .ok (.ldc2_w 17, 3) := by decide +kernel
theorem d2_29 : decode method_3_code 29 = .ok (.invokestatic 11, 3) := by decide +kernel
theorem d2_32 : decode method_3_code 32 = .ok (.lmul, 1) := by decide +kernel
theorem d2_33 : decode method_3_code 33 = .ok (.lstore_n 2, 1) := by decide +kernel
theorem d2_34 : decode method_3_code 34 = .ok (.lload_n 2, 1) := by decide +kernel
theorem d2_35 : decode method_3_code 35 = .ok (.lload_n 2, 1) := by decide +kernel
theorem d2_36 : decode method_3_code 36 = .ok (.bipush 33, 2) := by decide +kernel
theorem d2_38 : decode method_3_code 38 = .ok (.lushr, 1) := by decide +kernel
theorem d2_39 : decode method_3_code 39 = .ok (.lxor, 1) := by decide +kernel
theorem d2_40 : decode method_3_code 40 = .ok (.lstore_n 2, 1) := by decide +kernel
theorem d2_41 : decode method_3_code 41 = .ok (.lload_n 2, 1) := by decide +kernel
theorem d2_42 : decode method_3_code 42 = .ok (.lreturn, 1) := by decide +kernel
set_option maxRecDepth 65536 in
set_option maxHeartbeats 40000000 in
theorem rm_un (l : Launch) (Z : State) (a0 : Array Value) (hw : ∀ d ∈ tables_1, d.before a0 Z = true) (ws : List Jvm.Cond) (p1 : Int64) (h0 : Heap)  :
    own_Met l (⟨"com/example/gannet/gannet/hash/Murmur3FinalMixPinLaw", "unmix", "(J)J"⟩ : MethodName) method_3_code 4 (some .long) ws ({ frames := 1, cells := 0, slots := 0, locals := 17 } : Room) Z #[(.long p1)] h0 (fun v h L => v = some (.long (own_un p1)) ∧ h = h0 ∧ L = []) := by
  refine MetFree.of_bodySF (plainFor_of_name (by first | (simp [plainName, overriddenIn]; done) | decide +kernel)) hisR ?_
  intro p e s m args below meth c s₁ Bd hml0 hP hK
  obtain ⟨rfl, hZ, hh⟩ := hP
  have hx := Bd.exec
  have hby := Bd.bytes
  have hml : c.maxLocals = 4 := hml0
  have hown : s.vm.findClass "com/example/gannet/gannet/hash/Murmur3FinalMixPinLaw" = some m.cls := findClass_of_methodNamed Bd.named
  have hnm := (name_of_methodNamed Bd.named Bd.method).1
  have hlk : meth.locks = false := Bd.notSynchronized
  have hret := Bd.returns
  have X0 : Stand p l e ({ frames := 1, cells := 0, slots := 0, locals := 17 } : Room) s m #[(.long p1)] below meth c s₁ [] 0 0 := Stand.of_body Bd
  have e0 : s₁.heap = h0 := by rw [← hh, Bd.state]; rfl
  refine own_in (Q := fun v h L => v = some (.long (own_un p1)) ∧ h = h0 ∧ L = []) (ef := by first | (simp [entryFrame, mkF, argsToLocals, Value.category, maxLocals]; done) | rfl) (g' := (mkF m 0 #[.val (.long p1), .second, .unset, .unset] [])) ?_
  refine own_go (T' := s₁) (g' := (mkF m 1 #[.val (.long p1), .second, .unset, .unset] [(.long p1)])) (fun t q => XT.lloadN X0.here hx rfl (hb hby d2_0) rfl q) ?_
  refine own_go (T' := s₁) (g' := (mkF m 2 #[.val (.long p1), .second, .val (.long p1), .second] [])) (fun t q => XT.lstoreN X0.here hx rfl (hb hby d2_1) rfl (l' := #[.val (.long p1), .second, .val (.long p1), .second]) rfl q) ?_
  refine own_go (T' := s₁) (g' := (mkF m 3 #[.val (.long p1), .second, .val (.long p1), .second] [(.long p1)])) (fun t q => XT.lloadN X0.here hx rfl (hb hby d2_2) rfl q) ?_
  refine own_go (T' := s₁) (g' := (mkF m 4 #[.val (.long p1), .second, .val (.long p1), .second] [(.long p1), (.long p1)])) (fun t q => XT.lloadN X0.here hx rfl (hb hby d2_3) rfl q) ?_
  refine own_go (T' := s₁) (g' := (mkF m 6 #[.val (.long p1), .second, .val (.long p1), .second] [(.int (33 : Int32)), (.long p1), (.long p1)])) (fun t q => XS.bipush X0.here hx rfl (hb hby d2_4) q) ?_
  refine own_go (T' := s₁) (g' := (mkF m 7 #[.val (.long p1), .second, .val (.long p1), .second] [(.long (XT.ushrL p1 (33 : Int32))), (.long p1)])) (fun t q => XT.lushr X0.here hx rfl (hb hby d2_6) rfl q) ?_
  refine own_go (T' := s₁) (g' := (mkF m 8 #[.val (.long p1), .second, .val (.long p1), .second] [(.long (p1 ^^^ (XT.ushrL p1 (33 : Int32))))])) (fun t q => XT.lxor X0.here hx rfl (hb hby d2_7) rfl q) ?_
  obtain ⟨z1, hz1⟩ : ∃ z : Int64, z = (p1 ^^^ (XT.ushrL p1 (33 : Int32))) := ⟨_, rfl⟩
  rw [← hz1]
  refine own_go (T' := s₁) (g' := (mkF m 9 #[.val (.long p1), .second, .val (.long z1), .second] [])) (fun t q => XT.lstoreN X0.here hx rfl (hb hby d2_8) rfl (l' := #[.val (.long p1), .second, .val (.long z1), .second]) rfl q) ?_
  refine own_go (T' := s₁) (g' := (mkF m 10 #[.val (.long p1), .second, .val (.long z1), .second] [(.long z1)])) (fun t q => XT.lloadN X0.here hx rfl (hb hby d2_9) rfl q) ?_
  refine own_go (T' := s₁) (g' := (mkF m 13 #[.val (.long p1), .second, .val (.long z1), .second] [(.long (-4265267296055464877 : Int64)), (.long z1)])) (fun t q => X0.ldc2Long hx hown (mvT hZ (hw _ (List.mem_of_getElem? (i := 10) rfl))) (g := (mkF m 10 #[.val (.long p1), .second, .val (.long z1), .second] [(.long z1)])) rfl (hb hby d2_10) t q) ?_
  obtain ⟨v2, T2, L2, X2, Q2, st2⟩ := own_callS X0 hx hZ (y := (⟨"com/example/gannet/gannet/hash/Murmur3FinalMixPinLaw", "inverse", "(J)J"⟩ : MethodName)) (argsL := [(.long (-4265267296055464877 : Int64))]) (rest := [(.long z1)]) hown (hw _ (List.mem_of_getElem? (i := 11) rfl)) (hw _ (List.mem_of_getElem? (i := 12) rfl)) (hw _ (List.mem_of_getElem? (i := 8) rfl)) (hw _ (List.mem_of_getElem? (i := 13) rfl)) (rm_inv l Z a0 hw [] (-4265267296055464877 : Int64) h0) e0 (by decide) (by decide) 2 (by decide) (by decide) (by decide) (g := (mkF m 13 #[.val (.long p1), .second, .val (.long z1), .second] [(.long (-4265267296055464877 : Int64)), (.long z1)])) rfl (by rw [hml]; rfl) (lenOf (ps := [.long]) (r := (some .long)) (by decide +kernel) rfl) rfl (by show 2 * 0 + _ ≤ _; exact Nat.le_of_eq rfl) (hb hby d2_13)
  obtain ⟨rfl, e2, rfl⟩ := Q2
  refine own_go (T' := T2) (g' := (mkF m 16 #[.val (.long p1), .second, .val (.long z1), .second] [(.long (own_inv (-4265267296055464877 : Int64))), (.long z1)])) (fun t q => st2 t q) ?_
  refine own_go (T' := T2) (g' := (mkF m 17 #[.val (.long p1), .second, .val (.long z1), .second] [(.long (z1 * (own_inv (-4265267296055464877 : Int64))))])) (fun t q => XT.lmul X2.here hx rfl (hb hby d2_16) rfl q) ?_
  obtain ⟨z3, hz3⟩ : ∃ z : Int64, z = (z1 * (own_inv (-4265267296055464877 : Int64))) := ⟨_, rfl⟩
  rw [← hz3]
  refine own_go (T' := T2) (g' := (mkF m 18 #[.val (.long p1), .second, .val (.long z3), .second] [])) (fun t q => XT.lstoreN X2.here hx rfl (hb hby d2_17) rfl (l' := #[.val (.long p1), .second, .val (.long z3), .second]) rfl q) ?_
  refine own_go (T' := T2) (g' := (mkF m 19 #[.val (.long p1), .second, .val (.long z3), .second] [(.long z3)])) (fun t q => XT.lloadN X2.here hx rfl (hb hby d2_18) rfl q) ?_
  refine own_go (T' := T2) (g' := (mkF m 20 #[.val (.long p1), .second, .val (.long z3), .second] [(.long z3), (.long z3)])) (fun t q => XT.lloadN X2.here hx rfl (hb hby d2_19) rfl q) ?_
  refine own_go (T' := T2) (g' := (mkF m 22 #[.val (.long p1), .second, .val (.long z3), .second] [(.int (33 : Int32)), (.long z3), (.long z3)])) (fun t q => XS.bipush X2.here hx rfl (hb hby d2_20) q) ?_
  refine own_go (T' := T2) (g' := (mkF m 23 #[.val (.long p1), .second, .val (.long z3), .second] [(.long (XT.ushrL z3 (33 : Int32))), (.long z3)])) (fun t q => XT.lushr X2.here hx rfl (hb hby d2_22) rfl q) ?_
  refine own_go (T' := T2) (g' := (mkF m 24 #[.val (.long p1), .second, .val (.long z3), .second] [(.long (z3 ^^^ (XT.ushrL z3 (33 : Int32))))])) (fun t q => XT.lxor X2.here hx rfl (hb hby d2_23) rfl q) ?_
  obtain ⟨z4, hz4⟩ : ∃ z : Int64, z = (z3 ^^^ (XT.ushrL z3 (33 : Int32))) := ⟨_, rfl⟩
  rw [← hz4]
  refine own_go (T' := T2) (g' := (mkF m 25 #[.val (.long p1), .second, .val (.long z4), .second] [])) (fun t q => XT.lstoreN X2.here hx rfl (hb hby d2_24) rfl (l' := #[.val (.long p1), .second, .val (.long z4), .second]) rfl q) ?_
  refine own_go (T' := T2) (g' := (mkF m 26 #[.val (.long p1), .second, .val (.long z4), .second] [(.long z4)])) (fun t q => XT.lloadN X2.here hx rfl (hb hby d2_25) rfl q) ?_
  refine own_go (T' := T2) (g' := (mkF m 29 #[.val (.long p1), .second, .val (.long z4), .second] [(.long (-49064778989728563 : Int64)), (.long z4)])) (fun t q => X2.ldc2Long hx hown (mvT hZ (hw _ (List.mem_of_getElem? (i := 15) rfl))) (g := (mkF m 26 #[.val (.long p1), .second, .val (.long z4), .second] [(.long z4)])) rfl (hb hby d2_26) t q) ?_
  obtain ⟨v5, T5, L5, X5, Q5, st5⟩ := own_callS X2 hx hZ (y := (⟨"com/example/gannet/gannet/hash/Murmur3FinalMixPinLaw", "inverse", "(J)J"⟩ : MethodName)) (argsL := [(.long (-49064778989728563 : Int64))]) (rest := [(.long z4)]) hown (hw _ (List.mem_of_getElem? (i := 11) rfl)) (hw _ (List.mem_of_getElem? (i := 12) rfl)) (hw _ (List.mem_of_getElem? (i := 8) rfl)) (hw _ (List.mem_of_getElem? (i := 13) rfl)) (rm_inv l Z a0 hw [] (-49064778989728563 : Int64) h0) e2 (by decide) (by decide) 2 (by decide) (by decide) (by decide) (g := (mkF m 29 #[.val (.long p1), .second, .val (.long z4), .second] [(.long (-49064778989728563 : Int64)), (.long z4)])) rfl (by rw [hml]; rfl) (lenOf (ps := [.long]) (r := (some .long)) (by decide +kernel) rfl) rfl (by show 2 * 0 + _ ≤ _; exact Nat.le_of_eq rfl) (hb hby d2_29)
  obtain ⟨rfl, e5, rfl⟩ := Q5
  refine own_go (T' := T5) (g' := (mkF m 32 #[.val (.long p1), .second, .val (.long z4), .second] [(.long (own_inv (-49064778989728563 : Int64))), (.long z4)])) (fun t q => st5 t q) ?_
  refine own_go (T' := T5) (g' := (mkF m 33 #[.val (.long p1), .second, .val (.long z4), .second] [(.long (z4 * (own_inv (-49064778989728563 : Int64))))])) (fun t q => XT.lmul X5.here hx rfl (hb hby d2_32) rfl q) ?_
  obtain ⟨z6, hz6⟩ : ∃ z : Int64, z = (z4 * (own_inv (-49064778989728563 : Int64))) := ⟨_, rfl⟩
  rw [← hz6]
  refine own_go (T' := T5) (g' := (mkF m 34 #[.val (.long p1), .second, .val (.long z6), .second] [])) (fun t q => XT.lstoreN X5.here hx rfl (hb hby d2_33) rfl (l' := #[.val (.long p1), .second, .val (.long z6), .second]) rfl q) ?_
  refine own_go (T' := T5) (g' := (mkF m 35 #[.val (.long p1), .second, .val (.long z6), .second] [(.long z6)])) (fun t q => XT.lloadN X5.here hx rfl (hb hby d2_34) rfl q) ?_
  refine own_go (T' := T5) (g' := (mkF m 36 #[.val (.long p1), .second, .val (.long z6), .second] [(.long z6), (.long z6)])) (fun t q => XT.lloadN X5.here hx rfl (hb hby d2_35) rfl q) ?_
  refine own_go (T' := T5) (g' := (mkF m 38 #[.val (.long p1), .second, .val (.long z6), .second] [(.int (33 : Int32)), (.long z6), (.long z6)])) (fun t q => XS.bipush X5.here hx rfl (hb hby d2_36) q) ?_
  refine own_go (T' := T5) (g' := (mkF m 39 #[.val (.long p1), .second, .val (.long z6), .second] [(.long (XT.ushrL z6 (33 : Int32))), (.long z6)])) (fun t q => XT.lushr X5.here hx rfl (hb hby d2_38) rfl q) ?_
  refine own_go (T' := T5) (g' := (mkF m 40 #[.val (.long p1), .second, .val (.long z6), .second] [(.long (z6 ^^^ (XT.ushrL z6 (33 : Int32))))])) (fun t q => XT.lxor X5.here hx rfl (hb hby d2_39) rfl q) ?_
  obtain ⟨z7, hz7⟩ : ∃ z : Int64, z = (z6 ^^^ (XT.ushrL z6 (33 : Int32))) := ⟨_, rfl⟩
  rw [← hz7]
  refine own_go (T' := T5) (g' := (mkF m 41 #[.val (.long p1), .second, .val (.long z7), .second] [])) (fun t q => XT.lstoreN X5.here hx rfl (hb hby d2_40) rfl (l' := #[.val (.long p1), .second, .val (.long z7), .second]) rfl q) ?_
  refine own_go (T' := T5) (g' := (mkF m 42 #[.val (.long p1), .second, .val (.long z7), .second] [(.long z7)])) (fun t q => XT.lloadN X5.here hx rfl (hb hby d2_41) rfl q) ?_
  refine own_outJ X5 hx hlk hret (hb hby d2_42) ?_ (by decide) (by decide)
  refine ⟨?_, e5, rfl⟩
  subst_vars
  rfl
set_option maxRecDepth 65536 in
set_option maxHeartbeats 40000000 in
theorem rm0 (l : Launch) (Z : State) (a0 : Array Value) (hw : ∀ d ∈ tables_1, d.before a0 Z = true) (ws : List Jvm.Cond) (p1 : Int64) (h0 : Heap)  :
    own_Met l x code maxLocals ret ws room_1 Z #[(.long p1)] h0 (fun v _ L => v = some (.int (1 : Int32)) ∧ Fr h0.size L) := by
  refine MetFree.of_bodySF (plainFor_of_name (by first | (simp [plainName, overriddenIn]; done) | decide +kernel)) hisR ?_
  intro p e s m args below meth c s₁ Bd hml0 hP hK
  obtain ⟨rfl, hZ, hh⟩ := hP
  have hx := Bd.exec
  have hby := Bd.bytes
  have hml : c.maxLocals = 6 := hml0
  have hown : s.vm.findClass "com/example/gannet/gannet/hash/Murmur3FinalMixPinLaw" = some m.cls := findClass_of_methodNamed Bd.named
  have hnm := (name_of_methodNamed Bd.named Bd.method).1
  have hlk : meth.locks = false := Bd.notSynchronized
  have hret := Bd.returns
  have X0 : Stand p l e room_1 s m #[(.long p1)] below meth c s₁ [] 0 0 := Stand.of_body Bd
  have e0 : s₁.heap = h0 := by rw [← hh, Bd.state]; rfl
  refine own_in (Q := fun v _ L => v = some (.int (1 : Int32)) ∧ Fr h0.size L) (ef := by first | (simp [entryFrame, mkF, argsToLocals, Value.category, maxLocals]; done) | rfl) (g' := (mkF m 0 #[.val (.long p1), .second, .unset, .unset, .unset, .unset] [])) ?_
  refine own_go (T' := s₁) (g' := (mkF m 1 #[.val (.long p1), .second, .unset, .unset, .unset, .unset] [(.long p1)])) (fun t q => XT.lloadN X0.here hx rfl (hb hby at_0) rfl q) ?_
  obtain ⟨v1, T1, L1, X1, Q1, st1⟩ := own_callS X0 hx hZ (y := (⟨"com/example/gannet/gannet/hash/Murmur3", "finalMix", "(J)J"⟩ : MethodName)) (argsL := [(.long p1)]) (rest := []) hown (hw _ (List.mem_of_getElem? (i := 0) rfl)) (hw _ (List.mem_of_getElem? (i := 1) rfl)) (hw _ (List.mem_of_getElem? (i := 2) rfl)) (hw _ (List.mem_of_getElem? (i := 3) rfl)) (rm_fm l Z a0 hw [] p1 h0) e0 (by decide) (by decide) 0 (by decide) (by decide) (by decide) (g := (mkF m 1 #[.val (.long p1), .second, .unset, .unset, .unset, .unset] [(.long p1)])) rfl (by rw [hml]; rfl) (lenOf (ps := [.long]) (r := (some .long)) (by decide +kernel) rfl) rfl (by show 2 * 0 + _ ≤ _; exact Nat.le_of_eq rfl) (hb hby at_1)
  obtain ⟨rfl, e1, rfl⟩ := Q1
  refine own_go (T' := T1) (g' := (mkF m 4 #[.val (.long p1), .second, .unset, .unset, .unset, .unset] [(.long (own_fm p1))])) (fun t q => st1 t q) ?_
  refine own_go (T' := T1) (g' := (mkF m 5 #[.val (.long p1), .second, .val (.long (own_fm p1)), .second, .unset, .unset] [])) (fun t q => XT.lstoreN X1.here hx rfl (hb hby at_4) rfl (l' := #[.val (.long p1), .second, .val (.long (own_fm p1)), .second, .unset, .unset]) rfl q) ?_
  refine own_go (T' := T1) (g' := (mkF m 6 #[.val (.long p1), .second, .val (.long (own_fm p1)), .second, .unset, .unset] [(.long (own_fm p1))])) (fun t q => XT.lloadN X1.here hx rfl (hb hby at_5) rfl q) ?_
  obtain ⟨v2, T2, L2, X2, Q2, st2⟩ := own_callS X1 hx hZ (y := (⟨"com/example/gannet/gannet/hash/Murmur3FinalMixPinLaw", "unmix", "(J)J"⟩ : MethodName)) (argsL := [(.long (own_fm p1))]) (rest := []) hown (hw _ (List.mem_of_getElem? (i := 6) rfl)) (hw _ (List.mem_of_getElem? (i := 7) rfl)) (hw _ (List.mem_of_getElem? (i := 8) rfl)) (hw _ (List.mem_of_getElem? (i := 9) rfl)) (rm_un l Z a0 hw [] (own_fm p1) h0) e1 (by decide) (by decide) 0 (by decide) (by decide) (by decide) (g := (mkF m 6 #[.val (.long p1), .second, .val (.long (own_fm p1)), .second, .unset, .unset] [(.long (own_fm p1))])) rfl (by rw [hml]; rfl) (lenOf (ps := [.long]) (r := (some .long)) (by decide +kernel) rfl) rfl (by show 2 * 0 + _ ≤ _; exact Nat.le_of_eq rfl) (hb hby at_6)
  obtain ⟨rfl, e2, rfl⟩ := Q2
  refine own_go (T' := T2) (g' := (mkF m 9 #[.val (.long p1), .second, .val (.long (own_fm p1)), .second, .unset, .unset] [(.long (own_un (own_fm p1)))])) (fun t q => st2 t q) ?_
  refine own_go (T' := T2) (g' := (mkF m 10 #[.val (.long p1), .second, .val (.long (own_fm p1)), .second, .unset, .unset] [(.long p1), (.long (own_un (own_fm p1)))])) (fun t q => XT.lloadN X2.here hx rfl (hb hby at_9) rfl q) ?_
  refine own_go (T' := T2) (g' := (mkF m 11 #[.val (.long p1), .second, .val (.long (own_fm p1)), .second, .unset, .unset] [(.int (XT.cmpL (own_un (own_fm p1)) p1))])) (fun t q => XT.lcmp X2.here hx rfl (hb hby at_10) rfl q) ?_
  have c3 : (own_un (own_fm p1)) = p1 := own_law1 p1
  refine own_go (T' := T2) (g' := (mkF m 14 #[.val (.long p1), .second, .val (.long (own_fm p1)), .second, .unset, .unset] [])) (fun t q => XS.ifNo X2.here hx rfl (hb hby at_11) rfl ((if0 _ _).trans (teq ((own_leq (own_un (own_fm p1)) p1).mpr c3)).2) q) ?_
  refine own_go (T' := T2) (g' := (mkF m 15 #[.val (.long p1), .second, .val (.long (own_fm p1)), .second, .unset, .unset] [(.int (1 : Int32))])) (fun t q => XS.iconst X2.here hx rfl (hb hby at_14) q) ?_
  refine own_go (T' := T2) (g' := (mkF m 19 #[.val (.long p1), .second, .val (.long (own_fm p1)), .second, .unset, .unset] [(.int (1 : Int32))])) (fun t q => XS.goto X2.here hx rfl (pc0 := 15) (pc' := 19) rfl (hb hby at_15) (by decide) (by decide) q) ?_
  refine own_go (T' := T2) (g' := (mkF m 21 #[.val (.long p1), .second, .val (.long (own_fm p1)), .second, .val (.int (1 : Int32)), .unset] [])) (fun t q => XS.istore X2.here hx rfl (hb hby at_19) rfl (l' := #[.val (.long p1), .second, .val (.long (own_fm p1)), .second, .val (.int (1 : Int32)), .unset]) rfl q) ?_
  refine own_go (T' := T2) (g' := (mkF m 22 #[.val (.long p1), .second, .val (.long (own_fm p1)), .second, .val (.int (1 : Int32)), .unset] [(.long p1)])) (fun t q => XT.lloadN X2.here hx rfl (hb hby at_21) rfl q) ?_
  obtain ⟨v4, T4, L4, X4, Q4, st4⟩ := own_callS X2 hx hZ (y := (⟨"com/example/gannet/gannet/hash/Murmur3FinalMixPinLaw", "unmix", "(J)J"⟩ : MethodName)) (argsL := [(.long p1)]) (rest := []) hown (hw _ (List.mem_of_getElem? (i := 6) rfl)) (hw _ (List.mem_of_getElem? (i := 7) rfl)) (hw _ (List.mem_of_getElem? (i := 8) rfl)) (hw _ (List.mem_of_getElem? (i := 9) rfl)) (rm_un l Z a0 hw [] p1 h0) e2 (by decide) (by decide) 0 (by decide) (by decide) (by decide) (g := (mkF m 22 #[.val (.long p1), .second, .val (.long (own_fm p1)), .second, .val (.int (1 : Int32)), .unset] [(.long p1)])) rfl (by rw [hml]; rfl) (lenOf (ps := [.long]) (r := (some .long)) (by decide +kernel) rfl) rfl (by show 2 * 0 + _ ≤ _; exact Nat.le_of_eq rfl) (hb hby at_22)
  obtain ⟨rfl, e4, rfl⟩ := Q4
  refine own_go (T' := T4) (g' := (mkF m 25 #[.val (.long p1), .second, .val (.long (own_fm p1)), .second, .val (.int (1 : Int32)), .unset] [(.long (own_un p1))])) (fun t q => st4 t q) ?_
  obtain ⟨v5, T5, L5, X5, Q5, st5⟩ := own_callS X4 hx hZ (y := (⟨"com/example/gannet/gannet/hash/Murmur3", "finalMix", "(J)J"⟩ : MethodName)) (argsL := [(.long (own_un p1))]) (rest := []) hown (hw _ (List.mem_of_getElem? (i := 0) rfl)) (hw _ (List.mem_of_getElem? (i := 1) rfl)) (hw _ (List.mem_of_getElem? (i := 2) rfl)) (hw _ (List.mem_of_getElem? (i := 3) rfl)) (rm_fm l Z a0 hw [] (own_un p1) h0) e4 (by decide) (by decide) 0 (by decide) (by decide) (by decide) (g := (mkF m 25 #[.val (.long p1), .second, .val (.long (own_fm p1)), .second, .val (.int (1 : Int32)), .unset] [(.long (own_un p1))])) rfl (by rw [hml]; rfl) (lenOf (ps := [.long]) (r := (some .long)) (by decide +kernel) rfl) rfl (by show 2 * 0 + _ ≤ _; exact Nat.le_of_eq rfl) (hb hby at_25)
  obtain ⟨rfl, e5, rfl⟩ := Q5
  refine own_go (T' := T5) (g' := (mkF m 28 #[.val (.long p1), .second, .val (.long (own_fm p1)), .second, .val (.int (1 : Int32)), .unset] [(.long (own_fm (own_un p1)))])) (fun t q => st5 t q) ?_
  refine own_go (T' := T5) (g' := (mkF m 29 #[.val (.long p1), .second, .val (.long (own_fm p1)), .second, .val (.int (1 : Int32)), .unset] [(.long p1), (.long (own_fm (own_un p1)))])) (fun t q => XT.lloadN X5.here hx rfl (hb hby at_28) rfl q) ?_
  refine own_go (T' := T5) (g' := (mkF m 30 #[.val (.long p1), .second, .val (.long (own_fm p1)), .second, .val (.int (1 : Int32)), .unset] [(.int (XT.cmpL (own_fm (own_un p1)) p1))])) (fun t q => XT.lcmp X5.here hx rfl (hb hby at_29) rfl q) ?_
  have c6 : (own_fm (own_un p1)) = p1 := own_law2 p1
  refine own_go (T' := T5) (g' := (mkF m 33 #[.val (.long p1), .second, .val (.long (own_fm p1)), .second, .val (.int (1 : Int32)), .unset] [])) (fun t q => XS.ifNo X5.here hx rfl (hb hby at_30) rfl ((if0 _ _).trans (teq ((own_leq (own_fm (own_un p1)) p1).mpr c6)).2) q) ?_
  refine own_go (T' := T5) (g' := (mkF m 34 #[.val (.long p1), .second, .val (.long (own_fm p1)), .second, .val (.int (1 : Int32)), .unset] [(.int (1 : Int32))])) (fun t q => XS.iconst X5.here hx rfl (hb hby at_33) q) ?_
  refine own_go (T' := T5) (g' := (mkF m 38 #[.val (.long p1), .second, .val (.long (own_fm p1)), .second, .val (.int (1 : Int32)), .unset] [(.int (1 : Int32))])) (fun t q => XS.goto X5.here hx rfl (pc0 := 34) (pc' := 38) rfl (hb hby at_34) (by decide) (by decide) q) ?_
  refine own_go (T' := T5) (g' := (mkF m 40 #[.val (.long p1), .second, .val (.long (own_fm p1)), .second, .val (.int (1 : Int32)), .val (.int (1 : Int32))] [])) (fun t q => XS.istore X5.here hx rfl (hb hby at_38) rfl (l' := #[.val (.long p1), .second, .val (.long (own_fm p1)), .second, .val (.int (1 : Int32)), .val (.int (1 : Int32))]) rfl q) ?_
  refine own_go (T' := T5) (g' := (mkF m 42 #[.val (.long p1), .second, .val (.long (own_fm p1)), .second, .val (.int (1 : Int32)), .val (.int (1 : Int32))] [(.int (1 : Int32))])) (fun t q => XS.iload X5.here hx rfl (hb hby at_40) rfl q) ?_
  have c7 : ¬ ((1 : Int32) = (0 : Int32)) := by decide
  refine own_go (T' := T5) (g' := (mkF m 45 #[.val (.long p1), .second, .val (.long (own_fm p1)), .second, .val (.int (1 : Int32)), .val (.int (1 : Int32))] [])) (fun t q => XS.ifNo X5.here hx rfl (hb hby at_42) rfl ((if0 _ _).trans (feq c7).1) q) ?_
  refine own_go (T' := T5) (g' := (mkF m 47 #[.val (.long p1), .second, .val (.long (own_fm p1)), .second, .val (.int (1 : Int32)), .val (.int (1 : Int32))] [(.int (1 : Int32))])) (fun t q => XS.iload X5.here hx rfl (hb hby at_45) rfl q) ?_
  have c8 : ¬ ((1 : Int32) = (0 : Int32)) := by decide
  refine own_go (T' := T5) (g' := (mkF m 50 #[.val (.long p1), .second, .val (.long (own_fm p1)), .second, .val (.int (1 : Int32)), .val (.int (1 : Int32))] [])) (fun t q => XS.ifNo X5.here hx rfl (hb hby at_47) rfl ((if0 _ _).trans (feq c8).1) q) ?_
  refine own_go (T' := T5) (g' := (mkF m 51 #[.val (.long p1), .second, .val (.long (own_fm p1)), .second, .val (.int (1 : Int32)), .val (.int (1 : Int32))] [(.int (1 : Int32))])) (fun t q => XS.iconst X5.here hx rfl (hb hby at_50) q) ?_
  refine own_go (T' := T5) (g' := (mkF m 55 #[.val (.long p1), .second, .val (.long (own_fm p1)), .second, .val (.int (1 : Int32)), .val (.int (1 : Int32))] [(.int (1 : Int32))])) (fun t q => XS.goto X5.here hx rfl (pc0 := 51) (pc' := 55) rfl (hb hby at_51) (by decide) (by decide) q) ?_
  refine own_outN X5 hx hlk hret (t := .boolean) (by simp) (hb hby at_55) (w := (1 : Int32)) (by decide) ?_ (by decide) (by decide)
  exact ⟨rfl, Fr.nil _⟩
set_option maxRecDepth 65536 in
set_option maxHeartbeats 40000000 in
theorem comes_1 {Post : Tables → Env → Array Value → State → Outcome → State → Prop} (hpost : ∀ tb e args s v u, (limb_1_1.after args s (.returned v) u = true ∧ limb_1_2.after args s (.returned v) u = true ∧ True) → FrameEnd s (.returned v) u (Jvm.fieldLocs frame_1_writes args s ++ Jvm.arrayLocs frame_1_arrays args s ++ Jvm.staticLocs frame_1_statics s) 0 0 → Post tb e args s (.returned v) u) :
    ArmFor flags0 classFile x code maxLocals ret World_1 tables_1 room_1 Calls_1 rest_1 Pre_1 Post := by
  intro l hfl _ _ p e ha hc hk s m args below hf hA hF happ hP
  obtain ⟨hcalls, hrest, hpre⟩ := hP
  obtain ⟨-, -, -, hnamed, -, -, -, hat⟩ := (Spec.applies_iff hf).mp happ
  obtain ⟨hg, hn⟩ := and_e (Cond.before_iff.mp (show (Jvm.Cond.and given_1 narrow_1).before args s = true from hpre))
  obtain ⟨h1, hg⟩ := and_e hg
  have g0 := hg
  obtain ⟨w0, rfl⟩ : ∃ w0 : Value, args = #[w0] := by
    have hs : args.size = 1 := by simpa [Cond.value, given_1] using h1
    obtain ⟨L⟩ := args
    match L, hs with
    | [w0], _ => exact ⟨w0, rfl⟩
  have hw := fun d (hd : d ∈ tables_1) => atoms_spec (ws := Jvm.Cond.code x code maxLocals ret :: tables_1) hat d (List.mem_cons_of_mem _ hd)
  have hfit : Fit s := fun {y c} hc i hi => by
    obtain ⟨ha, rfl⟩ := Array.getElem?_eq_some_iff.mp hc
    have q := List.all_eq_true.mp ((Array.all_eq_true_iff_forall_mem.mp hF) _ (Array.getElem_mem ha)) i (List.mem_range.mpr hi)
    simpa [Array.getElem?_eq_getElem hi] using q
  obtain ⟨i0, b0⟩ := isL_v g0
  obtain rfl : w0 = (.long i0) := Option.some.inj b0
  obtain ⟨n, o, h1, h2, h3, _, L, rfl, ⟨rfl, N⟩, hq⟩ := rm0 l s _ hw tables_1 i0 s.heap p e ha hc hk s m _ below hf ((Spec.applies_iff_loose hf).mp happ).1 ⟨rfl, State.Warmed39.refl s, rfl⟩ trivial
  refine ⟨n, _, h1, h2, h3, hpost _ _ _ _ _ _ ⟨Cond.after_iff.mpr rfl, Cond.after_iff.mpr (eq_i res_at (Term.int_eval (1)) rfl), trivial⟩ ⟨hq.1, hq.2.1, (hq.2.2.sift fun y hy => Or.inr (N y hy)).mono (by decide) (by decide)⟩⟩
theorem main_1_1 : Claimed_1_1 := comes_1 fun _ _ _ _ _ _ h hF => ⟨h.1, hF⟩
theorem main_1_2 : Claimed_1_2 := comes_1 fun _ _ _ _ _ _ h hF => ⟨h.2.1, hF⟩
end Jvm.Pilot.@@N@@
namespace Jvm.Pilot.@@N@@
open Jvm Jvm.ClassFile Sem Op Lib Jvm.Free Jvm.Stand Jvm.Pilot.@@N@@.Jvm.D
/-! MADE BY PROGRAM (witnessworld.py) out of the Statement's table words and the real class files: 9 classes; the members and pool entries that the words name. The judged class is class 1, her method 3. -/
namespace start1
open Jvm.ClassFile
def u (s : String) : CpInfo := .utf8 (stringToUtf16 s)
/-- a pool by its gaps: so many unusable entries, then the entry; so many at the end -/
def gap : Nat → List CpInfo → List CpInfo
  | 0, r => r
  | n + 1, r => .unusable :: gap n r
def poolList (es : List (Nat × CpInfo)) (last : Nat) : List CpInfo := es.foldr (fun e r => gap e.1 (e.2 :: r)) (gap last [])
def pool (es : List (Nat × CpInfo)) (last : Nat) : Array CpInfo := ⟨poolList es last⟩
def fileOf (pool : Array CpInfo) (this : Nat) (attrs : Array Attribute := #[]) (ms : Array MethodInfo := #[]) (fl : Nat := 33) (sup : Nat := 0) (ifs : Array Nat := #[]) (fds : Array FieldInfo := #[]) : ClassFile where
  minorVersion := 0
  majorVersion := 65
  constantPool := pool
  accessFlags := fl
  thisClass := this
  superClass := sup
  interfaces := ifs
  fields := fds
  methods := ms
  attributes := attrs
def plain (name : String) (sup : Option ClassId) : Class where
  name := name
  kind := .ordinary
  loader := none
  accessFlags := 33
  super := sup
  interfaces := #[]
  cf := none
  fields := #[]
  methods := #[]
  instanceTypes := #[]
  staticTypes := #[]
  resolved := #[]
  callSites := []
  init := .initialized
  statics := none
  mirror := none

def pool0 : Array CpInfo := pool [(5, u "<init>"), (0, u "()V"), (1, .class_ 10), (1, u "java/lang/Object")] 113

def k0m0 : Method := { name := "<init>", desc := "()V", sig := { parameters := [], returnType := none }, accessFlags := 1, code := none }
/-- java/lang/Object -/
def k0 : Class := { plain "java/lang/Object" none with
  accessFlags := 33
  interfaces := #[]
  cf := some (fileOf pool0 8 #[] #[{ accessFlags := 1, nameIndex := 5, descriptorIndex := 6, attributes := #[] }] 33 0 #[] #[])
  fields := #[]
  methods := #[k0m0]
  instanceTypes := #[]
  staticTypes := #[]
  resolved := Array.replicate 124 none
  statics := none }

def pool1 : Array CpInfo := pool [(2, .class_ 4), (1, u "java/lang/Object"), (0, u "<init>"), (0, u "()V"), (0, .long 2), (1, .long 14181476777654086739), (1, .methodref 12 13), (0, .class_ 14), (0, .nameAndType 15 16), (0, u "com/example/gannet/gannet/hash/Murmur3FinalMixPinLaw"), (0, u "inverse"), (0, u "(J)J"), (0, .long 18397679294719823053), (1, .methodref 20 21), (0, .class_ 22), (0, .nameAndType 23 16), (0, u "com/example/gannet/gannet/hash/Murmur3"), (0, u "finalMix"), (0, .methodref 12 25), (0, .nameAndType 26 16), (0, u "unmix"), (2, u "law"), (0, u "(J)Z")] 3

def k1m0 : Method := { name := "<init>", desc := "()V", sig := { parameters := [], returnType := none }, accessFlags := 2, code := none }
def k1c1 : Code := { maxStack := 8, maxLocals := 4, code := method_2_code, exceptionTable := #[], attributes := #[] }
def k1m1 : Method := { name := "inverse", desc := "(J)J", sig := { parameters := [.long], returnType := some .long }, accessFlags := 10, code := some k1c1 }
def k1c2 : Code := { maxStack := 5, maxLocals := 4, code := method_3_code, exceptionTable := #[], attributes := #[] }
def k1m2 : Method := { name := "unmix", desc := "(J)J", sig := { parameters := [.long], returnType := some .long }, accessFlags := 10, code := some k1c2 }
def k1c3 : Code := { maxStack := 4, maxLocals := 6, code := code, exceptionTable := #[], attributes := #[] }
def k1m3 : Method := { name := "law", desc := "(J)Z", sig := { parameters := [.long], returnType := some .boolean }, accessFlags := 9, code := some k1c3 }
/-- com/example/gannet/gannet/hash/Murmur3FinalMixPinLaw -/
def k1 : Class := { plain "com/example/gannet/gannet/hash/Murmur3FinalMixPinLaw" (some 0) with
  accessFlags := 49
  interfaces := #[]
  cf := some (fileOf pool1 12 #[] #[{ accessFlags := 2, nameIndex := 5, descriptorIndex := 6, attributes := #[] }, { accessFlags := 10, nameIndex := 15, descriptorIndex := 16, attributes := #[] }, { accessFlags := 10, nameIndex := 26, descriptorIndex := 16, attributes := #[] }, { accessFlags := 9, nameIndex := 29, descriptorIndex := 30, attributes := #[] }] 49 2 #[] #[])
  fields := #[]
  methods := #[k1m0, k1m1, k1m2, k1m3]
  instanceTypes := #[]
  staticTypes := #[]
  resolved := Array.replicate 34 none
  statics := none }

def pool2 : Array CpInfo := pool [(2, .class_ 4), (1, u "java/lang/Object"), (0, u "<init>"), (0, u "()V"), (14, .class_ 22), (0, u "com/example/gannet/gannet/hash/Murmur3"), (2, u "LITTLE_ENDIAN_LONG"), (0, u "Ljava/lang/invoke/VarHandle;"), (61, u "(J)J"), (15, u "finalMix"), (9, .long 18397679294719823053), (1, .long 14181476777654086739), (17, u "BLOCK_BYTES"), (0, u "I"), (2, u "C1"), (0, u "J"), (0, u "C2")] 11

def k2m0 : Method := { name := "<init>", desc := "()V", sig := { parameters := [], returnType := none }, accessFlags := 2, code := none }
def k2c1 : Code := { maxStack := 5, maxLocals := 4, code := prog_28_method_10_code, exceptionTable := #[], attributes := #[] }
def k2m1 : Method := { name := "finalMix", desc := "(J)J", sig := { parameters := [.long], returnType := some .long }, accessFlags := 9, code := some k2c1 }
/-- com/example/gannet/gannet/hash/Murmur3 -/
def k2 : Class := { plain "com/example/gannet/gannet/hash/Murmur3" (some 0) with
  accessFlags := 33
  interfaces := #[]
  cf := some (fileOf pool2 21 #[] #[{ accessFlags := 2, nameIndex := 5, descriptorIndex := 6, attributes := #[] }, { accessFlags := 9, nameIndex := 104, descriptorIndex := 88, attributes := #[] }] 33 2 #[] #[{ accessFlags := 26, nameIndex := 134, descriptorIndex := 135, attributes := #[] }, { accessFlags := 26, nameIndex := 138, descriptorIndex := 139, attributes := #[] }, { accessFlags := 26, nameIndex := 140, descriptorIndex := 139, attributes := #[] }, { accessFlags := 26, nameIndex := 25, descriptorIndex := 26, attributes := #[] }])
  fields := #[{ name := "BLOCK_BYTES", type := .int, accessFlags := 26, slot := 0, constantValue := 0 }, { name := "C1", type := .long, accessFlags := 26, slot := 1, constantValue := 0 }, { name := "C2", type := .long, accessFlags := 26, slot := 2, constantValue := 0 }, { name := "LITTLE_ENDIAN_LONG", type := (.object "java/lang/invoke/VarHandle"), accessFlags := 26, slot := 3, constantValue := 0 }]
  methods := #[k2m0, k2m1]
  instanceTypes := #[]
  staticTypes := #[.int, .long, .long, (.object "java/lang/invoke/VarHandle")]
  resolved := Array.replicate 152 none
  statics := none }

def pool3 : Array CpInfo := pool [(1, u "java/lang/Cloneable"), (0, .class_ 1), (0, u "java/lang/Object"), (0, .class_ 3)] 3

/-- java/lang/Cloneable -/
def k3 : Class := { plain "java/lang/Cloneable" (some 0) with
  accessFlags := 1537
  interfaces := #[]
  cf := some (fileOf pool3 2 #[] #[] 1537 4 #[] #[])
  fields := #[]
  methods := #[]
  instanceTypes := #[]
  staticTypes := #[]
  resolved := Array.replicate 8 none
  statics := none }

def pool4 : Array CpInfo := pool [(1, u "java/io/Serializable"), (0, .class_ 1), (0, u "java/lang/Object"), (0, .class_ 3)] 3

/-- java/io/Serializable -/
def k4 : Class := { plain "java/io/Serializable" (some 0) with
  accessFlags := 1537
  interfaces := #[]
  cf := some (fileOf pool4 2 #[] #[] 1537 4 #[] #[])
  fields := #[]
  methods := #[]
  instanceTypes := #[]
  staticTypes := #[]
  resolved := Array.replicate 8 none
  statics := none }

/-- the primitive byte -/
def k5 : Class := { plain "byte" none with kind := .primitive 'B', accessFlags := 0x411 }
/-- [B -/
def k6 : Class := { plain "[B" (some 0) with kind := .array 5 .byte, interfaces := #[3, 4], accessFlags := 1041 }

/-- the primitive int -/
def k7 : Class := { plain "int" none with kind := .primitive 'I', accessFlags := 0x411 }
/-- [I -/
def k8 : Class := { plain "[I" (some 0) with kind := .array 7 .int, interfaces := #[3, 4], accessFlags := 1041 }

def heap : Heap := #[]
def classes : Array Class := #[k0, k1, k2, k3, k4, k5, k6, k7, k8]
def interned : List (Array UInt16 × Addr) := []
def slotsUsed : Nat := 0
def theMethod : MethodId := ⟨1, 3⟩
def args0 : Array Value := #[.long 5]
def aboutOver (below : List Frame) : State where
  vm := { classes := classes, interned := interned.toArray }
  heap := heap
  slotsUsed := slotsUsed
  threads := #[{ frames := .invoking theMethod args0 :: below }]
def below0 : List Frame := [.native { method := ⟨0, 0⟩, args := #[] }]
def about1 : State := aboutOver below0
def p0 : Program := .bare "" "" ""
def e0 : Env := launch0.env 0 0 0
theorem w_frames : about1.frames = Frame.invoking theMethod args0 :: below0 := rfl
set_option maxRecDepth 65536 in
theorem w_args : argsFit about1.vm theMethod args0 = true := by decide +kernel
set_option maxRecDepth 65536 in
theorem w_heap : heapFits about1 = true := by decide +kernel
set_option maxRecDepth 65536 in
theorem w_runnable : about1.curStatus? = some .runnable := by decide +kernel
set_option maxRecDepth 65536 in
theorem w_alone : about1.alone = true := by decide +kernel
set_option maxRecDepth 65536 in
theorem w_named : about1.methodNamed? x = some theMethod := by decide +kernel
set_option maxRecDepth 65536 in
theorem w_hears : about1.hears theMethod below0 = true := by decide +kernel
set_option maxRecDepth 65536 in
theorem w_ripe : about1.ripe theMethod args0 below0 = true := by decide +kernel
theorem w_running : about1.status = .running := rfl
set_option maxRecDepth 65536 in
theorem w_room : about1.hasRoom e0.platform room_1 = true :=
  launch0.hasRoom_least _ room_1 (by decide +kernel) (by decide +kernel) (by decide +kernel) (by decide +kernel) (by decide +kernel) (by decide +kernel)
theorem allAtoms_all (ts : List Jvm.Cond) (a : Array Jvm.Value) (st : Jvm.State) : (allAtoms ts).before a st = ts.all (fun c => c.before a st) := by
  induction ts with
  | nil => rfl
  | cons c t ih =>
    show (Jvm.Cond.and c (allAtoms t)).before a st = _
    rw [Jvm.Cond.before_and, ih, List.all_cons]
def words1 : List Jvm.Cond := Jvm.Cond.code x code maxLocals ret :: tables_1
/-- a 'code' word, met by the world's own term for the bytes: nothing is compared byte by byte -/
theorem code_word {y : MethodName} {bytes : ByteArray} {mx : Nat} {rt : Option FieldType} {a : Array Value} {s : State} {m : MethodId} {meth : Method} {c : Code} (h1 : s.methodNamed? y = some m) (h2 : s.vm.method? m = some meth) (h3 : meth.code = some c) (h4 : c.code = bytes)
    (h5 : (c.maxLocals == mx && c.exceptionTable.isEmpty && decide (c.maxStack ≤ mostOperands) && decide (meth.sig.returnType = rt) && !meth.locks && decide (parseMethodDescriptor y.desc = some meth.sig)) = true) : (Jvm.Cond.code y bytes mx rt).before a s = true := by
  simp only [Bool.and_eq_true, beq_iff_eq, Bool.not_eq_true', decide_eq_true_eq] at h5
  obtain ⟨⟨⟨⟨⟨g1, g2⟩, g3⟩, g4⟩, g5⟩, g6⟩ := h5
  simp [Cond.before, Cond.holds, Cond.value, h1, h2, h3, h4, g1, g2, g3, g4, g5, g6]
def isCode : Jvm.Cond → Bool
  | .code _ _ _ _ => true
  | _ => false
theorem all_split {L : List Jvm.Cond} {P : Jvm.Cond → Bool} (h1 : L.all (fun c => isCode c || P c) = true) (h2 : ∀ c ∈ L.filter isCode, P c = true) : L.all P = true := by
  refine List.all_eq_true.mpr fun c hc => ?_
  have h := List.all_eq_true.mp h1 c hc
  rcases Bool.eq_false_or_eq_true (isCode c) with hi | hi
  · exact h2 c (List.mem_filter.mpr ⟨hc, hi⟩)
  · simpa [hi] using h
set_option maxRecDepth 65536 in
theorem w_c0 : (Jvm.Cond.code x code maxLocals ret).before args0 about1 = true := code_word (m := ⟨1, 3⟩) (meth := k1m3) (c := k1c3) (by decide +kernel) rfl rfl rfl (by decide +kernel)
set_option maxRecDepth 65536 in
theorem w_c1 : (Jvm.Cond.code ({ cls := "com/example/gannet/gannet/hash/Murmur3", name := "finalMix", desc := "(J)J" } : Jvm.MethodName) prog_28_method_10_code (4 : Nat) (Option.some Jvm.ClassFile.FieldType.long)).before args0 about1 = true := code_word (m := ⟨2, 1⟩) (meth := k2m1) (c := k2c1) (by decide +kernel) rfl rfl rfl (by decide +kernel)
set_option maxRecDepth 65536 in
theorem w_c2 : (Jvm.Cond.code ({ cls := "com/example/gannet/gannet/hash/Murmur3FinalMixPinLaw", name := "unmix", desc := "(J)J" } : Jvm.MethodName) method_3_code (4 : Nat) (Option.some Jvm.ClassFile.FieldType.long)).before args0 about1 = true := code_word (m := ⟨1, 2⟩) (meth := k1m2) (c := k1c2) (by decide +kernel) rfl rfl rfl (by decide +kernel)
set_option maxRecDepth 65536 in
theorem w_c3 : (Jvm.Cond.code ({ cls := "com/example/gannet/gannet/hash/Murmur3FinalMixPinLaw", name := "inverse", desc := "(J)J" } : Jvm.MethodName) method_2_code (4 : Nat) (Option.some Jvm.ClassFile.FieldType.long)).before args0 about1 = true := code_word (m := ⟨1, 1⟩) (meth := k1m1) (c := k1c1) (by decide +kernel) rfl rfl rfl (by decide +kernel)
def codes1 : List Jvm.Cond := [Jvm.Cond.code x code maxLocals ret, Jvm.Cond.code ({ cls := "com/example/gannet/gannet/hash/Murmur3", name := "finalMix", desc := "(J)J" } : Jvm.MethodName) prog_28_method_10_code (4 : Nat) (Option.some Jvm.ClassFile.FieldType.long), Jvm.Cond.code ({ cls := "com/example/gannet/gannet/hash/Murmur3FinalMixPinLaw", name := "unmix", desc := "(J)J" } : Jvm.MethodName) method_3_code (4 : Nat) (Option.some Jvm.ClassFile.FieldType.long), Jvm.Cond.code ({ cls := "com/example/gannet/gannet/hash/Murmur3FinalMixPinLaw", name := "inverse", desc := "(J)J" } : Jvm.MethodName) method_2_code (4 : Nat) (Option.some Jvm.ClassFile.FieldType.long)]
set_option maxRecDepth 65536 in
theorem codes_eq : words1.filter isCode = codes1 := rfl
theorem w_codes : ∀ c ∈ words1.filter isCode, c.before args0 about1 = true := by
  rw [codes_eq]
  intro c hc
  simp only [codes1, List.mem_cons, List.not_mem_nil, or_false] at hc
  rcases hc with rfl | rfl | rfl | rfl
  · exact w_c0
  · exact w_c1
  · exact w_c2
  · exact w_c3
set_option maxRecDepth 65536 in
theorem w_t1 : words1.all (fun c => isCode c || c.before args0 about1) = true := by decide +kernel
theorem w_tables : (allAtoms (Jvm.Cond.code x code maxLocals ret :: tables_1)).before args0 about1 = true := by
  rw [allAtoms_all]
  show words1.all (fun c => c.before args0 about1) = true
  refine all_split ?_ w_codes
  rw [w_t1]
set_option maxRecDepth 65536 in
theorem w_case : (Jvm.Cond.and given_1 narrow_1).before args0 about1 = true := by decide +kernel
theorem w_applies : (headSpec (Jvm.Cond.code x code maxLocals ret :: tables_1) room_1).applies x e0.platform about1 = true :=
  (Spec.applies_iff w_frames).mpr ⟨w_running, w_runnable, w_alone, w_named, w_hears, w_ripe, w_room, w_tables⟩
theorem atStart : AtStart classFile x code maxLocals ret World_1 tables_1 room_1 Calls_1 rest_1 Pre_1 launch0 p0 e0 about1 theMethod args0 below0 :=
  ⟨lists_1, trivial, launch0.admits_env _ _ _, launch0.least_env, fairChoices_fair.cas, fairChoices_fair.clock, w_frames, w_args, w_heap, w_applies, trivial, trivial, w_case⟩
end start1
theorem witness_1 : WitnessClaimed_1 := ⟨start1.p0, start1.e0, start1.about1, start1.theMethod, start1.args0, start1.below0, start1.atStart⟩
end Jvm.Pilot.@@N@@
