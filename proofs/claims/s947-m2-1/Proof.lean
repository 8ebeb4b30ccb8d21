import JvmDerived
import JvmDerived.Pilot.@@N@@Statement
import JvmDerived.Pilot.@@N@@Code
set_option linter.unusedVariables false
set_option linter.unusedSimpArgs false
namespace Jvm.RoadKit
open Sem ClassFile Op Lib Jvm.Stand Jvm.Free Jvm.LawKit
section OwnWalk
variable {p : Program} {l : Launch} {e : Env} {R : Room} {s : State} {m : MethodId} {args : Array Value} {below : List Frame} {meth : Method} {c : Code} {T : State} {locs : List Loc} {cells slots : Nat} {Z : State} {a0 : Array Value} {h : Heap}
theorem retI (X : Stand p l e R s m args below meth c T locs cells slots) (hx : p.tables.exec = Jvm.exec) {pc : Nat} {Ls : Array Slot} {z : Int32} {rest : List Value} (hret : meth.sig.returnType = some .int) (hd : decode c.code pc = .ok (.ireturn, 1)) {fs : List Frame}
    (hl : ∀ (f : JFrame) (acts : List Action), f.method = m → f.locked = none → f.entered = [] → (doReturn e (T.setTop f) acts (some (.int z))).1 = T.setFrames fs) : Steps p.tables e below (T.setTop (mkF m pc Ls (.int z :: rest))) (T.setFrames fs) := by
  have hm' : T.vm.method? m = some meth := X.method'
  have hn : narrow .int (.int z) = .int z := rfl
  show Steps p.tables e below (T.setTop { method := m, pc := pc, locals := Ls, stack := _ :: rest, locked := none }) _
  jvm_step X.here [X.here.top, hx, hd, hm', hret, hn]
  first | (intro acts; rw [hl _ acts rfl rfl rfl]) | rw [hl _ _ rfl rfl rfl]
  exact Steps.refl _
/-- a body's contract at given arguments and a given heap -/
abbrev own_Met (l : Launch) (y : MethodName) (bytes : ByteArray) (maxL : Nat) (ret : Option FieldType) (ws : List Cond) (rm : Room) (Z : State) (as' : Array Value) (h : Heap) (Q : Option Value → Heap → List Loc → Prop) : Prop :=
  MetFree l y (head1 (Cond.code y bytes maxL ret :: ws) rm) (fun a U => a = as' ∧ Z.Warmed39 U.vm ∧ U.heap = h) (fun _ _ _ _ _ => True) (fun _ U o U' => ∃ v L, o = .returned v ∧ Q v U'.heap L ∧ FrameEnd U o U' L rm.cells rm.slots)
/-- from here the walk comes to its end, and Q holds there -/
def own_Go (p : Program) (e : Env) (below : List Frame) (s T : State) (g : JFrame) (k n : Nat) (Q : Option Value → Heap → List Loc → Prop) : Prop :=
  ∃ s₂ o, Steps p.tables e below (T.setTop g) s₂ ∧ s₂.status = .running ∧ Ended s₂ below o ∧ ∃ v L, o = .returned v ∧ Q v s₂.heap L ∧ FrameEnd s o s₂ L k n
variable {k n : Nat} {Q : Option Value → Heap → List Loc → Prop}
theorem own_in {g g' : JFrame} (ef : g = g') (q : own_Go p e below s T g' k n Q) : ∃ s₂ o, Steps p.tables e below (T.setTop g) s₂ ∧ s₂.status = .running ∧ Ended s₂ below o ∧ ∃ v L, o = .returned v ∧ Q v s₂.heap L ∧ FrameEnd s o s₂ L k n := by
  subst ef; exact q
theorem own_go {T' : State} {g g' : JFrame} (f : ∀ t, Steps p.tables e below (T'.setTop g') t → Steps p.tables e below (T.setTop g) t) (q : own_Go p e below s T' g' k n Q) : own_Go p e below s T g k n Q := by
  obtain ⟨s₂, o, h1, h2⟩ := q; exact ⟨s₂, o, f _ h1, h2⟩
theorem own_outI (X : Stand p l e R s m args below meth c T locs cells slots) (hx : p.tables.exec = Jvm.exec) (hlk : meth.locks = false) (hret : meth.sig.returnType = some .int) {pc : Nat} {Ls : Array Slot} {z : Int32} {rest : List Value} (hd : decode c.code pc = .ok (.ireturn, 1))
    (q : Q (some (.int z)) T.heap locs) (hk : cells ≤ k) (hn : slots ≤ n) : own_Go p e below s T (mkF m pc Ls (.int z :: rest)) k n Q := by
  obtain ⟨fs, hr, hrun, hended, hW, hsame⟩ := X.leave (v := some (.int z)) (fun h => by rw [hret] at h; cases h) hlk
  exact ⟨_, _, retI X hx hret hd hr, hrun, hended, _, _, rfl, q, ⟨_, rfl⟩, hW, hsame.mono hk hn⟩
theorem own_outN (X : Stand p l e R s m args below meth c T locs cells slots) (hx : p.tables.exec = Jvm.exec) (hlk : meth.locks = false) {t : FieldType} (hret : meth.sig.returnType = some t) (ht : t = .boolean ∨ t = .byte ∨ t = .char ∨ t = .short) {pc : Nat} {Ls : Array Slot} {z w : Int32} {rest : List Value} (hd : decode c.code pc = .ok (.ireturn, 1))
    (hw : nar t z = w) (q : Q (some (.int w)) T.heap locs) (hk : cells ≤ k) (hn : slots ≤ n) : own_Go p e below s T (mkF m pc Ls (.int z :: rest)) k n Q := by
  subst hw
  obtain ⟨fs, hr, hrun, hended, hW, hsame⟩ := X.leave (v := some (.int (nar t z))) (fun h => by rw [hret] at h; cases h) hlk
  exact ⟨_, _, retN X hx hret ht hd hr, hrun, hended, _, _, rfl, q, ⟨_, rfl⟩, hW, hsame.mono hk hn⟩
theorem own_outJ (X : Stand p l e R s m args below meth c T locs cells slots) (hx : p.tables.exec = Jvm.exec) (hlk : meth.locks = false) (hret : meth.sig.returnType = some .long) {pc : Nat} {Ls : Array Slot} {z : Int64} {rest : List Value} (hd : decode c.code pc = .ok (.lreturn, 1))
    (q : Q (some (.long z)) T.heap locs) (hk : cells ≤ k) (hn : slots ≤ n) : own_Go p e below s T (mkF m pc Ls (.long z :: rest)) k n Q := by
  obtain ⟨fs, hr, hrun, hended, hW, hsame⟩ := X.leave (v := some (.long z)) (fun h => by rw [hret] at h; cases h) hlk
  exact ⟨_, _, retOut X hx hret rfl (Or.inr (Or.inl ⟨rfl, rfl, _, rfl⟩)) hd hr, hrun, hended, _, _, rfl, q, ⟨_, rfl⟩, hW, hsame.mono hk hn⟩
theorem own_outD (X : Stand p l e R s m args below meth c T locs cells slots) (hx : p.tables.exec = Jvm.exec) (hlk : meth.locks = false) (hret : meth.sig.returnType = some .double) {pc : Nat} {Ls : Array Slot} {z : UInt64} {rest : List Value} (hd : decode c.code pc = .ok (.dreturn, 1))
    (q : Q (some (.double z)) T.heap locs) (hk : cells ≤ k) (hn : slots ≤ n) : own_Go p e below s T (mkF m pc Ls (.double z :: rest)) k n Q := by
  obtain ⟨fs, hr, hrun, hended, hW, hsame⟩ := X.leave (v := some (.double z)) (fun h => by rw [hret] at h; cases h) hlk
  exact ⟨_, _, retOut X hx hret rfl (Or.inr (Or.inr (Or.inl ⟨rfl, rfl, _, rfl⟩))) hd hr, hrun, hended, _, _, rfl, q, ⟨_, rfl⟩, hW, hsame.mono hk hn⟩
theorem own_outA (X : Stand p l e R s m args below meth c T locs cells slots) (hx : p.tables.exec = Jvm.exec) (hlk : meth.locks = false) {t : FieldType} (hret : meth.sig.returnType = some t) (ht : t.isReference = true) {pc : Nat} {Ls : Array Slot} {w : Value} {rest : List Value} (hwr : w.isRef = true) (hd : decode c.code pc = .ok (.areturn, 1))
    (q : Q (some w) T.heap locs) (hk : cells ≤ k) (hn : slots ≤ n) : own_Go p e below s T (mkF m pc Ls (w :: rest)) k n Q := by
  obtain ⟨fs, hr, hrun, hended, hW, hsame⟩ := X.leave (v := some w) (fun h => by rw [hret] at h; cases h) hlk
  have hnw : narrow t w = w := by rcases ref_cases hwr with rfl | ⟨a, rfl⟩ <;> cases t <;> first | rfl | cases ht
  exact ⟨_, _, retOut X hx hret hnw (Or.inr (Or.inr (Or.inr (Or.inr ⟨rfl, ht, hwr⟩)))) hd hr, hrun, hended, _, _, rfl, q, ⟨_, rfl⟩, hW, hsame.mono hk hn⟩
theorem own_outV (X : Stand p l e R s m args below meth c T locs cells slots) (hx : p.tables.exec = Jvm.exec) (hlk : meth.locks = false) (hret : meth.sig.returnType = none) {pc : Nat} {Ls : Array Slot} (hd : decode c.code pc = .ok (.return_, 1))
    (q : Q none T.heap locs) (hk : cells ≤ k) (hn : slots ≤ n) : own_Go p e below s T (mkF m pc Ls []) k n Q := by
  obtain ⟨fs, hr, hrun, hended, hW, hsame⟩ := X.leave (v := none) (fun _ => rfl) hlk
  exact ⟨_, _, X.returnOut hx hret hd hr, hrun, hended, _, _, rfl, q, ⟨_, rfl⟩, hW, hsame.mono hk hn⟩
theorem own_callS (X : Stand p l e R s m args below meth c T locs cells slots) (hx : p.tables.exec = Jvm.exec) (hZ : Z.Warmed39 s.vm) {own : String} {index : Nat} {y : MethodName} {bytes : ByteArray} {maxL : Nat} {ret : Option FieldType} {rm : Room} {argsL rest : List Value}
    (hown : s.vm.findClass own = some m.cls) (w1 : (Cond.methodLink own index y).before a0 Z = true) (w2 : (Cond.static y).before a0 Z = true) (w3 : (Cond.initialized y.cls).before a0 Z = true) (w4 : (Cond.code y bytes maxL ret).before a0 Z = true)
    (hM : own_Met l y bytes maxL ret [] rm Z argsL.toArray h Q) (eT : T.heap = h) (hy : y.cls ≠ "java/lang/invoke/MethodHandle" ∧ y.cls ≠ "java/lang/invoke/VarHandle") (hf : rm.frames + 1 ≤ R.frames) (W : Nat) (hl : W + (maxL + 11) + rm.locals ≤ R.locals) (hc : cells + rm.cells ≤ R.cells) (hs : slots + rm.slots ≤ R.slots)
    {g : JFrame} (hg : g.method = m) (hsize : g.locals.size = c.maxLocals) (hlen : ∀ sig, parseMethodDescriptor y.desc = some sig → argsL.length = sig.parameters.length) (hstack : g.stack = argsL.reverse ++ rest) (hW : 2 * g.monitorRoom + (rest.map fun v => v.category).sum ≤ W) (hd : decode c.code g.pc = .ok (.invokestatic index, 3)) :
    ∃ v T' L, Stand p l e R s m args below meth c T' (locs ++ L) (cells + rm.cells) (slots + rm.slots) ∧ Q v T'.heap L ∧ ∀ t, Steps p.tables e below (T'.setTop { g with pc := g.pc + 3, stack := v.toList ++ rest }) t → Steps p.tables e below (T.setTop g) t := by
  obtain ⟨v, _, ⟨T', L', k', n'⟩, -, X', ⟨Lc, hQ, l1, l2, l3⟩, st⟩ := Jvm.LawKit.callS X hx (y := y) hown (mvT hZ w1) (mvT hZ w2) (mvT hZ w3) (mvT hZ w4) hy (backOf (W := W) hM hZ w4 w3 hf hl) hg hsize (argsL := argsL) (rest := rest) hlen hstack hW hd (fun _ _ => ⟨rfl, eT, hc, hs⟩)
  dsimp only [Pt.U, Pt.locs, Pt.cells, Pt.slots] at X' l1 l2 l3 st hQ
  subst l1 l2 l3
  exact ⟨v, T', Lc, X', hQ, st⟩
theorem own_callV (X : Stand p l e R s m args below meth c T locs cells slots) (hx : p.tables.exec = Jvm.exec) (hZ : Z.Warmed39 s.vm) {own C : String} {index : Nat} {y : MethodName} {bytes : ByteArray} {maxL : Nat} {ret : Option FieldType} {rm : Room} {b : Addr} {argsL rest : List Value}
    (hown : s.vm.findClass own = some m.cls) (w1 : (Cond.methodLink own index y).before a0 Z = true) (w2 : (Cond.declares y).before a0 Z = true) (w3 : (Cond.selects C y y).before a0 Z = true) (w4 : (Cond.instanceMethod y).before a0 Z = true) (w5 : (Cond.initialized y.cls).before a0 Z = true) (w6 : (Cond.code y bytes maxL ret).before a0 Z = true)
    (hM : own_Met l y bytes maxL ret [] rm Z (.ref b :: argsL).toArray h Q) (eT : T.heap = h) (E : Exa Z h b C) (hy : y.cls ≠ "java/lang/invoke/MethodHandle" ∧ y.cls ≠ "java/lang/invoke/VarHandle") (hf : rm.frames + 1 ≤ R.frames) (W : Nat) (hl : W + (maxL + 11) + rm.locals ≤ R.locals) (hc : cells + rm.cells ≤ R.cells) (hs : slots + rm.slots ≤ R.slots)
    {g : JFrame} (hg : g.method = m) (hsize : g.locals.size = c.maxLocals) (hlen : ∀ sig, parseMethodDescriptor y.desc = some sig → argsL.length = sig.parameters.length) (hstack : g.stack = argsL.reverse ++ .ref b :: rest) (hW : 2 * g.monitorRoom + (rest.map fun v => v.category).sum ≤ W) (hd : decode c.code g.pc = .ok (.invokevirtual index, 3)) :
    ∃ v T' L, Stand p l e R s m args below meth c T' (locs ++ L) (cells + rm.cells) (slots + rm.slots) ∧ Q v T'.heap L ∧ ∀ t, Steps p.tables e below (T'.setTop { g with pc := g.pc + 3, stack := v.toList ++ rest }) t → Steps p.tables e below (T.setTop g) t := by
  obtain ⟨cq, kq, qa, qb, qc⟩ := isOf hZ eT E
  obtain ⟨v, _, ⟨T', L', k', n'⟩, -, X', ⟨Lc, hQ, l1, l2, l3⟩, st⟩ := X.virtualBack hx (y := y) (z := y) hown (mvT hZ w1) (mvT hZ w2) (notFace_of_selects (args := #[]) (mvT hZ w3)) (mvT hZ w3) (mvT hZ w4) hy (backOf (W := W) hM hZ w6 w5 hf hl) qa qc hg hsize (Steps.refl _) (argsL := argsL) (rest := rest) hlen hstack hW hd (fun _ _ => ⟨rfl, eT, hc, hs⟩)
  dsimp only [Pt.U, Pt.locs, Pt.cells, Pt.slots] at X' l1 l2 l3 st hQ
  subst l1 l2 l3
  exact ⟨v, T', Lc, X', hQ, fun t q => st.trans q⟩
theorem own_callP (X : Stand p l e R s m args below meth c T locs cells slots) (hx : p.tables.exec = Jvm.exec) (hZ : Z.Warmed39 s.vm) {own : String} {index : Nat} {y : MethodName} {bytes : ByteArray} {maxL : Nat} {rm : Room} {a : Addr} {argsL rest : List Value}
    (hown : s.vm.findClass own = some m.cls) (hy1 : y.name = "<init>") (w1 : (Cond.methodLink own index y).before a0 Z = true) (w2 : (Cond.instanceMethod y).before a0 Z = true) (w3 : (Cond.initialized y.cls).before a0 Z = true) (w4 : (Cond.code y bytes maxL none).before a0 Z = true)
    (hM : own_Met l y bytes maxL none [] rm Z (.ref a :: argsL).toArray h Q) (eT : T.heap = h) (hy : y.cls ≠ "java/lang/invoke/MethodHandle" ∧ y.cls ≠ "java/lang/invoke/VarHandle") (hf : rm.frames + 1 ≤ R.frames) (W : Nat) (hl : W + (maxL + 11) + rm.locals ≤ R.locals) (hc : cells + rm.cells ≤ R.cells) (hs : slots + rm.slots ≤ R.slots)
    {g : JFrame} (hg : g.method = m) (hsize : g.locals.size = c.maxLocals) (hlen : ∀ sig, parseMethodDescriptor y.desc = some sig → argsL.length = sig.parameters.length) (hstack : g.stack = argsL.reverse ++ .ref a :: rest) (hW : 2 * g.monitorRoom + (rest.map fun v => v.category).sum ≤ W) (hd : decode c.code g.pc = .ok (.invokespecial index, 3)) :
    ∃ v T' L, Stand p l e R s m args below meth c T' (locs ++ L) (cells + rm.cells) (slots + rm.slots) ∧ Q v T'.heap L ∧ ∀ t, Steps p.tables e below (T'.setTop { g with pc := g.pc + 3, stack := v.toList ++ rest }) t → Steps p.tables e below (T.setTop g) t := by
  obtain ⟨v, _, ⟨T', L', k', n'⟩, -, X', ⟨Lc, hQ, l1, l2, l3⟩, st⟩ := X.specialBack hx (y := y) hy1 hown (mvT hZ w1) (mvT hZ w2) (mvT hZ w4) hy (backOf (W := W) hM hZ w4 w3 hf hl) hg hsize (Steps.refl _) (a := a) (argsL := argsL) (rest := rest) hlen hstack hW hd (fun _ _ => ⟨rfl, eT, hc, hs⟩)
  dsimp only [Pt.U, Pt.locs, Pt.cells, Pt.slots] at X' l1 l2 l3 st hQ
  subst l1 l2 l3
  exact ⟨v, T', Lc, X', hQ, fun t q => st.trans q⟩
end OwnWalk
theorem own_llt (x y : Int64) : XT.cmpL x y < 0 ↔ x < y := by
  show (if y < x then (1 : Int32) else if x = y then 0 else -1) < 0 ↔ _
  split
  · rename_i h; exact ⟨fun q => absurd q (by decide), fun q => by rw [Int64.lt_iff_toInt_lt] at h q; omega⟩
  · rename_i h; split
    · rename_i h2; subst h2; exact ⟨fun q => absurd q (by decide), fun q => absurd q h⟩
    · rename_i h2; refine ⟨fun _ => ?_, fun _ => by decide⟩
      rw [← Int64.toInt_inj] at h2; rw [Int64.lt_iff_toInt_lt] at h ⊢; omega
theorem own_lgt (x y : Int64) : 0 < XT.cmpL x y ↔ y < x := by
  show 0 < (if y < x then (1 : Int32) else if x = y then 0 else -1) ↔ _
  split
  · rename_i h; exact ⟨fun _ => h, fun _ => by decide⟩
  · rename_i h; split
    · exact ⟨fun q => absurd q (by decide), fun q => absurd q h⟩
    · exact ⟨fun q => absurd q (by decide), fun q => absurd q h⟩
theorem own_leq (x y : Int64) : XT.cmpL x y = 0 ↔ x = y := by
  show (if y < x then (1 : Int32) else if x = y then 0 else -1) = 0 ↔ _
  split
  · rename_i h; refine ⟨fun q => absurd q (by decide), fun q => ?_⟩; subst q; exact absurd h (by simp only [Int64.lt_iff_toInt_lt]; omega)
  · split
    · rename_i h; exact ⟨fun _ => h, fun _ => rfl⟩
    · rename_i h; exact ⟨fun q => absurd q (by decide), fun q => absurd q h⟩
theorem own_at {x y : Value} (h : x = y) : XT.acmp .eq x y = true ∧ XT.acmp .ne x y = false := by subst h; exact ⟨decide_eq_true rfl, decide_eq_false fun q => q rfl⟩
theorem own_af {x y : Value} (h : ¬ (x = y)) : XT.acmp .eq x y = false ∧ XT.acmp .ne x y = true := ⟨decide_eq_false h, decide_eq_true h⟩
theorem own_fld {s : State} {args : Array Value} {t u : Term} {C n d : String} {a : Addr} {v : Value} (ev : t.eval args s none [] s = some (.ref a)) (hu : u.eval args s none [] s = some v) (hq : (Cond.eq (.field t C n d) u).value args s none s [] = some true) : Fld s s.heap a C n d v := by
  refine Fld.start ?_
  obtain ⟨x, y, h1, h2, -, -⟩ := cmp_v (Or.inl hq)
  cases hu.symm.trans h2
  have h3 := h1
  rw [fld_at ev] at h3
  simp only [Cond.value, h1, h2] at hq
  rw [h3]
  cases x <;> cases v <;> simp at hq ⊢ <;> exact hq
end Jvm.RoadKit
namespace Jvm.Pilot.@@N@@
open Jvm Jvm.ClassFile Sem Op Lib Jvm.Free Jvm.Stand Jvm.LawKit Jvm.RoadKit Bundle Jvm.Pilot.@@N@@.Jvm.D
theorem own_mod (p n : Int32) (hn : 0 < n.toInt) : 0 ≤ ((p &&& 2147483647) % n).toInt ∧ ((p &&& 2147483647) % n).toInt < n.toInt := by
  have h1 : (p &&& 2147483647).toInt = p.toInt % ((2 ^ 31 : Nat) : Int) := c_mask p 2147483647 31 (by decide) (by decide)
  rw [Int32.toInt_mod, h1]
  have h2 : 0 ≤ p.toInt % ((2 ^ 31 : Nat) : Int) := Int.emod_nonneg _ (by decide)
  exact ⟨Int.tmod_nonneg _ h2, Int.tmod_lt_of_pos _ hn⟩
theorem own_ne {k n : Int32} (h : k ≠ n) : k.toInt ≠ n.toInt := fun q => h (Int32.toInt_inj.mp q)
theorem own_ldiv (x y : Int64) (hx : 0 ≤ x.toInt) (hy : 0 < y.toInt) : (x / y).toInt = x.toInt / y.toInt := by
  have r := rng64 x
  have h1 : 0 ≤ x.toInt / y.toInt := Int.ediv_nonneg hx (Int.le_of_lt hy)
  have h2 : x.toInt / y.toInt ≤ x.toInt := Int.ediv_le_self _ hx
  rw [Int64.toInt_div, Int.tdiv_eq_ediv_of_nonneg hx]
  exact Int.bmod_eq_of_le (by omega) (by omega)
theorem own_lmul (c k : Int64) (h1 : -9223372036854775808 ≤ c.toInt * k.toInt) (h2 : c.toInt * k.toInt < 9223372036854775808) : (c * k).toInt = c.toInt * k.toInt := by
  have a := c_lmul c k; have b := rng64 (c * k); generalize c.toInt * k.toInt = z at *; omega
theorem own_ladd (c k : Int64) (h1 : -9223372036854775808 ≤ c.toInt + k.toInt) (h2 : c.toInt + k.toInt < 9223372036854775808) : (c + k).toInt = c.toInt + k.toInt := by
  have a := c_ladd c k; have b := rng64 (c + k); omega
theorem own_l2i (x : Int64) (h1 : -2147483648 ≤ x.toInt) (h2 : x.toInt < 2147483648) : x.toInt32.toInt = x.toInt := by
  have a := c_l2i x; have b := rng32 x.toInt32; omega
def own_F (Z : State) (h : Heap) (w_BITS w_CELLS : Addr) : Prop := Sta Z h "com/example/gannet/gannet/filter/Storage" "BITS" "Lcom/example/gannet/gannet/filter/Storage;" (.ref w_BITS) ∧ Exa Z h w_BITS "com/example/gannet/gannet/filter/Storage" ∧ Sta Z h "com/example/gannet/gannet/filter/Storage" "CELLS" "Lcom/example/gannet/gannet/filter/Storage;" (.ref w_CELLS) ∧ Exa Z h w_CELLS "com/example/gannet/gannet/filter/Storage" ∧ Fld Z h w_BITS "com/example/gannet/gannet/filter/Storage" "maxSize" "J" (.long (137438953408 : Int64)) ∧ Fld Z h w_CELLS "com/example/gannet/gannet/filter/Storage" "maxSize" "J" (.long (34359738352 : Int64)) ∧ w_BITS ≠ w_CELLS
theorem own_rem (z : Int64) : (z &&& (63 : Int64)) = 0 ↔ (z - (z / (64 : Int64)) * (64 : Int64)) = 0 := by
  have h1 : (z &&& (63 : Int64)).toInt = z.toInt % ((2 ^ 6 : Nat) : Int) := c_maskL z 63 6 (by decide) (by decide)
  have h2 := c_lrem z 64 64 (by decide)
  have e0 : (0 : Int64).toInt = 0 := by decide
  rw [← Int64.toInt_inj, ← Int64.toInt_inj, h1, e0]
  rcases Int.le_total 0 z.toInt with h | h
  · rw [h2.1 h]; omega
  · rcases Int.lt_or_eq_of_le h with h' | h'
    · rw [h2.2 h']; omega
    · rw [h2.1 (by omega)]; omega
theorem own_pos {z : Int64} (h : (z &&& (63 : Int64)) = 0) : (0 : Int64) < z ↔ ¬ z < (64 : Int64) := by
  have h1 : (z &&& (63 : Int64)).toInt = z.toInt % ((2 ^ 6 : Nat) : Int) := c_maskL z 63 6 (by decide) (by decide)
  have e0 : (0 : Int64).toInt = 0 := by decide
  have e64 : (64 : Int64).toInt = 64 := by decide
  rw [← Int64.toInt_inj, h1, e0] at h
  rw [Int64.lt_iff_toInt_lt, Int64.lt_iff_toInt_lt, e0, e64]; omega
theorem d1_0 : decode prog_19_method_6_code 0 = .ok (.lload_n 1, 1) := by decide +kernel
theorem d1_1 : decode prog_19_method_6_code 1 = .ok (.ldc2_w 43, 3) := by decide +kernel
theorem d1_4 : decode prog_19_method_6_code 4 = .ok (.lcmp, 1) := by decide +kernel
theorem d1_5 : decode prog_19_method_6_code 5 = .ok (.ifCond .lt 26, 3) := by decide +kernel
theorem d1_8 : decode prog_19_method_6_code 8 = .ok (.lload_n 1, 1) := by decide +kernel
theorem d1_9 : decode prog_19_method_6_code 9 = .ok (.aload_n 0, 1) := by decide +kernel
theorem d1_10 : decode prog_19_method_6_code 10 = .ok (.getfield 37, 3) := by decide +kernel
theorem d1_13 : decode prog_19_method_6_code 13 = .ok (.lcmp, 1) := by decide +kernel
theorem d1_14 : decode prog_19_method_6_code 14 = .ok (.ifCond .gt 17, 3) := by decide +kernel
theorem d1_17 : decode prog_19_method_6_code 17 = .ok (.lload_n 1, 1) := by decide +kernel
theorem d1_18 : decode prog_19_method_6_code 18 = .ok (.ldc2_w 43, 3) := by decide +kernel
theorem d1_21 : decode prog_19_method_6_code 21 = .ok (.lrem, 1) := by decide +kernel
theorem d1_22 : decode prog_19_method_6_code 22 = .ok (.lconst 0, 1) := by decide +kernel
theorem d1_23 : decode prog_19_method_6_code 23 = .ok (.lcmp, 1) := by decide +kernel
theorem d1_24 : decode prog_19_method_6_code 24 = .ok (.ifCond .ne 7, 3) := by decide +kernel
theorem d1_27 : decode prog_19_method_6_code 27 = .ok (.iconst 1, 1) := by decide +kernel
theorem d1_28 : decode prog_19_method_6_code 28 = .ok (.goto 4, 3) := by decide +kernel
theorem d1_31 : decode prog_19_method_6_code 31 = .ok (.iconst 0, 1) := by decide +kernel
theorem d1_32 : decode prog_19_method_6_code 32 = .ok (.ireturn, 1) := by decide +kernel
set_option maxRecDepth 65536 in
set_option maxHeartbeats 40000000 in
theorem rm_iv_BITS (l : Launch) (Z : State) (a0 : Array Value) (hw : ∀ d ∈ tables_1, d.before a0 Z = true) (ws : List Jvm.Cond) (p1 : Int64) (w_BITS w_CELLS : Addr) (h0 : Heap) (FX : own_F Z h0 w_BITS w_CELLS) :
    own_Met l (⟨"com/example/gannet/gannet/filter/Storage", "isValidSize", "(J)Z"⟩ : MethodName) prog_19_method_6_code 3 (some .boolean) ws ({ frames := 0, cells := 0, slots := 0, locals := 0 } : Room) Z #[(.ref w_BITS), (.long p1)] h0 (fun v h L => ((¬ p1 < (64 : Int64) ∧ ¬ (137438953408 : Int64) < p1 ∧ (p1 - (p1 / (64 : Int64)) * (64 : Int64)) = (0 : Int64) ∧ v = some (.int (1 : Int32))) ∨ ((p1 < (64 : Int64) ∨ (137438953408 : Int64) < p1 ∨ ¬ (p1 - (p1 / (64 : Int64)) * (64 : Int64)) = (0 : Int64)) ∧ v = some (.int (0 : Int32)))) ∧ h = h0 ∧ L = []) := by
  refine MetFree.of_bodySF (plainFor_of_name (by first | (simp [plainName, overriddenIn]; done) | decide +kernel)) hisR ?_
  intro p e s m args below meth c s₁ Bd hml0 hP hK
  obtain ⟨rfl, hZ, hh⟩ := hP
  have hx := Bd.exec
  have hby := Bd.bytes
  have hml : c.maxLocals = 3 := hml0
  have hown : s.vm.findClass "com/example/gannet/gannet/filter/Storage" = some m.cls := findClass_of_methodNamed Bd.named
  have hnm := (name_of_methodNamed Bd.named Bd.method).1
  have hlk : meth.locks = false := Bd.notSynchronized
  have hret := Bd.returns
  have X0 : Stand p l e ({ frames := 0, cells := 0, slots := 0, locals := 0 } : Room) s m #[(.ref w_BITS), (.long p1)] below meth c s₁ [] 0 0 := Stand.of_body Bd
  have e0 : s₁.heap = h0 := by rw [← hh, Bd.state]; rfl
  refine own_in (Q := fun v h L => ((¬ p1 < (64 : Int64) ∧ ¬ (137438953408 : Int64) < p1 ∧ (p1 - (p1 / (64 : Int64)) * (64 : Int64)) = (0 : Int64) ∧ v = some (.int (1 : Int32))) ∨ ((p1 < (64 : Int64) ∨ (137438953408 : Int64) < p1 ∨ ¬ (p1 - (p1 / (64 : Int64)) * (64 : Int64)) = (0 : Int64)) ∧ v = some (.int (0 : Int32)))) ∧ h = h0 ∧ L = []) (ef := by first | (simp [entryFrame, mkF, argsToLocals, Value.category, maxLocals]; done) | rfl) (g' := (mkF m 0 #[.val (.ref w_BITS), .val (.long p1), .second] [])) ?_
  obtain ⟨S_BITS, E_BITS, S_CELLS, E_CELLS, F_BITS_maxSize, F_CELLS_maxSize, ne_BITS_CELLS⟩ := id FX
  refine own_go (T' := s₁) (g' := (mkF m 1 #[.val (.ref w_BITS), .val (.long p1), .second] [(.long p1)])) (fun t q => XT.lloadN X0.here hx rfl (hb hby d1_0) rfl q) ?_
  refine own_go (T' := s₁) (g' := (mkF m 4 #[.val (.ref w_BITS), .val (.long p1), .second] [(.long (64 : Int64)), (.long p1)])) (fun t q => X0.ldc2Long hx hown (mvT hZ (hw _ (List.mem_of_getElem? (i := 12) rfl))) (g := (mkF m 1 #[.val (.ref w_BITS), .val (.long p1), .second] [(.long p1)])) rfl (hb hby d1_1) t q) ?_
  refine own_go (T' := s₁) (g' := (mkF m 5 #[.val (.ref w_BITS), .val (.long p1), .second] [(.int (XT.cmpL p1 (64 : Int64)))])) (fun t q => XT.lcmp X0.here hx rfl (hb hby d1_4) rfl q) ?_
  by_cases c1 : p1 < (64 : Int64)
  · refine own_go (T' := s₁) (g' := (mkF m 31 #[.val (.ref w_BITS), .val (.long p1), .second] [])) (fun t q => XS.ifYes X0.here hx rfl (pc0 := 5) (pc' := 31) rfl (hb hby d1_5) rfl ((if0 _ _).trans (tlt ((own_llt p1 (64 : Int64)).mpr c1)).1) (by decide) (by decide) q) ?_
    refine own_go (T' := s₁) (g' := (mkF m 32 #[.val (.ref w_BITS), .val (.long p1), .second] [(.int (0 : Int32))])) (fun t q => XS.iconst X0.here hx rfl (hb hby d1_31) q) ?_
    refine own_outN X0 hx hlk hret (t := .boolean) (by simp) (hb hby d1_32) (w := (0 : Int32)) (by decide) ?_ (by decide) (by decide)
    exact ⟨Or.inr ⟨Or.inl c1, rfl⟩, e0, rfl⟩
  · refine own_go (T' := s₁) (g' := (mkF m 8 #[.val (.ref w_BITS), .val (.long p1), .second] [])) (fun t q => XS.ifNo X0.here hx rfl (hb hby d1_5) rfl ((if0 _ _).trans (flt (fun z => c1 ((own_llt p1 (64 : Int64)).mp z))).1) q) ?_
    refine own_go (T' := s₁) (g' := (mkF m 9 #[.val (.ref w_BITS), .val (.long p1), .second] [(.long p1)])) (fun t q => XT.lloadN X0.here hx rfl (hb hby d1_8) rfl q) ?_
    refine own_go (T' := s₁) (g' := (mkF m 10 #[.val (.ref w_BITS), .val (.long p1), .second] [(.ref w_BITS), (.long p1)])) (fun t q => XS.aloadN X0.here hx rfl (hb hby d1_9) rfl rfl q) ?_
    obtain ⟨T2, X2, e2, st2⟩ := getF X0 hx hZ hown (host := "") (Or.inl (hw _ (List.mem_of_getElem? (i := 17) rfl))) Via.refl e0 F_BITS_maxSize (g := (mkF m 10 #[.val (.ref w_BITS), .val (.long p1), .second] [(.ref w_BITS), (.long p1)])) rfl rfl (hb hby d1_10)
    refine own_go (T' := T2) (g' := (mkF m 13 #[.val (.ref w_BITS), .val (.long p1), .second] [(.long (137438953408 : Int64)), (.long p1)])) (fun t q => st2 t q) ?_
    refine own_go (T' := T2) (g' := (mkF m 14 #[.val (.ref w_BITS), .val (.long p1), .second] [(.int (XT.cmpL p1 (137438953408 : Int64)))])) (fun t q => XT.lcmp X2.here hx rfl (hb hby d1_13) rfl q) ?_
    by_cases c3 : (137438953408 : Int64) < p1
    · refine own_go (T' := T2) (g' := (mkF m 31 #[.val (.ref w_BITS), .val (.long p1), .second] [])) (fun t q => XS.ifYes X2.here hx rfl (pc0 := 14) (pc' := 31) rfl (hb hby d1_14) rfl ((if0 _ _).trans (tlt ((own_lgt p1 (137438953408 : Int64)).mpr c3)).2.2.1) (by decide) (by decide) q) ?_
      refine own_go (T' := T2) (g' := (mkF m 32 #[.val (.ref w_BITS), .val (.long p1), .second] [(.int (0 : Int32))])) (fun t q => XS.iconst X2.here hx rfl (hb hby d1_31) q) ?_
      refine own_outN X2 hx hlk hret (t := .boolean) (by simp) (hb hby d1_32) (w := (0 : Int32)) (by decide) ?_ (by decide) (by decide)
      exact ⟨Or.inr ⟨Or.inr (Or.inl c3), rfl⟩, e2, rfl⟩
    · refine own_go (T' := T2) (g' := (mkF m 17 #[.val (.ref w_BITS), .val (.long p1), .second] [])) (fun t q => XS.ifNo X2.here hx rfl (hb hby d1_14) rfl ((if0 _ _).trans (flt (fun z => c3 ((own_lgt p1 (137438953408 : Int64)).mp z))).2.2.1) q) ?_
      refine own_go (T' := T2) (g' := (mkF m 18 #[.val (.ref w_BITS), .val (.long p1), .second] [(.long p1)])) (fun t q => XT.lloadN X2.here hx rfl (hb hby d1_17) rfl q) ?_
      refine own_go (T' := T2) (g' := (mkF m 21 #[.val (.ref w_BITS), .val (.long p1), .second] [(.long (64 : Int64)), (.long p1)])) (fun t q => X2.ldc2Long hx hown (mvT hZ (hw _ (List.mem_of_getElem? (i := 12) rfl))) (g := (mkF m 18 #[.val (.ref w_BITS), .val (.long p1), .second] [(.long p1)])) rfl (hb hby d1_18) t q) ?_
      refine own_go (T' := T2) (g' := (mkF m 22 #[.val (.ref w_BITS), .val (.long p1), .second] [(.long (p1 - (p1 / (64 : Int64)) * (64 : Int64)))])) (fun t q => XT.lrem X2.here hx rfl (hb hby d1_21) rfl (by decide) q) ?_
      refine own_go (T' := T2) (g' := (mkF m 23 #[.val (.ref w_BITS), .val (.long p1), .second] [(.long (0 : Int64)), (.long (p1 - (p1 / (64 : Int64)) * (64 : Int64)))])) (fun t q => XT.lconst X2.here hx rfl (hb hby d1_22) q) ?_
      refine own_go (T' := T2) (g' := (mkF m 24 #[.val (.ref w_BITS), .val (.long p1), .second] [(.int (XT.cmpL (p1 - (p1 / (64 : Int64)) * (64 : Int64)) (0 : Int64)))])) (fun t q => XT.lcmp X2.here hx rfl (hb hby d1_23) rfl q) ?_
      by_cases c4 : (p1 - (p1 / (64 : Int64)) * (64 : Int64)) = (0 : Int64)
      · refine own_go (T' := T2) (g' := (mkF m 27 #[.val (.ref w_BITS), .val (.long p1), .second] [])) (fun t q => XS.ifNo X2.here hx rfl (hb hby d1_24) rfl ((if0 _ _).trans (teq ((own_leq (p1 - (p1 / (64 : Int64)) * (64 : Int64)) (0 : Int64)).mpr c4)).2) q) ?_
        refine own_go (T' := T2) (g' := (mkF m 28 #[.val (.ref w_BITS), .val (.long p1), .second] [(.int (1 : Int32))])) (fun t q => XS.iconst X2.here hx rfl (hb hby d1_27) q) ?_
        refine own_go (T' := T2) (g' := (mkF m 32 #[.val (.ref w_BITS), .val (.long p1), .second] [(.int (1 : Int32))])) (fun t q => XS.goto X2.here hx rfl (pc0 := 28) (pc' := 32) rfl (hb hby d1_28) (by decide) (by decide) q) ?_
        refine own_outN X2 hx hlk hret (t := .boolean) (by simp) (hb hby d1_32) (w := (1 : Int32)) (by decide) ?_ (by decide) (by decide)
        exact ⟨Or.inl ⟨c1, c3, c4, rfl⟩, e2, rfl⟩
      · refine own_go (T' := T2) (g' := (mkF m 31 #[.val (.ref w_BITS), .val (.long p1), .second] [])) (fun t q => XS.ifYes X2.here hx rfl (pc0 := 24) (pc' := 31) rfl (hb hby d1_24) rfl ((if0 _ _).trans (feq (fun z => c4 ((own_leq (p1 - (p1 / (64 : Int64)) * (64 : Int64)) (0 : Int64)).mp z))).2) (by decide) (by decide) q) ?_
        refine own_go (T' := T2) (g' := (mkF m 32 #[.val (.ref w_BITS), .val (.long p1), .second] [(.int (0 : Int32))])) (fun t q => XS.iconst X2.here hx rfl (hb hby d1_31) q) ?_
        refine own_outN X2 hx hlk hret (t := .boolean) (by simp) (hb hby d1_32) (w := (0 : Int32)) (by decide) ?_ (by decide) (by decide)
        exact ⟨Or.inr ⟨Or.inr (Or.inr c4), rfl⟩, e2, rfl⟩
set_option maxRecDepth 65536 in
set_option maxHeartbeats 40000000 in
theorem rm_iv_CELLS (l : Launch) (Z : State) (a0 : Array Value) (hw : ∀ d ∈ tables_1, d.before a0 Z = true) (ws : List Jvm.Cond) (p1 : Int64) (w_BITS w_CELLS : Addr) (h0 : Heap) (FX : own_F Z h0 w_BITS w_CELLS) :
    own_Met l (⟨"com/example/gannet/gannet/filter/Storage", "isValidSize", "(J)Z"⟩ : MethodName) prog_19_method_6_code 3 (some .boolean) ws ({ frames := 0, cells := 0, slots := 0, locals := 0 } : Room) Z #[(.ref w_CELLS), (.long p1)] h0 (fun v h L => ((¬ p1 < (64 : Int64) ∧ ¬ (34359738352 : Int64) < p1 ∧ (p1 - (p1 / (64 : Int64)) * (64 : Int64)) = (0 : Int64) ∧ v = some (.int (1 : Int32))) ∨ ((p1 < (64 : Int64) ∨ (34359738352 : Int64) < p1 ∨ ¬ (p1 - (p1 / (64 : Int64)) * (64 : Int64)) = (0 : Int64)) ∧ v = some (.int (0 : Int32)))) ∧ h = h0 ∧ L = []) := by
  refine MetFree.of_bodySF (plainFor_of_name (by first | (simp [plainName, overriddenIn]; done) | decide +kernel)) hisR ?_
  intro p e s m args below meth c s₁ Bd hml0 hP hK
  obtain ⟨rfl, hZ, hh⟩ := hP
  have hx := Bd.exec
  have hby := Bd.bytes
  have hml : c.maxLocals = 3 := hml0
  have hown : s.vm.findClass "com/example/gannet/gannet/filter/Storage" = some m.cls := findClass_of_methodNamed Bd.named
  have hnm := (name_of_methodNamed Bd.named Bd.method).1
  have hlk : meth.locks = false := Bd.notSynchronized
  have hret := Bd.returns
  have X0 : Stand p l e ({ frames := 0, cells := 0, slots := 0, locals := 0 } : Room) s m #[(.ref w_CELLS), (.long p1)] below meth c s₁ [] 0 0 := Stand.of_body Bd
  have e0 : s₁.heap = h0 := by rw [← hh, Bd.state]; rfl
  refine own_in (Q := fun v h L => ((¬ p1 < (64 : Int64) ∧ ¬ (34359738352 : Int64) < p1 ∧ (p1 - (p1 / (64 : Int64)) * (64 : Int64)) = (0 : Int64) ∧ v = some (.int (1 : Int32))) ∨ ((p1 < (64 : Int64) ∨ (34359738352 : Int64) < p1 ∨ ¬ (p1 - (p1 / (64 : Int64)) * (64 : Int64)) = (0 : Int64)) ∧ v = some (.int (0 : Int32)))) ∧ h = h0 ∧ L = []) (ef := by first | (simp [entryFrame, mkF, argsToLocals, Value.category, maxLocals]; done) | rfl) (g' := (mkF m 0 #[.val (.ref w_CELLS), .val (.long p1), .second] [])) ?_
  obtain ⟨S_BITS, E_BITS, S_CELLS, E_CELLS, F_BITS_maxSize, F_CELLS_maxSize, ne_BITS_CELLS⟩ := id FX
  refine own_go (T' := s₁) (g' := (mkF m 1 #[.val (.ref w_CELLS), .val (.long p1), .second] [(.long p1)])) (fun t q => XT.lloadN X0.here hx rfl (hb hby d1_0) rfl q) ?_
  refine own_go (T' := s₁) (g' := (mkF m 4 #[.val (.ref w_CELLS), .val (.long p1), .second] [(.long (64 : Int64)), (.long p1)])) (fun t q => X0.ldc2Long hx hown (mvT hZ (hw _ (List.mem_of_getElem? (i := 12) rfl))) (g := (mkF m 1 #[.val (.ref w_CELLS), .val (.long p1), .second] [(.long p1)])) rfl (hb hby d1_1) t q) ?_
  refine own_go (T' := s₁) (g' := (mkF m 5 #[.val (.ref w_CELLS), .val (.long p1), .second] [(.int (XT.cmpL p1 (64 : Int64)))])) (fun t q => XT.lcmp X0.here hx rfl (hb hby d1_4) rfl q) ?_
  by_cases c1 : p1 < (64 : Int64)
  · refine own_go (T' := s₁) (g' := (mkF m 31 #[.val (.ref w_CELLS), .val (.long p1), .second] [])) (fun t q => XS.ifYes X0.here hx rfl (pc0 := 5) (pc' := 31) rfl (hb hby d1_5) rfl ((if0 _ _).trans (tlt ((own_llt p1 (64 : Int64)).mpr c1)).1) (by decide) (by decide) q) ?_
    refine own_go (T' := s₁) (g' := (mkF m 32 #[.val (.ref w_CELLS), .val (.long p1), .second] [(.int (0 : Int32))])) (fun t q => XS.iconst X0.here hx rfl (hb hby d1_31) q) ?_
    refine own_outN X0 hx hlk hret (t := .boolean) (by simp) (hb hby d1_32) (w := (0 : Int32)) (by decide) ?_ (by decide) (by decide)
    exact ⟨Or.inr ⟨Or.inl c1, rfl⟩, e0, rfl⟩
  · refine own_go (T' := s₁) (g' := (mkF m 8 #[.val (.ref w_CELLS), .val (.long p1), .second] [])) (fun t q => XS.ifNo X0.here hx rfl (hb hby d1_5) rfl ((if0 _ _).trans (flt (fun z => c1 ((own_llt p1 (64 : Int64)).mp z))).1) q) ?_
    refine own_go (T' := s₁) (g' := (mkF m 9 #[.val (.ref w_CELLS), .val (.long p1), .second] [(.long p1)])) (fun t q => XT.lloadN X0.here hx rfl (hb hby d1_8) rfl q) ?_
    refine own_go (T' := s₁) (g' := (mkF m 10 #[.val (.ref w_CELLS), .val (.long p1), .second] [(.ref w_CELLS), (.long p1)])) (fun t q => XS.aloadN X0.here hx rfl (hb hby d1_9) rfl rfl q) ?_
    obtain ⟨T2, X2, e2, st2⟩ := getF X0 hx hZ hown (host := "") (Or.inl (hw _ (List.mem_of_getElem? (i := 17) rfl))) Via.refl e0 F_CELLS_maxSize (g := (mkF m 10 #[.val (.ref w_CELLS), .val (.long p1), .second] [(.ref w_CELLS), (.long p1)])) rfl rfl (hb hby d1_10)
    refine own_go (T' := T2) (g' := (mkF m 13 #[.val (.ref w_CELLS), .val (.long p1), .second] [(.long (34359738352 : Int64)), (.long p1)])) (fun t q => st2 t q) ?_
    refine own_go (T' := T2) (g' := (mkF m 14 #[.val (.ref w_CELLS), .val (.long p1), .second] [(.int (XT.cmpL p1 (34359738352 : Int64)))])) (fun t q => XT.lcmp X2.here hx rfl (hb hby d1_13) rfl q) ?_
    by_cases c3 : (34359738352 : Int64) < p1
    · refine own_go (T' := T2) (g' := (mkF m 31 #[.val (.ref w_CELLS), .val (.long p1), .second] [])) (fun t q => XS.ifYes X2.here hx rfl (pc0 := 14) (pc' := 31) rfl (hb hby d1_14) rfl ((if0 _ _).trans (tlt ((own_lgt p1 (34359738352 : Int64)).mpr c3)).2.2.1) (by decide) (by decide) q) ?_
      refine own_go (T' := T2) (g' := (mkF m 32 #[.val (.ref w_CELLS), .val (.long p1), .second] [(.int (0 : Int32))])) (fun t q => XS.iconst X2.here hx rfl (hb hby d1_31) q) ?_
      refine own_outN X2 hx hlk hret (t := .boolean) (by simp) (hb hby d1_32) (w := (0 : Int32)) (by decide) ?_ (by decide) (by decide)
      exact ⟨Or.inr ⟨Or.inr (Or.inl c3), rfl⟩, e2, rfl⟩
    · refine own_go (T' := T2) (g' := (mkF m 17 #[.val (.ref w_CELLS), .val (.long p1), .second] [])) (fun t q => XS.ifNo X2.here hx rfl (hb hby d1_14) rfl ((if0 _ _).trans (flt (fun z => c3 ((own_lgt p1 (34359738352 : Int64)).mp z))).2.2.1) q) ?_
      refine own_go (T' := T2) (g' := (mkF m 18 #[.val (.ref w_CELLS), .val (.long p1), .second] [(.long p1)])) (fun t q => XT.lloadN X2.here hx rfl (hb hby d1_17) rfl q) ?_
      refine own_go (T' := T2) (g' := (mkF m 21 #[.val (.ref w_CELLS), .val (.long p1), .second] [(.long (64 : Int64)), (.long p1)])) (fun t q => X2.ldc2Long hx hown (mvT hZ (hw _ (List.mem_of_getElem? (i := 12) rfl))) (g := (mkF m 18 #[.val (.ref w_CELLS), .val (.long p1), .second] [(.long p1)])) rfl (hb hby d1_18) t q) ?_
      refine own_go (T' := T2) (g' := (mkF m 22 #[.val (.ref w_CELLS), .val (.long p1), .second] [(.long (p1 - (p1 / (64 : Int64)) * (64 : Int64)))])) (fun t q => XT.lrem X2.here hx rfl (hb hby d1_21) rfl (by decide) q) ?_
      refine own_go (T' := T2) (g' := (mkF m 23 #[.val (.ref w_CELLS), .val (.long p1), .second] [(.long (0 : Int64)), (.long (p1 - (p1 / (64 : Int64)) * (64 : Int64)))])) (fun t q => XT.lconst X2.here hx rfl (hb hby d1_22) q) ?_
      refine own_go (T' := T2) (g' := (mkF m 24 #[.val (.ref w_CELLS), .val (.long p1), .second] [(.int (XT.cmpL (p1 - (p1 / (64 : Int64)) * (64 : Int64)) (0 : Int64)))])) (fun t q => XT.lcmp X2.here hx rfl (hb hby d1_23) rfl q) ?_
      by_cases c4 : (p1 - (p1 / (64 : Int64)) * (64 : Int64)) = (0 : Int64)
      · refine own_go (T' := T2) (g' := (mkF m 27 #[.val (.ref w_CELLS), .val (.long p1), .second] [])) (fun t q => XS.ifNo X2.here hx rfl (hb hby d1_24) rfl ((if0 _ _).trans (teq ((own_leq (p1 - (p1 / (64 : Int64)) * (64 : Int64)) (0 : Int64)).mpr c4)).2) q) ?_
        refine own_go (T' := T2) (g' := (mkF m 28 #[.val (.ref w_CELLS), .val (.long p1), .second] [(.int (1 : Int32))])) (fun t q => XS.iconst X2.here hx rfl (hb hby d1_27) q) ?_
        refine own_go (T' := T2) (g' := (mkF m 32 #[.val (.ref w_CELLS), .val (.long p1), .second] [(.int (1 : Int32))])) (fun t q => XS.goto X2.here hx rfl (pc0 := 28) (pc' := 32) rfl (hb hby d1_28) (by decide) (by decide) q) ?_
        refine own_outN X2 hx hlk hret (t := .boolean) (by simp) (hb hby d1_32) (w := (1 : Int32)) (by decide) ?_ (by decide) (by decide)
        exact ⟨Or.inl ⟨c1, c3, c4, rfl⟩, e2, rfl⟩
      · refine own_go (T' := T2) (g' := (mkF m 31 #[.val (.ref w_CELLS), .val (.long p1), .second] [])) (fun t q => XS.ifYes X2.here hx rfl (pc0 := 24) (pc' := 31) rfl (hb hby d1_24) rfl ((if0 _ _).trans (feq (fun z => c4 ((own_leq (p1 - (p1 / (64 : Int64)) * (64 : Int64)) (0 : Int64)).mp z))).2) (by decide) (by decide) q) ?_
        refine own_go (T' := T2) (g' := (mkF m 32 #[.val (.ref w_CELLS), .val (.long p1), .second] [(.int (0 : Int32))])) (fun t q => XS.iconst X2.here hx rfl (hb hby d1_31) q) ?_
        refine own_outN X2 hx hlk hret (t := .boolean) (by simp) (hb hby d1_32) (w := (0 : Int32)) (by decide) ?_ (by decide) (by decide)
        exact ⟨Or.inr ⟨Or.inr (Or.inr c4), rfl⟩, e2, rfl⟩
set_option maxRecDepth 65536 in
set_option maxHeartbeats 40000000 in
theorem rm0 (l : Launch) (Z : State) (a0 : Array Value) (hw : ∀ d ∈ tables_1, d.before a0 Z = true) (ws : List Jvm.Cond) (p1 p2 : Int32) (p3 : Int64) (w_BITS w_CELLS : Addr) (h0 : Heap) (FX : own_F Z h0 w_BITS w_CELLS) :
    own_Met l x code maxLocals ret ws room_1 Z #[(.int p1), (.int p2), (.long p3)] h0 (fun v _ L => v = some (.int (1 : Int32)) ∧ Fr h0.size L) := by
  refine MetFree.of_bodySF (plainFor_of_name (by first | (simp [plainName, overriddenIn]; done) | decide +kernel)) hisR ?_
  intro p e s m args below meth c s₁ Bd hml0 hP hK
  obtain ⟨rfl, hZ, hh⟩ := hP
  have hx := Bd.exec
  have hby := Bd.bytes
  have hml : c.maxLocals = 14 := hml0
  have hown : s.vm.findClass "com/example/gannet/gannet/filter/StorageIsValidSizePinLaw" = some m.cls := findClass_of_methodNamed Bd.named
  have hnm := (name_of_methodNamed Bd.named Bd.method).1
  have hlk : meth.locks = false := Bd.notSynchronized
  have hret := Bd.returns
  have X0 : Stand p l e room_1 s m #[(.int p1), (.int p2), (.long p3)] below meth c s₁ [] 0 0 := Stand.of_body Bd
  have e0 : s₁.heap = h0 := by rw [← hh, Bd.state]; rfl
  refine own_in (Q := fun v _ L => v = some (.int (1 : Int32)) ∧ Fr h0.size L) (ef := by first | (simp [entryFrame, mkF, argsToLocals, Value.category, maxLocals]; done) | rfl) (g' := (mkF m 0 #[.val (.int p1), .val (.int p2), .val (.long p3), .second, .unset, .unset, .unset, .unset, .unset, .unset, .unset, .unset, .unset, .unset] [])) ?_
  obtain ⟨S_BITS, E_BITS, S_CELLS, E_CELLS, F_BITS_maxSize, F_CELLS_maxSize, ne_BITS_CELLS⟩ := id FX
  refine own_go (T' := s₁) (g' := (mkF m 1 #[.val (.int p1), .val (.int p2), .val (.long p3), .second, .unset, .unset, .unset, .unset, .unset, .unset, .unset, .unset, .unset, .unset] [(.int p1)])) (fun t q => XS.iloadN X0.here hx rfl (hb hby at_0) rfl q) ?_
  refine own_go (T' := s₁) (g' := (mkF m 2 #[.val (.int p1), .val (.int p2), .val (.long p3), .second, .unset, .unset, .unset, .unset, .unset, .unset, .unset, .unset, .unset, .unset] [(.int (1 : Int32)), (.int p1)])) (fun t q => XS.iconst X0.here hx rfl (hb hby at_1) q) ?_
  refine own_go (T' := s₁) (g' := (mkF m 3 #[.val (.int p1), .val (.int p2), .val (.long p3), .second, .unset, .unset, .unset, .unset, .unset, .unset, .unset, .unset, .unset, .unset] [(.int (p1 &&& (1 : Int32)))])) (fun t q => XS.iand X0.here hx rfl (hb hby at_2) rfl q) ?_
  obtain ⟨b0, h_b0⟩ : ∃ z : Int32, z = (p1 &&& (1 : Int32)) := ⟨_, rfl⟩
  rw [← h_b0]
  by_cases c1 : b0 = (0 : Int32)
  · refine own_go (T' := s₁) (g' := (mkF m 6 #[.val (.int p1), .val (.int p2), .val (.long p3), .second, .unset, .unset, .unset, .unset, .unset, .unset, .unset, .unset, .unset, .unset] [])) (fun t q => XS.ifNo X0.here hx rfl (hb hby at_3) rfl ((if0 _ _).trans (teq c1).2) q) ?_
    refine own_go (T' := s₁) (g' := (mkF m 7 #[.val (.int p1), .val (.int p2), .val (.long p3), .second, .unset, .unset, .unset, .unset, .unset, .unset, .unset, .unset, .unset, .unset] [(.int (1 : Int32))])) (fun t q => XS.iconst X0.here hx rfl (hb hby at_6) q) ?_
    refine own_go (T' := s₁) (g' := (mkF m 11 #[.val (.int p1), .val (.int p2), .val (.long p3), .second, .unset, .unset, .unset, .unset, .unset, .unset, .unset, .unset, .unset, .unset] [(.int (1 : Int32))])) (fun t q => XS.goto X0.here hx rfl (pc0 := 7) (pc' := 11) rfl (hb hby at_7) (by decide) (by decide) q) ?_
    refine own_go (T' := s₁) (g' := (mkF m 13 #[.val (.int p1), .val (.int p2), .val (.long p3), .second, .val (.int (1 : Int32)), .unset, .unset, .unset, .unset, .unset, .unset, .unset, .unset, .unset] [])) (fun t q => XS.istore X0.here hx rfl (hb hby at_11) rfl (l' := #[.val (.int p1), .val (.int p2), .val (.long p3), .second, .val (.int (1 : Int32)), .unset, .unset, .unset, .unset, .unset, .unset, .unset, .unset, .unset]) rfl q) ?_
    refine own_go (T' := s₁) (g' := (mkF m 15 #[.val (.int p1), .val (.int p2), .val (.long p3), .second, .val (.int (1 : Int32)), .unset, .unset, .unset, .unset, .unset, .unset, .unset, .unset, .unset] [(.int (1 : Int32))])) (fun t q => XS.iload X0.here hx rfl (hb hby at_13) rfl q) ?_
    have c2 : ¬ ((1 : Int32) = (0 : Int32)) := by decide
    refine own_go (T' := s₁) (g' := (mkF m 18 #[.val (.int p1), .val (.int p2), .val (.long p3), .second, .val (.int (1 : Int32)), .unset, .unset, .unset, .unset, .unset, .unset, .unset, .unset, .unset] [])) (fun t q => XS.ifNo X0.here hx rfl (hb hby at_15) rfl ((if0 _ _).trans (feq c2).1) q) ?_
    obtain ⟨T3, X3, e3, st3⟩ := getS2 X0 hx hZ hown (host := "") (Or.inl (hw _ (List.mem_of_getElem? (i := 0) rfl))) Via.refl e0 S_BITS (g := (mkF m 18 #[.val (.int p1), .val (.int p2), .val (.long p3), .second, .val (.int (1 : Int32)), .unset, .unset, .unset, .unset, .unset, .unset, .unset, .unset, .unset] [])) rfl (hb hby at_18)
    refine own_go (T' := T3) (g' := (mkF m 21 #[.val (.int p1), .val (.int p2), .val (.long p3), .second, .val (.int (1 : Int32)), .unset, .unset, .unset, .unset, .unset, .unset, .unset, .unset, .unset] [(.ref w_BITS)])) (fun t q => st3 t q) ?_
    refine own_go (T' := T3) (g' := (mkF m 27 #[.val (.int p1), .val (.int p2), .val (.long p3), .second, .val (.int (1 : Int32)), .unset, .unset, .unset, .unset, .unset, .unset, .unset, .unset, .unset] [(.ref w_BITS)])) (fun t q => XS.goto X3.here hx rfl (pc0 := 21) (pc' := 27) rfl (hb hby at_21) (by decide) (by decide) q) ?_
    refine own_go (T' := T3) (g' := (mkF m 29 #[.val (.int p1), .val (.int p2), .val (.long p3), .second, .val (.int (1 : Int32)), .val (.ref w_BITS), .unset, .unset, .unset, .unset, .unset, .unset, .unset, .unset] [])) (fun t q => XS.astore X3.here hx rfl (hb hby at_27) rfl rfl (l' := #[.val (.int p1), .val (.int p2), .val (.long p3), .second, .val (.int (1 : Int32)), .val (.ref w_BITS), .unset, .unset, .unset, .unset, .unset, .unset, .unset, .unset]) rfl q) ?_
    refine own_go (T' := T3) (g' := (mkF m 31 #[.val (.int p1), .val (.int p2), .val (.long p3), .second, .val (.int (1 : Int32)), .val (.ref w_BITS), .unset, .unset, .unset, .unset, .unset, .unset, .unset, .unset] [(.int (1 : Int32))])) (fun t q => XS.iload X3.here hx rfl (hb hby at_29) rfl q) ?_
    have c4 : ¬ ((1 : Int32) = (0 : Int32)) := by decide
    refine own_go (T' := T3) (g' := (mkF m 34 #[.val (.int p1), .val (.int p2), .val (.long p3), .second, .val (.int (1 : Int32)), .val (.ref w_BITS), .unset, .unset, .unset, .unset, .unset, .unset, .unset, .unset] [])) (fun t q => XS.ifNo X3.here hx rfl (hb hby at_31) rfl ((if0 _ _).trans (feq c4).1) q) ?_
    refine own_go (T' := T3) (g' := (mkF m 37 #[.val (.int p1), .val (.int p2), .val (.long p3), .second, .val (.int (1 : Int32)), .val (.ref w_BITS), .unset, .unset, .unset, .unset, .unset, .unset, .unset, .unset] [(.long (137438953408 : Int64))])) (fun t q => X3.ldc2Long hx hown (mvT hZ (hw _ (List.mem_of_getElem? (i := 3) rfl))) (g := (mkF m 34 #[.val (.int p1), .val (.int p2), .val (.long p3), .second, .val (.int (1 : Int32)), .val (.ref w_BITS), .unset, .unset, .unset, .unset, .unset, .unset, .unset, .unset] [])) rfl (hb hby at_34) t q) ?_
    refine own_go (T' := T3) (g' := (mkF m 43 #[.val (.int p1), .val (.int p2), .val (.long p3), .second, .val (.int (1 : Int32)), .val (.ref w_BITS), .unset, .unset, .unset, .unset, .unset, .unset, .unset, .unset] [(.long (137438953408 : Int64))])) (fun t q => XS.goto X3.here hx rfl (pc0 := 37) (pc' := 43) rfl (hb hby at_37) (by decide) (by decide) q) ?_
    refine own_go (T' := T3) (g' := (mkF m 45 #[.val (.int p1), .val (.int p2), .val (.long p3), .second, .val (.int (1 : Int32)), .val (.ref w_BITS), .val (.long (137438953408 : Int64)), .second, .unset, .unset, .unset, .unset, .unset, .unset] [])) (fun t q => XT.lstore X3.here hx rfl (hb hby at_43) rfl (l' := #[.val (.int p1), .val (.int p2), .val (.long p3), .second, .val (.int (1 : Int32)), .val (.ref w_BITS), .val (.long (137438953408 : Int64)), .second, .unset, .unset, .unset, .unset, .unset, .unset]) rfl q) ?_
    refine own_go (T' := T3) (g' := (mkF m 46 #[.val (.int p1), .val (.int p2), .val (.long p3), .second, .val (.int (1 : Int32)), .val (.ref w_BITS), .val (.long (137438953408 : Int64)), .second, .unset, .unset, .unset, .unset, .unset, .unset] [(.long p3)])) (fun t q => XT.lloadN X3.here hx rfl (hb hby at_45) rfl q) ?_
    refine own_go (T' := T3) (g' := (mkF m 49 #[.val (.int p1), .val (.int p2), .val (.long p3), .second, .val (.int (1 : Int32)), .val (.ref w_BITS), .val (.long (137438953408 : Int64)), .second, .unset, .unset, .unset, .unset, .unset, .unset] [(.long (255 : Int64)), (.long p3)])) (fun t q => X3.ldc2Long hx hown (mvT hZ (hw _ (List.mem_of_getElem? (i := 4) rfl))) (g := (mkF m 46 #[.val (.int p1), .val (.int p2), .val (.long p3), .second, .val (.int (1 : Int32)), .val (.ref w_BITS), .val (.long (137438953408 : Int64)), .second, .unset, .unset, .unset, .unset, .unset, .unset] [(.long p3)])) rfl (hb hby at_46) t q) ?_
    refine own_go (T' := T3) (g' := (mkF m 50 #[.val (.int p1), .val (.int p2), .val (.long p3), .second, .val (.int (1 : Int32)), .val (.ref w_BITS), .val (.long (137438953408 : Int64)), .second, .unset, .unset, .unset, .unset, .unset, .unset] [(.long (p3 &&& (255 : Int64)))])) (fun t q => XT.land X3.here hx rfl (hb hby at_49) rfl q) ?_
    refine own_go (T' := T3) (g' := (mkF m 53 #[.val (.int p1), .val (.int p2), .val (.long p3), .second, .val (.int (1 : Int32)), .val (.ref w_BITS), .val (.long (137438953408 : Int64)), .second, .unset, .unset, .unset, .unset, .unset, .unset] [(.long (128 : Int64)), (.long (p3 &&& (255 : Int64)))])) (fun t q => X3.ldc2Long hx hown (mvT hZ (hw _ (List.mem_of_getElem? (i := 5) rfl))) (g := (mkF m 50 #[.val (.int p1), .val (.int p2), .val (.long p3), .second, .val (.int (1 : Int32)), .val (.ref w_BITS), .val (.long (137438953408 : Int64)), .second, .unset, .unset, .unset, .unset, .unset, .unset] [(.long (p3 &&& (255 : Int64)))])) rfl (hb hby at_50) t q) ?_
    refine own_go (T' := T3) (g' := (mkF m 54 #[.val (.int p1), .val (.int p2), .val (.long p3), .second, .val (.int (1 : Int32)), .val (.ref w_BITS), .val (.long (137438953408 : Int64)), .second, .unset, .unset, .unset, .unset, .unset, .unset] [(.long ((p3 &&& (255 : Int64)) - (128 : Int64)))])) (fun t q => XT.lsub X3.here hx rfl (hb hby at_53) rfl q) ?_
    obtain ⟨off, hoff⟩ : ∃ z : Int64, z = ((p3 &&& (255 : Int64)) - (128 : Int64)) := ⟨_, rfl⟩
    rw [← hoff]
    refine own_go (T' := T3) (g' := (mkF m 56 #[.val (.int p1), .val (.int p2), .val (.long p3), .second, .val (.int (1 : Int32)), .val (.ref w_BITS), .val (.long (137438953408 : Int64)), .second, .val (.long off), .second, .unset, .unset, .unset, .unset] [])) (fun t q => XT.lstore X3.here hx rfl (hb hby at_54) rfl (l' := #[.val (.int p1), .val (.int p2), .val (.long p3), .second, .val (.int (1 : Int32)), .val (.ref w_BITS), .val (.long (137438953408 : Int64)), .second, .val (.long off), .second, .unset, .unset, .unset, .unset]) rfl q) ?_
    refine own_go (T' := T3) (g' := (mkF m 57 #[.val (.int p1), .val (.int p2), .val (.long p3), .second, .val (.int (1 : Int32)), .val (.ref w_BITS), .val (.long (137438953408 : Int64)), .second, .val (.long off), .second, .unset, .unset, .unset, .unset] [(.int p2)])) (fun t q => XS.iloadN X3.here hx rfl (hb hby at_56) rfl q) ?_
    refine own_go (T' := T3) (g' := (mkF m 58 #[.val (.int p1), .val (.int p2), .val (.long p3), .second, .val (.int (1 : Int32)), .val (.ref w_BITS), .val (.long (137438953408 : Int64)), .second, .val (.long off), .second, .unset, .unset, .unset, .unset] [(.int (3 : Int32)), (.int p2)])) (fun t q => XS.iconst X3.here hx rfl (hb hby at_57) q) ?_
    refine own_go (T' := T3) (g' := (mkF m 59 #[.val (.int p1), .val (.int p2), .val (.long p3), .second, .val (.int (1 : Int32)), .val (.ref w_BITS), .val (.long (137438953408 : Int64)), .second, .val (.long off), .second, .unset, .unset, .unset, .unset] [(.int (p2 &&& (3 : Int32)))])) (fun t q => XS.iand X3.here hx rfl (hb hby at_58) rfl q) ?_
    obtain ⟨kk, h_kk⟩ : ∃ z : Int32, z = (p2 &&& (3 : Int32)) := ⟨_, rfl⟩
    rw [← h_kk]
    refine own_go (T' := T3) (g' := (mkF m 61 #[.val (.int p1), .val (.int p2), .val (.long p3), .second, .val (.int (1 : Int32)), .val (.ref w_BITS), .val (.long (137438953408 : Int64)), .second, .val (.long off), .second, .val (.int kk), .unset, .unset, .unset] [])) (fun t q => XS.istore X3.here hx rfl (hb hby at_59) rfl (l' := #[.val (.int p1), .val (.int p2), .val (.long p3), .second, .val (.int (1 : Int32)), .val (.ref w_BITS), .val (.long (137438953408 : Int64)), .second, .val (.long off), .second, .val (.int kk), .unset, .unset, .unset]) rfl q) ?_
    have tail : ∀ sz : Int64, own_Go p e below s T3 (mkF m 109 #[.val (.int p1), .val (.int p2), .val (.long p3), .second, .val (.int (1 : Int32)), .val (.ref w_BITS), .val (.long (137438953408 : Int64)), .second, .val (.long off), .second, .val (.int kk), .val (.long sz), .second, .unset] []) room_1.cells room_1.slots (fun v _ L => v = some (.int (1 : Int32)) ∧ Fr h0.size L) := by
      intro sz
      refine own_go (T' := T3) (g' := (mkF m 111 #[.val (.int p1), .val (.int p2), .val (.long p3), .second, .val (.int (1 : Int32)), .val (.ref w_BITS), .val (.long (137438953408 : Int64)), .second, .val (.long off), .second, .val (.int kk), .val (.long sz), .second, .unset] [(.long sz)])) (fun t q => XT.lload X3.here hx rfl (hb hby at_109) rfl q) ?_
      refine own_go (T' := T3) (g' := (mkF m 114 #[.val (.int p1), .val (.int p2), .val (.long p3), .second, .val (.int (1 : Int32)), .val (.ref w_BITS), .val (.long (137438953408 : Int64)), .second, .val (.long off), .second, .val (.int kk), .val (.long sz), .second, .unset] [(.long (63 : Int64)), (.long sz)])) (fun t q => X3.ldc2Long hx hown (mvT hZ (hw _ (List.mem_of_getElem? (i := 6) rfl))) (g := (mkF m 111 #[.val (.int p1), .val (.int p2), .val (.long p3), .second, .val (.int (1 : Int32)), .val (.ref w_BITS), .val (.long (137438953408 : Int64)), .second, .val (.long off), .second, .val (.int kk), .val (.long sz), .second, .unset] [(.long sz)])) rfl (hb hby at_111) t q) ?_
      refine own_go (T' := T3) (g' := (mkF m 115 #[.val (.int p1), .val (.int p2), .val (.long p3), .second, .val (.int (1 : Int32)), .val (.ref w_BITS), .val (.long (137438953408 : Int64)), .second, .val (.long off), .second, .val (.int kk), .val (.long sz), .second, .unset] [(.long (sz &&& (63 : Int64)))])) (fun t q => XT.land X3.here hx rfl (hb hby at_114) rfl q) ?_
      refine own_go (T' := T3) (g' := (mkF m 116 #[.val (.int p1), .val (.int p2), .val (.long p3), .second, .val (.int (1 : Int32)), .val (.ref w_BITS), .val (.long (137438953408 : Int64)), .second, .val (.long off), .second, .val (.int kk), .val (.long sz), .second, .unset] [(.long (0 : Int64)), (.long (sz &&& (63 : Int64)))])) (fun t q => XT.lconst X3.here hx rfl (hb hby at_115) q) ?_
      refine own_go (T' := T3) (g' := (mkF m 117 #[.val (.int p1), .val (.int p2), .val (.long p3), .second, .val (.int (1 : Int32)), .val (.ref w_BITS), .val (.long (137438953408 : Int64)), .second, .val (.long off), .second, .val (.int kk), .val (.long sz), .second, .unset] [(.int (XT.cmpL (sz &&& (63 : Int64)) (0 : Int64)))])) (fun t q => XT.lcmp X3.here hx rfl (hb hby at_116) rfl q) ?_
      by_cases c5 : (sz &&& (63 : Int64)) = (0 : Int64)
      · refine own_go (T' := T3) (g' := (mkF m 120 #[.val (.int p1), .val (.int p2), .val (.long p3), .second, .val (.int (1 : Int32)), .val (.ref w_BITS), .val (.long (137438953408 : Int64)), .second, .val (.long off), .second, .val (.int kk), .val (.long sz), .second, .unset] [])) (fun t q => XS.ifNo X3.here hx rfl (hb hby at_117) rfl ((if0 _ _).trans (teq ((own_leq (sz &&& (63 : Int64)) (0 : Int64)).mpr c5)).2) q) ?_
        refine own_go (T' := T3) (g' := (mkF m 122 #[.val (.int p1), .val (.int p2), .val (.long p3), .second, .val (.int (1 : Int32)), .val (.ref w_BITS), .val (.long (137438953408 : Int64)), .second, .val (.long off), .second, .val (.int kk), .val (.long sz), .second, .unset] [(.long sz)])) (fun t q => XT.lload X3.here hx rfl (hb hby at_120) rfl q) ?_
        refine own_go (T' := T3) (g' := (mkF m 123 #[.val (.int p1), .val (.int p2), .val (.long p3), .second, .val (.int (1 : Int32)), .val (.ref w_BITS), .val (.long (137438953408 : Int64)), .second, .val (.long off), .second, .val (.int kk), .val (.long sz), .second, .unset] [(.long (0 : Int64)), (.long sz)])) (fun t q => XT.lconst X3.here hx rfl (hb hby at_122) q) ?_
        refine own_go (T' := T3) (g' := (mkF m 124 #[.val (.int p1), .val (.int p2), .val (.long p3), .second, .val (.int (1 : Int32)), .val (.ref w_BITS), .val (.long (137438953408 : Int64)), .second, .val (.long off), .second, .val (.int kk), .val (.long sz), .second, .unset] [(.int (XT.cmpL sz (0 : Int64)))])) (fun t q => XT.lcmp X3.here hx rfl (hb hby at_123) rfl q) ?_
        by_cases c6 : (0 : Int64) < sz
        · refine own_go (T' := T3) (g' := (mkF m 127 #[.val (.int p1), .val (.int p2), .val (.long p3), .second, .val (.int (1 : Int32)), .val (.ref w_BITS), .val (.long (137438953408 : Int64)), .second, .val (.long off), .second, .val (.int kk), .val (.long sz), .second, .unset] [])) (fun t q => XS.ifNo X3.here hx rfl (hb hby at_124) rfl ((if0 _ _).trans (tlt ((own_lgt sz (0 : Int64)).mpr c6)).2.2.2) q) ?_
          refine own_go (T' := T3) (g' := (mkF m 129 #[.val (.int p1), .val (.int p2), .val (.long p3), .second, .val (.int (1 : Int32)), .val (.ref w_BITS), .val (.long (137438953408 : Int64)), .second, .val (.long off), .second, .val (.int kk), .val (.long sz), .second, .unset] [(.long sz)])) (fun t q => XT.lload X3.here hx rfl (hb hby at_127) rfl q) ?_
          refine own_go (T' := T3) (g' := (mkF m 131 #[.val (.int p1), .val (.int p2), .val (.long p3), .second, .val (.int (1 : Int32)), .val (.ref w_BITS), .val (.long (137438953408 : Int64)), .second, .val (.long off), .second, .val (.int kk), .val (.long sz), .second, .unset] [(.long (137438953408 : Int64)), (.long sz)])) (fun t q => XT.lload X3.here hx rfl (hb hby at_129) rfl q) ?_
          refine own_go (T' := T3) (g' := (mkF m 132 #[.val (.int p1), .val (.int p2), .val (.long p3), .second, .val (.int (1 : Int32)), .val (.ref w_BITS), .val (.long (137438953408 : Int64)), .second, .val (.long off), .second, .val (.int kk), .val (.long sz), .second, .unset] [(.int (XT.cmpL sz (137438953408 : Int64)))])) (fun t q => XT.lcmp X3.here hx rfl (hb hby at_131) rfl q) ?_
          by_cases c7 : (137438953408 : Int64) < sz
          · refine own_go (T' := T3) (g' := (mkF m 139 #[.val (.int p1), .val (.int p2), .val (.long p3), .second, .val (.int (1 : Int32)), .val (.ref w_BITS), .val (.long (137438953408 : Int64)), .second, .val (.long off), .second, .val (.int kk), .val (.long sz), .second, .unset] [])) (fun t q => XS.ifYes X3.here hx rfl (pc0 := 132) (pc' := 139) rfl (hb hby at_132) rfl ((if0 _ _).trans (tlt ((own_lgt sz (137438953408 : Int64)).mpr c7)).2.2.1) (by decide) (by decide) q) ?_
            refine own_go (T' := T3) (g' := (mkF m 140 #[.val (.int p1), .val (.int p2), .val (.long p3), .second, .val (.int (1 : Int32)), .val (.ref w_BITS), .val (.long (137438953408 : Int64)), .second, .val (.long off), .second, .val (.int kk), .val (.long sz), .second, .unset] [(.int (0 : Int32))])) (fun t q => XS.iconst X3.here hx rfl (hb hby at_139) q) ?_
            refine own_go (T' := T3) (g' := (mkF m 142 #[.val (.int p1), .val (.int p2), .val (.long p3), .second, .val (.int (1 : Int32)), .val (.ref w_BITS), .val (.long (137438953408 : Int64)), .second, .val (.long off), .second, .val (.int kk), .val (.long sz), .second, .val (.int (0 : Int32))] [])) (fun t q => XS.istore X3.here hx rfl (hb hby at_140) rfl (l' := #[.val (.int p1), .val (.int p2), .val (.long p3), .second, .val (.int (1 : Int32)), .val (.ref w_BITS), .val (.long (137438953408 : Int64)), .second, .val (.long off), .second, .val (.int kk), .val (.long sz), .second, .val (.int (0 : Int32))]) rfl q) ?_
            refine own_go (T' := T3) (g' := (mkF m 144 #[.val (.int p1), .val (.int p2), .val (.long p3), .second, .val (.int (1 : Int32)), .val (.ref w_BITS), .val (.long (137438953408 : Int64)), .second, .val (.long off), .second, .val (.int kk), .val (.long sz), .second, .val (.int (0 : Int32))] [(.ref w_BITS)])) (fun t q => XS.aload X3.here hx rfl (hb hby at_142) rfl rfl q) ?_
            refine own_go (T' := T3) (g' := (mkF m 146 #[.val (.int p1), .val (.int p2), .val (.long p3), .second, .val (.int (1 : Int32)), .val (.ref w_BITS), .val (.long (137438953408 : Int64)), .second, .val (.long off), .second, .val (.int kk), .val (.long sz), .second, .val (.int (0 : Int32))] [(.long sz), (.ref w_BITS)])) (fun t q => XT.lload X3.here hx rfl (hb hby at_144) rfl q) ?_
            obtain ⟨v8, T8, L8, X8, Q8, st8⟩ := own_callV X3 hx hZ (y := (⟨"com/example/gannet/gannet/filter/Storage", "isValidSize", "(J)Z"⟩ : MethodName)) (b := w_BITS) (argsL := [(.long sz)]) (rest := []) hown (hw _ (List.mem_of_getElem? (i := 7) rfl)) (hw _ (List.mem_of_getElem? (i := 8) rfl)) (hw _ (List.mem_of_getElem? (i := 10) rfl)) (hw _ (List.mem_of_getElem? (i := 9) rfl)) (hw _ (List.mem_of_getElem? (i := 1) rfl)) (hw _ (List.mem_of_getElem? (i := 11) rfl)) (rm_iv_BITS l Z a0 hw [] sz w_BITS w_CELLS h0 FX) e3 E_BITS (by decide) (by decide) 0 (by decide) (by decide) (by decide) (g := (mkF m 146 #[.val (.int p1), .val (.int p2), .val (.long p3), .second, .val (.int (1 : Int32)), .val (.ref w_BITS), .val (.long (137438953408 : Int64)), .second, .val (.long off), .second, .val (.int kk), .val (.long sz), .second, .val (.int (0 : Int32))] [(.long sz), (.ref w_BITS)])) rfl (by rw [hml]; rfl) (lenOf (ps := [.long]) (r := (some .boolean)) (by decide +kernel) rfl) rfl (by show 2 * 0 + _ ≤ _; exact Nat.le_of_eq rfl) (hb hby at_146)
            obtain ⟨Q8, e8, rfl⟩ := Q8
            rcases Q8 with ⟨hP, hM, hR, rfl⟩ | ⟨_, rfl⟩
            · exact absurd c7 hM
            · refine own_go (T' := T8) (g' := (mkF m 149 #[.val (.int p1), .val (.int p2), .val (.long p3), .second, .val (.int (1 : Int32)), .val (.ref w_BITS), .val (.long (137438953408 : Int64)), .second, .val (.long off), .second, .val (.int kk), .val (.long sz), .second, .val (.int (0 : Int32))] [(.int (0 : Int32))])) (fun t q => st8 t q) ?_
              refine own_go (T' := T8) (g' := (mkF m 151 #[.val (.int p1), .val (.int p2), .val (.long p3), .second, .val (.int (1 : Int32)), .val (.ref w_BITS), .val (.long (137438953408 : Int64)), .second, .val (.long off), .second, .val (.int kk), .val (.long sz), .second, .val (.int (0 : Int32))] [(.int (0 : Int32)), (.int (0 : Int32))])) (fun t q => XS.iload X8.here hx rfl (hb hby at_149) rfl q) ?_
              have c9 : (0 : Int32) = (0 : Int32) := by decide
              refine own_go (T' := T8) (g' := (mkF m 154 #[.val (.int p1), .val (.int p2), .val (.long p3), .second, .val (.int (1 : Int32)), .val (.ref w_BITS), .val (.long (137438953408 : Int64)), .second, .val (.long off), .second, .val (.int kk), .val (.long sz), .second, .val (.int (0 : Int32))] [])) (fun t q => XS.icmpNo X8.here hx rfl (hb hby at_151) rfl (teq c9).2 q) ?_
              refine own_go (T' := T8) (g' := (mkF m 155 #[.val (.int p1), .val (.int p2), .val (.long p3), .second, .val (.int (1 : Int32)), .val (.ref w_BITS), .val (.long (137438953408 : Int64)), .second, .val (.long off), .second, .val (.int kk), .val (.long sz), .second, .val (.int (0 : Int32))] [(.int (1 : Int32))])) (fun t q => XS.iconst X8.here hx rfl (hb hby at_154) q) ?_
              refine own_go (T' := T8) (g' := (mkF m 159 #[.val (.int p1), .val (.int p2), .val (.long p3), .second, .val (.int (1 : Int32)), .val (.ref w_BITS), .val (.long (137438953408 : Int64)), .second, .val (.long off), .second, .val (.int kk), .val (.long sz), .second, .val (.int (0 : Int32))] [(.int (1 : Int32))])) (fun t q => XS.goto X8.here hx rfl (pc0 := 155) (pc' := 159) rfl (hb hby at_155) (by decide) (by decide) q) ?_
              refine own_outN X8 hx hlk hret (t := .boolean) (by simp) (hb hby at_159) (w := (1 : Int32)) (by decide) ?_ (by decide) (by decide)
              exact ⟨rfl, Fr.nil _⟩
          · refine own_go (T' := T3) (g' := (mkF m 135 #[.val (.int p1), .val (.int p2), .val (.long p3), .second, .val (.int (1 : Int32)), .val (.ref w_BITS), .val (.long (137438953408 : Int64)), .second, .val (.long off), .second, .val (.int kk), .val (.long sz), .second, .unset] [])) (fun t q => XS.ifNo X3.here hx rfl (hb hby at_132) rfl ((if0 _ _).trans (flt (fun z => c7 ((own_lgt sz (137438953408 : Int64)).mp z))).2.2.1) q) ?_
            refine own_go (T' := T3) (g' := (mkF m 136 #[.val (.int p1), .val (.int p2), .val (.long p3), .second, .val (.int (1 : Int32)), .val (.ref w_BITS), .val (.long (137438953408 : Int64)), .second, .val (.long off), .second, .val (.int kk), .val (.long sz), .second, .unset] [(.int (1 : Int32))])) (fun t q => XS.iconst X3.here hx rfl (hb hby at_135) q) ?_
            refine own_go (T' := T3) (g' := (mkF m 140 #[.val (.int p1), .val (.int p2), .val (.long p3), .second, .val (.int (1 : Int32)), .val (.ref w_BITS), .val (.long (137438953408 : Int64)), .second, .val (.long off), .second, .val (.int kk), .val (.long sz), .second, .unset] [(.int (1 : Int32))])) (fun t q => XS.goto X3.here hx rfl (pc0 := 136) (pc' := 140) rfl (hb hby at_136) (by decide) (by decide) q) ?_
            refine own_go (T' := T3) (g' := (mkF m 142 #[.val (.int p1), .val (.int p2), .val (.long p3), .second, .val (.int (1 : Int32)), .val (.ref w_BITS), .val (.long (137438953408 : Int64)), .second, .val (.long off), .second, .val (.int kk), .val (.long sz), .second, .val (.int (1 : Int32))] [])) (fun t q => XS.istore X3.here hx rfl (hb hby at_140) rfl (l' := #[.val (.int p1), .val (.int p2), .val (.long p3), .second, .val (.int (1 : Int32)), .val (.ref w_BITS), .val (.long (137438953408 : Int64)), .second, .val (.long off), .second, .val (.int kk), .val (.long sz), .second, .val (.int (1 : Int32))]) rfl q) ?_
            refine own_go (T' := T3) (g' := (mkF m 144 #[.val (.int p1), .val (.int p2), .val (.long p3), .second, .val (.int (1 : Int32)), .val (.ref w_BITS), .val (.long (137438953408 : Int64)), .second, .val (.long off), .second, .val (.int kk), .val (.long sz), .second, .val (.int (1 : Int32))] [(.ref w_BITS)])) (fun t q => XS.aload X3.here hx rfl (hb hby at_142) rfl rfl q) ?_
            refine own_go (T' := T3) (g' := (mkF m 146 #[.val (.int p1), .val (.int p2), .val (.long p3), .second, .val (.int (1 : Int32)), .val (.ref w_BITS), .val (.long (137438953408 : Int64)), .second, .val (.long off), .second, .val (.int kk), .val (.long sz), .second, .val (.int (1 : Int32))] [(.long sz), (.ref w_BITS)])) (fun t q => XT.lload X3.here hx rfl (hb hby at_144) rfl q) ?_
            obtain ⟨v10, T10, L10, X10, Q10, st10⟩ := own_callV X3 hx hZ (y := (⟨"com/example/gannet/gannet/filter/Storage", "isValidSize", "(J)Z"⟩ : MethodName)) (b := w_BITS) (argsL := [(.long sz)]) (rest := []) hown (hw _ (List.mem_of_getElem? (i := 7) rfl)) (hw _ (List.mem_of_getElem? (i := 8) rfl)) (hw _ (List.mem_of_getElem? (i := 10) rfl)) (hw _ (List.mem_of_getElem? (i := 9) rfl)) (hw _ (List.mem_of_getElem? (i := 1) rfl)) (hw _ (List.mem_of_getElem? (i := 11) rfl)) (rm_iv_BITS l Z a0 hw [] sz w_BITS w_CELLS h0 FX) e3 E_BITS (by decide) (by decide) 0 (by decide) (by decide) (by decide) (g := (mkF m 146 #[.val (.int p1), .val (.int p2), .val (.long p3), .second, .val (.int (1 : Int32)), .val (.ref w_BITS), .val (.long (137438953408 : Int64)), .second, .val (.long off), .second, .val (.int kk), .val (.long sz), .second, .val (.int (1 : Int32))] [(.long sz), (.ref w_BITS)])) rfl (by rw [hml]; rfl) (lenOf (ps := [.long]) (r := (some .boolean)) (by decide +kernel) rfl) rfl (by show 2 * 0 + _ ≤ _; exact Nat.le_of_eq rfl) (hb hby at_146)
            obtain ⟨Q10, e10, rfl⟩ := Q10
            rcases Q10 with ⟨_, _, _, rfl⟩ | ⟨hB, rfl⟩
            · refine own_go (T' := T10) (g' := (mkF m 149 #[.val (.int p1), .val (.int p2), .val (.long p3), .second, .val (.int (1 : Int32)), .val (.ref w_BITS), .val (.long (137438953408 : Int64)), .second, .val (.long off), .second, .val (.int kk), .val (.long sz), .second, .val (.int (1 : Int32))] [(.int (1 : Int32))])) (fun t q => st10 t q) ?_
              refine own_go (T' := T10) (g' := (mkF m 151 #[.val (.int p1), .val (.int p2), .val (.long p3), .second, .val (.int (1 : Int32)), .val (.ref w_BITS), .val (.long (137438953408 : Int64)), .second, .val (.long off), .second, .val (.int kk), .val (.long sz), .second, .val (.int (1 : Int32))] [(.int (1 : Int32)), (.int (1 : Int32))])) (fun t q => XS.iload X10.here hx rfl (hb hby at_149) rfl q) ?_
              have c11 : (1 : Int32) = (1 : Int32) := by decide
              refine own_go (T' := T10) (g' := (mkF m 154 #[.val (.int p1), .val (.int p2), .val (.long p3), .second, .val (.int (1 : Int32)), .val (.ref w_BITS), .val (.long (137438953408 : Int64)), .second, .val (.long off), .second, .val (.int kk), .val (.long sz), .second, .val (.int (1 : Int32))] [])) (fun t q => XS.icmpNo X10.here hx rfl (hb hby at_151) rfl (teq c11).2 q) ?_
              refine own_go (T' := T10) (g' := (mkF m 155 #[.val (.int p1), .val (.int p2), .val (.long p3), .second, .val (.int (1 : Int32)), .val (.ref w_BITS), .val (.long (137438953408 : Int64)), .second, .val (.long off), .second, .val (.int kk), .val (.long sz), .second, .val (.int (1 : Int32))] [(.int (1 : Int32))])) (fun t q => XS.iconst X10.here hx rfl (hb hby at_154) q) ?_
              refine own_go (T' := T10) (g' := (mkF m 159 #[.val (.int p1), .val (.int p2), .val (.long p3), .second, .val (.int (1 : Int32)), .val (.ref w_BITS), .val (.long (137438953408 : Int64)), .second, .val (.long off), .second, .val (.int kk), .val (.long sz), .second, .val (.int (1 : Int32))] [(.int (1 : Int32))])) (fun t q => XS.goto X10.here hx rfl (pc0 := 155) (pc' := 159) rfl (hb hby at_155) (by decide) (by decide) q) ?_
              refine own_outN X10 hx hlk hret (t := .boolean) (by simp) (hb hby at_159) (w := (1 : Int32)) (by decide) ?_ (by decide) (by decide)
              exact ⟨rfl, Fr.nil _⟩
            · exact (hB.elim (fun z => (own_pos c5).mp c6 z) (fun z => z.elim c7 (fun z => z ((own_rem sz).mp c5)))).elim
        · refine own_go (T' := T3) (g' := (mkF m 139 #[.val (.int p1), .val (.int p2), .val (.long p3), .second, .val (.int (1 : Int32)), .val (.ref w_BITS), .val (.long (137438953408 : Int64)), .second, .val (.long off), .second, .val (.int kk), .val (.long sz), .second, .unset] [])) (fun t q => XS.ifYes X3.here hx rfl (pc0 := 124) (pc' := 139) rfl (hb hby at_124) rfl ((if0 _ _).trans (flt (fun z => c6 ((own_lgt sz (0 : Int64)).mp z))).2.2.2) (by decide) (by decide) q) ?_
          refine own_go (T' := T3) (g' := (mkF m 140 #[.val (.int p1), .val (.int p2), .val (.long p3), .second, .val (.int (1 : Int32)), .val (.ref w_BITS), .val (.long (137438953408 : Int64)), .second, .val (.long off), .second, .val (.int kk), .val (.long sz), .second, .unset] [(.int (0 : Int32))])) (fun t q => XS.iconst X3.here hx rfl (hb hby at_139) q) ?_
          refine own_go (T' := T3) (g' := (mkF m 142 #[.val (.int p1), .val (.int p2), .val (.long p3), .second, .val (.int (1 : Int32)), .val (.ref w_BITS), .val (.long (137438953408 : Int64)), .second, .val (.long off), .second, .val (.int kk), .val (.long sz), .second, .val (.int (0 : Int32))] [])) (fun t q => XS.istore X3.here hx rfl (hb hby at_140) rfl (l' := #[.val (.int p1), .val (.int p2), .val (.long p3), .second, .val (.int (1 : Int32)), .val (.ref w_BITS), .val (.long (137438953408 : Int64)), .second, .val (.long off), .second, .val (.int kk), .val (.long sz), .second, .val (.int (0 : Int32))]) rfl q) ?_
          refine own_go (T' := T3) (g' := (mkF m 144 #[.val (.int p1), .val (.int p2), .val (.long p3), .second, .val (.int (1 : Int32)), .val (.ref w_BITS), .val (.long (137438953408 : Int64)), .second, .val (.long off), .second, .val (.int kk), .val (.long sz), .second, .val (.int (0 : Int32))] [(.ref w_BITS)])) (fun t q => XS.aload X3.here hx rfl (hb hby at_142) rfl rfl q) ?_
          refine own_go (T' := T3) (g' := (mkF m 146 #[.val (.int p1), .val (.int p2), .val (.long p3), .second, .val (.int (1 : Int32)), .val (.ref w_BITS), .val (.long (137438953408 : Int64)), .second, .val (.long off), .second, .val (.int kk), .val (.long sz), .second, .val (.int (0 : Int32))] [(.long sz), (.ref w_BITS)])) (fun t q => XT.lload X3.here hx rfl (hb hby at_144) rfl q) ?_
          obtain ⟨v12, T12, L12, X12, Q12, st12⟩ := own_callV X3 hx hZ (y := (⟨"com/example/gannet/gannet/filter/Storage", "isValidSize", "(J)Z"⟩ : MethodName)) (b := w_BITS) (argsL := [(.long sz)]) (rest := []) hown (hw _ (List.mem_of_getElem? (i := 7) rfl)) (hw _ (List.mem_of_getElem? (i := 8) rfl)) (hw _ (List.mem_of_getElem? (i := 10) rfl)) (hw _ (List.mem_of_getElem? (i := 9) rfl)) (hw _ (List.mem_of_getElem? (i := 1) rfl)) (hw _ (List.mem_of_getElem? (i := 11) rfl)) (rm_iv_BITS l Z a0 hw [] sz w_BITS w_CELLS h0 FX) e3 E_BITS (by decide) (by decide) 0 (by decide) (by decide) (by decide) (g := (mkF m 146 #[.val (.int p1), .val (.int p2), .val (.long p3), .second, .val (.int (1 : Int32)), .val (.ref w_BITS), .val (.long (137438953408 : Int64)), .second, .val (.long off), .second, .val (.int kk), .val (.long sz), .second, .val (.int (0 : Int32))] [(.long sz), (.ref w_BITS)])) rfl (by rw [hml]; rfl) (lenOf (ps := [.long]) (r := (some .boolean)) (by decide +kernel) rfl) rfl (by show 2 * 0 + _ ≤ _; exact Nat.le_of_eq rfl) (hb hby at_146)
          obtain ⟨Q12, e12, rfl⟩ := Q12
          rcases Q12 with ⟨hP, hM, hR, rfl⟩ | ⟨_, rfl⟩
          · exact absurd ((own_pos c5).mpr hP) c6
          · refine own_go (T' := T12) (g' := (mkF m 149 #[.val (.int p1), .val (.int p2), .val (.long p3), .second, .val (.int (1 : Int32)), .val (.ref w_BITS), .val (.long (137438953408 : Int64)), .second, .val (.long off), .second, .val (.int kk), .val (.long sz), .second, .val (.int (0 : Int32))] [(.int (0 : Int32))])) (fun t q => st12 t q) ?_
            refine own_go (T' := T12) (g' := (mkF m 151 #[.val (.int p1), .val (.int p2), .val (.long p3), .second, .val (.int (1 : Int32)), .val (.ref w_BITS), .val (.long (137438953408 : Int64)), .second, .val (.long off), .second, .val (.int kk), .val (.long sz), .second, .val (.int (0 : Int32))] [(.int (0 : Int32)), (.int (0 : Int32))])) (fun t q => XS.iload X12.here hx rfl (hb hby at_149) rfl q) ?_
            have c13 : (0 : Int32) = (0 : Int32) := by decide
            refine own_go (T' := T12) (g' := (mkF m 154 #[.val (.int p1), .val (.int p2), .val (.long p3), .second, .val (.int (1 : Int32)), .val (.ref w_BITS), .val (.long (137438953408 : Int64)), .second, .val (.long off), .second, .val (.int kk), .val (.long sz), .second, .val (.int (0 : Int32))] [])) (fun t q => XS.icmpNo X12.here hx rfl (hb hby at_151) rfl (teq c13).2 q) ?_
            refine own_go (T' := T12) (g' := (mkF m 155 #[.val (.int p1), .val (.int p2), .val (.long p3), .second, .val (.int (1 : Int32)), .val (.ref w_BITS), .val (.long (137438953408 : Int64)), .second, .val (.long off), .second, .val (.int kk), .val (.long sz), .second, .val (.int (0 : Int32))] [(.int (1 : Int32))])) (fun t q => XS.iconst X12.here hx rfl (hb hby at_154) q) ?_
            refine own_go (T' := T12) (g' := (mkF m 159 #[.val (.int p1), .val (.int p2), .val (.long p3), .second, .val (.int (1 : Int32)), .val (.ref w_BITS), .val (.long (137438953408 : Int64)), .second, .val (.long off), .second, .val (.int kk), .val (.long sz), .second, .val (.int (0 : Int32))] [(.int (1 : Int32))])) (fun t q => XS.goto X12.here hx rfl (pc0 := 155) (pc' := 159) rfl (hb hby at_155) (by decide) (by decide) q) ?_
            refine own_outN X12 hx hlk hret (t := .boolean) (by simp) (hb hby at_159) (w := (1 : Int32)) (by decide) ?_ (by decide) (by decide)
            exact ⟨rfl, Fr.nil _⟩
      · refine own_go (T' := T3) (g' := (mkF m 139 #[.val (.int p1), .val (.int p2), .val (.long p3), .second, .val (.int (1 : Int32)), .val (.ref w_BITS), .val (.long (137438953408 : Int64)), .second, .val (.long off), .second, .val (.int kk), .val (.long sz), .second, .unset] [])) (fun t q => XS.ifYes X3.here hx rfl (pc0 := 117) (pc' := 139) rfl (hb hby at_117) rfl ((if0 _ _).trans (feq (fun z => c5 ((own_leq (sz &&& (63 : Int64)) (0 : Int64)).mp z))).2) (by decide) (by decide) q) ?_
        refine own_go (T' := T3) (g' := (mkF m 140 #[.val (.int p1), .val (.int p2), .val (.long p3), .second, .val (.int (1 : Int32)), .val (.ref w_BITS), .val (.long (137438953408 : Int64)), .second, .val (.long off), .second, .val (.int kk), .val (.long sz), .second, .unset] [(.int (0 : Int32))])) (fun t q => XS.iconst X3.here hx rfl (hb hby at_139) q) ?_
        refine own_go (T' := T3) (g' := (mkF m 142 #[.val (.int p1), .val (.int p2), .val (.long p3), .second, .val (.int (1 : Int32)), .val (.ref w_BITS), .val (.long (137438953408 : Int64)), .second, .val (.long off), .second, .val (.int kk), .val (.long sz), .second, .val (.int (0 : Int32))] [])) (fun t q => XS.istore X3.here hx rfl (hb hby at_140) rfl (l' := #[.val (.int p1), .val (.int p2), .val (.long p3), .second, .val (.int (1 : Int32)), .val (.ref w_BITS), .val (.long (137438953408 : Int64)), .second, .val (.long off), .second, .val (.int kk), .val (.long sz), .second, .val (.int (0 : Int32))]) rfl q) ?_
        refine own_go (T' := T3) (g' := (mkF m 144 #[.val (.int p1), .val (.int p2), .val (.long p3), .second, .val (.int (1 : Int32)), .val (.ref w_BITS), .val (.long (137438953408 : Int64)), .second, .val (.long off), .second, .val (.int kk), .val (.long sz), .second, .val (.int (0 : Int32))] [(.ref w_BITS)])) (fun t q => XS.aload X3.here hx rfl (hb hby at_142) rfl rfl q) ?_
        refine own_go (T' := T3) (g' := (mkF m 146 #[.val (.int p1), .val (.int p2), .val (.long p3), .second, .val (.int (1 : Int32)), .val (.ref w_BITS), .val (.long (137438953408 : Int64)), .second, .val (.long off), .second, .val (.int kk), .val (.long sz), .second, .val (.int (0 : Int32))] [(.long sz), (.ref w_BITS)])) (fun t q => XT.lload X3.here hx rfl (hb hby at_144) rfl q) ?_
        obtain ⟨v14, T14, L14, X14, Q14, st14⟩ := own_callV X3 hx hZ (y := (⟨"com/example/gannet/gannet/filter/Storage", "isValidSize", "(J)Z"⟩ : MethodName)) (b := w_BITS) (argsL := [(.long sz)]) (rest := []) hown (hw _ (List.mem_of_getElem? (i := 7) rfl)) (hw _ (List.mem_of_getElem? (i := 8) rfl)) (hw _ (List.mem_of_getElem? (i := 10) rfl)) (hw _ (List.mem_of_getElem? (i := 9) rfl)) (hw _ (List.mem_of_getElem? (i := 1) rfl)) (hw _ (List.mem_of_getElem? (i := 11) rfl)) (rm_iv_BITS l Z a0 hw [] sz w_BITS w_CELLS h0 FX) e3 E_BITS (by decide) (by decide) 0 (by decide) (by decide) (by decide) (g := (mkF m 146 #[.val (.int p1), .val (.int p2), .val (.long p3), .second, .val (.int (1 : Int32)), .val (.ref w_BITS), .val (.long (137438953408 : Int64)), .second, .val (.long off), .second, .val (.int kk), .val (.long sz), .second, .val (.int (0 : Int32))] [(.long sz), (.ref w_BITS)])) rfl (by rw [hml]; rfl) (lenOf (ps := [.long]) (r := (some .boolean)) (by decide +kernel) rfl) rfl (by show 2 * 0 + _ ≤ _; exact Nat.le_of_eq rfl) (hb hby at_146)
        obtain ⟨Q14, e14, rfl⟩ := Q14
        rcases Q14 with ⟨hP, hM, hR, rfl⟩ | ⟨_, rfl⟩
        · exact absurd ((own_rem sz).mpr hR) c5
        · refine own_go (T' := T14) (g' := (mkF m 149 #[.val (.int p1), .val (.int p2), .val (.long p3), .second, .val (.int (1 : Int32)), .val (.ref w_BITS), .val (.long (137438953408 : Int64)), .second, .val (.long off), .second, .val (.int kk), .val (.long sz), .second, .val (.int (0 : Int32))] [(.int (0 : Int32))])) (fun t q => st14 t q) ?_
          refine own_go (T' := T14) (g' := (mkF m 151 #[.val (.int p1), .val (.int p2), .val (.long p3), .second, .val (.int (1 : Int32)), .val (.ref w_BITS), .val (.long (137438953408 : Int64)), .second, .val (.long off), .second, .val (.int kk), .val (.long sz), .second, .val (.int (0 : Int32))] [(.int (0 : Int32)), (.int (0 : Int32))])) (fun t q => XS.iload X14.here hx rfl (hb hby at_149) rfl q) ?_
          have c15 : (0 : Int32) = (0 : Int32) := by decide
          refine own_go (T' := T14) (g' := (mkF m 154 #[.val (.int p1), .val (.int p2), .val (.long p3), .second, .val (.int (1 : Int32)), .val (.ref w_BITS), .val (.long (137438953408 : Int64)), .second, .val (.long off), .second, .val (.int kk), .val (.long sz), .second, .val (.int (0 : Int32))] [])) (fun t q => XS.icmpNo X14.here hx rfl (hb hby at_151) rfl (teq c15).2 q) ?_
          refine own_go (T' := T14) (g' := (mkF m 155 #[.val (.int p1), .val (.int p2), .val (.long p3), .second, .val (.int (1 : Int32)), .val (.ref w_BITS), .val (.long (137438953408 : Int64)), .second, .val (.long off), .second, .val (.int kk), .val (.long sz), .second, .val (.int (0 : Int32))] [(.int (1 : Int32))])) (fun t q => XS.iconst X14.here hx rfl (hb hby at_154) q) ?_
          refine own_go (T' := T14) (g' := (mkF m 159 #[.val (.int p1), .val (.int p2), .val (.long p3), .second, .val (.int (1 : Int32)), .val (.ref w_BITS), .val (.long (137438953408 : Int64)), .second, .val (.long off), .second, .val (.int kk), .val (.long sz), .second, .val (.int (0 : Int32))] [(.int (1 : Int32))])) (fun t q => XS.goto X14.here hx rfl (pc0 := 155) (pc' := 159) rfl (hb hby at_155) (by decide) (by decide) q) ?_
          refine own_outN X14 hx hlk hret (t := .boolean) (by simp) (hb hby at_159) (w := (1 : Int32)) (by decide) ?_ (by decide) (by decide)
          exact ⟨rfl, Fr.nil _⟩
    refine own_go (T' := T3) (g' := (mkF m 63 #[.val (.int p1), .val (.int p2), .val (.long p3), .second, .val (.int (1 : Int32)), .val (.ref w_BITS), .val (.long (137438953408 : Int64)), .second, .val (.long off), .second, .val (.int kk), .unset, .unset, .unset] [(.int kk)])) (fun t q => XS.iload X3.here hx rfl (hb hby at_61) rfl q) ?_
    by_cases c16 : kk = (0 : Int32)
    · refine own_go (T' := T3) (g' := (mkF m 66 #[.val (.int p1), .val (.int p2), .val (.long p3), .second, .val (.int (1 : Int32)), .val (.ref w_BITS), .val (.long (137438953408 : Int64)), .second, .val (.long off), .second, .val (.int kk), .unset, .unset, .unset] [])) (fun t q => XS.ifNo X3.here hx rfl (hb hby at_63) rfl ((if0 _ _).trans (teq c16).2) q) ?_
      refine own_go (T' := T3) (g' := (mkF m 67 #[.val (.int p1), .val (.int p2), .val (.long p3), .second, .val (.int (1 : Int32)), .val (.ref w_BITS), .val (.long (137438953408 : Int64)), .second, .val (.long off), .second, .val (.int kk), .unset, .unset, .unset] [(.long p3)])) (fun t q => XT.lloadN X3.here hx rfl (hb hby at_66) rfl q) ?_
      refine own_go (T' := T3) (g' := (mkF m 69 #[.val (.int p1), .val (.int p2), .val (.long p3), .second, .val (.int (1 : Int32)), .val (.ref w_BITS), .val (.long (137438953408 : Int64)), .second, .val (.long off), .second, .val (.int kk), .val (.long p3), .second, .unset] [])) (fun t q => XT.lstore X3.here hx rfl (hb hby at_67) rfl (l' := #[.val (.int p1), .val (.int p2), .val (.long p3), .second, .val (.int (1 : Int32)), .val (.ref w_BITS), .val (.long (137438953408 : Int64)), .second, .val (.long off), .second, .val (.int kk), .val (.long p3), .second, .unset]) rfl q) ?_
      refine own_go (T' := T3) (g' := (mkF m 109 #[.val (.int p1), .val (.int p2), .val (.long p3), .second, .val (.int (1 : Int32)), .val (.ref w_BITS), .val (.long (137438953408 : Int64)), .second, .val (.long off), .second, .val (.int kk), .val (.long p3), .second, .unset] [])) (fun t q => XS.goto X3.here hx rfl (pc0 := 69) (pc' := 109) rfl (hb hby at_69) (by decide) (by decide) q) ?_
      exact tail _
    · refine own_go (T' := T3) (g' := (mkF m 72 #[.val (.int p1), .val (.int p2), .val (.long p3), .second, .val (.int (1 : Int32)), .val (.ref w_BITS), .val (.long (137438953408 : Int64)), .second, .val (.long off), .second, .val (.int kk), .unset, .unset, .unset] [])) (fun t q => XS.ifYes X3.here hx rfl (pc0 := 63) (pc' := 72) rfl (hb hby at_63) rfl ((if0 _ _).trans (feq c16).2) (by decide) (by decide) q) ?_
      refine own_go (T' := T3) (g' := (mkF m 74 #[.val (.int p1), .val (.int p2), .val (.long p3), .second, .val (.int (1 : Int32)), .val (.ref w_BITS), .val (.long (137438953408 : Int64)), .second, .val (.long off), .second, .val (.int kk), .unset, .unset, .unset] [(.int kk)])) (fun t q => XS.iload X3.here hx rfl (hb hby at_72) rfl q) ?_
      refine own_go (T' := T3) (g' := (mkF m 75 #[.val (.int p1), .val (.int p2), .val (.long p3), .second, .val (.int (1 : Int32)), .val (.ref w_BITS), .val (.long (137438953408 : Int64)), .second, .val (.long off), .second, .val (.int kk), .unset, .unset, .unset] [(.int (1 : Int32)), (.int kk)])) (fun t q => XS.iconst X3.here hx rfl (hb hby at_74) q) ?_
      by_cases c17 : kk = (1 : Int32)
      · refine own_go (T' := T3) (g' := (mkF m 78 #[.val (.int p1), .val (.int p2), .val (.long p3), .second, .val (.int (1 : Int32)), .val (.ref w_BITS), .val (.long (137438953408 : Int64)), .second, .val (.long off), .second, .val (.int kk), .unset, .unset, .unset] [])) (fun t q => XS.icmpNo X3.here hx rfl (hb hby at_75) rfl (teq c17).2 q) ?_
        refine own_go (T' := T3) (g' := (mkF m 80 #[.val (.int p1), .val (.int p2), .val (.long p3), .second, .val (.int (1 : Int32)), .val (.ref w_BITS), .val (.long (137438953408 : Int64)), .second, .val (.long off), .second, .val (.int kk), .unset, .unset, .unset] [(.long (137438953408 : Int64))])) (fun t q => XT.lload X3.here hx rfl (hb hby at_78) rfl q) ?_
        refine own_go (T' := T3) (g' := (mkF m 82 #[.val (.int p1), .val (.int p2), .val (.long p3), .second, .val (.int (1 : Int32)), .val (.ref w_BITS), .val (.long (137438953408 : Int64)), .second, .val (.long off), .second, .val (.int kk), .unset, .unset, .unset] [(.long off), (.long (137438953408 : Int64))])) (fun t q => XT.lload X3.here hx rfl (hb hby at_80) rfl q) ?_
        refine own_go (T' := T3) (g' := (mkF m 83 #[.val (.int p1), .val (.int p2), .val (.long p3), .second, .val (.int (1 : Int32)), .val (.ref w_BITS), .val (.long (137438953408 : Int64)), .second, .val (.long off), .second, .val (.int kk), .unset, .unset, .unset] [(.long ((137438953408 : Int64) + off))])) (fun t q => XT.ladd X3.here hx rfl (hb hby at_82) rfl q) ?_
        refine own_go (T' := T3) (g' := (mkF m 85 #[.val (.int p1), .val (.int p2), .val (.long p3), .second, .val (.int (1 : Int32)), .val (.ref w_BITS), .val (.long (137438953408 : Int64)), .second, .val (.long off), .second, .val (.int kk), .val (.long ((137438953408 : Int64) + off)), .second, .unset] [])) (fun t q => XT.lstore X3.here hx rfl (hb hby at_83) rfl (l' := #[.val (.int p1), .val (.int p2), .val (.long p3), .second, .val (.int (1 : Int32)), .val (.ref w_BITS), .val (.long (137438953408 : Int64)), .second, .val (.long off), .second, .val (.int kk), .val (.long ((137438953408 : Int64) + off)), .second, .unset]) rfl q) ?_
        refine own_go (T' := T3) (g' := (mkF m 109 #[.val (.int p1), .val (.int p2), .val (.long p3), .second, .val (.int (1 : Int32)), .val (.ref w_BITS), .val (.long (137438953408 : Int64)), .second, .val (.long off), .second, .val (.int kk), .val (.long ((137438953408 : Int64) + off)), .second, .unset] [])) (fun t q => XS.goto X3.here hx rfl (pc0 := 85) (pc' := 109) rfl (hb hby at_85) (by decide) (by decide) q) ?_
        exact tail _
      · refine own_go (T' := T3) (g' := (mkF m 88 #[.val (.int p1), .val (.int p2), .val (.long p3), .second, .val (.int (1 : Int32)), .val (.ref w_BITS), .val (.long (137438953408 : Int64)), .second, .val (.long off), .second, .val (.int kk), .unset, .unset, .unset] [])) (fun t q => XS.icmpYes X3.here hx rfl (pc0 := 75) (pc' := 88) rfl (hb hby at_75) rfl (feq c17).2 (by decide) (by decide) q) ?_
        refine own_go (T' := T3) (g' := (mkF m 90 #[.val (.int p1), .val (.int p2), .val (.long p3), .second, .val (.int (1 : Int32)), .val (.ref w_BITS), .val (.long (137438953408 : Int64)), .second, .val (.long off), .second, .val (.int kk), .unset, .unset, .unset] [(.int kk)])) (fun t q => XS.iload X3.here hx rfl (hb hby at_88) rfl q) ?_
        refine own_go (T' := T3) (g' := (mkF m 91 #[.val (.int p1), .val (.int p2), .val (.long p3), .second, .val (.int (1 : Int32)), .val (.ref w_BITS), .val (.long (137438953408 : Int64)), .second, .val (.long off), .second, .val (.int kk), .unset, .unset, .unset] [(.int (2 : Int32)), (.int kk)])) (fun t q => XS.iconst X3.here hx rfl (hb hby at_90) q) ?_
        by_cases c18 : kk = (2 : Int32)
        · refine own_go (T' := T3) (g' := (mkF m 94 #[.val (.int p1), .val (.int p2), .val (.long p3), .second, .val (.int (1 : Int32)), .val (.ref w_BITS), .val (.long (137438953408 : Int64)), .second, .val (.long off), .second, .val (.int kk), .unset, .unset, .unset] [])) (fun t q => XS.icmpNo X3.here hx rfl (hb hby at_91) rfl (teq c18).2 q) ?_
          refine own_go (T' := T3) (g' := (mkF m 97 #[.val (.int p1), .val (.int p2), .val (.long p3), .second, .val (.int (1 : Int32)), .val (.ref w_BITS), .val (.long (137438953408 : Int64)), .second, .val (.long off), .second, .val (.int kk), .unset, .unset, .unset] [(.long (64 : Int64))])) (fun t q => X3.ldc2Long hx hown (mvT hZ (hw _ (List.mem_of_getElem? (i := 16) rfl))) (g := (mkF m 94 #[.val (.int p1), .val (.int p2), .val (.long p3), .second, .val (.int (1 : Int32)), .val (.ref w_BITS), .val (.long (137438953408 : Int64)), .second, .val (.long off), .second, .val (.int kk), .unset, .unset, .unset] [])) rfl (hb hby at_94) t q) ?_
          refine own_go (T' := T3) (g' := (mkF m 99 #[.val (.int p1), .val (.int p2), .val (.long p3), .second, .val (.int (1 : Int32)), .val (.ref w_BITS), .val (.long (137438953408 : Int64)), .second, .val (.long off), .second, .val (.int kk), .unset, .unset, .unset] [(.long off), (.long (64 : Int64))])) (fun t q => XT.lload X3.here hx rfl (hb hby at_97) rfl q) ?_
          refine own_go (T' := T3) (g' := (mkF m 100 #[.val (.int p1), .val (.int p2), .val (.long p3), .second, .val (.int (1 : Int32)), .val (.ref w_BITS), .val (.long (137438953408 : Int64)), .second, .val (.long off), .second, .val (.int kk), .unset, .unset, .unset] [(.long ((64 : Int64) + off))])) (fun t q => XT.ladd X3.here hx rfl (hb hby at_99) rfl q) ?_
          refine own_go (T' := T3) (g' := (mkF m 102 #[.val (.int p1), .val (.int p2), .val (.long p3), .second, .val (.int (1 : Int32)), .val (.ref w_BITS), .val (.long (137438953408 : Int64)), .second, .val (.long off), .second, .val (.int kk), .val (.long ((64 : Int64) + off)), .second, .unset] [])) (fun t q => XT.lstore X3.here hx rfl (hb hby at_100) rfl (l' := #[.val (.int p1), .val (.int p2), .val (.long p3), .second, .val (.int (1 : Int32)), .val (.ref w_BITS), .val (.long (137438953408 : Int64)), .second, .val (.long off), .second, .val (.int kk), .val (.long ((64 : Int64) + off)), .second, .unset]) rfl q) ?_
          refine own_go (T' := T3) (g' := (mkF m 109 #[.val (.int p1), .val (.int p2), .val (.long p3), .second, .val (.int (1 : Int32)), .val (.ref w_BITS), .val (.long (137438953408 : Int64)), .second, .val (.long off), .second, .val (.int kk), .val (.long ((64 : Int64) + off)), .second, .unset] [])) (fun t q => XS.goto X3.here hx rfl (pc0 := 102) (pc' := 109) rfl (hb hby at_102) (by decide) (by decide) q) ?_
          exact tail _
        · refine own_go (T' := T3) (g' := (mkF m 105 #[.val (.int p1), .val (.int p2), .val (.long p3), .second, .val (.int (1 : Int32)), .val (.ref w_BITS), .val (.long (137438953408 : Int64)), .second, .val (.long off), .second, .val (.int kk), .unset, .unset, .unset] [])) (fun t q => XS.icmpYes X3.here hx rfl (pc0 := 91) (pc' := 105) rfl (hb hby at_91) rfl (feq c18).2 (by decide) (by decide) q) ?_
          refine own_go (T' := T3) (g' := (mkF m 107 #[.val (.int p1), .val (.int p2), .val (.long p3), .second, .val (.int (1 : Int32)), .val (.ref w_BITS), .val (.long (137438953408 : Int64)), .second, .val (.long off), .second, .val (.int kk), .unset, .unset, .unset] [(.long off)])) (fun t q => XT.lload X3.here hx rfl (hb hby at_105) rfl q) ?_
          refine own_go (T' := T3) (g' := (mkF m 109 #[.val (.int p1), .val (.int p2), .val (.long p3), .second, .val (.int (1 : Int32)), .val (.ref w_BITS), .val (.long (137438953408 : Int64)), .second, .val (.long off), .second, .val (.int kk), .val (.long off), .second, .unset] [])) (fun t q => XT.lstore X3.here hx rfl (hb hby at_107) rfl (l' := #[.val (.int p1), .val (.int p2), .val (.long p3), .second, .val (.int (1 : Int32)), .val (.ref w_BITS), .val (.long (137438953408 : Int64)), .second, .val (.long off), .second, .val (.int kk), .val (.long off), .second, .unset]) rfl q) ?_
          exact tail _
  · refine own_go (T' := s₁) (g' := (mkF m 10 #[.val (.int p1), .val (.int p2), .val (.long p3), .second, .unset, .unset, .unset, .unset, .unset, .unset, .unset, .unset, .unset, .unset] [])) (fun t q => XS.ifYes X0.here hx rfl (pc0 := 3) (pc' := 10) rfl (hb hby at_3) rfl ((if0 _ _).trans (feq c1).2) (by decide) (by decide) q) ?_
    refine own_go (T' := s₁) (g' := (mkF m 11 #[.val (.int p1), .val (.int p2), .val (.long p3), .second, .unset, .unset, .unset, .unset, .unset, .unset, .unset, .unset, .unset, .unset] [(.int (0 : Int32))])) (fun t q => XS.iconst X0.here hx rfl (hb hby at_10) q) ?_
    refine own_go (T' := s₁) (g' := (mkF m 13 #[.val (.int p1), .val (.int p2), .val (.long p3), .second, .val (.int (0 : Int32)), .unset, .unset, .unset, .unset, .unset, .unset, .unset, .unset, .unset] [])) (fun t q => XS.istore X0.here hx rfl (hb hby at_11) rfl (l' := #[.val (.int p1), .val (.int p2), .val (.long p3), .second, .val (.int (0 : Int32)), .unset, .unset, .unset, .unset, .unset, .unset, .unset, .unset, .unset]) rfl q) ?_
    refine own_go (T' := s₁) (g' := (mkF m 15 #[.val (.int p1), .val (.int p2), .val (.long p3), .second, .val (.int (0 : Int32)), .unset, .unset, .unset, .unset, .unset, .unset, .unset, .unset, .unset] [(.int (0 : Int32))])) (fun t q => XS.iload X0.here hx rfl (hb hby at_13) rfl q) ?_
    have c19 : (0 : Int32) = (0 : Int32) := by decide
    refine own_go (T' := s₁) (g' := (mkF m 24 #[.val (.int p1), .val (.int p2), .val (.long p3), .second, .val (.int (0 : Int32)), .unset, .unset, .unset, .unset, .unset, .unset, .unset, .unset, .unset] [])) (fun t q => XS.ifYes X0.here hx rfl (pc0 := 15) (pc' := 24) rfl (hb hby at_15) rfl ((if0 _ _).trans (teq c19).1) (by decide) (by decide) q) ?_
    obtain ⟨T20, X20, e20, st20⟩ := getS2 X0 hx hZ hown (host := "") (Or.inl (hw _ (List.mem_of_getElem? (i := 13) rfl))) Via.refl e0 S_CELLS (g := (mkF m 24 #[.val (.int p1), .val (.int p2), .val (.long p3), .second, .val (.int (0 : Int32)), .unset, .unset, .unset, .unset, .unset, .unset, .unset, .unset, .unset] [])) rfl (hb hby at_24)
    refine own_go (T' := T20) (g' := (mkF m 27 #[.val (.int p1), .val (.int p2), .val (.long p3), .second, .val (.int (0 : Int32)), .unset, .unset, .unset, .unset, .unset, .unset, .unset, .unset, .unset] [(.ref w_CELLS)])) (fun t q => st20 t q) ?_
    refine own_go (T' := T20) (g' := (mkF m 29 #[.val (.int p1), .val (.int p2), .val (.long p3), .second, .val (.int (0 : Int32)), .val (.ref w_CELLS), .unset, .unset, .unset, .unset, .unset, .unset, .unset, .unset] [])) (fun t q => XS.astore X20.here hx rfl (hb hby at_27) rfl rfl (l' := #[.val (.int p1), .val (.int p2), .val (.long p3), .second, .val (.int (0 : Int32)), .val (.ref w_CELLS), .unset, .unset, .unset, .unset, .unset, .unset, .unset, .unset]) rfl q) ?_
    refine own_go (T' := T20) (g' := (mkF m 31 #[.val (.int p1), .val (.int p2), .val (.long p3), .second, .val (.int (0 : Int32)), .val (.ref w_CELLS), .unset, .unset, .unset, .unset, .unset, .unset, .unset, .unset] [(.int (0 : Int32))])) (fun t q => XS.iload X20.here hx rfl (hb hby at_29) rfl q) ?_
    have c21 : (0 : Int32) = (0 : Int32) := by decide
    refine own_go (T' := T20) (g' := (mkF m 40 #[.val (.int p1), .val (.int p2), .val (.long p3), .second, .val (.int (0 : Int32)), .val (.ref w_CELLS), .unset, .unset, .unset, .unset, .unset, .unset, .unset, .unset] [])) (fun t q => XS.ifYes X20.here hx rfl (pc0 := 31) (pc' := 40) rfl (hb hby at_31) rfl ((if0 _ _).trans (teq c21).1) (by decide) (by decide) q) ?_
    refine own_go (T' := T20) (g' := (mkF m 43 #[.val (.int p1), .val (.int p2), .val (.long p3), .second, .val (.int (0 : Int32)), .val (.ref w_CELLS), .unset, .unset, .unset, .unset, .unset, .unset, .unset, .unset] [(.long (34359738352 : Int64))])) (fun t q => X20.ldc2Long hx hown (mvT hZ (hw _ (List.mem_of_getElem? (i := 15) rfl))) (g := (mkF m 40 #[.val (.int p1), .val (.int p2), .val (.long p3), .second, .val (.int (0 : Int32)), .val (.ref w_CELLS), .unset, .unset, .unset, .unset, .unset, .unset, .unset, .unset] [])) rfl (hb hby at_40) t q) ?_
    refine own_go (T' := T20) (g' := (mkF m 45 #[.val (.int p1), .val (.int p2), .val (.long p3), .second, .val (.int (0 : Int32)), .val (.ref w_CELLS), .val (.long (34359738352 : Int64)), .second, .unset, .unset, .unset, .unset, .unset, .unset] [])) (fun t q => XT.lstore X20.here hx rfl (hb hby at_43) rfl (l' := #[.val (.int p1), .val (.int p2), .val (.long p3), .second, .val (.int (0 : Int32)), .val (.ref w_CELLS), .val (.long (34359738352 : Int64)), .second, .unset, .unset, .unset, .unset, .unset, .unset]) rfl q) ?_
    refine own_go (T' := T20) (g' := (mkF m 46 #[.val (.int p1), .val (.int p2), .val (.long p3), .second, .val (.int (0 : Int32)), .val (.ref w_CELLS), .val (.long (34359738352 : Int64)), .second, .unset, .unset, .unset, .unset, .unset, .unset] [(.long p3)])) (fun t q => XT.lloadN X20.here hx rfl (hb hby at_45) rfl q) ?_
    refine own_go (T' := T20) (g' := (mkF m 49 #[.val (.int p1), .val (.int p2), .val (.long p3), .second, .val (.int (0 : Int32)), .val (.ref w_CELLS), .val (.long (34359738352 : Int64)), .second, .unset, .unset, .unset, .unset, .unset, .unset] [(.long (255 : Int64)), (.long p3)])) (fun t q => X20.ldc2Long hx hown (mvT hZ (hw _ (List.mem_of_getElem? (i := 4) rfl))) (g := (mkF m 46 #[.val (.int p1), .val (.int p2), .val (.long p3), .second, .val (.int (0 : Int32)), .val (.ref w_CELLS), .val (.long (34359738352 : Int64)), .second, .unset, .unset, .unset, .unset, .unset, .unset] [(.long p3)])) rfl (hb hby at_46) t q) ?_
    refine own_go (T' := T20) (g' := (mkF m 50 #[.val (.int p1), .val (.int p2), .val (.long p3), .second, .val (.int (0 : Int32)), .val (.ref w_CELLS), .val (.long (34359738352 : Int64)), .second, .unset, .unset, .unset, .unset, .unset, .unset] [(.long (p3 &&& (255 : Int64)))])) (fun t q => XT.land X20.here hx rfl (hb hby at_49) rfl q) ?_
    refine own_go (T' := T20) (g' := (mkF m 53 #[.val (.int p1), .val (.int p2), .val (.long p3), .second, .val (.int (0 : Int32)), .val (.ref w_CELLS), .val (.long (34359738352 : Int64)), .second, .unset, .unset, .unset, .unset, .unset, .unset] [(.long (128 : Int64)), (.long (p3 &&& (255 : Int64)))])) (fun t q => X20.ldc2Long hx hown (mvT hZ (hw _ (List.mem_of_getElem? (i := 5) rfl))) (g := (mkF m 50 #[.val (.int p1), .val (.int p2), .val (.long p3), .second, .val (.int (0 : Int32)), .val (.ref w_CELLS), .val (.long (34359738352 : Int64)), .second, .unset, .unset, .unset, .unset, .unset, .unset] [(.long (p3 &&& (255 : Int64)))])) rfl (hb hby at_50) t q) ?_
    refine own_go (T' := T20) (g' := (mkF m 54 #[.val (.int p1), .val (.int p2), .val (.long p3), .second, .val (.int (0 : Int32)), .val (.ref w_CELLS), .val (.long (34359738352 : Int64)), .second, .unset, .unset, .unset, .unset, .unset, .unset] [(.long ((p3 &&& (255 : Int64)) - (128 : Int64)))])) (fun t q => XT.lsub X20.here hx rfl (hb hby at_53) rfl q) ?_
    obtain ⟨off, hoff⟩ : ∃ z : Int64, z = ((p3 &&& (255 : Int64)) - (128 : Int64)) := ⟨_, rfl⟩
    rw [← hoff]
    refine own_go (T' := T20) (g' := (mkF m 56 #[.val (.int p1), .val (.int p2), .val (.long p3), .second, .val (.int (0 : Int32)), .val (.ref w_CELLS), .val (.long (34359738352 : Int64)), .second, .val (.long off), .second, .unset, .unset, .unset, .unset] [])) (fun t q => XT.lstore X20.here hx rfl (hb hby at_54) rfl (l' := #[.val (.int p1), .val (.int p2), .val (.long p3), .second, .val (.int (0 : Int32)), .val (.ref w_CELLS), .val (.long (34359738352 : Int64)), .second, .val (.long off), .second, .unset, .unset, .unset, .unset]) rfl q) ?_
    refine own_go (T' := T20) (g' := (mkF m 57 #[.val (.int p1), .val (.int p2), .val (.long p3), .second, .val (.int (0 : Int32)), .val (.ref w_CELLS), .val (.long (34359738352 : Int64)), .second, .val (.long off), .second, .unset, .unset, .unset, .unset] [(.int p2)])) (fun t q => XS.iloadN X20.here hx rfl (hb hby at_56) rfl q) ?_
    refine own_go (T' := T20) (g' := (mkF m 58 #[.val (.int p1), .val (.int p2), .val (.long p3), .second, .val (.int (0 : Int32)), .val (.ref w_CELLS), .val (.long (34359738352 : Int64)), .second, .val (.long off), .second, .unset, .unset, .unset, .unset] [(.int (3 : Int32)), (.int p2)])) (fun t q => XS.iconst X20.here hx rfl (hb hby at_57) q) ?_
    refine own_go (T' := T20) (g' := (mkF m 59 #[.val (.int p1), .val (.int p2), .val (.long p3), .second, .val (.int (0 : Int32)), .val (.ref w_CELLS), .val (.long (34359738352 : Int64)), .second, .val (.long off), .second, .unset, .unset, .unset, .unset] [(.int (p2 &&& (3 : Int32)))])) (fun t q => XS.iand X20.here hx rfl (hb hby at_58) rfl q) ?_
    obtain ⟨kk, h_kk⟩ : ∃ z : Int32, z = (p2 &&& (3 : Int32)) := ⟨_, rfl⟩
    rw [← h_kk]
    refine own_go (T' := T20) (g' := (mkF m 61 #[.val (.int p1), .val (.int p2), .val (.long p3), .second, .val (.int (0 : Int32)), .val (.ref w_CELLS), .val (.long (34359738352 : Int64)), .second, .val (.long off), .second, .val (.int kk), .unset, .unset, .unset] [])) (fun t q => XS.istore X20.here hx rfl (hb hby at_59) rfl (l' := #[.val (.int p1), .val (.int p2), .val (.long p3), .second, .val (.int (0 : Int32)), .val (.ref w_CELLS), .val (.long (34359738352 : Int64)), .second, .val (.long off), .second, .val (.int kk), .unset, .unset, .unset]) rfl q) ?_
    have tail : ∀ sz : Int64, own_Go p e below s T20 (mkF m 109 #[.val (.int p1), .val (.int p2), .val (.long p3), .second, .val (.int (0 : Int32)), .val (.ref w_CELLS), .val (.long (34359738352 : Int64)), .second, .val (.long off), .second, .val (.int kk), .val (.long sz), .second, .unset] []) room_1.cells room_1.slots (fun v _ L => v = some (.int (1 : Int32)) ∧ Fr h0.size L) := by
      intro sz
      refine own_go (T' := T20) (g' := (mkF m 111 #[.val (.int p1), .val (.int p2), .val (.long p3), .second, .val (.int (0 : Int32)), .val (.ref w_CELLS), .val (.long (34359738352 : Int64)), .second, .val (.long off), .second, .val (.int kk), .val (.long sz), .second, .unset] [(.long sz)])) (fun t q => XT.lload X20.here hx rfl (hb hby at_109) rfl q) ?_
      refine own_go (T' := T20) (g' := (mkF m 114 #[.val (.int p1), .val (.int p2), .val (.long p3), .second, .val (.int (0 : Int32)), .val (.ref w_CELLS), .val (.long (34359738352 : Int64)), .second, .val (.long off), .second, .val (.int kk), .val (.long sz), .second, .unset] [(.long (63 : Int64)), (.long sz)])) (fun t q => X20.ldc2Long hx hown (mvT hZ (hw _ (List.mem_of_getElem? (i := 6) rfl))) (g := (mkF m 111 #[.val (.int p1), .val (.int p2), .val (.long p3), .second, .val (.int (0 : Int32)), .val (.ref w_CELLS), .val (.long (34359738352 : Int64)), .second, .val (.long off), .second, .val (.int kk), .val (.long sz), .second, .unset] [(.long sz)])) rfl (hb hby at_111) t q) ?_
      refine own_go (T' := T20) (g' := (mkF m 115 #[.val (.int p1), .val (.int p2), .val (.long p3), .second, .val (.int (0 : Int32)), .val (.ref w_CELLS), .val (.long (34359738352 : Int64)), .second, .val (.long off), .second, .val (.int kk), .val (.long sz), .second, .unset] [(.long (sz &&& (63 : Int64)))])) (fun t q => XT.land X20.here hx rfl (hb hby at_114) rfl q) ?_
      refine own_go (T' := T20) (g' := (mkF m 116 #[.val (.int p1), .val (.int p2), .val (.long p3), .second, .val (.int (0 : Int32)), .val (.ref w_CELLS), .val (.long (34359738352 : Int64)), .second, .val (.long off), .second, .val (.int kk), .val (.long sz), .second, .unset] [(.long (0 : Int64)), (.long (sz &&& (63 : Int64)))])) (fun t q => XT.lconst X20.here hx rfl (hb hby at_115) q) ?_
      refine own_go (T' := T20) (g' := (mkF m 117 #[.val (.int p1), .val (.int p2), .val (.long p3), .second, .val (.int (0 : Int32)), .val (.ref w_CELLS), .val (.long (34359738352 : Int64)), .second, .val (.long off), .second, .val (.int kk), .val (.long sz), .second, .unset] [(.int (XT.cmpL (sz &&& (63 : Int64)) (0 : Int64)))])) (fun t q => XT.lcmp X20.here hx rfl (hb hby at_116) rfl q) ?_
      by_cases c22 : (sz &&& (63 : Int64)) = (0 : Int64)
      · refine own_go (T' := T20) (g' := (mkF m 120 #[.val (.int p1), .val (.int p2), .val (.long p3), .second, .val (.int (0 : Int32)), .val (.ref w_CELLS), .val (.long (34359738352 : Int64)), .second, .val (.long off), .second, .val (.int kk), .val (.long sz), .second, .unset] [])) (fun t q => XS.ifNo X20.here hx rfl (hb hby at_117) rfl ((if0 _ _).trans (teq ((own_leq (sz &&& (63 : Int64)) (0 : Int64)).mpr c22)).2) q) ?_
        refine own_go (T' := T20) (g' := (mkF m 122 #[.val (.int p1), .val (.int p2), .val (.long p3), .second, .val (.int (0 : Int32)), .val (.ref w_CELLS), .val (.long (34359738352 : Int64)), .second, .val (.long off), .second, .val (.int kk), .val (.long sz), .second, .unset] [(.long sz)])) (fun t q => XT.lload X20.here hx rfl (hb hby at_120) rfl q) ?_
        refine own_go (T' := T20) (g' := (mkF m 123 #[.val (.int p1), .val (.int p2), .val (.long p3), .second, .val (.int (0 : Int32)), .val (.ref w_CELLS), .val (.long (34359738352 : Int64)), .second, .val (.long off), .second, .val (.int kk), .val (.long sz), .second, .unset] [(.long (0 : Int64)), (.long sz)])) (fun t q => XT.lconst X20.here hx rfl (hb hby at_122) q) ?_
        refine own_go (T' := T20) (g' := (mkF m 124 #[.val (.int p1), .val (.int p2), .val (.long p3), .second, .val (.int (0 : Int32)), .val (.ref w_CELLS), .val (.long (34359738352 : Int64)), .second, .val (.long off), .second, .val (.int kk), .val (.long sz), .second, .unset] [(.int (XT.cmpL sz (0 : Int64)))])) (fun t q => XT.lcmp X20.here hx rfl (hb hby at_123) rfl q) ?_
        by_cases c23 : (0 : Int64) < sz
        · refine own_go (T' := T20) (g' := (mkF m 127 #[.val (.int p1), .val (.int p2), .val (.long p3), .second, .val (.int (0 : Int32)), .val (.ref w_CELLS), .val (.long (34359738352 : Int64)), .second, .val (.long off), .second, .val (.int kk), .val (.long sz), .second, .unset] [])) (fun t q => XS.ifNo X20.here hx rfl (hb hby at_124) rfl ((if0 _ _).trans (tlt ((own_lgt sz (0 : Int64)).mpr c23)).2.2.2) q) ?_
          refine own_go (T' := T20) (g' := (mkF m 129 #[.val (.int p1), .val (.int p2), .val (.long p3), .second, .val (.int (0 : Int32)), .val (.ref w_CELLS), .val (.long (34359738352 : Int64)), .second, .val (.long off), .second, .val (.int kk), .val (.long sz), .second, .unset] [(.long sz)])) (fun t q => XT.lload X20.here hx rfl (hb hby at_127) rfl q) ?_
          refine own_go (T' := T20) (g' := (mkF m 131 #[.val (.int p1), .val (.int p2), .val (.long p3), .second, .val (.int (0 : Int32)), .val (.ref w_CELLS), .val (.long (34359738352 : Int64)), .second, .val (.long off), .second, .val (.int kk), .val (.long sz), .second, .unset] [(.long (34359738352 : Int64)), (.long sz)])) (fun t q => XT.lload X20.here hx rfl (hb hby at_129) rfl q) ?_
          refine own_go (T' := T20) (g' := (mkF m 132 #[.val (.int p1), .val (.int p2), .val (.long p3), .second, .val (.int (0 : Int32)), .val (.ref w_CELLS), .val (.long (34359738352 : Int64)), .second, .val (.long off), .second, .val (.int kk), .val (.long sz), .second, .unset] [(.int (XT.cmpL sz (34359738352 : Int64)))])) (fun t q => XT.lcmp X20.here hx rfl (hb hby at_131) rfl q) ?_
          by_cases c24 : (34359738352 : Int64) < sz
          · refine own_go (T' := T20) (g' := (mkF m 139 #[.val (.int p1), .val (.int p2), .val (.long p3), .second, .val (.int (0 : Int32)), .val (.ref w_CELLS), .val (.long (34359738352 : Int64)), .second, .val (.long off), .second, .val (.int kk), .val (.long sz), .second, .unset] [])) (fun t q => XS.ifYes X20.here hx rfl (pc0 := 132) (pc' := 139) rfl (hb hby at_132) rfl ((if0 _ _).trans (tlt ((own_lgt sz (34359738352 : Int64)).mpr c24)).2.2.1) (by decide) (by decide) q) ?_
            refine own_go (T' := T20) (g' := (mkF m 140 #[.val (.int p1), .val (.int p2), .val (.long p3), .second, .val (.int (0 : Int32)), .val (.ref w_CELLS), .val (.long (34359738352 : Int64)), .second, .val (.long off), .second, .val (.int kk), .val (.long sz), .second, .unset] [(.int (0 : Int32))])) (fun t q => XS.iconst X20.here hx rfl (hb hby at_139) q) ?_
            refine own_go (T' := T20) (g' := (mkF m 142 #[.val (.int p1), .val (.int p2), .val (.long p3), .second, .val (.int (0 : Int32)), .val (.ref w_CELLS), .val (.long (34359738352 : Int64)), .second, .val (.long off), .second, .val (.int kk), .val (.long sz), .second, .val (.int (0 : Int32))] [])) (fun t q => XS.istore X20.here hx rfl (hb hby at_140) rfl (l' := #[.val (.int p1), .val (.int p2), .val (.long p3), .second, .val (.int (0 : Int32)), .val (.ref w_CELLS), .val (.long (34359738352 : Int64)), .second, .val (.long off), .second, .val (.int kk), .val (.long sz), .second, .val (.int (0 : Int32))]) rfl q) ?_
            refine own_go (T' := T20) (g' := (mkF m 144 #[.val (.int p1), .val (.int p2), .val (.long p3), .second, .val (.int (0 : Int32)), .val (.ref w_CELLS), .val (.long (34359738352 : Int64)), .second, .val (.long off), .second, .val (.int kk), .val (.long sz), .second, .val (.int (0 : Int32))] [(.ref w_CELLS)])) (fun t q => XS.aload X20.here hx rfl (hb hby at_142) rfl rfl q) ?_
            refine own_go (T' := T20) (g' := (mkF m 146 #[.val (.int p1), .val (.int p2), .val (.long p3), .second, .val (.int (0 : Int32)), .val (.ref w_CELLS), .val (.long (34359738352 : Int64)), .second, .val (.long off), .second, .val (.int kk), .val (.long sz), .second, .val (.int (0 : Int32))] [(.long sz), (.ref w_CELLS)])) (fun t q => XT.lload X20.here hx rfl (hb hby at_144) rfl q) ?_
            obtain ⟨v25, T25, L25, X25, Q25, st25⟩ := own_callV X20 hx hZ (y := (⟨"com/example/gannet/gannet/filter/Storage", "isValidSize", "(J)Z"⟩ : MethodName)) (b := w_CELLS) (argsL := [(.long sz)]) (rest := []) hown (hw _ (List.mem_of_getElem? (i := 7) rfl)) (hw _ (List.mem_of_getElem? (i := 8) rfl)) (hw _ (List.mem_of_getElem? (i := 10) rfl)) (hw _ (List.mem_of_getElem? (i := 9) rfl)) (hw _ (List.mem_of_getElem? (i := 1) rfl)) (hw _ (List.mem_of_getElem? (i := 11) rfl)) (rm_iv_CELLS l Z a0 hw [] sz w_BITS w_CELLS h0 FX) e20 E_CELLS (by decide) (by decide) 0 (by decide) (by decide) (by decide) (g := (mkF m 146 #[.val (.int p1), .val (.int p2), .val (.long p3), .second, .val (.int (0 : Int32)), .val (.ref w_CELLS), .val (.long (34359738352 : Int64)), .second, .val (.long off), .second, .val (.int kk), .val (.long sz), .second, .val (.int (0 : Int32))] [(.long sz), (.ref w_CELLS)])) rfl (by rw [hml]; rfl) (lenOf (ps := [.long]) (r := (some .boolean)) (by decide +kernel) rfl) rfl (by show 2 * 0 + _ ≤ _; exact Nat.le_of_eq rfl) (hb hby at_146)
            obtain ⟨Q25, e25, rfl⟩ := Q25
            rcases Q25 with ⟨hP, hM, hR, rfl⟩ | ⟨_, rfl⟩
            · exact absurd c24 hM
            · refine own_go (T' := T25) (g' := (mkF m 149 #[.val (.int p1), .val (.int p2), .val (.long p3), .second, .val (.int (0 : Int32)), .val (.ref w_CELLS), .val (.long (34359738352 : Int64)), .second, .val (.long off), .second, .val (.int kk), .val (.long sz), .second, .val (.int (0 : Int32))] [(.int (0 : Int32))])) (fun t q => st25 t q) ?_
              refine own_go (T' := T25) (g' := (mkF m 151 #[.val (.int p1), .val (.int p2), .val (.long p3), .second, .val (.int (0 : Int32)), .val (.ref w_CELLS), .val (.long (34359738352 : Int64)), .second, .val (.long off), .second, .val (.int kk), .val (.long sz), .second, .val (.int (0 : Int32))] [(.int (0 : Int32)), (.int (0 : Int32))])) (fun t q => XS.iload X25.here hx rfl (hb hby at_149) rfl q) ?_
              have c26 : (0 : Int32) = (0 : Int32) := by decide
              refine own_go (T' := T25) (g' := (mkF m 154 #[.val (.int p1), .val (.int p2), .val (.long p3), .second, .val (.int (0 : Int32)), .val (.ref w_CELLS), .val (.long (34359738352 : Int64)), .second, .val (.long off), .second, .val (.int kk), .val (.long sz), .second, .val (.int (0 : Int32))] [])) (fun t q => XS.icmpNo X25.here hx rfl (hb hby at_151) rfl (teq c26).2 q) ?_
              refine own_go (T' := T25) (g' := (mkF m 155 #[.val (.int p1), .val (.int p2), .val (.long p3), .second, .val (.int (0 : Int32)), .val (.ref w_CELLS), .val (.long (34359738352 : Int64)), .second, .val (.long off), .second, .val (.int kk), .val (.long sz), .second, .val (.int (0 : Int32))] [(.int (1 : Int32))])) (fun t q => XS.iconst X25.here hx rfl (hb hby at_154) q) ?_
              refine own_go (T' := T25) (g' := (mkF m 159 #[.val (.int p1), .val (.int p2), .val (.long p3), .second, .val (.int (0 : Int32)), .val (.ref w_CELLS), .val (.long (34359738352 : Int64)), .second, .val (.long off), .second, .val (.int kk), .val (.long sz), .second, .val (.int (0 : Int32))] [(.int (1 : Int32))])) (fun t q => XS.goto X25.here hx rfl (pc0 := 155) (pc' := 159) rfl (hb hby at_155) (by decide) (by decide) q) ?_
              refine own_outN X25 hx hlk hret (t := .boolean) (by simp) (hb hby at_159) (w := (1 : Int32)) (by decide) ?_ (by decide) (by decide)
              exact ⟨rfl, Fr.nil _⟩
          · refine own_go (T' := T20) (g' := (mkF m 135 #[.val (.int p1), .val (.int p2), .val (.long p3), .second, .val (.int (0 : Int32)), .val (.ref w_CELLS), .val (.long (34359738352 : Int64)), .second, .val (.long off), .second, .val (.int kk), .val (.long sz), .second, .unset] [])) (fun t q => XS.ifNo X20.here hx rfl (hb hby at_132) rfl ((if0 _ _).trans (flt (fun z => c24 ((own_lgt sz (34359738352 : Int64)).mp z))).2.2.1) q) ?_
            refine own_go (T' := T20) (g' := (mkF m 136 #[.val (.int p1), .val (.int p2), .val (.long p3), .second, .val (.int (0 : Int32)), .val (.ref w_CELLS), .val (.long (34359738352 : Int64)), .second, .val (.long off), .second, .val (.int kk), .val (.long sz), .second, .unset] [(.int (1 : Int32))])) (fun t q => XS.iconst X20.here hx rfl (hb hby at_135) q) ?_
            refine own_go (T' := T20) (g' := (mkF m 140 #[.val (.int p1), .val (.int p2), .val (.long p3), .second, .val (.int (0 : Int32)), .val (.ref w_CELLS), .val (.long (34359738352 : Int64)), .second, .val (.long off), .second, .val (.int kk), .val (.long sz), .second, .unset] [(.int (1 : Int32))])) (fun t q => XS.goto X20.here hx rfl (pc0 := 136) (pc' := 140) rfl (hb hby at_136) (by decide) (by decide) q) ?_
            refine own_go (T' := T20) (g' := (mkF m 142 #[.val (.int p1), .val (.int p2), .val (.long p3), .second, .val (.int (0 : Int32)), .val (.ref w_CELLS), .val (.long (34359738352 : Int64)), .second, .val (.long off), .second, .val (.int kk), .val (.long sz), .second, .val (.int (1 : Int32))] [])) (fun t q => XS.istore X20.here hx rfl (hb hby at_140) rfl (l' := #[.val (.int p1), .val (.int p2), .val (.long p3), .second, .val (.int (0 : Int32)), .val (.ref w_CELLS), .val (.long (34359738352 : Int64)), .second, .val (.long off), .second, .val (.int kk), .val (.long sz), .second, .val (.int (1 : Int32))]) rfl q) ?_
            refine own_go (T' := T20) (g' := (mkF m 144 #[.val (.int p1), .val (.int p2), .val (.long p3), .second, .val (.int (0 : Int32)), .val (.ref w_CELLS), .val (.long (34359738352 : Int64)), .second, .val (.long off), .second, .val (.int kk), .val (.long sz), .second, .val (.int (1 : Int32))] [(.ref w_CELLS)])) (fun t q => XS.aload X20.here hx rfl (hb hby at_142) rfl rfl q) ?_
            refine own_go (T' := T20) (g' := (mkF m 146 #[.val (.int p1), .val (.int p2), .val (.long p3), .second, .val (.int (0 : Int32)), .val (.ref w_CELLS), .val (.long (34359738352 : Int64)), .second, .val (.long off), .second, .val (.int kk), .val (.long sz), .second, .val (.int (1 : Int32))] [(.long sz), (.ref w_CELLS)])) (fun t q => XT.lload X20.here hx rfl (hb hby at_144) rfl q) ?_
            obtain ⟨v27, T27, L27, X27, Q27, st27⟩ := own_callV X20 hx hZ (y := (⟨"com/example/gannet/gannet/filter/Storage", "isValidSize", "(J)Z"⟩ : MethodName)) (b := w_CELLS) (argsL := [(.long sz)]) (rest := []) hown (hw _ (List.mem_of_getElem? (i := 7) rfl)) (hw _ (List.mem_of_getElem? (i := 8) rfl)) (hw _ (List.mem_of_getElem? (i := 10) rfl)) (hw _ (List.mem_of_getElem? (i := 9) rfl)) (hw _ (List.mem_of_getElem? (i := 1) rfl)) (hw _ (List.mem_of_getElem? (i := 11) rfl)) (rm_iv_CELLS l Z a0 hw [] sz w_BITS w_CELLS h0 FX) e20 E_CELLS (by decide) (by decide) 0 (by decide) (by decide) (by decide) (g := (mkF m 146 #[.val (.int p1), .val (.int p2), .val (.long p3), .second, .val (.int (0 : Int32)), .val (.ref w_CELLS), .val (.long (34359738352 : Int64)), .second, .val (.long off), .second, .val (.int kk), .val (.long sz), .second, .val (.int (1 : Int32))] [(.long sz), (.ref w_CELLS)])) rfl (by rw [hml]; rfl) (lenOf (ps := [.long]) (r := (some .boolean)) (by decide +kernel) rfl) rfl (by show 2 * 0 + _ ≤ _; exact Nat.le_of_eq rfl) (hb hby at_146)
            obtain ⟨Q27, e27, rfl⟩ := Q27
            rcases Q27 with ⟨_, _, _, rfl⟩ | ⟨hB, rfl⟩
            · refine own_go (T' := T27) (g' := (mkF m 149 #[.val (.int p1), .val (.int p2), .val (.long p3), .second, .val (.int (0 : Int32)), .val (.ref w_CELLS), .val (.long (34359738352 : Int64)), .second, .val (.long off), .second, .val (.int kk), .val (.long sz), .second, .val (.int (1 : Int32))] [(.int (1 : Int32))])) (fun t q => st27 t q) ?_
              refine own_go (T' := T27) (g' := (mkF m 151 #[.val (.int p1), .val (.int p2), .val (.long p3), .second, .val (.int (0 : Int32)), .val (.ref w_CELLS), .val (.long (34359738352 : Int64)), .second, .val (.long off), .second, .val (.int kk), .val (.long sz), .second, .val (.int (1 : Int32))] [(.int (1 : Int32)), (.int (1 : Int32))])) (fun t q => XS.iload X27.here hx rfl (hb hby at_149) rfl q) ?_
              have c28 : (1 : Int32) = (1 : Int32) := by decide
              refine own_go (T' := T27) (g' := (mkF m 154 #[.val (.int p1), .val (.int p2), .val (.long p3), .second, .val (.int (0 : Int32)), .val (.ref w_CELLS), .val (.long (34359738352 : Int64)), .second, .val (.long off), .second, .val (.int kk), .val (.long sz), .second, .val (.int (1 : Int32))] [])) (fun t q => XS.icmpNo X27.here hx rfl (hb hby at_151) rfl (teq c28).2 q) ?_
              refine own_go (T' := T27) (g' := (mkF m 155 #[.val (.int p1), .val (.int p2), .val (.long p3), .second, .val (.int (0 : Int32)), .val (.ref w_CELLS), .val (.long (34359738352 : Int64)), .second, .val (.long off), .second, .val (.int kk), .val (.long sz), .second, .val (.int (1 : Int32))] [(.int (1 : Int32))])) (fun t q => XS.iconst X27.here hx rfl (hb hby at_154) q) ?_
              refine own_go (T' := T27) (g' := (mkF m 159 #[.val (.int p1), .val (.int p2), .val (.long p3), .second, .val (.int (0 : Int32)), .val (.ref w_CELLS), .val (.long (34359738352 : Int64)), .second, .val (.long off), .second, .val (.int kk), .val (.long sz), .second, .val (.int (1 : Int32))] [(.int (1 : Int32))])) (fun t q => XS.goto X27.here hx rfl (pc0 := 155) (pc' := 159) rfl (hb hby at_155) (by decide) (by decide) q) ?_
              refine own_outN X27 hx hlk hret (t := .boolean) (by simp) (hb hby at_159) (w := (1 : Int32)) (by decide) ?_ (by decide) (by decide)
              exact ⟨rfl, Fr.nil _⟩
            · exact (hB.elim (fun z => (own_pos c22).mp c23 z) (fun z => z.elim c24 (fun z => z ((own_rem sz).mp c22)))).elim
        · refine own_go (T' := T20) (g' := (mkF m 139 #[.val (.int p1), .val (.int p2), .val (.long p3), .second, .val (.int (0 : Int32)), .val (.ref w_CELLS), .val (.long (34359738352 : Int64)), .second, .val (.long off), .second, .val (.int kk), .val (.long sz), .second, .unset] [])) (fun t q => XS.ifYes X20.here hx rfl (pc0 := 124) (pc' := 139) rfl (hb hby at_124) rfl ((if0 _ _).trans (flt (fun z => c23 ((own_lgt sz (0 : Int64)).mp z))).2.2.2) (by decide) (by decide) q) ?_
          refine own_go (T' := T20) (g' := (mkF m 140 #[.val (.int p1), .val (.int p2), .val (.long p3), .second, .val (.int (0 : Int32)), .val (.ref w_CELLS), .val (.long (34359738352 : Int64)), .second, .val (.long off), .second, .val (.int kk), .val (.long sz), .second, .unset] [(.int (0 : Int32))])) (fun t q => XS.iconst X20.here hx rfl (hb hby at_139) q) ?_
          refine own_go (T' := T20) (g' := (mkF m 142 #[.val (.int p1), .val (.int p2), .val (.long p3), .second, .val (.int (0 : Int32)), .val (.ref w_CELLS), .val (.long (34359738352 : Int64)), .second, .val (.long off), .second, .val (.int kk), .val (.long sz), .second, .val (.int (0 : Int32))] [])) (fun t q => XS.istore X20.here hx rfl (hb hby at_140) rfl (l' := #[.val (.int p1), .val (.int p2), .val (.long p3), .second, .val (.int (0 : Int32)), .val (.ref w_CELLS), .val (.long (34359738352 : Int64)), .second, .val (.long off), .second, .val (.int kk), .val (.long sz), .second, .val (.int (0 : Int32))]) rfl q) ?_
          refine own_go (T' := T20) (g' := (mkF m 144 #[.val (.int p1), .val (.int p2), .val (.long p3), .second, .val (.int (0 : Int32)), .val (.ref w_CELLS), .val (.long (34359738352 : Int64)), .second, .val (.long off), .second, .val (.int kk), .val (.long sz), .second, .val (.int (0 : Int32))] [(.ref w_CELLS)])) (fun t q => XS.aload X20.here hx rfl (hb hby at_142) rfl rfl q) ?_
          refine own_go (T' := T20) (g' := (mkF m 146 #[.val (.int p1), .val (.int p2), .val (.long p3), .second, .val (.int (0 : Int32)), .val (.ref w_CELLS), .val (.long (34359738352 : Int64)), .second, .val (.long off), .second, .val (.int kk), .val (.long sz), .second, .val (.int (0 : Int32))] [(.long sz), (.ref w_CELLS)])) (fun t q => XT.lload X20.here hx rfl (hb hby at_144) rfl q) ?_
          obtain ⟨v29, T29, L29, X29, Q29, st29⟩ := own_callV X20 hx hZ (y := (⟨"com/example/gannet/gannet/filter/Storage", "isValidSize", "(J)Z"⟩ : MethodName)) (b := w_CELLS) (argsL := [(.long sz)]) (rest := []) hown (hw _ (List.mem_of_getElem? (i := 7) rfl)) (hw _ (List.mem_of_getElem? (i := 8) rfl)) (hw _ (List.mem_of_getElem? (i := 10) rfl)) (hw _ (List.mem_of_getElem? (i := 9) rfl)) (hw _ (List.mem_of_getElem? (i := 1) rfl)) (hw _ (List.mem_of_getElem? (i := 11) rfl)) (rm_iv_CELLS l Z a0 hw [] sz w_BITS w_CELLS h0 FX) e20 E_CELLS (by decide) (by decide) 0 (by decide) (by decide) (by decide) (g := (mkF m 146 #[.val (.int p1), .val (.int p2), .val (.long p3), .second, .val (.int (0 : Int32)), .val (.ref w_CELLS), .val (.long (34359738352 : Int64)), .second, .val (.long off), .second, .val (.int kk), .val (.long sz), .second, .val (.int (0 : Int32))] [(.long sz), (.ref w_CELLS)])) rfl (by rw [hml]; rfl) (lenOf (ps := [.long]) (r := (some .boolean)) (by decide +kernel) rfl) rfl (by show 2 * 0 + _ ≤ _; exact Nat.le_of_eq rfl) (hb hby at_146)
          obtain ⟨Q29, e29, rfl⟩ := Q29
          rcases Q29 with ⟨hP, hM, hR, rfl⟩ | ⟨_, rfl⟩
          · exact absurd ((own_pos c22).mpr hP) c23
          · refine own_go (T' := T29) (g' := (mkF m 149 #[.val (.int p1), .val (.int p2), .val (.long p3), .second, .val (.int (0 : Int32)), .val (.ref w_CELLS), .val (.long (34359738352 : Int64)), .second, .val (.long off), .second, .val (.int kk), .val (.long sz), .second, .val (.int (0 : Int32))] [(.int (0 : Int32))])) (fun t q => st29 t q) ?_
            refine own_go (T' := T29) (g' := (mkF m 151 #[.val (.int p1), .val (.int p2), .val (.long p3), .second, .val (.int (0 : Int32)), .val (.ref w_CELLS), .val (.long (34359738352 : Int64)), .second, .val (.long off), .second, .val (.int kk), .val (.long sz), .second, .val (.int (0 : Int32))] [(.int (0 : Int32)), (.int (0 : Int32))])) (fun t q => XS.iload X29.here hx rfl (hb hby at_149) rfl q) ?_
            have c30 : (0 : Int32) = (0 : Int32) := by decide
            refine own_go (T' := T29) (g' := (mkF m 154 #[.val (.int p1), .val (.int p2), .val (.long p3), .second, .val (.int (0 : Int32)), .val (.ref w_CELLS), .val (.long (34359738352 : Int64)), .second, .val (.long off), .second, .val (.int kk), .val (.long sz), .second, .val (.int (0 : Int32))] [])) (fun t q => XS.icmpNo X29.here hx rfl (hb hby at_151) rfl (teq c30).2 q) ?_
            refine own_go (T' := T29) (g' := (mkF m 155 #[.val (.int p1), .val (.int p2), .val (.long p3), .second, .val (.int (0 : Int32)), .val (.ref w_CELLS), .val (.long (34359738352 : Int64)), .second, .val (.long off), .second, .val (.int kk), .val (.long sz), .second, .val (.int (0 : Int32))] [(.int (1 : Int32))])) (fun t q => XS.iconst X29.here hx rfl (hb hby at_154) q) ?_
            refine own_go (T' := T29) (g' := (mkF m 159 #[.val (.int p1), .val (.int p2), .val (.long p3), .second, .val (.int (0 : Int32)), .val (.ref w_CELLS), .val (.long (34359738352 : Int64)), .second, .val (.long off), .second, .val (.int kk), .val (.long sz), .second, .val (.int (0 : Int32))] [(.int (1 : Int32))])) (fun t q => XS.goto X29.here hx rfl (pc0 := 155) (pc' := 159) rfl (hb hby at_155) (by decide) (by decide) q) ?_
            refine own_outN X29 hx hlk hret (t := .boolean) (by simp) (hb hby at_159) (w := (1 : Int32)) (by decide) ?_ (by decide) (by decide)
            exact ⟨rfl, Fr.nil _⟩
      · refine own_go (T' := T20) (g' := (mkF m 139 #[.val (.int p1), .val (.int p2), .val (.long p3), .second, .val (.int (0 : Int32)), .val (.ref w_CELLS), .val (.long (34359738352 : Int64)), .second, .val (.long off), .second, .val (.int kk), .val (.long sz), .second, .unset] [])) (fun t q => XS.ifYes X20.here hx rfl (pc0 := 117) (pc' := 139) rfl (hb hby at_117) rfl ((if0 _ _).trans (feq (fun z => c22 ((own_leq (sz &&& (63 : Int64)) (0 : Int64)).mp z))).2) (by decide) (by decide) q) ?_
        refine own_go (T' := T20) (g' := (mkF m 140 #[.val (.int p1), .val (.int p2), .val (.long p3), .second, .val (.int (0 : Int32)), .val (.ref w_CELLS), .val (.long (34359738352 : Int64)), .second, .val (.long off), .second, .val (.int kk), .val (.long sz), .second, .unset] [(.int (0 : Int32))])) (fun t q => XS.iconst X20.here hx rfl (hb hby at_139) q) ?_
        refine own_go (T' := T20) (g' := (mkF m 142 #[.val (.int p1), .val (.int p2), .val (.long p3), .second, .val (.int (0 : Int32)), .val (.ref w_CELLS), .val (.long (34359738352 : Int64)), .second, .val (.long off), .second, .val (.int kk), .val (.long sz), .second, .val (.int (0 : Int32))] [])) (fun t q => XS.istore X20.here hx rfl (hb hby at_140) rfl (l' := #[.val (.int p1), .val (.int p2), .val (.long p3), .second, .val (.int (0 : Int32)), .val (.ref w_CELLS), .val (.long (34359738352 : Int64)), .second, .val (.long off), .second, .val (.int kk), .val (.long sz), .second, .val (.int (0 : Int32))]) rfl q) ?_
        refine own_go (T' := T20) (g' := (mkF m 144 #[.val (.int p1), .val (.int p2), .val (.long p3), .second, .val (.int (0 : Int32)), .val (.ref w_CELLS), .val (.long (34359738352 : Int64)), .second, .val (.long off), .second, .val (.int kk), .val (.long sz), .second, .val (.int (0 : Int32))] [(.ref w_CELLS)])) (fun t q => XS.aload X20.here hx rfl (hb hby at_142) rfl rfl q) ?_
        refine own_go (T' := T20) (g' := (mkF m 146 #[.val (.int p1), .val (.int p2), .val (.long p3), .second, .val (.int (0 : Int32)), .val (.ref w_CELLS), .val (.long (34359738352 : Int64)), .second, .val (.long off), .second, .val (.int kk), .val (.long sz), .second, .val (.int (0 : Int32))] [(.long sz), (.ref w_CELLS)])) (fun t q => XT.lload X20.here hx rfl (hb hby at_144) rfl q) ?_
        obtain ⟨v31, T31, L31, X31, Q31, st31⟩ := own_callV X20 hx hZ (y := (⟨"com/example/gannet/gannet/filter/Storage", "isValidSize", "(J)Z"⟩ : MethodName)) (b := w_CELLS) (argsL := [(.long sz)]) (rest := []) hown (hw _ (List.mem_of_getElem? (i := 7) rfl)) (hw _ (List.mem_of_getElem? (i := 8) rfl)) (hw _ (List.mem_of_getElem? (i := 10) rfl)) (hw _ (List.mem_of_getElem? (i := 9) rfl)) (hw _ (List.mem_of_getElem? (i := 1) rfl)) (hw _ (List.mem_of_getElem? (i := 11) rfl)) (rm_iv_CELLS l Z a0 hw [] sz w_BITS w_CELLS h0 FX) e20 E_CELLS (by decide) (by decide) 0 (by decide) (by decide) (by decide) (g := (mkF m 146 #[.val (.int p1), .val (.int p2), .val (.long p3), .second, .val (.int (0 : Int32)), .val (.ref w_CELLS), .val (.long (34359738352 : Int64)), .second, .val (.long off), .second, .val (.int kk), .val (.long sz), .second, .val (.int (0 : Int32))] [(.long sz), (.ref w_CELLS)])) rfl (by rw [hml]; rfl) (lenOf (ps := [.long]) (r := (some .boolean)) (by decide +kernel) rfl) rfl (by show 2 * 0 + _ ≤ _; exact Nat.le_of_eq rfl) (hb hby at_146)
        obtain ⟨Q31, e31, rfl⟩ := Q31
        rcases Q31 with ⟨hP, hM, hR, rfl⟩ | ⟨_, rfl⟩
        · exact absurd ((own_rem sz).mpr hR) c22
        · refine own_go (T' := T31) (g' := (mkF m 149 #[.val (.int p1), .val (.int p2), .val (.long p3), .second, .val (.int (0 : Int32)), .val (.ref w_CELLS), .val (.long (34359738352 : Int64)), .second, .val (.long off), .second, .val (.int kk), .val (.long sz), .second, .val (.int (0 : Int32))] [(.int (0 : Int32))])) (fun t q => st31 t q) ?_
          refine own_go (T' := T31) (g' := (mkF m 151 #[.val (.int p1), .val (.int p2), .val (.long p3), .second, .val (.int (0 : Int32)), .val (.ref w_CELLS), .val (.long (34359738352 : Int64)), .second, .val (.long off), .second, .val (.int kk), .val (.long sz), .second, .val (.int (0 : Int32))] [(.int (0 : Int32)), (.int (0 : Int32))])) (fun t q => XS.iload X31.here hx rfl (hb hby at_149) rfl q) ?_
          have c32 : (0 : Int32) = (0 : Int32) := by decide
          refine own_go (T' := T31) (g' := (mkF m 154 #[.val (.int p1), .val (.int p2), .val (.long p3), .second, .val (.int (0 : Int32)), .val (.ref w_CELLS), .val (.long (34359738352 : Int64)), .second, .val (.long off), .second, .val (.int kk), .val (.long sz), .second, .val (.int (0 : Int32))] [])) (fun t q => XS.icmpNo X31.here hx rfl (hb hby at_151) rfl (teq c32).2 q) ?_
          refine own_go (T' := T31) (g' := (mkF m 155 #[.val (.int p1), .val (.int p2), .val (.long p3), .second, .val (.int (0 : Int32)), .val (.ref w_CELLS), .val (.long (34359738352 : Int64)), .second, .val (.long off), .second, .val (.int kk), .val (.long sz), .second, .val (.int (0 : Int32))] [(.int (1 : Int32))])) (fun t q => XS.iconst X31.here hx rfl (hb hby at_154) q) ?_
          refine own_go (T' := T31) (g' := (mkF m 159 #[.val (.int p1), .val (.int p2), .val (.long p3), .second, .val (.int (0 : Int32)), .val (.ref w_CELLS), .val (.long (34359738352 : Int64)), .second, .val (.long off), .second, .val (.int kk), .val (.long sz), .second, .val (.int (0 : Int32))] [(.int (1 : Int32))])) (fun t q => XS.goto X31.here hx rfl (pc0 := 155) (pc' := 159) rfl (hb hby at_155) (by decide) (by decide) q) ?_
          refine own_outN X31 hx hlk hret (t := .boolean) (by simp) (hb hby at_159) (w := (1 : Int32)) (by decide) ?_ (by decide) (by decide)
          exact ⟨rfl, Fr.nil _⟩
    refine own_go (T' := T20) (g' := (mkF m 63 #[.val (.int p1), .val (.int p2), .val (.long p3), .second, .val (.int (0 : Int32)), .val (.ref w_CELLS), .val (.long (34359738352 : Int64)), .second, .val (.long off), .second, .val (.int kk), .unset, .unset, .unset] [(.int kk)])) (fun t q => XS.iload X20.here hx rfl (hb hby at_61) rfl q) ?_
    by_cases c33 : kk = (0 : Int32)
    · refine own_go (T' := T20) (g' := (mkF m 66 #[.val (.int p1), .val (.int p2), .val (.long p3), .second, .val (.int (0 : Int32)), .val (.ref w_CELLS), .val (.long (34359738352 : Int64)), .second, .val (.long off), .second, .val (.int kk), .unset, .unset, .unset] [])) (fun t q => XS.ifNo X20.here hx rfl (hb hby at_63) rfl ((if0 _ _).trans (teq c33).2) q) ?_
      refine own_go (T' := T20) (g' := (mkF m 67 #[.val (.int p1), .val (.int p2), .val (.long p3), .second, .val (.int (0 : Int32)), .val (.ref w_CELLS), .val (.long (34359738352 : Int64)), .second, .val (.long off), .second, .val (.int kk), .unset, .unset, .unset] [(.long p3)])) (fun t q => XT.lloadN X20.here hx rfl (hb hby at_66) rfl q) ?_
      refine own_go (T' := T20) (g' := (mkF m 69 #[.val (.int p1), .val (.int p2), .val (.long p3), .second, .val (.int (0 : Int32)), .val (.ref w_CELLS), .val (.long (34359738352 : Int64)), .second, .val (.long off), .second, .val (.int kk), .val (.long p3), .second, .unset] [])) (fun t q => XT.lstore X20.here hx rfl (hb hby at_67) rfl (l' := #[.val (.int p1), .val (.int p2), .val (.long p3), .second, .val (.int (0 : Int32)), .val (.ref w_CELLS), .val (.long (34359738352 : Int64)), .second, .val (.long off), .second, .val (.int kk), .val (.long p3), .second, .unset]) rfl q) ?_
      refine own_go (T' := T20) (g' := (mkF m 109 #[.val (.int p1), .val (.int p2), .val (.long p3), .second, .val (.int (0 : Int32)), .val (.ref w_CELLS), .val (.long (34359738352 : Int64)), .second, .val (.long off), .second, .val (.int kk), .val (.long p3), .second, .unset] [])) (fun t q => XS.goto X20.here hx rfl (pc0 := 69) (pc' := 109) rfl (hb hby at_69) (by decide) (by decide) q) ?_
      exact tail _
    · refine own_go (T' := T20) (g' := (mkF m 72 #[.val (.int p1), .val (.int p2), .val (.long p3), .second, .val (.int (0 : Int32)), .val (.ref w_CELLS), .val (.long (34359738352 : Int64)), .second, .val (.long off), .second, .val (.int kk), .unset, .unset, .unset] [])) (fun t q => XS.ifYes X20.here hx rfl (pc0 := 63) (pc' := 72) rfl (hb hby at_63) rfl ((if0 _ _).trans (feq c33).2) (by decide) (by decide) q) ?_
      refine own_go (T' := T20) (g' := (mkF m 74 #[.val (.int p1), .val (.int p2), .val (.long p3), .second, .val (.int (0 : Int32)), .val (.ref w_CELLS), .val (.long (34359738352 : Int64)), .second, .val (.long off), .second, .val (.int kk), .unset, .unset, .unset] [(.int kk)])) (fun t q => XS.iload X20.here hx rfl (hb hby at_72) rfl q) ?_
      refine own_go (T' := T20) (g' := (mkF m 75 #[.val (.int p1), .val (.int p2), .val (.long p3), .second, .val (.int (0 : Int32)), .val (.ref w_CELLS), .val (.long (34359738352 : Int64)), .second, .val (.long off), .second, .val (.int kk), .unset, .unset, .unset] [(.int (1 : Int32)), (.int kk)])) (fun t q => XS.iconst X20.here hx rfl (hb hby at_74) q) ?_
      by_cases c34 : kk = (1 : Int32)
      · refine own_go (T' := T20) (g' := (mkF m 78 #[.val (.int p1), .val (.int p2), .val (.long p3), .second, .val (.int (0 : Int32)), .val (.ref w_CELLS), .val (.long (34359738352 : Int64)), .second, .val (.long off), .second, .val (.int kk), .unset, .unset, .unset] [])) (fun t q => XS.icmpNo X20.here hx rfl (hb hby at_75) rfl (teq c34).2 q) ?_
        refine own_go (T' := T20) (g' := (mkF m 80 #[.val (.int p1), .val (.int p2), .val (.long p3), .second, .val (.int (0 : Int32)), .val (.ref w_CELLS), .val (.long (34359738352 : Int64)), .second, .val (.long off), .second, .val (.int kk), .unset, .unset, .unset] [(.long (34359738352 : Int64))])) (fun t q => XT.lload X20.here hx rfl (hb hby at_78) rfl q) ?_
        refine own_go (T' := T20) (g' := (mkF m 82 #[.val (.int p1), .val (.int p2), .val (.long p3), .second, .val (.int (0 : Int32)), .val (.ref w_CELLS), .val (.long (34359738352 : Int64)), .second, .val (.long off), .second, .val (.int kk), .unset, .unset, .unset] [(.long off), (.long (34359738352 : Int64))])) (fun t q => XT.lload X20.here hx rfl (hb hby at_80) rfl q) ?_
        refine own_go (T' := T20) (g' := (mkF m 83 #[.val (.int p1), .val (.int p2), .val (.long p3), .second, .val (.int (0 : Int32)), .val (.ref w_CELLS), .val (.long (34359738352 : Int64)), .second, .val (.long off), .second, .val (.int kk), .unset, .unset, .unset] [(.long ((34359738352 : Int64) + off))])) (fun t q => XT.ladd X20.here hx rfl (hb hby at_82) rfl q) ?_
        refine own_go (T' := T20) (g' := (mkF m 85 #[.val (.int p1), .val (.int p2), .val (.long p3), .second, .val (.int (0 : Int32)), .val (.ref w_CELLS), .val (.long (34359738352 : Int64)), .second, .val (.long off), .second, .val (.int kk), .val (.long ((34359738352 : Int64) + off)), .second, .unset] [])) (fun t q => XT.lstore X20.here hx rfl (hb hby at_83) rfl (l' := #[.val (.int p1), .val (.int p2), .val (.long p3), .second, .val (.int (0 : Int32)), .val (.ref w_CELLS), .val (.long (34359738352 : Int64)), .second, .val (.long off), .second, .val (.int kk), .val (.long ((34359738352 : Int64) + off)), .second, .unset]) rfl q) ?_
        refine own_go (T' := T20) (g' := (mkF m 109 #[.val (.int p1), .val (.int p2), .val (.long p3), .second, .val (.int (0 : Int32)), .val (.ref w_CELLS), .val (.long (34359738352 : Int64)), .second, .val (.long off), .second, .val (.int kk), .val (.long ((34359738352 : Int64) + off)), .second, .unset] [])) (fun t q => XS.goto X20.here hx rfl (pc0 := 85) (pc' := 109) rfl (hb hby at_85) (by decide) (by decide) q) ?_
        exact tail _
      · refine own_go (T' := T20) (g' := (mkF m 88 #[.val (.int p1), .val (.int p2), .val (.long p3), .second, .val (.int (0 : Int32)), .val (.ref w_CELLS), .val (.long (34359738352 : Int64)), .second, .val (.long off), .second, .val (.int kk), .unset, .unset, .unset] [])) (fun t q => XS.icmpYes X20.here hx rfl (pc0 := 75) (pc' := 88) rfl (hb hby at_75) rfl (feq c34).2 (by decide) (by decide) q) ?_
        refine own_go (T' := T20) (g' := (mkF m 90 #[.val (.int p1), .val (.int p2), .val (.long p3), .second, .val (.int (0 : Int32)), .val (.ref w_CELLS), .val (.long (34359738352 : Int64)), .second, .val (.long off), .second, .val (.int kk), .unset, .unset, .unset] [(.int kk)])) (fun t q => XS.iload X20.here hx rfl (hb hby at_88) rfl q) ?_
        refine own_go (T' := T20) (g' := (mkF m 91 #[.val (.int p1), .val (.int p2), .val (.long p3), .second, .val (.int (0 : Int32)), .val (.ref w_CELLS), .val (.long (34359738352 : Int64)), .second, .val (.long off), .second, .val (.int kk), .unset, .unset, .unset] [(.int (2 : Int32)), (.int kk)])) (fun t q => XS.iconst X20.here hx rfl (hb hby at_90) q) ?_
        by_cases c35 : kk = (2 : Int32)
        · refine own_go (T' := T20) (g' := (mkF m 94 #[.val (.int p1), .val (.int p2), .val (.long p3), .second, .val (.int (0 : Int32)), .val (.ref w_CELLS), .val (.long (34359738352 : Int64)), .second, .val (.long off), .second, .val (.int kk), .unset, .unset, .unset] [])) (fun t q => XS.icmpNo X20.here hx rfl (hb hby at_91) rfl (teq c35).2 q) ?_
          refine own_go (T' := T20) (g' := (mkF m 97 #[.val (.int p1), .val (.int p2), .val (.long p3), .second, .val (.int (0 : Int32)), .val (.ref w_CELLS), .val (.long (34359738352 : Int64)), .second, .val (.long off), .second, .val (.int kk), .unset, .unset, .unset] [(.long (64 : Int64))])) (fun t q => X20.ldc2Long hx hown (mvT hZ (hw _ (List.mem_of_getElem? (i := 16) rfl))) (g := (mkF m 94 #[.val (.int p1), .val (.int p2), .val (.long p3), .second, .val (.int (0 : Int32)), .val (.ref w_CELLS), .val (.long (34359738352 : Int64)), .second, .val (.long off), .second, .val (.int kk), .unset, .unset, .unset] [])) rfl (hb hby at_94) t q) ?_
          refine own_go (T' := T20) (g' := (mkF m 99 #[.val (.int p1), .val (.int p2), .val (.long p3), .second, .val (.int (0 : Int32)), .val (.ref w_CELLS), .val (.long (34359738352 : Int64)), .second, .val (.long off), .second, .val (.int kk), .unset, .unset, .unset] [(.long off), (.long (64 : Int64))])) (fun t q => XT.lload X20.here hx rfl (hb hby at_97) rfl q) ?_
          refine own_go (T' := T20) (g' := (mkF m 100 #[.val (.int p1), .val (.int p2), .val (.long p3), .second, .val (.int (0 : Int32)), .val (.ref w_CELLS), .val (.long (34359738352 : Int64)), .second, .val (.long off), .second, .val (.int kk), .unset, .unset, .unset] [(.long ((64 : Int64) + off))])) (fun t q => XT.ladd X20.here hx rfl (hb hby at_99) rfl q) ?_
          refine own_go (T' := T20) (g' := (mkF m 102 #[.val (.int p1), .val (.int p2), .val (.long p3), .second, .val (.int (0 : Int32)), .val (.ref w_CELLS), .val (.long (34359738352 : Int64)), .second, .val (.long off), .second, .val (.int kk), .val (.long ((64 : Int64) + off)), .second, .unset] [])) (fun t q => XT.lstore X20.here hx rfl (hb hby at_100) rfl (l' := #[.val (.int p1), .val (.int p2), .val (.long p3), .second, .val (.int (0 : Int32)), .val (.ref w_CELLS), .val (.long (34359738352 : Int64)), .second, .val (.long off), .second, .val (.int kk), .val (.long ((64 : Int64) + off)), .second, .unset]) rfl q) ?_
          refine own_go (T' := T20) (g' := (mkF m 109 #[.val (.int p1), .val (.int p2), .val (.long p3), .second, .val (.int (0 : Int32)), .val (.ref w_CELLS), .val (.long (34359738352 : Int64)), .second, .val (.long off), .second, .val (.int kk), .val (.long ((64 : Int64) + off)), .second, .unset] [])) (fun t q => XS.goto X20.here hx rfl (pc0 := 102) (pc' := 109) rfl (hb hby at_102) (by decide) (by decide) q) ?_
          exact tail _
        · refine own_go (T' := T20) (g' := (mkF m 105 #[.val (.int p1), .val (.int p2), .val (.long p3), .second, .val (.int (0 : Int32)), .val (.ref w_CELLS), .val (.long (34359738352 : Int64)), .second, .val (.long off), .second, .val (.int kk), .unset, .unset, .unset] [])) (fun t q => XS.icmpYes X20.here hx rfl (pc0 := 91) (pc' := 105) rfl (hb hby at_91) rfl (feq c35).2 (by decide) (by decide) q) ?_
          refine own_go (T' := T20) (g' := (mkF m 107 #[.val (.int p1), .val (.int p2), .val (.long p3), .second, .val (.int (0 : Int32)), .val (.ref w_CELLS), .val (.long (34359738352 : Int64)), .second, .val (.long off), .second, .val (.int kk), .unset, .unset, .unset] [(.long off)])) (fun t q => XT.lload X20.here hx rfl (hb hby at_105) rfl q) ?_
          refine own_go (T' := T20) (g' := (mkF m 109 #[.val (.int p1), .val (.int p2), .val (.long p3), .second, .val (.int (0 : Int32)), .val (.ref w_CELLS), .val (.long (34359738352 : Int64)), .second, .val (.long off), .second, .val (.int kk), .val (.long off), .second, .unset] [])) (fun t q => XT.lstore X20.here hx rfl (hb hby at_107) rfl (l' := #[.val (.int p1), .val (.int p2), .val (.long p3), .second, .val (.int (0 : Int32)), .val (.ref w_CELLS), .val (.long (34359738352 : Int64)), .second, .val (.long off), .second, .val (.int kk), .val (.long off), .second, .unset]) rfl q) ?_
          exact tail _
set_option maxRecDepth 65536 in
set_option maxHeartbeats 40000000 in
theorem comes_1 {Post : Tables → Env → Array Value → State → Outcome → State → Prop} (hpost : ∀ tb e args s v u, (limb_1_1.after args s (.returned v) u = true ∧ limb_1_2.after args s (.returned v) u = true ∧ True) → FrameEnd s (.returned v) u (Jvm.fieldLocs frame_1_writes args s ++ Jvm.arrayLocs frame_1_arrays args s ++ Jvm.staticLocs frame_1_statics s) 0 0 → Post tb e args s (.returned v) u) :
    ArmFor flags0 classFile x code maxLocals ret World_1 tables_1 room_1 Calls_1 rest_1 Pre_1 Post := by
  intro l hfl _ _ p e ha hc hk s m args below hf hA hF happ hP
  obtain ⟨hcalls, hrest, hpre⟩ := hP
  obtain ⟨-, -, -, hnamed, -, -, -, hat⟩ := (Spec.applies_iff hf).mp happ
  obtain ⟨hg, hn⟩ := and_e (Cond.before_iff.mp (show (Jvm.Cond.and given_1 narrow_1).before args s = true from hpre))
  obtain ⟨h1, hg⟩ := and_e hg
  obtain ⟨g0, hg⟩ := and_e hg
  obtain ⟨g1, hg⟩ := and_e hg
  have g2 := hg
  obtain ⟨w0, w1, w2, rfl⟩ : ∃ w0 w1 w2 : Value, args = #[w0, w1, w2] := by
    have hs : args.size = 3 := by simpa [Cond.value, given_1] using h1
    obtain ⟨L⟩ := args
    match L, hs with
    | [w0, w1, w2], _ => exact ⟨w0, w1, w2, rfl⟩
  have hw := fun d (hd : d ∈ tables_1) => atoms_spec (ws := Jvm.Cond.code x code maxLocals ret :: tables_1) hat d (List.mem_cons_of_mem _ hd)
  have hfit : Fit s := fun {y c} hc i hi => by
    obtain ⟨ha, rfl⟩ := Array.getElem?_eq_some_iff.mp hc
    have q := List.all_eq_true.mp ((Array.all_eq_true_iff_forall_mem.mp hF) _ (Array.getElem_mem ha)) i (List.mem_range.mpr hi)
    simpa [Array.getElem?_eq_getElem hi] using q
  obtain ⟨i0, b0⟩ := is_v g0
  obtain rfl : w0 = (.int i0) := Option.some.inj b0
  obtain ⟨i1, b1⟩ := is_v g1
  obtain rfl : w1 = (.int i1) := Option.some.inj b1
  obtain ⟨i2, b2⟩ := isL_v g2
  obtain rfl : w2 = (.long i2) := Option.some.inj b2
  obtain ⟨n0, hn⟩ := and_e hn
  obtain ⟨n1, hn⟩ := and_e hn
  obtain ⟨n2, hn⟩ := and_e hn
  have n3 := hn
  obtain ⟨w_BITS, ev_BITS⟩ := exa_v n0
  have S_BITS := Sta.start ev_BITS (Or.inr ⟨(hw _ (List.mem_of_getElem? (i := 1) rfl)), (hw _ (List.mem_of_getElem? (i := 2) rfl))⟩)
  have E_BITS := Exa.start ev_BITS n0
  obtain ⟨w_CELLS, ev_CELLS⟩ := exa_v n1
  have S_CELLS := Sta.start ev_CELLS (Or.inr ⟨(hw _ (List.mem_of_getElem? (i := 1) rfl)), (hw _ (List.mem_of_getElem? (i := 14) rfl))⟩)
  have E_CELLS := Exa.start ev_CELLS n1
  have F_BITS_maxSize := own_fld ev_BITS (by rfl) n2
  have F_CELLS_maxSize := own_fld ev_CELLS (by rfl) n3
  have ne_BITS_CELLS := Fld.ne F_BITS_maxSize F_CELLS_maxSize (by decide)
  have FX : own_F s s.heap w_BITS w_CELLS := ⟨S_BITS, E_BITS, S_CELLS, E_CELLS, F_BITS_maxSize, F_CELLS_maxSize, ne_BITS_CELLS⟩
  obtain ⟨n, o, h1, h2, h3, _, L, rfl, ⟨rfl, N⟩, hq⟩ := rm0 l s _ hw tables_1 i0 i1 i2 w_BITS w_CELLS s.heap FX p e ha hc hk s m _ below hf ((Spec.applies_iff_loose hf).mp happ).1 ⟨rfl, State.Warmed39.refl s, rfl⟩ trivial
  refine ⟨n, _, h1, h2, h3, hpost _ _ _ _ _ _ ⟨Cond.after_iff.mpr rfl, Cond.after_iff.mpr (eq_i res_at (Term.int_eval (1)) rfl), trivial⟩ ⟨hq.1, hq.2.1, (hq.2.2.sift fun y hy => Or.inr (N y hy)).mono (by decide) (by decide)⟩⟩
theorem main_1_1 : Claimed_1_1 := comes_1 fun _ _ _ _ _ _ h hF => ⟨h.1, hF⟩
theorem main_1_2 : Claimed_1_2 := comes_1 fun _ _ _ _ _ _ h hF => ⟨h.2.1, hF⟩
end Jvm.Pilot.@@N@@
namespace Jvm.Pilot.@@N@@
open Jvm Jvm.ClassFile Sem Op Lib Jvm.Free Jvm.Stand Jvm.Pilot.@@N@@.Jvm.D
/-! MADE BY PROGRAM (witnessworld.py) out of the Statement's table words and the real class files: 12 classes; the members and pool entries that the words name. The judged class is class 1, her method 1. -/
namespace start1
open Jvm.ClassFile
def u (s : String) : CpInfo := .utf8 (stringToUtf16 s)
/-- a pool by its gaps: so many unusable entries, then the entry; so many at the end -/
def gap : Nat → List CpInfo → List CpInfo
  | 0, r => r
  | n + 1, r => .unusable :: gap n r
def poolList (es : List (Nat × CpInfo)) (last : Nat) : List CpInfo := es.foldr (fun e r => gap e.1 (e.2 :: r)) (gap last [])
def pool (es : List (Nat × CpInfo)) (last : Nat) : Array CpInfo := ⟨poolList es last⟩
def fileOf (pool : Array CpInfo) (this : Nat) (attrs : Array Attribute := #[]) (ms : Array MethodInfo := #[]) (fl : Nat := 33) (sup : Nat := 0) (ifs : Array Nat := #[]) (fds : Array FieldInfo := #[]) : ClassFile where
  minorVersion := 0
  majorVersion := 65
  constantPool := pool
  accessFlags := fl
  thisClass := this
  superClass := sup
  interfaces := ifs
  fields := fds
  methods := ms
  attributes := attrs
def plain (name : String) (sup : Option ClassId) : Class where
  name := name
  kind := .ordinary
  loader := none
  accessFlags := 33
  super := sup
  interfaces := #[]
  cf := none
  fields := #[]
  methods := #[]
  instanceTypes := #[]
  staticTypes := #[]
  resolved := #[]
  callSites := []
  init := .initialized
  statics := none
  mirror := none

def pool0 : Array CpInfo := pool [(5, u "<init>"), (0, u "()V"), (1, .class_ 10), (1, u "java/lang/Object")] 113

def k0m0 : Method := { name := "<init>", desc := "()V", sig := { parameters := [], returnType := none }, accessFlags := 1, code := none }
/-- java/lang/Object -/
def k0 : Class := { plain "java/lang/Object" none with
  accessFlags := 33
  interfaces := #[]
  cf := some (fileOf pool0 8 #[] #[{ accessFlags := 1, nameIndex := 5, descriptorIndex := 6, attributes := #[] }] 33 0 #[] #[])
  fields := #[]
  methods := #[k0m0]
  instanceTypes := #[]
  staticTypes := #[]
  resolved := Array.replicate 124 none
  statics := none }

def pool1 : Array CpInfo := pool [(2, .class_ 4), (1, u "java/lang/Object"), (0, u "<init>"), (0, u "()V"), (0, .fieldref 8 9), (0, .class_ 10), (0, .nameAndType 11 12), (0, u "com/example/gannet/gannet/filter/Storage"), (0, u "BITS"), (0, u "Lcom/example/gannet/gannet/filter/Storage;"), (0, .fieldref 8 14), (0, .nameAndType 15 12), (0, u "CELLS"), (0, .long 137438953408), (1, .long 34359738352), (1, .long 255), (1, .long 128), (1, .long 64), (1, .long 63), (1, .methodref 8 29), (0, .nameAndType 30 31), (0, u "isValidSize"), (0, u "(J)Z"), (0, .class_ 33), (0, u "com/example/gannet/gannet/filter/StorageIsValidSizePinLaw"), (2, u "law"), (0, u "(IIJ)Z")] 3

def k1m0 : Method := { name := "<init>", desc := "()V", sig := { parameters := [], returnType := none }, accessFlags := 2, code := none }
def k1c1 : Code := { maxStack := 4, maxLocals := 14, code := code, exceptionTable := #[], attributes := #[] }
def k1m1 : Method := { name := "law", desc := "(IIJ)Z", sig := { parameters := [.int, .int, .long], returnType := some .boolean }, accessFlags := 9, code := some k1c1 }
/-- com/example/gannet/gannet/filter/StorageIsValidSizePinLaw -/
def k1 : Class := { plain "com/example/gannet/gannet/filter/StorageIsValidSizePinLaw" (some 0) with
  accessFlags := 49
  interfaces := #[]
  cf := some (fileOf pool1 32 #[] #[{ accessFlags := 2, nameIndex := 5, descriptorIndex := 6, attributes := #[] }, { accessFlags := 9, nameIndex := 36, descriptorIndex := 37, attributes := #[] }] 49 2 #[] #[])
  fields := #[]
  methods := #[k1m0, k1m1]
  instanceTypes := #[]
  staticTypes := #[]
  resolved := Array.replicate 41 none
  statics := none }

def pool2 : Array CpInfo := pool [(1, .class_ 2), (0, u "java/lang/constant/Constable"), (0, .class_ 4), (0, u "java/lang/Object")] 6

/-- java/lang/constant/Constable -/
def k2 : Class := { plain "java/lang/constant/Constable" (some 0) with
  accessFlags := 1537
  interfaces := #[]
  cf := some (fileOf pool2 1 #[] #[] 1537 3 #[] #[])
  fields := #[]
  methods := #[]
  instanceTypes := #[]
  staticTypes := #[]
  resolved := Array.replicate 11 none
  statics := none }

def pool3 : Array CpInfo := pool [(1, .class_ 2), (0, u "java/lang/Comparable"), (0, .class_ 4), (0, u "java/lang/Object")] 7

/-- java/lang/Comparable -/
def k3 : Class := { plain "java/lang/Comparable" (some 0) with
  accessFlags := 1537
  interfaces := #[]
  cf := some (fileOf pool3 1 #[] #[] 1537 3 #[] #[])
  fields := #[]
  methods := #[]
  instanceTypes := #[]
  staticTypes := #[]
  resolved := Array.replicate 12 none
  statics := none }

def pool4 : Array CpInfo := pool [(1, .class_ 2), (0, u "java/io/Serializable"), (0, .class_ 4), (0, u "java/lang/Object")] 2

/-- java/io/Serializable -/
def k4 : Class := { plain "java/io/Serializable" (some 0) with
  accessFlags := 1537
  interfaces := #[]
  cf := some (fileOf pool4 1 #[] #[] 1537 3 #[] #[])
  fields := #[]
  methods := #[]
  instanceTypes := #[]
  staticTypes := #[]
  resolved := Array.replicate 7 none
  statics := none }

def pool5 : Array CpInfo := pool [(2, .class_ 4), (1, u "java/lang/Enum"), (0, u "name"), (0, u "Ljava/lang/String;"), (2, u "ordinal"), (0, u "I"), (1, .class_ 14), (1, u "java/lang/Object"), (4, u "hash"), (86, .class_ 108), (1, u "java/lang/Enum$EnumDesc"), (2, .class_ 112), (0, u "java/lang/constant/Constable"), (0, .class_ 114), (0, u "java/lang/Comparable"), (0, .class_ 116), (0, u "java/io/Serializable")] 87

/-- java/lang/Enum -/
def k5 : Class := { plain "java/lang/Enum" (some 0) with
  accessFlags := 1057
  interfaces := #[2, 3, 4]
  cf := some (fileOf pool5 2 #[.nestMembers #[106]] #[] 1057 12 #[111, 113, 115] #[{ accessFlags := 18, nameIndex := 5, descriptorIndex := 6, attributes := #[] }, { accessFlags := 18, nameIndex := 9, descriptorIndex := 10, attributes := #[] }, { accessFlags := 2, nameIndex := 19, descriptorIndex := 10, attributes := #[] }])
  fields := #[{ name := "name", type := (.object "java/lang/String"), accessFlags := 18, slot := 0, constantValue := 0 }, { name := "ordinal", type := .int, accessFlags := 18, slot := 1, constantValue := 0 }, { name := "hash", type := .int, accessFlags := 2, slot := 2, constantValue := 0 }]
  methods := #[]
  instanceTypes := #[(.object "java/lang/String"), .int, .int]
  staticTypes := #[]
  resolved := Array.replicate 204 none
  statics := none }

def pool6 : Array CpInfo := pool [(1, .class_ 2), (0, u "com/example/gannet/gannet/filter/Storage"), (2, u "BITS"), (0, u "Lcom/example/gannet/gannet/filter/Storage;"), (2, u "CELLS"), (2, u "$VALUES"), (0, u "[Lcom/example/gannet/gannet/filter/Storage;"), (6, .class_ 22), (1, u "java/lang/Enum"), (8, u "unit"), (0, u "Ljava/lang/String;"), (2, u "bitsEach"), (0, u "I"), (0, .fieldref 1 38), (0, .nameAndType 39 40), (0, u "maxSize"), (0, u "J"), (2, .long 64), (31, u "isValidSize"), (0, u "(J)Z")] 8

def k6c0 : Code := { maxStack := 4, maxLocals := 3, code := prog_19_method_6_code, exceptionTable := #[], attributes := #[] }
def k6m0 : Method := { name := "isValidSize", desc := "(J)Z", sig := { parameters := [.long], returnType := some .boolean }, accessFlags := 0, code := some k6c0 }
/-- com/example/gannet/gannet/filter/Storage -/
def k6 : Class := { plain "com/example/gannet/gannet/filter/Storage" (some 5) with
  accessFlags := 16432
  interfaces := #[]
  cf := some (fileOf pool6 1 #[] #[{ accessFlags := 0, nameIndex := 75, descriptorIndex := 76, attributes := #[] }] 16432 20 #[] #[{ accessFlags := 16409, nameIndex := 5, descriptorIndex := 6, attributes := #[] }, { accessFlags := 16409, nameIndex := 9, descriptorIndex := 6, attributes := #[] }, { accessFlags := 18, nameIndex := 31, descriptorIndex := 32, attributes := #[] }, { accessFlags := 18, nameIndex := 35, descriptorIndex := 36, attributes := #[] }, { accessFlags := 18, nameIndex := 39, descriptorIndex := 40, attributes := #[] }, { accessFlags := 4122, nameIndex := 12, descriptorIndex := 13, attributes := #[] }])
  fields := #[{ name := "BITS", type := (.object "com/example/gannet/gannet/filter/Storage"), accessFlags := 16409, slot := 0, constantValue := 0 }, { name := "CELLS", type := (.object "com/example/gannet/gannet/filter/Storage"), accessFlags := 16409, slot := 1, constantValue := 0 }, { name := "unit", type := (.object "java/lang/String"), accessFlags := 18, slot := 3, constantValue := 0 }, { name := "bitsEach", type := .int, accessFlags := 18, slot := 4, constantValue := 0 }, { name := "maxSize", type := .long, accessFlags := 18, slot := 5, constantValue := 0 }, { name := "$VALUES", type := (.array (.object "com/example/gannet/gannet/filter/Storage")), accessFlags := 4122, slot := 2, constantValue := 0 }]
  methods := #[k6m0]
  instanceTypes := #[(.object "java/lang/String"), .int, .int, (.object "java/lang/String"), .int, .long]
  staticTypes := #[(.object "com/example/gannet/gannet/filter/Storage"), (.object "com/example/gannet/gannet/filter/Storage"), (.array (.object "com/example/gannet/gannet/filter/Storage"))]
  resolved := Array.replicate 85 none
  statics := some 0 }

def pool7 : Array CpInfo := pool [(1, u "java/lang/Cloneable"), (0, .class_ 1), (0, u "java/lang/Object"), (0, .class_ 3)] 3

/-- java/lang/Cloneable -/
def k7 : Class := { plain "java/lang/Cloneable" (some 0) with
  accessFlags := 1537
  interfaces := #[]
  cf := some (fileOf pool7 2 #[] #[] 1537 4 #[] #[])
  fields := #[]
  methods := #[]
  instanceTypes := #[]
  staticTypes := #[]
  resolved := Array.replicate 8 none
  statics := none }

/-- the primitive byte -/
def k8 : Class := { plain "byte" none with kind := .primitive 'B', accessFlags := 0x411 }
/-- [B -/
def k9 : Class := { plain "[B" (some 0) with kind := .array 8 .byte, interfaces := #[7, 4], accessFlags := 1041 }

/-- the primitive int -/
def k10 : Class := { plain "int" none with kind := .primitive 'I', accessFlags := 0x411 }
/-- [I -/
def k11 : Class := { plain "[I" (some 0) with kind := .array 10 .int, interfaces := #[7, 4], accessFlags := 1041 }

def heap : Heap := #[{ cls := 6, slots := #[.ref 1, .ref 2, .null], vm := .statics 6 },
  { cls := 6, slots := #[.null, .int 0, .int 0, .null, .int 0, .long 137438953408], vm := .none },
  { cls := 6, slots := #[.null, .int 0, .int 0, .null, .int 0, .long 34359738352], vm := .none }]
def classes : Array Class := #[k0, k1, k2, k3, k4, k5, k6, k7, k8, k9, k10, k11]
def interned : List (Array UInt16 × Addr) := []
def slotsUsed : Nat := 15
def theMethod : MethodId := ⟨1, 1⟩
def args0 : Array Value := #[.int 5, .int 7, .long 9]
def aboutOver (below : List Frame) : State where
  vm := { classes := classes, interned := interned.toArray }
  heap := heap
  slotsUsed := slotsUsed
  threads := #[{ frames := .invoking theMethod args0 :: below }]
def below0 : List Frame := [.native { method := ⟨0, 0⟩, args := #[] }]
def about1 : State := aboutOver below0
def p0 : Program := .bare "" "" ""
def e0 : Env := launch0.env 0 0 0
theorem w_frames : about1.frames = Frame.invoking theMethod args0 :: below0 := rfl
set_option maxRecDepth 65536 in
theorem w_args : argsFit about1.vm theMethod args0 = true := by decide +kernel
set_option maxRecDepth 65536 in
theorem w_heap : heapFits about1 = true := by decide +kernel
set_option maxRecDepth 65536 in
theorem w_runnable : about1.curStatus? = some .runnable := by decide +kernel
set_option maxRecDepth 65536 in
theorem w_alone : about1.alone = true := by decide +kernel
set_option maxRecDepth 65536 in
theorem w_named : about1.methodNamed? x = some theMethod := by decide +kernel
set_option maxRecDepth 65536 in
theorem w_hears : about1.hears theMethod below0 = true := by decide +kernel
set_option maxRecDepth 65536 in
theorem w_ripe : about1.ripe theMethod args0 below0 = true := by decide +kernel
theorem w_running : about1.status = .running := rfl
set_option maxRecDepth 65536 in
theorem w_room : about1.hasRoom e0.platform room_1 = true :=
  launch0.hasRoom_least _ room_1 (by decide +kernel) (by decide +kernel) (by decide +kernel) (by decide +kernel) (by decide +kernel) (by decide +kernel)
theorem allAtoms_all (ts : List Jvm.Cond) (a : Array Jvm.Value) (st : Jvm.State) : (allAtoms ts).before a st = ts.all (fun c => c.before a st) := by
  induction ts with
  | nil => rfl
  | cons c t ih =>
    show (Jvm.Cond.and c (allAtoms t)).before a st = _
    rw [Jvm.Cond.before_and, ih, List.all_cons]
def words1 : List Jvm.Cond := Jvm.Cond.code x code maxLocals ret :: tables_1
/-- a 'code' word, met by the world's own term for the bytes: nothing is compared byte by byte -/
theorem code_word {y : MethodName} {bytes : ByteArray} {mx : Nat} {rt : Option FieldType} {a : Array Value} {s : State} {m : MethodId} {meth : Method} {c : Code} (h1 : s.methodNamed? y = some m) (h2 : s.vm.method? m = some meth) (h3 : meth.code = some c) (h4 : c.code = bytes)
    (h5 : (c.maxLocals == mx && c.exceptionTable.isEmpty && decide (c.maxStack ≤ mostOperands) && decide (meth.sig.returnType = rt) && !meth.locks && decide (parseMethodDescriptor y.desc = some meth.sig)) = true) : (Jvm.Cond.code y bytes mx rt).before a s = true := by
  simp only [Bool.and_eq_true, beq_iff_eq, Bool.not_eq_true', decide_eq_true_eq] at h5
  obtain ⟨⟨⟨⟨⟨g1, g2⟩, g3⟩, g4⟩, g5⟩, g6⟩ := h5
  simp [Cond.before, Cond.holds, Cond.value, h1, h2, h3, h4, g1, g2, g3, g4, g5, g6]
def isCode : Jvm.Cond → Bool
  | .code _ _ _ _ => true
  | _ => false
theorem all_split {L : List Jvm.Cond} {P : Jvm.Cond → Bool} (h1 : L.all (fun c => isCode c || P c) = true) (h2 : ∀ c ∈ L.filter isCode, P c = true) : L.all P = true := by
  refine List.all_eq_true.mpr fun c hc => ?_
  have h := List.all_eq_true.mp h1 c hc
  rcases Bool.eq_false_or_eq_true (isCode c) with hi | hi
  · exact h2 c (List.mem_filter.mpr ⟨hc, hi⟩)
  · simpa [hi] using h
set_option maxRecDepth 65536 in
theorem w_c0 : (Jvm.Cond.code x code maxLocals ret).before args0 about1 = true := code_word (m := ⟨1, 1⟩) (meth := k1m1) (c := k1c1) (by decide +kernel) rfl rfl rfl (by decide +kernel)
set_option maxRecDepth 65536 in
theorem w_c1 : (Jvm.Cond.code ({ cls := "com/example/gannet/gannet/filter/Storage", name := "isValidSize", desc := "(J)Z" } : Jvm.MethodName) prog_19_method_6_code (3 : Nat) (Option.some Jvm.ClassFile.FieldType.boolean)).before args0 about1 = true := code_word (m := ⟨6, 0⟩) (meth := k6m0) (c := k6c0) (by decide +kernel) rfl rfl rfl (by decide +kernel)
def codes1 : List Jvm.Cond := [Jvm.Cond.code x code maxLocals ret, Jvm.Cond.code ({ cls := "com/example/gannet/gannet/filter/Storage", name := "isValidSize", desc := "(J)Z" } : Jvm.MethodName) prog_19_method_6_code (3 : Nat) (Option.some Jvm.ClassFile.FieldType.boolean)]
set_option maxRecDepth 65536 in
theorem codes_eq : words1.filter isCode = codes1 := rfl
theorem w_codes : ∀ c ∈ words1.filter isCode, c.before args0 about1 = true := by
  rw [codes_eq]
  intro c hc
  simp only [codes1, List.mem_cons, List.not_mem_nil, or_false] at hc
  rcases hc with rfl | rfl
  · exact w_c0
  · exact w_c1
set_option maxRecDepth 65536 in
theorem w_t1 : words1.all (fun c => isCode c || c.before args0 about1) = true := by decide +kernel
theorem w_tables : (allAtoms (Jvm.Cond.code x code maxLocals ret :: tables_1)).before args0 about1 = true := by
  rw [allAtoms_all]
  show words1.all (fun c => c.before args0 about1) = true
  refine all_split ?_ w_codes
  rw [w_t1]
set_option maxRecDepth 65536 in
theorem w_case : (Jvm.Cond.and given_1 narrow_1).before args0 about1 = true := by decide +kernel
theorem w_applies : (headSpec (Jvm.Cond.code x code maxLocals ret :: tables_1) room_1).applies x e0.platform about1 = true :=
  (Spec.applies_iff w_frames).mpr ⟨w_running, w_runnable, w_alone, w_named, w_hears, w_ripe, w_room, w_tables⟩
theorem atStart : AtStart classFile x code maxLocals ret World_1 tables_1 room_1 Calls_1 rest_1 Pre_1 launch0 p0 e0 about1 theMethod args0 below0 :=
  ⟨lists_1, trivial, launch0.admits_env _ _ _, launch0.least_env, fairChoices_fair.cas, fairChoices_fair.clock, w_frames, w_args, w_heap, w_applies, trivial, trivial, w_case⟩
end start1
theorem witness_1 : WitnessClaimed_1 := ⟨start1.p0, start1.e0, start1.about1, start1.theMethod, start1.args0, start1.below0, start1.atStart⟩
end Jvm.Pilot.@@N@@
