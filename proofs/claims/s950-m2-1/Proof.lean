import JvmDerived
import JvmDerived.Pilot.@@N@@Statement
import JvmDerived.Pilot.@@N@@Code
set_option linter.unusedVariables false
set_option linter.unusedSimpArgs false
namespace Jvm.RoadKit
open Sem ClassFile Op Lib Jvm.Stand Jvm.Free Jvm.LawKit
section OwnWalk
variable {p : Program} {l : Launch} {e : Env} {R : Room} {s : State} {m : MethodId} {args : Array Value} {below : List Frame} {meth : Method} {c : Code} {T : State} {locs : List Loc} {cells slots : Nat} {Z : State} {a0 : Array Value} {h : Heap}
theorem retI (X : Stand p l e R s m args below meth c T locs cells slots) (hx : p.tables.exec = Jvm.exec) {pc : Nat} {Ls : Array Slot} {z : Int32} {rest : List Value} (hret : meth.sig.returnType = some .int) (hd : decode c.code pc = .ok (.ireturn, 1)) {fs : List Frame}
    (hl : ∀ (f : JFrame) (acts : List Action), f.method = m → f.locked = none → f.entered = [] → (doReturn e (T.setTop f) acts (some (.int z))).1 = T.setFrames fs) : Steps p.tables e below (T.setTop (mkF m pc Ls (.int z :: rest))) (T.setFrames fs) := by
  have hm' : T.vm.method? m = some meth := X.method'
  have hn : narrow .int (.int z) = .int z := rfl
  show Steps p.tables e below (T.setTop { method := m, pc := pc, locals := Ls, stack := _ :: rest, locked := none }) _
  jvm_step X.here [X.here.top, hx, hd, hm', hret, hn]
  first | (intro acts; rw [hl _ acts rfl rfl rfl]) | rw [hl _ _ rfl rfl rfl]
  exact Steps.refl _
/-- a body's contract at given arguments and a given heap -/
abbrev own_Met (l : Launch) (y : MethodName) (bytes : ByteArray) (maxL : Nat) (ret : Option FieldType) (ws : List Cond) (rm : Room) (Z : State) (as' : Array Value) (h : Heap) (Q : Option Value → Heap → List Loc → Prop) : Prop :=
  MetFree l y (head1 (Cond.code y bytes maxL ret :: ws) rm) (fun a U => a = as' ∧ Z.Warmed39 U.vm ∧ U.heap = h) (fun _ _ _ _ _ => True) (fun _ U o U' => ∃ v L, o = .returned v ∧ Q v U'.heap L ∧ FrameEnd U o U' L rm.cells rm.slots)
/-- from here the walk comes to its end, and Q holds there -/
def own_Go (p : Program) (e : Env) (below : List Frame) (s T : State) (g : JFrame) (k n : Nat) (Q : Option Value → Heap → List Loc → Prop) : Prop :=
  ∃ s₂ o, Steps p.tables e below (T.setTop g) s₂ ∧ s₂.status = .running ∧ Ended s₂ below o ∧ ∃ v L, o = .returned v ∧ Q v s₂.heap L ∧ FrameEnd s o s₂ L k n
variable {k n : Nat} {Q : Option Value → Heap → List Loc → Prop}
theorem own_in {g g' : JFrame} (ef : g = g') (q : own_Go p e below s T g' k n Q) : ∃ s₂ o, Steps p.tables e below (T.setTop g) s₂ ∧ s₂.status = .running ∧ Ended s₂ below o ∧ ∃ v L, o = .returned v ∧ Q v s₂.heap L ∧ FrameEnd s o s₂ L k n := by
  subst ef; exact q
theorem own_go {T' : State} {g g' : JFrame} (f : ∀ t, Steps p.tables e below (T'.setTop g') t → Steps p.tables e below (T.setTop g) t) (q : own_Go p e below s T' g' k n Q) : own_Go p e below s T g k n Q := by
  obtain ⟨s₂, o, h1, h2⟩ := q; exact ⟨s₂, o, f _ h1, h2⟩
theorem own_outI (X : Stand p l e R s m args below meth c T locs cells slots) (hx : p.tables.exec = Jvm.exec) (hlk : meth.locks = false) (hret : meth.sig.returnType = some .int) {pc : Nat} {Ls : Array Slot} {z : Int32} {rest : List Value} (hd : decode c.code pc = .ok (.ireturn, 1))
    (q : Q (some (.int z)) T.heap locs) (hk : cells ≤ k) (hn : slots ≤ n) : own_Go p e below s T (mkF m pc Ls (.int z :: rest)) k n Q := by
  obtain ⟨fs, hr, hrun, hended, hW, hsame⟩ := X.leave (v := some (.int z)) (fun h => by rw [hret] at h; cases h) hlk
  exact ⟨_, _, retI X hx hret hd hr, hrun, hended, _, _, rfl, q, ⟨_, rfl⟩, hW, hsame.mono hk hn⟩
theorem own_outN (X : Stand p l e R s m args below meth c T locs cells slots) (hx : p.tables.exec = Jvm.exec) (hlk : meth.locks = false) {t : FieldType} (hret : meth.sig.returnType = some t) (ht : t = .boolean ∨ t = .byte ∨ t = .char ∨ t = .short) {pc : Nat} {Ls : Array Slot} {z w : Int32} {rest : List Value} (hd : decode c.code pc = .ok (.ireturn, 1))
    (hw : nar t z = w) (q : Q (some (.int w)) T.heap locs) (hk : cells ≤ k) (hn : slots ≤ n) : own_Go p e below s T (mkF m pc Ls (.int z :: rest)) k n Q := by
  subst hw
  obtain ⟨fs, hr, hrun, hended, hW, hsame⟩ := X.leave (v := some (.int (nar t z))) (fun h => by rw [hret] at h; cases h) hlk
  exact ⟨_, _, retN X hx hret ht hd hr, hrun, hended, _, _, rfl, q, ⟨_, rfl⟩, hW, hsame.mono hk hn⟩
theorem own_outJ (X : Stand p l e R s m args below meth c T locs cells slots) (hx : p.tables.exec = Jvm.exec) (hlk : meth.locks = false) (hret : meth.sig.returnType = some .long) {pc : Nat} {Ls : Array Slot} {z : Int64} {rest : List Value} (hd : decode c.code pc = .ok (.lreturn, 1))
    (q : Q (some (.long z)) T.heap locs) (hk : cells ≤ k) (hn : slots ≤ n) : own_Go p e below s T (mkF m pc Ls (.long z :: rest)) k n Q := by
  obtain ⟨fs, hr, hrun, hended, hW, hsame⟩ := X.leave (v := some (.long z)) (fun h => by rw [hret] at h; cases h) hlk
  exact ⟨_, _, retOut X hx hret rfl (Or.inr (Or.inl ⟨rfl, rfl, _, rfl⟩)) hd hr, hrun, hended, _, _, rfl, q, ⟨_, rfl⟩, hW, hsame.mono hk hn⟩
theorem own_outD (X : Stand p l e R s m args below meth c T locs cells slots) (hx : p.tables.exec = Jvm.exec) (hlk : meth.locks = false) (hret : meth.sig.returnType = some .double) {pc : Nat} {Ls : Array Slot} {z : UInt64} {rest : List Value} (hd : decode c.code pc = .ok (.dreturn, 1))
    (q : Q (some (.double z)) T.heap locs) (hk : cells ≤ k) (hn : slots ≤ n) : own_Go p e below s T (mkF m pc Ls (.double z :: rest)) k n Q := by
  obtain ⟨fs, hr, hrun, hended, hW, hsame⟩ := X.leave (v := some (.double z)) (fun h => by rw [hret] at h; cases h) hlk
  exact ⟨_, _, retOut X hx hret rfl (Or.inr (Or.inr (Or.inl ⟨rfl, rfl, _, rfl⟩))) hd hr, hrun, hended, _, _, rfl, q, ⟨_, rfl⟩, hW, hsame.mono hk hn⟩
theorem own_outA (X : Stand p l e R s m args below meth c T locs cells slots) (hx : p.tables.exec = Jvm.exec) (hlk : meth.locks = false) {t : FieldType} (hret : meth.sig.returnType = some t) (ht : t.isReference = true) {pc : Nat} {Ls : Array Slot} {w : Value} {rest : List Value} (hwr : w.isRef = true) (hd : decode c.code pc = .ok (.areturn, 1))
    (q : Q (some w) T.heap locs) (hk : cells ≤ k) (hn : slots ≤ n) : own_Go p e below s T (mkF m pc Ls (w :: rest)) k n Q := by
  obtain ⟨fs, hr, hrun, hended, hW, hsame⟩ := X.leave (v := some w) (fun h => by rw [hret] at h; cases h) hlk
  have hnw : narrow t w = w := by rcases ref_cases hwr with rfl | ⟨a, rfl⟩ <;> cases t <;> first | rfl | cases ht
  exact ⟨_, _, retOut X hx hret hnw (Or.inr (Or.inr (Or.inr (Or.inr ⟨rfl, ht, hwr⟩)))) hd hr, hrun, hended, _, _, rfl, q, ⟨_, rfl⟩, hW, hsame.mono hk hn⟩
theorem own_outV (X : Stand p l e R s m args below meth c T locs cells slots) (hx : p.tables.exec = Jvm.exec) (hlk : meth.locks = false) (hret : meth.sig.returnType = none) {pc : Nat} {Ls : Array Slot} (hd : decode c.code pc = .ok (.return_, 1))
    (q : Q none T.heap locs) (hk : cells ≤ k) (hn : slots ≤ n) : own_Go p e below s T (mkF m pc Ls []) k n Q := by
  obtain ⟨fs, hr, hrun, hended, hW, hsame⟩ := X.leave (v := none) (fun _ => rfl) hlk
  exact ⟨_, _, X.returnOut hx hret hd hr, hrun, hended, _, _, rfl, q, ⟨_, rfl⟩, hW, hsame.mono hk hn⟩
theorem own_callS (X : Stand p l e R s m args below meth c T locs cells slots) (hx : p.tables.exec = Jvm.exec) (hZ : Z.Warmed39 s.vm) {own : String} {index : Nat} {y : MethodName} {bytes : ByteArray} {maxL : Nat} {ret : Option FieldType} {rm : Room} {argsL rest : List Value}
    (hown : s.vm.findClass own = some m.cls) (w1 : (Cond.methodLink own index y).before a0 Z = true) (w2 : (Cond.static y).before a0 Z = true) (w3 : (Cond.initialized y.cls).before a0 Z = true) (w4 : (Cond.code y bytes maxL ret).before a0 Z = true)
    (hM : own_Met l y bytes maxL ret [] rm Z argsL.toArray h Q) (eT : T.heap = h) (hy : y.cls ≠ "java/lang/invoke/MethodHandle" ∧ y.cls ≠ "java/lang/invoke/VarHandle") (hf : rm.frames + 1 ≤ R.frames) (W : Nat) (hl : W + (maxL + 11) + rm.locals ≤ R.locals) (hc : cells + rm.cells ≤ R.cells) (hs : slots + rm.slots ≤ R.slots)
    {g : JFrame} (hg : g.method = m) (hsize : g.locals.size = c.maxLocals) (hlen : ∀ sig, parseMethodDescriptor y.desc = some sig → argsL.length = sig.parameters.length) (hstack : g.stack = argsL.reverse ++ rest) (hW : 2 * g.monitorRoom + (rest.map fun v => v.category).sum ≤ W) (hd : decode c.code g.pc = .ok (.invokestatic index, 3)) :
    ∃ v T' L, Stand p l e R s m args below meth c T' (locs ++ L) (cells + rm.cells) (slots + rm.slots) ∧ Q v T'.heap L ∧ ∀ t, Steps p.tables e below (T'.setTop { g with pc := g.pc + 3, stack := v.toList ++ rest }) t → Steps p.tables e below (T.setTop g) t := by
  obtain ⟨v, _, ⟨T', L', k', n'⟩, -, X', ⟨Lc, hQ, l1, l2, l3⟩, st⟩ := Jvm.LawKit.callS X hx (y := y) hown (mvT hZ w1) (mvT hZ w2) (mvT hZ w3) (mvT hZ w4) hy (backOf (W := W) hM hZ w4 w3 hf hl) hg hsize (argsL := argsL) (rest := rest) hlen hstack hW hd (fun _ _ => ⟨rfl, eT, hc, hs⟩)
  dsimp only [Pt.U, Pt.locs, Pt.cells, Pt.slots] at X' l1 l2 l3 st hQ
  subst l1 l2 l3
  exact ⟨v, T', Lc, X', hQ, st⟩
theorem own_callV (X : Stand p l e R s m args below meth c T locs cells slots) (hx : p.tables.exec = Jvm.exec) (hZ : Z.Warmed39 s.vm) {own C : String} {index : Nat} {y : MethodName} {bytes : ByteArray} {maxL : Nat} {ret : Option FieldType} {rm : Room} {b : Addr} {argsL rest : List Value}
    (hown : s.vm.findClass own = some m.cls) (w1 : (Cond.methodLink own index y).before a0 Z = true) (w2 : (Cond.declares y).before a0 Z = true) (w3 : (Cond.selects C y y).before a0 Z = true) (w4 : (Cond.instanceMethod y).before a0 Z = true) (w5 : (Cond.initialized y.cls).before a0 Z = true) (w6 : (Cond.code y bytes maxL ret).before a0 Z = true)
    (hM : own_Met l y bytes maxL ret [] rm Z (.ref b :: argsL).toArray h Q) (eT : T.heap = h) (E : Exa Z h b C) (hy : y.cls ≠ "java/lang/invoke/MethodHandle" ∧ y.cls ≠ "java/lang/invoke/VarHandle") (hf : rm.frames + 1 ≤ R.frames) (W : Nat) (hl : W + (maxL + 11) + rm.locals ≤ R.locals) (hc : cells + rm.cells ≤ R.cells) (hs : slots + rm.slots ≤ R.slots)
    {g : JFrame} (hg : g.method = m) (hsize : g.locals.size = c.maxLocals) (hlen : ∀ sig, parseMethodDescriptor y.desc = some sig → argsL.length = sig.parameters.length) (hstack : g.stack = argsL.reverse ++ .ref b :: rest) (hW : 2 * g.monitorRoom + (rest.map fun v => v.category).sum ≤ W) (hd : decode c.code g.pc = .ok (.invokevirtual index, 3)) :
    ∃ v T' L, Stand p l e R s m args below meth c T' (locs ++ L) (cells + rm.cells) (slots + rm.slots) ∧ Q v T'.heap L ∧ ∀ t, Steps p.tables e below (T'.setTop { g with pc := g.pc + 3, stack := v.toList ++ rest }) t → Steps p.tables e below (T.setTop g) t := by
  obtain ⟨cq, kq, qa, qb, qc⟩ := isOf hZ eT E
  obtain ⟨v, _, ⟨T', L', k', n'⟩, -, X', ⟨Lc, hQ, l1, l2, l3⟩, st⟩ := X.virtualBack hx (y := y) (z := y) hown (mvT hZ w1) (mvT hZ w2) (notFace_of_selects (args := #[]) (mvT hZ w3)) (mvT hZ w3) (mvT hZ w4) hy (backOf (W := W) hM hZ w6 w5 hf hl) qa qc hg hsize (Steps.refl _) (argsL := argsL) (rest := rest) hlen hstack hW hd (fun _ _ => ⟨rfl, eT, hc, hs⟩)
  dsimp only [Pt.U, Pt.locs, Pt.cells, Pt.slots] at X' l1 l2 l3 st hQ
  subst l1 l2 l3
  exact ⟨v, T', Lc, X', hQ, fun t q => st.trans q⟩
theorem own_callP (X : Stand p l e R s m args below meth c T locs cells slots) (hx : p.tables.exec = Jvm.exec) (hZ : Z.Warmed39 s.vm) {own : String} {index : Nat} {y : MethodName} {bytes : ByteArray} {maxL : Nat} {rm : Room} {a : Addr} {argsL rest : List Value}
    (hown : s.vm.findClass own = some m.cls) (hy1 : y.name = "<init>") (w1 : (Cond.methodLink own index y).before a0 Z = true) (w2 : (Cond.instanceMethod y).before a0 Z = true) (w3 : (Cond.initialized y.cls).before a0 Z = true) (w4 : (Cond.code y bytes maxL none).before a0 Z = true)
    (hM : own_Met l y bytes maxL none [] rm Z (.ref a :: argsL).toArray h Q) (eT : T.heap = h) (hy : y.cls ≠ "java/lang/invoke/MethodHandle" ∧ y.cls ≠ "java/lang/invoke/VarHandle") (hf : rm.frames + 1 ≤ R.frames) (W : Nat) (hl : W + (maxL + 11) + rm.locals ≤ R.locals) (hc : cells + rm.cells ≤ R.cells) (hs : slots + rm.slots ≤ R.slots)
    {g : JFrame} (hg : g.method = m) (hsize : g.locals.size = c.maxLocals) (hlen : ∀ sig, parseMethodDescriptor y.desc = some sig → argsL.length = sig.parameters.length) (hstack : g.stack = argsL.reverse ++ .ref a :: rest) (hW : 2 * g.monitorRoom + (rest.map fun v => v.category).sum ≤ W) (hd : decode c.code g.pc = .ok (.invokespecial index, 3)) :
    ∃ v T' L, Stand p l e R s m args below meth c T' (locs ++ L) (cells + rm.cells) (slots + rm.slots) ∧ Q v T'.heap L ∧ ∀ t, Steps p.tables e below (T'.setTop { g with pc := g.pc + 3, stack := v.toList ++ rest }) t → Steps p.tables e below (T.setTop g) t := by
  obtain ⟨v, _, ⟨T', L', k', n'⟩, -, X', ⟨Lc, hQ, l1, l2, l3⟩, st⟩ := X.specialBack hx (y := y) hy1 hown (mvT hZ w1) (mvT hZ w2) (mvT hZ w4) hy (backOf (W := W) hM hZ w4 w3 hf hl) hg hsize (Steps.refl _) (a := a) (argsL := argsL) (rest := rest) hlen hstack hW hd (fun _ _ => ⟨rfl, eT, hc, hs⟩)
  dsimp only [Pt.U, Pt.locs, Pt.cells, Pt.slots] at X' l1 l2 l3 st hQ
  subst l1 l2 l3
  exact ⟨v, T', Lc, X', hQ, fun t q => st.trans q⟩
end OwnWalk
theorem own_llt (x y : Int64) : XT.cmpL x y < 0 ↔ x < y := by
  show (if y < x then (1 : Int32) else if x = y then 0 else -1) < 0 ↔ _
  split
  · rename_i h; exact ⟨fun q => absurd q (by decide), fun q => by rw [Int64.lt_iff_toInt_lt] at h q; omega⟩
  · rename_i h; split
    · rename_i h2; subst h2; exact ⟨fun q => absurd q (by decide), fun q => absurd q h⟩
    · rename_i h2; refine ⟨fun _ => ?_, fun _ => by decide⟩
      rw [← Int64.toInt_inj] at h2; rw [Int64.lt_iff_toInt_lt] at h ⊢; omega
theorem own_lgt (x y : Int64) : 0 < XT.cmpL x y ↔ y < x := by
  show 0 < (if y < x then (1 : Int32) else if x = y then 0 else -1) ↔ _
  split
  · rename_i h; exact ⟨fun _ => h, fun _ => by decide⟩
  · rename_i h; split
    · exact ⟨fun q => absurd q (by decide), fun q => absurd q h⟩
    · exact ⟨fun q => absurd q (by decide), fun q => absurd q h⟩
theorem own_leq (x y : Int64) : XT.cmpL x y = 0 ↔ x = y := by
  show (if y < x then (1 : Int32) else if x = y then 0 else -1) = 0 ↔ _
  split
  · rename_i h; refine ⟨fun q => absurd q (by decide), fun q => ?_⟩; subst q; exact absurd h (by simp only [Int64.lt_iff_toInt_lt]; omega)
  · split
    · rename_i h; exact ⟨fun _ => h, fun _ => rfl⟩
    · rename_i h; exact ⟨fun q => absurd q (by decide), fun q => absurd q h⟩
theorem own_at {x y : Value} (h : x = y) : XT.acmp .eq x y = true ∧ XT.acmp .ne x y = false := by subst h; exact ⟨decide_eq_true rfl, decide_eq_false fun q => q rfl⟩
theorem own_af {x y : Value} (h : ¬ (x = y)) : XT.acmp .eq x y = false ∧ XT.acmp .ne x y = true := ⟨decide_eq_false h, decide_eq_true h⟩
theorem own_fld {s : State} {args : Array Value} {t u : Term} {C n d : String} {a : Addr} {v : Value} (ev : t.eval args s none [] s = some (.ref a)) (hu : u.eval args s none [] s = some v) (hq : (Cond.eq (.field t C n d) u).value args s none s [] = some true) : Fld s s.heap a C n d v := by
  refine Fld.start ?_
  obtain ⟨x, y, h1, h2, -, -⟩ := cmp_v (Or.inl hq)
  cases hu.symm.trans h2
  have h3 := h1
  rw [fld_at ev] at h3
  simp only [Cond.value, h1, h2] at hq
  rw [h3]
  cases x <;> cases v <;> simp at hq ⊢ <;> exact hq
section OwnArr
variable {p : Program} {l : Launch} {e : Env} {R : Room} {s : State} {m : MethodId} {args : Array Value} {below : List Frame} {meth : Method} {c : Code} {T : State} {locs : List Loc} {cells slots : Nat} {Z : State} {a0 : Array Value} {h h' : Heap} {a b : Addr} {ty : FieldType} {vs : List Value} {v : Value} {ws : List Addr} {sl : Nat}
/-- an array whose components are known, each -/
def own_Ar (Z : State) (h : Heap) (a : Addr) (ty : FieldType) (vs : List Value) : Prop := ∃ c : Cell, Arr Z h a c ty ∧ c.slots = vs.toArray
theorem own_Ar.ext (F : own_Ar Z h a ty vs) (E : Ext h h') : own_Ar Z h' a ty vs := by obtain ⟨c, A, q⟩ := F; exact ⟨c, A.ext E, q⟩
theorem own_Ar.other (F : own_Ar Z h b ty vs) (W : Wr h h' a sl v) (q : b ≠ a) : own_Ar Z h' b ty vs := by obtain ⟨c, A, r⟩ := F; exact ⟨c, A.other W q, r⟩
theorem own_Ar.keep (F : own_Ar Z h a ty vs) (K : Keep h h' ws) (q : a ∉ ws) : own_Ar Z h' a ty vs := by obtain ⟨c, A, r⟩ := F; exact ⟨c, ⟨K.2.1 a c A.1 q, A.2⟩, r⟩
theorem own_Ar.lt (F : own_Ar Z h a ty vs) : a < h.size := by obtain ⟨c, A, -⟩ := F; exact A.lt
theorem own_Ar.put (F : own_Ar Z h a ty vs) {j : Nat} (W : Wr h h' a j v) : own_Ar Z h' a ty (vs.set j v) := by
  obtain ⟨c, A, q⟩ := F
  refine ⟨_, A.same W, ?_⟩
  show c.slots.setIfInBounds j v = _
  rw [q, List.setIfInBounds_toArray]
theorem own_newP (X : Stand p l e R s m args below meth c T locs cells slots) (hx : p.tables.exec = Jvm.exec) (hZ : Z.Warmed39 s.vm) {aty : ArrayType} (w : (Cond.arrayClass (newarray.typeOf aty)).before a0 Z = true) (eT : T.heap = h) {g : JFrame} (hg : g.method = m) (hd : decode c.code g.pc = .ok (.newarray aty, 2)) {n : Int32} {rest : List Value} (hs : g.stack = .int n :: rest)
    (hn : ¬ n < 0) (k : Nat) (hk : n.toNatClampNeg = k) (hb : k * 8 ≤ 536870912) (hc : cells + 1 ≤ R.cells) (hl : slots + k ≤ R.slots) :
    ∃ T' h', Stand p l e R s m args below meth c T' locs (cells + 1) (slots + k) ∧ T'.heap = h' ∧ Ext h h' ∧ own_Ar Z h' h.size (newarray.typeOf aty) (List.replicate k (defaultValue (newarray.typeOf aty))) ∧
      ∀ target, Steps p.tables e below (T'.setTop { g with pc := g.pc + 2, stack := .ref h.size :: rest }) target → Steps p.tables e below (T.setTop g) target := by
  obtain ⟨T', h', cA, X', e', E, A, st⟩ := newP X hx hZ w eT hg hd hs hn (cap := k) (Nat.le_of_eq hk) hb hc hl
  refine ⟨T', h', X', e', E, ⟨_, A, ?_⟩, st⟩
  show Array.replicate n.toNatClampNeg _ = _
  rw [hk, ← List.toArray_replicate]
theorem own_in_of (F : own_Ar Z h a ty vs) {j : Int32} (hj : ¬ j < 0) (hl : j.toNatClampNeg < vs.length) : ∃ cl : Cell, Arr Z h a cl ty ∧ cl.slots = vs.toArray ∧ ¬ (j < 0 ∨ cl.slots.size ≤ j.toNatClampNeg) := by
  obtain ⟨cl, A, q⟩ := F
  refine ⟨cl, A, q, fun z => z.elim hj fun y => ?_⟩
  rw [q] at y
  exact absurd hl (Nat.not_lt.mpr (by simpa using y))
theorem own_stJ (X : Stand p l e R s m args below meth c T locs cells slots) (hx : p.tables.exec = Jvm.exec) (hZ : Z.Warmed39 s.vm) (eT : T.heap = h) (F : own_Ar Z h a .long vs) {j : Int32} {x : Int64} (hj : ¬ j < 0) (k : Nat) (hk : j.toNatClampNeg = k) (hl : k < vs.length) {g : JFrame} (hg : g.method = m) {rest : List Value} (hs : g.stack = .long x :: .int j :: .ref a :: rest) (hd : decode c.code g.pc = .ok (.lastore, 1)) :
    ∃ T' h', Stand p l e R s m args below meth c T' (locs ++ [⟨a, k⟩]) cells slots ∧ T'.heap = h' ∧ Wr h h' a k (.long x) ∧ own_Ar Z h' a .long (vs.set k (.long x)) ∧ ∀ target, Steps p.tables e below (T'.setTop { g with pc := g.pc + 1, stack := rest }) target → Steps p.tables e below (T.setTop g) target := by
  subst hk
  obtain ⟨cl, A, q, hin⟩ := own_in_of F hj hl
  obtain ⟨T', h', X', e', W, st⟩ := stJ X hx hZ eT A hin hg hs hd
  exact ⟨T', h', X', e', W, F.put W, st⟩
theorem own_stI (X : Stand p l e R s m args below meth c T locs cells slots) (hx : p.tables.exec = Jvm.exec) (hZ : Z.Warmed39 s.vm) (eT : T.heap = h) (F : own_Ar Z h a .int vs) {j x : Int32} (hj : ¬ j < 0) (k : Nat) (hk : j.toNatClampNeg = k) (hl : k < vs.length) {g : JFrame} (hg : g.method = m) {rest : List Value} (hs : g.stack = .int x :: .int j :: .ref a :: rest) (hd : decode c.code g.pc = .ok (.iastore, 1)) :
    ∃ T' h', Stand p l e R s m args below meth c T' (locs ++ [⟨a, k⟩]) cells slots ∧ T'.heap = h' ∧ Wr h h' a k (.int x) ∧ own_Ar Z h' a .int (vs.set k (.int x)) ∧ ∀ target, Steps p.tables e below (T'.setTop { g with pc := g.pc + 1, stack := rest }) target → Steps p.tables e below (T.setTop g) target := by
  subst hk
  obtain ⟨cl, A, q, hin⟩ := own_in_of F hj hl
  obtain ⟨T', h', X', e', W, st⟩ := stI X hx hZ eT A hin hg hs hd
  exact ⟨T', h', X', e', W, F.put W, st⟩
theorem own_stB (X : Stand p l e R s m args below meth c T locs cells slots) (hx : p.tables.exec = Jvm.exec) (hZ : Z.Warmed39 s.vm) (eT : T.heap = h) (F : own_Ar Z h a .byte vs) {j x : Int32} (hj : ¬ j < 0) (k : Nat) (hk : j.toNatClampNeg = k) (hl : k < vs.length) {g : JFrame} (hg : g.method = m) {rest : List Value} (hs : g.stack = .int x :: .int j :: .ref a :: rest) (hd : decode c.code g.pc = .ok (.bastore, 1)) :
    ∃ T' h', Stand p l e R s m args below meth c T' (locs ++ [⟨a, k⟩]) cells slots ∧ T'.heap = h' ∧ Wr h h' a k (.int (nar .byte x)) ∧ own_Ar Z h' a .byte (vs.set k (.int (nar .byte x))) ∧ ∀ target, Steps p.tables e below (T'.setTop { g with pc := g.pc + 1, stack := rest }) target → Steps p.tables e below (T.setTop g) target := by
  subst hk
  obtain ⟨cl, A, q, hin⟩ := own_in_of F hj hl
  obtain ⟨T', h', X', e', W, st⟩ := stB X hx hZ eT A hin hg hs hd
  exact ⟨T', h', X', e', W, F.put W, st⟩
theorem own_stC (X : Stand p l e R s m args below meth c T locs cells slots) (hx : p.tables.exec = Jvm.exec) (hZ : Z.Warmed39 s.vm) (eT : T.heap = h) (F : own_Ar Z h a .char vs) {j x : Int32} (hj : ¬ j < 0) (k : Nat) (hk : j.toNatClampNeg = k) (hl : k < vs.length) {g : JFrame} (hg : g.method = m) {rest : List Value} (hs : g.stack = .int x :: .int j :: .ref a :: rest) (hd : decode c.code g.pc = .ok (.castore, 1)) :
    ∃ T' h', Stand p l e R s m args below meth c T' (locs ++ [⟨a, k⟩]) cells slots ∧ T'.heap = h' ∧ Wr h h' a k (.int (nar .char x)) ∧ own_Ar Z h' a .char (vs.set k (.int (nar .char x))) ∧ ∀ target, Steps p.tables e below (T'.setTop { g with pc := g.pc + 1, stack := rest }) target → Steps p.tables e below (T.setTop g) target := by
  subst hk
  obtain ⟨cl, A, q, hin⟩ := own_in_of F hj hl
  obtain ⟨T', h', X', e', W, st⟩ := stC X hx hZ eT A hin hg hs hd
  exact ⟨T', h', X', e', W, F.put W, st⟩
theorem own_clone (X : Stand p l e R s m args below meth c T locs cells slots) (hx : p.tables.exec = Jvm.exec) (hZ : Z.Warmed39 s.vm) {own ad : String} {index : Nat} (hown : s.vm.findClass own = some m.cls)
    (w1 : (Cond.methodLink own index ⟨ad, "clone", "()Ljava/lang/Object;"⟩).before a0 Z = true) (w2 : (Cond.sameMethod ad "java/lang/Object" "clone" "()Ljava/lang/Object;").before a0 Z = true) (w3 : (Cond.native ⟨"java/lang/Object", "clone", "()Ljava/lang/Object;"⟩).before a0 Z = true)
    (w4 : (Cond.instanceMethod ⟨"java/lang/Object", "clone", "()Ljava/lang/Object;"⟩).before a0 Z = true) (w5 : (Cond.selects ad ⟨ad, "clone", "()Ljava/lang/Object;"⟩ ⟨"java/lang/Object", "clone", "()Ljava/lang/Object;"⟩).before a0 Z = true) (w6 : (Cond.castable ad "java/lang/Cloneable").before a0 Z = true)
    (eT : T.heap = h) (F : own_Ar Z h a ty vs) (hfit : ∀ v ∈ vs, fits ty v = true) (E : Exa Z h a ad) {g : JFrame} (hg : g.method = m) (hsize : g.locals.size = c.maxLocals) {rest : List Value} (hs : g.stack = .ref a :: rest) (hd : decode c.code g.pc = .ok (.invokevirtual index, 3))
    (hf : 1 ≤ R.frames) (W : Nat) (hW : 2 * g.monitorRoom + (rest.map fun v => v.category).sum ≤ W) (hl : W + 14 ≤ R.locals) (hc : cells + 1 ≤ R.cells) (kk : Nat) (hkk : vs.length = kk) (hsl : slots + kk ≤ R.slots) :
    ∃ T' h', Stand p l e R s m args below meth c T' locs (cells + 1) (slots + kk) ∧ T'.heap = h' ∧ Ext h h' ∧ own_Ar Z h' h.size ty vs ∧ Exa Z h' h.size ad ∧
      ∀ target, Steps p.tables e below (T'.setTop { g with pc := g.pc + 3, stack := .ref h.size :: rest }) target → Steps p.tables e below (T.setTop g) target := by
  obtain ⟨cl, A, q⟩ := F
  have FC : FitC Z cl := fitC_of A fun i hi v hv => hfit v (by rw [q, List.getElem?_toArray] at hv; exact List.mem_of_getElem? hv)
  obtain ⟨T', h', X', e', ex, A', E', st⟩ := cloneA X hx hZ hown w1 w2 w3 w4 w5 w6 eT A E FC hg hsize hs hd hf hW hl (cap := kk) (by rw [q, ← hkk]; simp) hc hsl
  exact ⟨T', h', X', e', ex, ⟨cloneOf cl, A', q⟩, E', st⟩
theorem own_StaK {C n d D : String} {w : Value} (S : Sta Z h C n d w) (E : Exa Z h a D) (K : Keep h h' [a]) : Sta Z h' C n d w := by
  obtain ⟨cf, i, k, f, st, cell, h1, h2, h3, h4, h5, h6, h7⟩ := S
  obtain ⟨c2, k2, e1, -, -, e4, -⟩ := E
  have ne : st ≠ a := fun z => by subst z; cases h5.symm.trans e1; rw [e4] at h6; cases h6
  exact ⟨cf, i, k, f, st, cell, h1, h2, h3, h4, K.2.1 st cell h5 (by simpa using ne), h6, h7⟩
theorem own_StaE {C n d : String} {w : Value} (S : Sta Z h C n d w) (K : Keep h h' []) : Sta Z h' C n d w := by
  obtain ⟨cf, i, k, f, st, cell, h1, h2, h3, h4, h5, h6, h7⟩ := S
  exact ⟨cf, i, k, f, st, cell, h1, h2, h3, h4, K.2.1 st cell h5 nin0, h6, h7⟩
theorem own_Xt {h0 : Heap} (O : Ext h0 h) (E : Ext h h') : Ext h0 h' := ⟨Nat.le_trans O.1 E.1, fun x c q => E.2 x c (O.2 x c q)⟩
theorem own_Xr (h : Heap) : Ext h h := ⟨Nat.le_refl _, fun _ _ q => q⟩
theorem own_Xk {h0 : Heap} (O : Ext h0 h) (K : Keep h h' ws) (q : ∀ x ∈ ws, h0.size ≤ x) : Ext h0 h' := ⟨Nat.le_trans O.1 K.1, fun x c r => K.2.1 x c (O.2 x c r) fun z => absurd (Array.getElem?_eq_some_iff.mp r).1 (Nat.not_lt.mpr (q x z))⟩
theorem own_Xw {h0 : Heap} (O : Ext h0 h) (W : Wr h h' a sl v) (q : h0.size ≤ a) : Ext h0 h' := own_Xk O (Keep.of_wr W) (allS q all0)
theorem own_val {cl : Cell} (q : cl.slots = vs.toArray) {j : Nat} (hv : vs[j]? = some v) : cl.slots[j]? = some v := by rw [q, List.getElem?_toArray]; exact hv
theorem own_lt {j : Nat} (hv : vs[j]? = some v) : j < vs.length := (List.getElem?_eq_some_iff.mp hv).1
theorem own_ldJ (X : Stand p l e R s m args below meth c T locs cells slots) (hx : p.tables.exec = Jvm.exec) (hZ : Z.Warmed39 s.vm) (eT : T.heap = h) (F : own_Ar Z h a .long vs) {j : Int32} (hj : ¬ j < 0) (hv : vs[j.toNatClampNeg]? = some v) {g : JFrame} (hg : g.method = m) {rest : List Value} (hs : g.stack = .int j :: .ref a :: rest) (hd : decode c.code g.pc = .ok (.laload, 1)) :
    ∀ target, Steps p.tables e below (T.setTop { g with pc := g.pc + 1, stack := v :: rest }) target → Steps p.tables e below (T.setTop g) target := by
  obtain ⟨cl, A, q, hin⟩ := own_in_of F hj (own_lt hv)
  exact fun t k => X.laload hx (by rw [eT]; exact A.1) (State.isArrayOf_alike hZ.alike A.2.1) A.2.2 hin (own_val q hv) hg hs hd t k
theorem own_ldI (X : Stand p l e R s m args below meth c T locs cells slots) (hx : p.tables.exec = Jvm.exec) (hZ : Z.Warmed39 s.vm) (eT : T.heap = h) (F : own_Ar Z h a .int vs) {j : Int32} (hj : ¬ j < 0) (hv : vs[j.toNatClampNeg]? = some v) {g : JFrame} (hg : g.method = m) {rest : List Value} (hs : g.stack = .int j :: .ref a :: rest) (hd : decode c.code g.pc = .ok (.iaload, 1)) :
    ∀ target, Steps p.tables e below (T.setTop { g with pc := g.pc + 1, stack := v :: rest }) target → Steps p.tables e below (T.setTop g) target := by
  obtain ⟨cl, A, q, hin⟩ := own_in_of F hj (own_lt hv)
  exact fun t k => X.iaload hx (by rw [eT]; exact A.1) (State.isArrayOf_alike hZ.alike A.2.1) A.2.2 hin (own_val q hv) hg hs hd t k
theorem own_ldB (X : Stand p l e R s m args below meth c T locs cells slots) (hx : p.tables.exec = Jvm.exec) (hZ : Z.Warmed39 s.vm) (eT : T.heap = h) (F : own_Ar Z h a .byte vs) {j : Int32} (hj : ¬ j < 0) (hv : vs[j.toNatClampNeg]? = some v) {g : JFrame} (hg : g.method = m) {rest : List Value} (hs : g.stack = .int j :: .ref a :: rest) (hd : decode c.code g.pc = .ok (.baload, 1)) :
    ∀ target, Steps p.tables e below (T.setTop { g with pc := g.pc + 1, stack := v :: rest }) target → Steps p.tables e below (T.setTop g) target := by
  obtain ⟨cl, A, q, hin⟩ := own_in_of F hj (own_lt hv)
  exact fun t k => X.baloadBytes hx (by rw [eT]; exact A.1) (State.isArrayOf_alike hZ.alike A.2.1) A.2.2 hin (own_val q hv) hg hs hd t k
theorem own_ldC (X : Stand p l e R s m args below meth c T locs cells slots) (hx : p.tables.exec = Jvm.exec) (hZ : Z.Warmed39 s.vm) (eT : T.heap = h) (F : own_Ar Z h a .char vs) {j : Int32} (hj : ¬ j < 0) (hv : vs[j.toNatClampNeg]? = some v) {g : JFrame} (hg : g.method = m) {rest : List Value} (hs : g.stack = .int j :: .ref a :: rest) (hd : decode c.code g.pc = .ok (.caload, 1)) :
    ∀ target, Steps p.tables e below (T.setTop { g with pc := g.pc + 1, stack := v :: rest }) target → Steps p.tables e below (T.setTop g) target := by
  obtain ⟨cl, A, q, hin⟩ := own_in_of F hj (own_lt hv)
  exact fun t k => X.caload hx (by rw [eT]; exact A.1) (State.isArrayOf_alike hZ.alike A.2.1) A.2.2 hin (own_val q hv) hg hs hd t k
theorem own_ldA (X : Stand p l e R s m args below meth c T locs cells slots) (hx : p.tables.exec = Jvm.exec) (hZ : Z.Warmed39 s.vm) (eT : T.heap = h) (hty : ty.isReference = true) (F : own_Ar Z h a ty vs) {j : Int32} (hj : ¬ j < 0) (hv : vs[j.toNatClampNeg]? = some v) {g : JFrame} (hg : g.method = m) {rest : List Value} (hs : g.stack = .int j :: .ref a :: rest) (hd : decode c.code g.pc = .ok (.aaload, 1)) :
    ∀ target, Steps p.tables e below (T.setTop { g with pc := g.pc + 1, stack := v :: rest }) target → Steps p.tables e below (T.setTop g) target := by
  obtain ⟨cl, A, q, hin⟩ := own_in_of F hj (own_lt hv)
  exact fun t k => X.aaload hx (by rw [eT]; exact A.1) (State.isArrayOf_alike hZ.alike A.2.1) hty A.2.2 hin (own_val q hv) hg hs hd t k
theorem own_len (X : Stand p l e R s m args below meth c T locs cells slots) (hx : p.tables.exec = Jvm.exec) (hZ : Z.Warmed39 s.vm) (eT : T.heap = h) (F : own_Ar Z h a ty vs) {n : Int32} (hn : vs.length.toInt32 = n) {g : JFrame} (hg : g.method = m) {rest : List Value} (hs : g.stack = .ref a :: rest) (hd : decode c.code g.pc = .ok (.arraylength, 1)) :
    ∀ target, Steps p.tables e below (T.setTop { g with pc := g.pc + 1, stack := .int n :: rest }) target → Steps p.tables e below (T.setTop g) target := by
  obtain ⟨cl, A, q⟩ := F
  intro t k
  refine X.arraylength hx (by rw [eT]; exact A.1) (State.isArrayOf_alike hZ.alike A.2.1) hg hs hd t ?_
  rw [q, List.size_toArray, hn]; exact k
end OwnArr
end Jvm.RoadKit
namespace Jvm.Pilot.@@N@@
open Jvm Jvm.ClassFile Sem Op Lib Jvm.Free Jvm.Stand Jvm.LawKit Jvm.RoadKit Bundle Jvm.Pilot.@@N@@.Jvm.D
theorem own_rate (z : Int64) : ¬ (z &&& (9223372036854775807 : Int64)) < (0 : Int64) := by
  have h1 : (z &&& (9223372036854775807 : Int64)).toInt = z.toInt % ((2 ^ 63 : Nat) : Int) := c_maskL z 9223372036854775807 63 (by decide) (by decide)
  have e0 : (0 : Int64).toInt = 0 := by decide
  rw [Int64.lt_iff_toInt_lt, h1, e0]; omega
theorem own_asym {x y : Int64} (h : x < y) (h' : y < x) : False := by
  rw [Int64.lt_iff_toInt_lt] at h h'; omega
theorem own_gt0 {x : Int64} (h1 : ¬ (x = (0 : Int64))) (h2 : ¬ (x < (0 : Int64))) : (0 : Int64) < x := by
  have e0 : (0 : Int64).toInt = 0 := by decide
  have h3 : x.toInt ≠ 0 := fun z => h1 (Int64.toInt_inj.mp (z.trans e0.symm))
  rw [Int64.lt_iff_toInt_lt, e0] at h2 ⊢; omega
theorem d2_0 : decode jdk_30_method_1_code 0 = .ok (.aload_n 0, 1) := by decide +kernel
theorem d2_1 : decode jdk_30_method_1_code 1 = .ok (.invokespecial 1, 3) := by decide +kernel
theorem d2_4 : decode jdk_30_method_1_code 4 = .ok (.return_, 1) := by decide +kernel
set_option maxRecDepth 65536 in
set_option maxHeartbeats 40000000 in
theorem rm_rec (l : Launch) (Z : State) (a0 : Array Value) (hw : ∀ d ∈ tables_1, d.before a0 Z = true) (ws : List Jvm.Cond) (a : Addr) (h0 : Heap)  :
    own_Met l (⟨"java/lang/Record", "<init>", "()V"⟩ : MethodName) jdk_30_method_1_code 1 none ws ({ frames := 1, cells := 0, slots := 0, locals := 12 } : Room) Z #[(.ref a)] h0 (fun v h L => v = none ∧ h = h0 ∧ L = []) := by
  refine MetFree.of_bodySF (plainFor_of_name (by first | (simp [plainName, overriddenIn]; done) | decide +kernel)) hisR ?_
  intro p e s m args below meth c s₁ Bd hml0 hP hK
  obtain ⟨rfl, hZ, hh⟩ := hP
  have hx := Bd.exec
  have hby := Bd.bytes
  have hml : c.maxLocals = 1 := hml0
  have hown : s.vm.findClass "java/lang/Record" = some m.cls := findClass_of_methodNamed Bd.named
  have hnm := (name_of_methodNamed Bd.named Bd.method).1
  have hlk : meth.locks = false := Bd.notSynchronized
  have hret := Bd.returns
  have X0 : Stand p l e ({ frames := 1, cells := 0, slots := 0, locals := 12 } : Room) s m #[(.ref a)] below meth c s₁ [] 0 0 := Stand.of_body Bd
  have e0 : s₁.heap = h0 := by rw [← hh, Bd.state]; rfl
  refine own_in (Q := fun v h L => v = none ∧ h = h0 ∧ L = []) (ef := by first | (simp [entryFrame, mkF, argsToLocals, Value.category, maxLocals]; done) | rfl) (g' := (mkF m 0 #[.val (.ref a)] [])) ?_
  refine own_go (T' := s₁) (g' := (mkF m 1 #[.val (.ref a)] [(.ref a)])) (fun t q => XS.aloadN X0.here hx rfl (hb hby d2_0) rfl rfl q) ?_
  obtain ⟨T1, X1, e1, st1⟩ := initO X0 hx hZ hown (hw _ (List.mem_of_getElem? (i := 15) rfl)) (hw _ (List.mem_of_getElem? (i := 16) rfl)) (hw _ (List.mem_of_getElem? (i := 17) rfl)) e0 (g := (mkF m 1 #[.val (.ref a)] [(.ref a)])) rfl (by rw [hml]; rfl) rfl (hb hby d2_1) (by decide) (W := 0) (by show 2 * 0 + _ ≤ _; exact Nat.le_of_eq rfl) (by decide)
  refine own_go (T' := T1) (g' := (mkF m 4 #[.val (.ref a)] [])) (fun t q => st1 t q) ?_
  refine own_outV X1 hx hlk hret (hb hby d2_4) ?_ (by decide) (by decide)
  exact ⟨rfl, e1, rfl⟩
theorem d1_0 : decode prog_73_method_1_code 0 = .ok (.aload_n 0, 1) := by decide +kernel
theorem d1_1 : decode prog_73_method_1_code 1 = .ok (.invokespecial 1, 3) := by decide +kernel
theorem d1_4 : decode prog_73_method_1_code 4 = .ok (.iload_n 1, 1) := by decide +kernel
theorem d1_5 : decode prog_73_method_1_code 5 = .ok (.ifCond .le 7, 3) := by decide +kernel
theorem d1_8 : decode prog_73_method_1_code 8 = .ok (.iload_n 2, 1) := by decide +kernel
theorem d1_9 : decode prog_73_method_1_code 9 = .ok (.ifCond .gt 18, 3) := by decide +kernel
theorem d1_27 : decode prog_73_method_1_code 27 = .ok (.aload_n 0, 1) := by decide +kernel
theorem d1_28 : decode prog_73_method_1_code 28 = .ok (.iload_n 1, 1) := by decide +kernel
theorem d1_29 : decode prog_73_method_1_code 29 = .ok (.putfield 16, 3) := by decide +kernel
theorem d1_32 : decode prog_73_method_1_code 32 = .ok (.aload_n 0, 1) := by decide +kernel
theorem d1_33 : decode prog_73_method_1_code 33 = .ok (.iload_n 2, 1) := by decide +kernel
theorem d1_34 : decode prog_73_method_1_code 34 = .ok (.putfield 22, 3) := by decide +kernel
theorem d1_37 : decode prog_73_method_1_code 37 = .ok (.return_, 1) := by decide +kernel
set_option maxRecDepth 65536 in
set_option maxHeartbeats 40000000 in
theorem rm_ct (l : Launch) (Z : State) (a0 : Array Value) (hw : ∀ d ∈ tables_1, d.before a0 Z = true) (ws : List Jvm.Cond) (n0 : Nat) (a : Addr) (h0 : Heap) (Z0 : n0 ≤ h0.size) (ga : n0 ≤ a) (A0 : Exa Z h0 a "com/example/mendline/mendline/protocol/ChainTimeouts") (B0 : Fld Z h0 a "com/example/mendline/mendline/protocol/ChainTimeouts" "baseMs" "I" (.int (0 : Int32))) (B1 : Fld Z h0 a "com/example/mendline/mendline/protocol/ChainTimeouts" "perServerMs" "I" (.int (0 : Int32))) :
    own_Met l (⟨"com/example/mendline/mendline/protocol/ChainTimeouts", "<init>", "(II)V"⟩ : MethodName) prog_73_method_1_code 3 none ws ({ frames := 2, cells := 0, slots := 0, locals := 24 } : Room) Z #[(.ref a), (.int (1 : Int32)), (.int (1 : Int32))] h0 (fun v h L => v = none ∧ Fr n0 L ∧ Keep h0 h [a]) := by
  refine MetFree.of_bodySF (plainFor_of_name (by first | (simp [plainName, overriddenIn]; done) | decide +kernel)) hisR ?_
  intro p e s m args below meth c s₁ Bd hml0 hP hK
  obtain ⟨rfl, hZ, hh⟩ := hP
  have hx := Bd.exec
  have hby := Bd.bytes
  have hml : c.maxLocals = 3 := hml0
  have hown : s.vm.findClass "com/example/mendline/mendline/protocol/ChainTimeouts" = some m.cls := findClass_of_methodNamed Bd.named
  have hnm := (name_of_methodNamed Bd.named Bd.method).1
  have hlk : meth.locks = false := Bd.notSynchronized
  have hret := Bd.returns
  have X0 : Stand p l e ({ frames := 2, cells := 0, slots := 0, locals := 24 } : Room) s m #[(.ref a), (.int (1 : Int32)), (.int (1 : Int32))] below meth c s₁ [] 0 0 := Stand.of_body Bd
  have e0 : s₁.heap = h0 := by rw [← hh, Bd.state]; rfl
  refine own_in (Q := fun v h L => v = none ∧ Fr n0 L ∧ Keep h0 h [a]) (ef := by first | (simp [entryFrame, mkF, argsToLocals, Value.category, maxLocals]; done) | rfl) (g' := (mkF m 0 #[.val (.ref a), .val (.int (1 : Int32)), .val (.int (1 : Int32))] [])) ?_
  refine own_go (T' := s₁) (g' := (mkF m 1 #[.val (.ref a), .val (.int (1 : Int32)), .val (.int (1 : Int32))] [(.ref a)])) (fun t q => XS.aloadN X0.here hx rfl (hb hby d1_0) rfl rfl q) ?_
  obtain ⟨v1, T1, L1, X1, Q1, st1⟩ := own_callP X0 hx hZ (y := (⟨"java/lang/Record", "<init>", "()V"⟩ : MethodName)) (a := a) (argsL := []) (rest := []) hown rfl (hw _ (List.mem_of_getElem? (i := 10) rfl)) (hw _ (List.mem_of_getElem? (i := 11) rfl)) (hw _ (List.mem_of_getElem? (i := 13) rfl)) (hw _ (List.mem_of_getElem? (i := 14) rfl)) (rm_rec l Z a0 hw [] a h0) e0 (by decide) (by decide) 0 (by decide) (by decide) (by decide) (g := (mkF m 1 #[.val (.ref a), .val (.int (1 : Int32)), .val (.int (1 : Int32))] [(.ref a)])) rfl (by rw [hml]; rfl) (lenOf (ps := []) (r := none) (by decide +kernel) rfl) rfl (by show 2 * 0 + _ ≤ _; exact Nat.le_of_eq rfl) (hb hby d1_1)
  obtain ⟨rfl, e1, rfl⟩ := Q1
  refine own_go (T' := T1) (g' := (mkF m 4 #[.val (.ref a), .val (.int (1 : Int32)), .val (.int (1 : Int32))] [])) (fun t q => st1 t q) ?_
  refine own_go (T' := T1) (g' := (mkF m 5 #[.val (.ref a), .val (.int (1 : Int32)), .val (.int (1 : Int32))] [(.int (1 : Int32))])) (fun t q => XS.iloadN X1.here hx rfl (hb hby d1_4) rfl q) ?_
  have c2 : (0 : Int32) < (1 : Int32) := by decide
  refine own_go (T' := T1) (g' := (mkF m 8 #[.val (.ref a), .val (.int (1 : Int32)), .val (.int (1 : Int32))] [])) (fun t q => XS.ifNo X1.here hx rfl (hb hby d1_5) rfl ((if0 _ _).trans (tlt c2).2.2.2) q) ?_
  refine own_go (T' := T1) (g' := (mkF m 9 #[.val (.ref a), .val (.int (1 : Int32)), .val (.int (1 : Int32))] [(.int (1 : Int32))])) (fun t q => XS.iloadN X1.here hx rfl (hb hby d1_8) rfl q) ?_
  have c3 : (0 : Int32) < (1 : Int32) := by decide
  refine own_go (T' := T1) (g' := (mkF m 27 #[.val (.ref a), .val (.int (1 : Int32)), .val (.int (1 : Int32))] [])) (fun t q => XS.ifYes X1.here hx rfl (pc0 := 9) (pc' := 27) rfl (hb hby d1_9) rfl ((if0 _ _).trans (tlt c3).2.2.1) (by decide) (by decide) q) ?_
  refine own_go (T' := T1) (g' := (mkF m 28 #[.val (.ref a), .val (.int (1 : Int32)), .val (.int (1 : Int32))] [(.ref a)])) (fun t q => XS.aloadN X1.here hx rfl (hb hby d1_27) rfl rfl q) ?_
  refine own_go (T' := T1) (g' := (mkF m 29 #[.val (.ref a), .val (.int (1 : Int32)), .val (.int (1 : Int32))] [(.int (1 : Int32)), (.ref a)])) (fun t q => XS.iloadN X1.here hx rfl (hb hby d1_28) rfl q) ?_
  obtain ⟨T4, h4, X4, e4, W4, st4⟩ := putF X1 hx hZ hown (host := "") (Or.inl (hw _ (List.mem_of_getElem? (i := 18) rfl))) Via.refl e1 B0 A0 (Or.inr ⟨(hw _ (List.mem_of_getElem? (i := 19) rfl)), rfl, hnm⟩) (hw _ (List.mem_of_getElem? (i := 5) rfl)) (ty := .int) (by decide) rfl rfl (g := (mkF m 29 #[.val (.ref a), .val (.int (1 : Int32)), .val (.int (1 : Int32))] [(.int (1 : Int32)), (.ref a)])) rfl rfl (hb hby d1_29)
  have N4 := Fr.snoc X4 (Fr.app (Fr.nil _) (Fr.nil _)) ga
  have P4 : Keep h0 h4 [a] := (Keep.refl _ _).wr W4 (Or.inl (List.mem_of_getElem? (i := 0) rfl))
  have f5 := A0.wr W4
  have f6 := B1.other W4 (Or.inr (slot_ne (Or.inr (hw _ (List.mem_of_getElem? (i := 21) rfl))) (Or.inr (hw _ (List.mem_of_getElem? (i := 19) rfl))) (by decide) (t := .int) (t' := .int) (by decide) (by decide)))
  have f4_ : Fld Z h4 a "com/example/mendline/mendline/protocol/ChainTimeouts" "baseMs" "I" (.int (1 : Int32)) := B0.same W4
  have sz4 : n0 ≤ h4.size := by rw [W4.size]; exact Z0
  refine own_go (T' := T4) (g' := (mkF m 32 #[.val (.ref a), .val (.int (1 : Int32)), .val (.int (1 : Int32))] [])) (fun t q => st4 t q) ?_
  refine own_go (T' := T4) (g' := (mkF m 33 #[.val (.ref a), .val (.int (1 : Int32)), .val (.int (1 : Int32))] [(.ref a)])) (fun t q => XS.aloadN X4.here hx rfl (hb hby d1_32) rfl rfl q) ?_
  refine own_go (T' := T4) (g' := (mkF m 34 #[.val (.ref a), .val (.int (1 : Int32)), .val (.int (1 : Int32))] [(.int (1 : Int32)), (.ref a)])) (fun t q => XS.iloadN X4.here hx rfl (hb hby d1_33) rfl q) ?_
  obtain ⟨T7, h7, X7, e7, W7, st7⟩ := putF X4 hx hZ hown (host := "") (Or.inl (hw _ (List.mem_of_getElem? (i := 20) rfl))) Via.refl e4 f6 f5 (Or.inr ⟨(hw _ (List.mem_of_getElem? (i := 21) rfl)), rfl, hnm⟩) (hw _ (List.mem_of_getElem? (i := 5) rfl)) (ty := .int) (by decide) rfl rfl (g := (mkF m 34 #[.val (.ref a), .val (.int (1 : Int32)), .val (.int (1 : Int32))] [(.int (1 : Int32)), (.ref a)])) rfl rfl (hb hby d1_34)
  have N7 := Fr.snoc X7 N4 ga
  have P7 : Keep h0 h7 [a] := P4.wr W7 (Or.inl (List.mem_of_getElem? (i := 0) rfl))
  have f8 := f5.wr W7
  have f9 := f4_.other W7 (Or.inr (slot_ne (Or.inr (hw _ (List.mem_of_getElem? (i := 19) rfl))) (Or.inr (hw _ (List.mem_of_getElem? (i := 21) rfl))) (by decide) (t := .int) (t' := .int) (by decide) (by decide)))
  have f7_ : Fld Z h7 a "com/example/mendline/mendline/protocol/ChainTimeouts" "perServerMs" "I" (.int (1 : Int32)) := f6.same W7
  have sz7 : n0 ≤ h7.size := by rw [W7.size]; exact sz4
  refine own_go (T' := T7) (g' := (mkF m 37 #[.val (.ref a), .val (.int (1 : Int32)), .val (.int (1 : Int32))] [])) (fun t q => st7 t q) ?_
  refine own_outV X7 hx hlk hret (hb hby d1_37) ?_ (by decide) (by decide)
  rw [e7]
  exact ⟨rfl, N7, P7⟩
theorem d4_0 : decode prog_31_method_1_code 0 = .ok (.aload_n 0, 1) := by decide +kernel
theorem d4_1 : decode prog_31_method_1_code 1 = .ok (.invokespecial 1, 3) := by decide +kernel
theorem d4_4 : decode prog_31_method_1_code 4 = .ok (.lload_n 2, 1) := by decide +kernel
theorem d4_5 : decode prog_31_method_1_code 5 = .ok (.lconst 0, 1) := by decide +kernel
theorem d4_6 : decode prog_31_method_1_code 6 = .ok (.lcmp, 1) := by decide +kernel
theorem d4_7 : decode prog_31_method_1_code 7 = .ok (.ifCond .eq 10, 3) := by decide +kernel
theorem d4_10 : decode prog_31_method_1_code 10 = .ok (.lload 4, 2) := by decide +kernel
theorem d4_12 : decode prog_31_method_1_code 12 = .ok (.lconst 0, 1) := by decide +kernel
theorem d4_13 : decode prog_31_method_1_code 13 = .ok (.lcmp, 1) := by decide +kernel
theorem d4_14 : decode prog_31_method_1_code 14 = .ok (.ifCond .ge 19, 3) := by decide +kernel
theorem d4_33 : decode prog_31_method_1_code 33 = .ok (.aload_n 0, 1) := by decide +kernel
theorem d4_34 : decode prog_31_method_1_code 34 = .ok (.aload_n 1, 1) := by decide +kernel
theorem d4_35 : decode prog_31_method_1_code 35 = .ok (.putfield 16, 3) := by decide +kernel
theorem d4_38 : decode prog_31_method_1_code 38 = .ok (.aload_n 0, 1) := by decide +kernel
theorem d4_39 : decode prog_31_method_1_code 39 = .ok (.lload_n 2, 1) := by decide +kernel
theorem d4_40 : decode prog_31_method_1_code 40 = .ok (.putfield 22, 3) := by decide +kernel
theorem d4_43 : decode prog_31_method_1_code 43 = .ok (.aload_n 0, 1) := by decide +kernel
theorem d4_44 : decode prog_31_method_1_code 44 = .ok (.lload 4, 2) := by decide +kernel
theorem d4_46 : decode prog_31_method_1_code 46 = .ok (.putfield 26, 3) := by decide +kernel
theorem d4_49 : decode prog_31_method_1_code 49 = .ok (.return_, 1) := by decide +kernel
set_option maxRecDepth 65536 in
set_option maxHeartbeats 40000000 in
theorem rm_se (l : Launch) (Z : State) (a0 : Array Value) (hw : ∀ d ∈ tables_1, d.before a0 Z = true) (ws : List Jvm.Cond) (n0 : Nat) (a b : Addr) (p1 p2 : Int64) (h0 : Heap) (Z0 : n0 ≤ h0.size) (ga : n0 ≤ a) (A0 : Exa Z h0 a "com/example/mendline/mendline/data/DataServer$Settings") (B0 : Fld Z h0 a "com/example/mendline/mendline/data/DataServer$Settings" "chainTimeouts" "Lcom/example/mendline/mendline/protocol/ChainTimeouts;" .null) (B1 : Fld Z h0 a "com/example/mendline/mendline/data/DataServer$Settings" "scanPeriodSeconds" "J" (.long (0 : Int64))) (B2 : Fld Z h0 a "com/example/mendline/mendline/data/DataServer$Settings" "scanBytesPerSecond" "J" (.long (0 : Int64))) (hp : ¬ (p1 = (0 : Int64))) (hr : ¬ (p2 < (0 : Int64))) :
    own_Met l (⟨"com/example/mendline/mendline/data/DataServer$Settings", "<init>", "(Lcom/example/mendline/mendline/protocol/ChainTimeouts;JJ)V"⟩ : MethodName) prog_31_method_1_code 6 none ws ({ frames := 2, cells := 0, slots := 0, locals := 24 } : Room) Z #[(.ref a), (.ref b), (.long p1), (.long p2)] h0 (fun v h L => v = none ∧ Fr n0 L ∧ Keep h0 h [a] ∧ Exa Z h a "com/example/mendline/mendline/data/DataServer$Settings" ∧ Fld Z h a "com/example/mendline/mendline/data/DataServer$Settings" "scanPeriodSeconds" "J" (.long p1) ∧ Fld Z h a "com/example/mendline/mendline/data/DataServer$Settings" "scanBytesPerSecond" "J" (.long p2)) := by
  refine MetFree.of_bodySF (plainFor_of_name (by first | (simp [plainName, overriddenIn]; done) | decide +kernel)) hisR ?_
  intro p e s m args below meth c s₁ Bd hml0 hP hK
  obtain ⟨rfl, hZ, hh⟩ := hP
  have hx := Bd.exec
  have hby := Bd.bytes
  have hml : c.maxLocals = 6 := hml0
  have hown : s.vm.findClass "com/example/mendline/mendline/data/DataServer$Settings" = some m.cls := findClass_of_methodNamed Bd.named
  have hnm := (name_of_methodNamed Bd.named Bd.method).1
  have hlk : meth.locks = false := Bd.notSynchronized
  have hret := Bd.returns
  have X0 : Stand p l e ({ frames := 2, cells := 0, slots := 0, locals := 24 } : Room) s m #[(.ref a), (.ref b), (.long p1), (.long p2)] below meth c s₁ [] 0 0 := Stand.of_body Bd
  have e0 : s₁.heap = h0 := by rw [← hh, Bd.state]; rfl
  refine own_in (Q := fun v h L => v = none ∧ Fr n0 L ∧ Keep h0 h [a] ∧ Exa Z h a "com/example/mendline/mendline/data/DataServer$Settings" ∧ Fld Z h a "com/example/mendline/mendline/data/DataServer$Settings" "scanPeriodSeconds" "J" (.long p1) ∧ Fld Z h a "com/example/mendline/mendline/data/DataServer$Settings" "scanBytesPerSecond" "J" (.long p2)) (ef := by first | (simp [entryFrame, mkF, argsToLocals, Value.category, maxLocals]; done) | rfl) (g' := (mkF m 0 #[.val (.ref a), .val (.ref b), .val (.long p1), .second, .val (.long p2), .second] [])) ?_
  refine own_go (T' := s₁) (g' := (mkF m 1 #[.val (.ref a), .val (.ref b), .val (.long p1), .second, .val (.long p2), .second] [(.ref a)])) (fun t q => XS.aloadN X0.here hx rfl (hb hby d4_0) rfl rfl q) ?_
  obtain ⟨v1, T1, L1, X1, Q1, st1⟩ := own_callP X0 hx hZ (y := (⟨"java/lang/Record", "<init>", "()V"⟩ : MethodName)) (a := a) (argsL := []) (rest := []) hown rfl (hw _ (List.mem_of_getElem? (i := 25) rfl)) (hw _ (List.mem_of_getElem? (i := 11) rfl)) (hw _ (List.mem_of_getElem? (i := 13) rfl)) (hw _ (List.mem_of_getElem? (i := 14) rfl)) (rm_rec l Z a0 hw [] a h0) e0 (by decide) (by decide) 0 (by decide) (by decide) (by decide) (g := (mkF m 1 #[.val (.ref a), .val (.ref b), .val (.long p1), .second, .val (.long p2), .second] [(.ref a)])) rfl (by rw [hml]; rfl) (lenOf (ps := []) (r := none) (by decide +kernel) rfl) rfl (by show 2 * 0 + _ ≤ _; exact Nat.le_of_eq rfl) (hb hby d4_1)
  obtain ⟨rfl, e1, rfl⟩ := Q1
  refine own_go (T' := T1) (g' := (mkF m 4 #[.val (.ref a), .val (.ref b), .val (.long p1), .second, .val (.long p2), .second] [])) (fun t q => st1 t q) ?_
  refine own_go (T' := T1) (g' := (mkF m 5 #[.val (.ref a), .val (.ref b), .val (.long p1), .second, .val (.long p2), .second] [(.long p1)])) (fun t q => XT.lloadN X1.here hx rfl (hb hby d4_4) rfl q) ?_
  refine own_go (T' := T1) (g' := (mkF m 6 #[.val (.ref a), .val (.ref b), .val (.long p1), .second, .val (.long p2), .second] [(.long (0 : Int64)), (.long p1)])) (fun t q => XT.lconst X1.here hx rfl (hb hby d4_5) q) ?_
  refine own_go (T' := T1) (g' := (mkF m 7 #[.val (.ref a), .val (.ref b), .val (.long p1), .second, .val (.long p2), .second] [(.int (XT.cmpL p1 (0 : Int64)))])) (fun t q => XT.lcmp X1.here hx rfl (hb hby d4_6) rfl q) ?_
  have c2 : ¬ (p1 = (0 : Int64)) := hp
  refine own_go (T' := T1) (g' := (mkF m 10 #[.val (.ref a), .val (.ref b), .val (.long p1), .second, .val (.long p2), .second] [])) (fun t q => XS.ifNo X1.here hx rfl (hb hby d4_7) rfl ((if0 _ _).trans (feq (fun z => c2 ((own_leq p1 (0 : Int64)).mp z))).1) q) ?_
  refine own_go (T' := T1) (g' := (mkF m 12 #[.val (.ref a), .val (.ref b), .val (.long p1), .second, .val (.long p2), .second] [(.long p2)])) (fun t q => XT.lload X1.here hx rfl (hb hby d4_10) rfl q) ?_
  refine own_go (T' := T1) (g' := (mkF m 13 #[.val (.ref a), .val (.ref b), .val (.long p1), .second, .val (.long p2), .second] [(.long (0 : Int64)), (.long p2)])) (fun t q => XT.lconst X1.here hx rfl (hb hby d4_12) q) ?_
  refine own_go (T' := T1) (g' := (mkF m 14 #[.val (.ref a), .val (.ref b), .val (.long p1), .second, .val (.long p2), .second] [(.int (XT.cmpL p2 (0 : Int64)))])) (fun t q => XT.lcmp X1.here hx rfl (hb hby d4_13) rfl q) ?_
  have c3 : ¬ (p2 < (0 : Int64)) := hr
  refine own_go (T' := T1) (g' := (mkF m 33 #[.val (.ref a), .val (.ref b), .val (.long p1), .second, .val (.long p2), .second] [])) (fun t q => XS.ifYes X1.here hx rfl (pc0 := 14) (pc' := 33) rfl (hb hby d4_14) rfl ((if0 _ _).trans (flt (fun z => c3 ((own_llt p2 (0 : Int64)).mp z))).2.1) (by decide) (by decide) q) ?_
  refine own_go (T' := T1) (g' := (mkF m 34 #[.val (.ref a), .val (.ref b), .val (.long p1), .second, .val (.long p2), .second] [(.ref a)])) (fun t q => XS.aloadN X1.here hx rfl (hb hby d4_33) rfl rfl q) ?_
  refine own_go (T' := T1) (g' := (mkF m 35 #[.val (.ref a), .val (.ref b), .val (.long p1), .second, .val (.long p2), .second] [(.ref b), (.ref a)])) (fun t q => XS.aloadN X1.here hx rfl (hb hby d4_34) rfl rfl q) ?_
  obtain ⟨T4, h4, X4, e4, W4, st4⟩ := putF X1 hx hZ hown (host := "") (Or.inl (hw _ (List.mem_of_getElem? (i := 26) rfl))) Via.refl e1 B0 A0 (Or.inr ⟨(hw _ (List.mem_of_getElem? (i := 27) rfl)), rfl, hnm⟩) (hw _ (List.mem_of_getElem? (i := 2) rfl)) (ty := (.object "com/example/mendline/mendline/protocol/ChainTimeouts")) (by decide) rfl rfl (g := (mkF m 35 #[.val (.ref a), .val (.ref b), .val (.long p1), .second, .val (.long p2), .second] [(.ref b), (.ref a)])) rfl rfl (hb hby d4_35)
  have N4 := Fr.snoc X4 (Fr.app (Fr.nil _) (Fr.nil _)) ga
  have P4 : Keep h0 h4 [a] := (Keep.refl _ _).wr W4 (Or.inl (List.mem_of_getElem? (i := 0) rfl))
  have f5 := A0.wr W4
  have f6 := B1.other W4 (Or.inr (slot_ne (Or.inr (hw _ (List.mem_of_getElem? (i := 29) rfl))) (Or.inr (hw _ (List.mem_of_getElem? (i := 27) rfl))) (by decide) (t := .long) (t' := (.object "com/example/mendline/mendline/protocol/ChainTimeouts")) (by decide) (by decide)))
  have f7 := B2.other W4 (Or.inr (slot_ne (Or.inr (hw _ (List.mem_of_getElem? (i := 31) rfl))) (Or.inr (hw _ (List.mem_of_getElem? (i := 27) rfl))) (by decide) (t := .long) (t' := (.object "com/example/mendline/mendline/protocol/ChainTimeouts")) (by decide) (by decide)))
  have f4_ : Fld Z h4 a "com/example/mendline/mendline/data/DataServer$Settings" "chainTimeouts" "Lcom/example/mendline/mendline/protocol/ChainTimeouts;" (.ref b) := B0.same W4
  have sz4 : n0 ≤ h4.size := by rw [W4.size]; exact Z0
  refine own_go (T' := T4) (g' := (mkF m 38 #[.val (.ref a), .val (.ref b), .val (.long p1), .second, .val (.long p2), .second] [])) (fun t q => st4 t q) ?_
  refine own_go (T' := T4) (g' := (mkF m 39 #[.val (.ref a), .val (.ref b), .val (.long p1), .second, .val (.long p2), .second] [(.ref a)])) (fun t q => XS.aloadN X4.here hx rfl (hb hby d4_38) rfl rfl q) ?_
  refine own_go (T' := T4) (g' := (mkF m 40 #[.val (.ref a), .val (.ref b), .val (.long p1), .second, .val (.long p2), .second] [(.long p1), (.ref a)])) (fun t q => XT.lloadN X4.here hx rfl (hb hby d4_39) rfl q) ?_
  obtain ⟨T8, h8, X8, e8, W8, st8⟩ := putF X4 hx hZ hown (host := "") (Or.inl (hw _ (List.mem_of_getElem? (i := 28) rfl))) Via.refl e4 f6 f5 (Or.inr ⟨(hw _ (List.mem_of_getElem? (i := 29) rfl)), rfl, hnm⟩) (hw _ (List.mem_of_getElem? (i := 2) rfl)) (ty := .long) (by decide) rfl rfl (g := (mkF m 40 #[.val (.ref a), .val (.ref b), .val (.long p1), .second, .val (.long p2), .second] [(.long p1), (.ref a)])) rfl rfl (hb hby d4_40)
  have N8 := Fr.snoc X8 N4 ga
  have P8 : Keep h0 h8 [a] := P4.wr W8 (Or.inl (List.mem_of_getElem? (i := 0) rfl))
  have f9 := f5.wr W8
  have f10 := f7.other W8 (Or.inr (slot_ne (Or.inr (hw _ (List.mem_of_getElem? (i := 31) rfl))) (Or.inr (hw _ (List.mem_of_getElem? (i := 29) rfl))) (by decide) (t := .long) (t' := .long) (by decide) (by decide)))
  have f11 := f4_.other W8 (Or.inr (slot_ne (Or.inr (hw _ (List.mem_of_getElem? (i := 27) rfl))) (Or.inr (hw _ (List.mem_of_getElem? (i := 29) rfl))) (by decide) (t := (.object "com/example/mendline/mendline/protocol/ChainTimeouts")) (t' := .long) (by decide) (by decide)))
  have f8_ : Fld Z h8 a "com/example/mendline/mendline/data/DataServer$Settings" "scanPeriodSeconds" "J" (.long p1) := f6.same W8
  have sz8 : n0 ≤ h8.size := by rw [W8.size]; exact sz4
  refine own_go (T' := T8) (g' := (mkF m 43 #[.val (.ref a), .val (.ref b), .val (.long p1), .second, .val (.long p2), .second] [])) (fun t q => st8 t q) ?_
  refine own_go (T' := T8) (g' := (mkF m 44 #[.val (.ref a), .val (.ref b), .val (.long p1), .second, .val (.long p2), .second] [(.ref a)])) (fun t q => XS.aloadN X8.here hx rfl (hb hby d4_43) rfl rfl q) ?_
  refine own_go (T' := T8) (g' := (mkF m 46 #[.val (.ref a), .val (.ref b), .val (.long p1), .second, .val (.long p2), .second] [(.long p2), (.ref a)])) (fun t q => XT.lload X8.here hx rfl (hb hby d4_44) rfl q) ?_
  obtain ⟨T12, h12, X12, e12, W12, st12⟩ := putF X8 hx hZ hown (host := "") (Or.inl (hw _ (List.mem_of_getElem? (i := 30) rfl))) Via.refl e8 f10 f9 (Or.inr ⟨(hw _ (List.mem_of_getElem? (i := 31) rfl)), rfl, hnm⟩) (hw _ (List.mem_of_getElem? (i := 2) rfl)) (ty := .long) (by decide) rfl rfl (g := (mkF m 46 #[.val (.ref a), .val (.ref b), .val (.long p1), .second, .val (.long p2), .second] [(.long p2), (.ref a)])) rfl rfl (hb hby d4_46)
  have N12 := Fr.snoc X12 N8 ga
  have P12 : Keep h0 h12 [a] := P8.wr W12 (Or.inl (List.mem_of_getElem? (i := 0) rfl))
  have f13 := f9.wr W12
  have f14 := f11.other W12 (Or.inr (slot_ne (Or.inr (hw _ (List.mem_of_getElem? (i := 27) rfl))) (Or.inr (hw _ (List.mem_of_getElem? (i := 31) rfl))) (by decide) (t := (.object "com/example/mendline/mendline/protocol/ChainTimeouts")) (t' := .long) (by decide) (by decide)))
  have f15 := f8_.other W12 (Or.inr (slot_ne (Or.inr (hw _ (List.mem_of_getElem? (i := 29) rfl))) (Or.inr (hw _ (List.mem_of_getElem? (i := 31) rfl))) (by decide) (t := .long) (t' := .long) (by decide) (by decide)))
  have f12_ : Fld Z h12 a "com/example/mendline/mendline/data/DataServer$Settings" "scanBytesPerSecond" "J" (.long p2) := f10.same W12
  have sz12 : n0 ≤ h12.size := by rw [W12.size]; exact sz8
  refine own_go (T' := T12) (g' := (mkF m 49 #[.val (.ref a), .val (.ref b), .val (.long p1), .second, .val (.long p2), .second] [])) (fun t q => st12 t q) ?_
  refine own_outV X12 hx hlk hret (hb hby d4_49) ?_ (by decide) (by decide)
  rw [e12]
  exact ⟨rfl, N12, P12, f13, f15, f12_⟩
theorem d5_0 : decode prog_31_method_4_code 0 = .ok (.aload_n 0, 1) := by decide +kernel
theorem d5_1 : decode prog_31_method_4_code 1 = .ok (.getfield 22, 3) := by decide +kernel
theorem d5_4 : decode prog_31_method_4_code 4 = .ok (.lconst 0, 1) := by decide +kernel
theorem d5_5 : decode prog_31_method_4_code 5 = .ok (.lcmp, 1) := by decide +kernel
theorem d5_6 : decode prog_31_method_4_code 6 = .ok (.ifCond .le 16, 3) := by decide +kernel
theorem d5_9 : decode prog_31_method_4_code 9 = .ok (.aload_n 0, 1) := by decide +kernel
theorem d5_10 : decode prog_31_method_4_code 10 = .ok (.getfield 26, 3) := by decide +kernel
theorem d5_13 : decode prog_31_method_4_code 13 = .ok (.lconst 0, 1) := by decide +kernel
theorem d5_14 : decode prog_31_method_4_code 14 = .ok (.lcmp, 1) := by decide +kernel
theorem d5_15 : decode prog_31_method_4_code 15 = .ok (.ifCond .le 7, 3) := by decide +kernel
theorem d5_18 : decode prog_31_method_4_code 18 = .ok (.iconst 1, 1) := by decide +kernel
theorem d5_19 : decode prog_31_method_4_code 19 = .ok (.goto 4, 3) := by decide +kernel
theorem d5_22 : decode prog_31_method_4_code 22 = .ok (.iconst 0, 1) := by decide +kernel
theorem d5_23 : decode prog_31_method_4_code 23 = .ok (.ireturn, 1) := by decide +kernel
set_option maxRecDepth 65536 in
set_option maxHeartbeats 40000000 in
theorem rm_sc (l : Launch) (Z : State) (a0 : Array Value) (hw : ∀ d ∈ tables_1, d.before a0 Z = true) (ws : List Jvm.Cond) (a : Addr) (p1 p2 : Int64) (h0 : Heap) (B1 : Fld Z h0 a "com/example/mendline/mendline/data/DataServer$Settings" "scanPeriodSeconds" "J" (.long p1)) (B2 : Fld Z h0 a "com/example/mendline/mendline/data/DataServer$Settings" "scanBytesPerSecond" "J" (.long p2)) :
    own_Met l (⟨"com/example/mendline/mendline/data/DataServer$Settings", "scanning", "()Z"⟩ : MethodName) prog_31_method_4_code 1 (some .boolean) ws ({ frames := 0, cells := 0, slots := 0, locals := 0 } : Room) Z #[(.ref a)] h0 (fun v h L => (((0 : Int64) < p1 ∧ (0 : Int64) < p2 ∧ v = some (.int (1 : Int32))) ∨ ((¬ (0 : Int64) < p1 ∨ ¬ (0 : Int64) < p2) ∧ v = some (.int (0 : Int32)))) ∧ h = h0 ∧ L = []) := by
  refine MetFree.of_bodySF (plainFor_of_name (by first | (simp [plainName, overriddenIn]; done) | decide +kernel)) hisR ?_
  intro p e s m args below meth c s₁ Bd hml0 hP hK
  obtain ⟨rfl, hZ, hh⟩ := hP
  have hx := Bd.exec
  have hby := Bd.bytes
  have hml : c.maxLocals = 1 := hml0
  have hown : s.vm.findClass "com/example/mendline/mendline/data/DataServer$Settings" = some m.cls := findClass_of_methodNamed Bd.named
  have hnm := (name_of_methodNamed Bd.named Bd.method).1
  have hlk : meth.locks = false := Bd.notSynchronized
  have hret := Bd.returns
  have X0 : Stand p l e ({ frames := 0, cells := 0, slots := 0, locals := 0 } : Room) s m #[(.ref a)] below meth c s₁ [] 0 0 := Stand.of_body Bd
  have e0 : s₁.heap = h0 := by rw [← hh, Bd.state]; rfl
  refine own_in (Q := fun v h L => (((0 : Int64) < p1 ∧ (0 : Int64) < p2 ∧ v = some (.int (1 : Int32))) ∨ ((¬ (0 : Int64) < p1 ∨ ¬ (0 : Int64) < p2) ∧ v = some (.int (0 : Int32)))) ∧ h = h0 ∧ L = []) (ef := by first | (simp [entryFrame, mkF, argsToLocals, Value.category, maxLocals]; done) | rfl) (g' := (mkF m 0 #[.val (.ref a)] [])) ?_
  refine own_go (T' := s₁) (g' := (mkF m 1 #[.val (.ref a)] [(.ref a)])) (fun t q => XS.aloadN X0.here hx rfl (hb hby d5_0) rfl rfl q) ?_
  obtain ⟨T1, X1, e1, st1⟩ := getF X0 hx hZ hown (host := "") (Or.inl (hw _ (List.mem_of_getElem? (i := 28) rfl))) Via.refl e0 B1 (g := (mkF m 1 #[.val (.ref a)] [(.ref a)])) rfl rfl (hb hby d5_1)
  refine own_go (T' := T1) (g' := (mkF m 4 #[.val (.ref a)] [(.long p1)])) (fun t q => st1 t q) ?_
  refine own_go (T' := T1) (g' := (mkF m 5 #[.val (.ref a)] [(.long (0 : Int64)), (.long p1)])) (fun t q => XT.lconst X1.here hx rfl (hb hby d5_4) q) ?_
  refine own_go (T' := T1) (g' := (mkF m 6 #[.val (.ref a)] [(.int (XT.cmpL p1 (0 : Int64)))])) (fun t q => XT.lcmp X1.here hx rfl (hb hby d5_5) rfl q) ?_
  by_cases c2 : (0 : Int64) < p1
  · refine own_go (T' := T1) (g' := (mkF m 9 #[.val (.ref a)] [])) (fun t q => XS.ifNo X1.here hx rfl (hb hby d5_6) rfl ((if0 _ _).trans (tlt ((own_lgt p1 (0 : Int64)).mpr c2)).2.2.2) q) ?_
    refine own_go (T' := T1) (g' := (mkF m 10 #[.val (.ref a)] [(.ref a)])) (fun t q => XS.aloadN X1.here hx rfl (hb hby d5_9) rfl rfl q) ?_
    obtain ⟨T3, X3, e3, st3⟩ := getF X1 hx hZ hown (host := "") (Or.inl (hw _ (List.mem_of_getElem? (i := 30) rfl))) Via.refl e1 B2 (g := (mkF m 10 #[.val (.ref a)] [(.ref a)])) rfl rfl (hb hby d5_10)
    refine own_go (T' := T3) (g' := (mkF m 13 #[.val (.ref a)] [(.long p2)])) (fun t q => st3 t q) ?_
    refine own_go (T' := T3) (g' := (mkF m 14 #[.val (.ref a)] [(.long (0 : Int64)), (.long p2)])) (fun t q => XT.lconst X3.here hx rfl (hb hby d5_13) q) ?_
    refine own_go (T' := T3) (g' := (mkF m 15 #[.val (.ref a)] [(.int (XT.cmpL p2 (0 : Int64)))])) (fun t q => XT.lcmp X3.here hx rfl (hb hby d5_14) rfl q) ?_
    by_cases c4 : (0 : Int64) < p2
    · refine own_go (T' := T3) (g' := (mkF m 18 #[.val (.ref a)] [])) (fun t q => XS.ifNo X3.here hx rfl (hb hby d5_15) rfl ((if0 _ _).trans (tlt ((own_lgt p2 (0 : Int64)).mpr c4)).2.2.2) q) ?_
      refine own_go (T' := T3) (g' := (mkF m 19 #[.val (.ref a)] [(.int (1 : Int32))])) (fun t q => XS.iconst X3.here hx rfl (hb hby d5_18) q) ?_
      refine own_go (T' := T3) (g' := (mkF m 23 #[.val (.ref a)] [(.int (1 : Int32))])) (fun t q => XS.goto X3.here hx rfl (pc0 := 19) (pc' := 23) rfl (hb hby d5_19) (by decide) (by decide) q) ?_
      refine own_outN X3 hx hlk hret (t := .boolean) (by simp) (hb hby d5_23) (w := (1 : Int32)) (by decide) ?_ (by decide) (by decide)
      exact ⟨Or.inl ⟨c2, c4, rfl⟩, e3, rfl⟩
    · refine own_go (T' := T3) (g' := (mkF m 22 #[.val (.ref a)] [])) (fun t q => XS.ifYes X3.here hx rfl (pc0 := 15) (pc' := 22) rfl (hb hby d5_15) rfl ((if0 _ _).trans (flt (fun z => c4 ((own_lgt p2 (0 : Int64)).mp z))).2.2.2) (by decide) (by decide) q) ?_
      refine own_go (T' := T3) (g' := (mkF m 23 #[.val (.ref a)] [(.int (0 : Int32))])) (fun t q => XS.iconst X3.here hx rfl (hb hby d5_22) q) ?_
      refine own_outN X3 hx hlk hret (t := .boolean) (by simp) (hb hby d5_23) (w := (0 : Int32)) (by decide) ?_ (by decide) (by decide)
      exact ⟨Or.inr ⟨Or.inr c4, rfl⟩, e3, rfl⟩
  · refine own_go (T' := T1) (g' := (mkF m 22 #[.val (.ref a)] [])) (fun t q => XS.ifYes X1.here hx rfl (pc0 := 6) (pc' := 22) rfl (hb hby d5_6) rfl ((if0 _ _).trans (flt (fun z => c2 ((own_lgt p1 (0 : Int64)).mp z))).2.2.2) (by decide) (by decide) q) ?_
    refine own_go (T' := T1) (g' := (mkF m 23 #[.val (.ref a)] [(.int (0 : Int32))])) (fun t q => XS.iconst X1.here hx rfl (hb hby d5_22) q) ?_
    refine own_outN X1 hx hlk hret (t := .boolean) (by simp) (hb hby d5_23) (w := (0 : Int32)) (by decide) ?_ (by decide) (by decide)
    exact ⟨Or.inr ⟨Or.inl c2, rfl⟩, e1, rfl⟩
set_option maxRecDepth 65536 in
set_option maxHeartbeats 40000000 in
theorem rm0 (l : Launch) (Z : State) (a0 : Array Value) (hw : ∀ d ∈ tables_1, d.before a0 Z = true) (ws : List Jvm.Cond) (p1 p2 : Int64) (h0 : Heap)  :
    own_Met l x code maxLocals ret ws room_1 Z #[(.long p1), (.long p2)] h0 (fun v _ L => v = some (.int (1 : Int32)) ∧ Fr h0.size L) := by
  refine MetFree.of_bodySF (plainFor_of_name (by first | (simp [plainName, overriddenIn]; done) | decide +kernel)) hisR ?_
  intro p e s m args below meth c s₁ Bd hml0 hP hK
  obtain ⟨rfl, hZ, hh⟩ := hP
  have hx := Bd.exec
  have hby := Bd.bytes
  have hml : c.maxLocals = 8 := hml0
  have hown : s.vm.findClass "com/example/mendline/mendline/data/SettingsScanningPinLaw" = some m.cls := findClass_of_methodNamed Bd.named
  have hnm := (name_of_methodNamed Bd.named Bd.method).1
  have hlk : meth.locks = false := Bd.notSynchronized
  have hret := Bd.returns
  have X0 : Stand p l e room_1 s m #[(.long p1), (.long p2)] below meth c s₁ [] 0 0 := Stand.of_body Bd
  have e0 : s₁.heap = h0 := by rw [← hh, Bd.state]; rfl
  refine own_in (Q := fun v _ L => v = some (.int (1 : Int32)) ∧ Fr h0.size L) (ef := by first | (simp [entryFrame, mkF, argsToLocals, Value.category, maxLocals]; done) | rfl) (g' := (mkF m 0 #[.val (.long p1), .second, .val (.long p2), .second, .unset, .unset, .unset, .unset] [])) ?_
  refine own_go (T' := s₁) (g' := (mkF m 1 #[.val (.long p1), .second, .val (.long p2), .second, .unset, .unset, .unset, .unset] [(.long p1)])) (fun t q => XT.lloadN X0.here hx rfl (hb hby at_0) rfl q) ?_
  refine own_go (T' := s₁) (g' := (mkF m 2 #[.val (.long p1), .second, .val (.long p2), .second, .unset, .unset, .unset, .unset] [(.long (0 : Int64)), (.long p1)])) (fun t q => XT.lconst X0.here hx rfl (hb hby at_1) q) ?_
  refine own_go (T' := s₁) (g' := (mkF m 3 #[.val (.long p1), .second, .val (.long p2), .second, .unset, .unset, .unset, .unset] [(.int (XT.cmpL p1 (0 : Int64)))])) (fun t q => XT.lcmp X0.here hx rfl (hb hby at_2) rfl q) ?_
  by_cases c1 : p1 = (0 : Int64)
  · refine own_go (T' := s₁) (g' := (mkF m 6 #[.val (.long p1), .second, .val (.long p2), .second, .unset, .unset, .unset, .unset] [])) (fun t q => XS.ifNo X0.here hx rfl (hb hby at_3) rfl ((if0 _ _).trans (teq ((own_leq p1 (0 : Int64)).mpr c1)).2) q) ?_
    refine own_go (T' := s₁) (g' := (mkF m 7 #[.val (.long p1), .second, .val (.long p2), .second, .unset, .unset, .unset, .unset] [(.int (1 : Int32))])) (fun t q => XS.iconst X0.here hx rfl (hb hby at_6) q) ?_
    refine own_outN X0 hx hlk hret (t := .boolean) (by simp) (hb hby at_7) (w := (1 : Int32)) (by decide) ?_ (by decide) (by decide)
    exact ⟨rfl, (Fr.nil _)⟩
  · refine own_go (T' := s₁) (g' := (mkF m 8 #[.val (.long p1), .second, .val (.long p2), .second, .unset, .unset, .unset, .unset] [])) (fun t q => XS.ifYes X0.here hx rfl (pc0 := 3) (pc' := 8) rfl (hb hby at_3) rfl ((if0 _ _).trans (feq (fun z => c1 ((own_leq p1 (0 : Int64)).mp z))).2) (by decide) (by decide) q) ?_
    refine own_go (T' := s₁) (g' := (mkF m 9 #[.val (.long p1), .second, .val (.long p2), .second, .unset, .unset, .unset, .unset] [(.long p2)])) (fun t q => XT.lloadN X0.here hx rfl (hb hby at_8) rfl q) ?_
    refine own_go (T' := s₁) (g' := (mkF m 12 #[.val (.long p1), .second, .val (.long p2), .second, .unset, .unset, .unset, .unset] [(.long (9223372036854775807 : Int64)), (.long p2)])) (fun t q => X0.ldc2Long hx hown (mvT hZ (hw _ (List.mem_of_getElem? (i := 0) rfl))) (g := (mkF m 9 #[.val (.long p1), .second, .val (.long p2), .second, .unset, .unset, .unset, .unset] [(.long p2)])) rfl (hb hby at_9) t q) ?_
    refine own_go (T' := s₁) (g' := (mkF m 13 #[.val (.long p1), .second, .val (.long p2), .second, .unset, .unset, .unset, .unset] [(.long (p2 &&& (9223372036854775807 : Int64)))])) (fun t q => XT.land X0.here hx rfl (hb hby at_12) rfl q) ?_
    obtain ⟨rr, hr0⟩ : ∃ z : Int64, z = (p2 &&& (9223372036854775807 : Int64)) := ⟨_, rfl⟩
    rw [← hr0]
    have hrr : ¬ (rr < (0 : Int64)) := by rw [hr0]; exact own_rate p2
    refine own_go (T' := s₁) (g' := (mkF m 15 #[.val (.long p1), .second, .val (.long p2), .second, .val (.long rr), .second, .unset, .unset] [])) (fun t q => XT.lstore X0.here hx rfl (hb hby at_13) rfl (l' := #[.val (.long p1), .second, .val (.long p2), .second, .val (.long rr), .second, .unset, .unset]) rfl q) ?_
    obtain ⟨T2, h2, X2, e2, E2, A2, D2, -, st2⟩ := newO X0 hx hZ hown (hw _ (List.mem_of_getElem? (i := 1) rfl)) (hw _ (List.mem_of_getElem? (i := 2) rfl)) (hw _ (List.mem_of_getElem? (i := 3) rfl)) e0 (g := (mkF m 15 #[.val (.long p1), .second, .val (.long p2), .second, .val (.long rr), .second, .unset, .unset] [])) rfl (hb hby at_15) (by decide) (by decide)
    obtain ⟨a2, g2⟩ : ∃ z, z = h0.size := ⟨_, rfl⟩
    rw [← g2] at A2 D2 st2
    have za2 : h0.size ≤ a2 := by rw [g2]; exact (Nat.le_refl _)
    have sz2 : h0.size ≤ h2.size := Nat.le_trans (Nat.le_refl _) E2.1
    have f3 : Fld Z h2 a2 "com/example/mendline/mendline/data/DataServer$Settings" "chainTimeouts" "Lcom/example/mendline/mendline/protocol/ChainTimeouts;" .null := D2 (Or.inr (hw _ (List.mem_of_getElem? (i := 27) rfl))) (ty := (.object "com/example/mendline/mendline/protocol/ChainTimeouts")) (by decide)
    have f4 : Fld Z h2 a2 "com/example/mendline/mendline/data/DataServer$Settings" "scanPeriodSeconds" "J" (.long (0 : Int64)) := D2 (Or.inr (hw _ (List.mem_of_getElem? (i := 29) rfl))) (ty := .long) (by decide)
    have f5 : Fld Z h2 a2 "com/example/mendline/mendline/data/DataServer$Settings" "scanBytesPerSecond" "J" (.long (0 : Int64)) := D2 (Or.inr (hw _ (List.mem_of_getElem? (i := 31) rfl))) (ty := .long) (by decide)
    refine own_go (T' := T2) (g' := (mkF m 18 #[.val (.long p1), .second, .val (.long p2), .second, .val (.long rr), .second, .unset, .unset] [(.ref a2)])) (fun t q => st2 t q) ?_
    refine own_go (T' := T2) (g' := (mkF m 19 #[.val (.long p1), .second, .val (.long p2), .second, .val (.long rr), .second, .unset, .unset] [(.ref a2), (.ref a2)])) (fun t q => XS.dup X2.here hx rfl (hb hby at_18) rfl rfl q) ?_
    obtain ⟨T6, h6, X6, e6, E6, A6, D6, -, st6⟩ := newO X2 hx hZ hown (hw _ (List.mem_of_getElem? (i := 4) rfl)) (hw _ (List.mem_of_getElem? (i := 5) rfl)) (hw _ (List.mem_of_getElem? (i := 6) rfl)) e2 (g := (mkF m 19 #[.val (.long p1), .second, .val (.long p2), .second, .val (.long rr), .second, .unset, .unset] [(.ref a2), (.ref a2)])) rfl (hb hby at_19) (by decide) (by decide)
    obtain ⟨a6, g6⟩ : ∃ z, z = h2.size := ⟨_, rfl⟩
    rw [← g6] at A6 D6 st6
    have ne_a2_a6 : a2 ≠ a6 := by rw [g6]; exact Nat.ne_of_lt A2.lt
    have za6 : h0.size ≤ a6 := by rw [g6]; exact sz2
    have f7 := A2.ext E6
    have f8 := f3.ext E6
    have f9 := f4.ext E6
    have f10 := f5.ext E6
    have sz6 : h0.size ≤ h6.size := Nat.le_trans sz2 E6.1
    have f11 : Fld Z h6 a6 "com/example/mendline/mendline/protocol/ChainTimeouts" "baseMs" "I" (.int (0 : Int32)) := D6 (Or.inr (hw _ (List.mem_of_getElem? (i := 19) rfl))) (ty := .int) (by decide)
    have f12 : Fld Z h6 a6 "com/example/mendline/mendline/protocol/ChainTimeouts" "perServerMs" "I" (.int (0 : Int32)) := D6 (Or.inr (hw _ (List.mem_of_getElem? (i := 21) rfl))) (ty := .int) (by decide)
    refine own_go (T' := T6) (g' := (mkF m 22 #[.val (.long p1), .second, .val (.long p2), .second, .val (.long rr), .second, .unset, .unset] [(.ref a6), (.ref a2), (.ref a2)])) (fun t q => st6 t q) ?_
    refine own_go (T' := T6) (g' := (mkF m 23 #[.val (.long p1), .second, .val (.long p2), .second, .val (.long rr), .second, .unset, .unset] [(.ref a6), (.ref a6), (.ref a2), (.ref a2)])) (fun t q => XS.dup X6.here hx rfl (hb hby at_22) rfl rfl q) ?_
    refine own_go (T' := T6) (g' := (mkF m 24 #[.val (.long p1), .second, .val (.long p2), .second, .val (.long rr), .second, .unset, .unset] [(.int (1 : Int32)), (.ref a6), (.ref a6), (.ref a2), (.ref a2)])) (fun t q => XS.iconst X6.here hx rfl (hb hby at_23) q) ?_
    refine own_go (T' := T6) (g' := (mkF m 25 #[.val (.long p1), .second, .val (.long p2), .second, .val (.long rr), .second, .unset, .unset] [(.int (1 : Int32)), (.int (1 : Int32)), (.ref a6), (.ref a6), (.ref a2), (.ref a2)])) (fun t q => XS.iconst X6.here hx rfl (hb hby at_24) q) ?_
    obtain ⟨v13, T13, L13, X13, Q13, st13⟩ := own_callP X6 hx hZ (y := (⟨"com/example/mendline/mendline/protocol/ChainTimeouts", "<init>", "(II)V"⟩ : MethodName)) (a := a6) (argsL := [(.int (1 : Int32)), (.int (1 : Int32))]) (rest := [(.ref a6), (.ref a2), (.ref a2)]) hown rfl (hw _ (List.mem_of_getElem? (i := 7) rfl)) (hw _ (List.mem_of_getElem? (i := 8) rfl)) (hw _ (List.mem_of_getElem? (i := 6) rfl)) (hw _ (List.mem_of_getElem? (i := 9) rfl)) (rm_ct l Z a0 hw [] h0.size a6 h6 sz6 za6 A6 f11 f12) e6 (by decide) (by decide) 3 (by decide) (by decide) (by decide) (g := (mkF m 25 #[.val (.long p1), .second, .val (.long p2), .second, .val (.long rr), .second, .unset, .unset] [(.int (1 : Int32)), (.int (1 : Int32)), (.ref a6), (.ref a6), (.ref a2), (.ref a2)])) rfl (by rw [hml]; rfl) (lenOf (ps := [.int, .int]) (r := none) (by decide +kernel) rfl) rfl (by show 2 * 0 + _ ≤ _; exact Nat.le_of_eq rfl) (hb hby at_25)
    obtain ⟨rfl, M13, K13⟩ := Q13
    have f14 := f7.keep K13
    have f15 := f8.keep K13 (ninS ne_a2_a6 nin0)
    have f16 := f9.keep K13 (ninS ne_a2_a6 nin0)
    have f17 := f10.keep K13 (ninS ne_a2_a6 nin0)
    have f18 := A6.keep K13
    have N13 := Fr.app (Fr.nil _) M13
    have sz13 : h0.size ≤ T13.heap.size := Nat.le_trans sz6 K13.1
    refine own_go (T' := T13) (g' := (mkF m 28 #[.val (.long p1), .second, .val (.long p2), .second, .val (.long rr), .second, .unset, .unset] [(.ref a6), (.ref a2), (.ref a2)])) (fun t q => st13 t q) ?_
    refine own_go (T' := T13) (g' := (mkF m 29 #[.val (.long p1), .second, .val (.long p2), .second, .val (.long rr), .second, .unset, .unset] [(.long p1), (.ref a6), (.ref a2), (.ref a2)])) (fun t q => XT.lloadN X13.here hx rfl (hb hby at_28) rfl q) ?_
    refine own_go (T' := T13) (g' := (mkF m 31 #[.val (.long p1), .second, .val (.long p2), .second, .val (.long rr), .second, .unset, .unset] [(.long rr), (.long p1), (.ref a6), (.ref a2), (.ref a2)])) (fun t q => XT.lload X13.here hx rfl (hb hby at_29) rfl q) ?_
    obtain ⟨v19, T19, L19, X19, Q19, st19⟩ := own_callP X13 hx hZ (y := (⟨"com/example/mendline/mendline/data/DataServer$Settings", "<init>", "(Lcom/example/mendline/mendline/protocol/ChainTimeouts;JJ)V"⟩ : MethodName)) (a := a2) (argsL := [(.ref a6), (.long p1), (.long rr)]) (rest := [(.ref a2)]) hown rfl (hw _ (List.mem_of_getElem? (i := 22) rfl)) (hw _ (List.mem_of_getElem? (i := 23) rfl)) (hw _ (List.mem_of_getElem? (i := 3) rfl)) (hw _ (List.mem_of_getElem? (i := 24) rfl)) (rm_se l Z a0 hw [] h0.size a2 a6 p1 rr T13.heap sz13 za2 f14 f15 f16 f17 c1 hrr) (rfl : T13.heap = T13.heap) (by decide) (by decide) 1 (by decide) (by decide) (by decide) (g := (mkF m 31 #[.val (.long p1), .second, .val (.long p2), .second, .val (.long rr), .second, .unset, .unset] [(.long rr), (.long p1), (.ref a6), (.ref a2), (.ref a2)])) rfl (by rw [hml]; rfl) (lenOf (ps := [(.object "com/example/mendline/mendline/protocol/ChainTimeouts"), .long, .long]) (r := none) (by decide +kernel) rfl) rfl (by show 2 * 0 + _ ≤ _; exact Nat.le_of_eq rfl) (hb hby at_31)
    obtain ⟨rfl, M19, K19, XA19, F119, F219⟩ := Q19
    have f20 := f14.keep K19
    have f21 := f18.keep K19
    have N19 := Fr.app N13 M19
    have sz19 : h0.size ≤ T19.heap.size := Nat.le_trans sz13 K19.1
    refine own_go (T' := T19) (g' := (mkF m 34 #[.val (.long p1), .second, .val (.long p2), .second, .val (.long rr), .second, .unset, .unset] [(.ref a2)])) (fun t q => st19 t q) ?_
    refine own_go (T' := T19) (g' := (mkF m 36 #[.val (.long p1), .second, .val (.long p2), .second, .val (.long rr), .second, .val (.ref a2), .unset] [])) (fun t q => XS.astore X19.here hx rfl (hb hby at_34) rfl rfl (l' := #[.val (.long p1), .second, .val (.long p2), .second, .val (.long rr), .second, .val (.ref a2), .unset]) rfl q) ?_
    refine own_go (T' := T19) (g' := (mkF m 37 #[.val (.long p1), .second, .val (.long p2), .second, .val (.long rr), .second, .val (.ref a2), .unset] [(.long p1)])) (fun t q => XT.lloadN X19.here hx rfl (hb hby at_36) rfl q) ?_
    refine own_go (T' := T19) (g' := (mkF m 38 #[.val (.long p1), .second, .val (.long p2), .second, .val (.long rr), .second, .val (.ref a2), .unset] [(.long (0 : Int64)), (.long p1)])) (fun t q => XT.lconst X19.here hx rfl (hb hby at_37) q) ?_
    refine own_go (T' := T19) (g' := (mkF m 39 #[.val (.long p1), .second, .val (.long p2), .second, .val (.long rr), .second, .val (.ref a2), .unset] [(.int (XT.cmpL p1 (0 : Int64)))])) (fun t q => XT.lcmp X19.here hx rfl (hb hby at_38) rfl q) ?_
    by_cases c22 : p1 < (0 : Int64)
    · refine own_go (T' := T19) (g' := (mkF m 42 #[.val (.long p1), .second, .val (.long p2), .second, .val (.long rr), .second, .val (.ref a2), .unset] [])) (fun t q => XS.ifNo X19.here hx rfl (hb hby at_39) rfl ((if0 _ _).trans (tlt ((own_llt p1 (0 : Int64)).mpr c22)).2.1) q) ?_
      refine own_go (T' := T19) (g' := (mkF m 43 #[.val (.long p1), .second, .val (.long p2), .second, .val (.long rr), .second, .val (.ref a2), .unset] [(.int (0 : Int32))])) (fun t q => XS.iconst X19.here hx rfl (hb hby at_42) q) ?_
      refine own_go (T' := T19) (g' := (mkF m 45 #[.val (.long p1), .second, .val (.long p2), .second, .val (.long rr), .second, .val (.ref a2), .val (.int (0 : Int32))] [])) (fun t q => XS.istore X19.here hx rfl (hb hby at_43) rfl (l' := #[.val (.long p1), .second, .val (.long p2), .second, .val (.long rr), .second, .val (.ref a2), .val (.int (0 : Int32))]) rfl q) ?_
      refine own_go (T' := T19) (g' := (mkF m 64 #[.val (.long p1), .second, .val (.long p2), .second, .val (.long rr), .second, .val (.ref a2), .val (.int (0 : Int32))] [])) (fun t q => XS.goto X19.here hx rfl (pc0 := 45) (pc' := 64) rfl (hb hby at_45) (by decide) (by decide) q) ?_
      refine own_go (T' := T19) (g' := (mkF m 66 #[.val (.long p1), .second, .val (.long p2), .second, .val (.long rr), .second, .val (.ref a2), .val (.int (0 : Int32))] [(.ref a2)])) (fun t q => XS.aload X19.here hx rfl (hb hby at_64) rfl rfl q) ?_
      obtain ⟨v23, T23, L23, X23, Q23, st23⟩ := own_callV X19 hx hZ (y := (⟨"com/example/mendline/mendline/data/DataServer$Settings", "scanning", "()Z"⟩ : MethodName)) (b := a2) (argsL := []) (rest := []) hown (hw _ (List.mem_of_getElem? (i := 32) rfl)) (hw _ (List.mem_of_getElem? (i := 33) rfl)) (hw _ (List.mem_of_getElem? (i := 35) rfl)) (hw _ (List.mem_of_getElem? (i := 34) rfl)) (hw _ (List.mem_of_getElem? (i := 3) rfl)) (hw _ (List.mem_of_getElem? (i := 36) rfl)) (rm_sc l Z a0 hw [] a2 p1 rr T19.heap F119 F219) (rfl : T19.heap = T19.heap) XA19 (by decide) (by decide) 0 (by decide) (by decide) (by decide) (g := (mkF m 66 #[.val (.long p1), .second, .val (.long p2), .second, .val (.long rr), .second, .val (.ref a2), .val (.int (0 : Int32))] [(.ref a2)])) rfl (by rw [hml]; rfl) (lenOf (ps := []) (r := (some .boolean)) (by decide +kernel) rfl) rfl (by show 2 * 0 + _ ≤ _; exact Nat.le_of_eq rfl) (hb hby at_66)
      obtain ⟨Q23, e23, rfl⟩ := Q23
      rcases Q23 with ⟨hP, hR, rfl⟩ | ⟨_, rfl⟩
      · exact (own_asym hP c22).elim
      · refine own_go (T' := T23) (g' := (mkF m 69 #[.val (.long p1), .second, .val (.long p2), .second, .val (.long rr), .second, .val (.ref a2), .val (.int (0 : Int32))] [(.int (0 : Int32))])) (fun t q => st23 t q) ?_
        refine own_go (T' := T23) (g' := (mkF m 71 #[.val (.long p1), .second, .val (.long p2), .second, .val (.long rr), .second, .val (.ref a2), .val (.int (0 : Int32))] [(.int (0 : Int32)), (.int (0 : Int32))])) (fun t q => XS.iload X23.here hx rfl (hb hby at_69) rfl q) ?_
        have c24 : (0 : Int32) = (0 : Int32) := by decide
        refine own_go (T' := T23) (g' := (mkF m 74 #[.val (.long p1), .second, .val (.long p2), .second, .val (.long rr), .second, .val (.ref a2), .val (.int (0 : Int32))] [])) (fun t q => XS.icmpNo X23.here hx rfl (hb hby at_71) rfl (teq c24).2 q) ?_
        refine own_go (T' := T23) (g' := (mkF m 75 #[.val (.long p1), .second, .val (.long p2), .second, .val (.long rr), .second, .val (.ref a2), .val (.int (0 : Int32))] [(.int (1 : Int32))])) (fun t q => XS.iconst X23.here hx rfl (hb hby at_74) q) ?_
        refine own_go (T' := T23) (g' := (mkF m 79 #[.val (.long p1), .second, .val (.long p2), .second, .val (.long rr), .second, .val (.ref a2), .val (.int (0 : Int32))] [(.int (1 : Int32))])) (fun t q => XS.goto X23.here hx rfl (pc0 := 75) (pc' := 79) rfl (hb hby at_75) (by decide) (by decide) q) ?_
        refine own_outN X23 hx hlk hret (t := .boolean) (by simp) (hb hby at_79) (w := (1 : Int32)) (by decide) ?_ (by decide) (by decide)
        exact ⟨rfl, (Fr.app N19 (Fr.nil _))⟩
    · refine own_go (T' := T19) (g' := (mkF m 48 #[.val (.long p1), .second, .val (.long p2), .second, .val (.long rr), .second, .val (.ref a2), .unset] [])) (fun t q => XS.ifYes X19.here hx rfl (pc0 := 39) (pc' := 48) rfl (hb hby at_39) rfl ((if0 _ _).trans (flt (fun z => c22 ((own_llt p1 (0 : Int64)).mp z))).2.1) (by decide) (by decide) q) ?_
      refine own_go (T' := T19) (g' := (mkF m 50 #[.val (.long p1), .second, .val (.long p2), .second, .val (.long rr), .second, .val (.ref a2), .unset] [(.long rr)])) (fun t q => XT.lload X19.here hx rfl (hb hby at_48) rfl q) ?_
      refine own_go (T' := T19) (g' := (mkF m 51 #[.val (.long p1), .second, .val (.long p2), .second, .val (.long rr), .second, .val (.ref a2), .unset] [(.long (0 : Int64)), (.long rr)])) (fun t q => XT.lconst X19.here hx rfl (hb hby at_50) q) ?_
      refine own_go (T' := T19) (g' := (mkF m 52 #[.val (.long p1), .second, .val (.long p2), .second, .val (.long rr), .second, .val (.ref a2), .unset] [(.int (XT.cmpL rr (0 : Int64)))])) (fun t q => XT.lcmp X19.here hx rfl (hb hby at_51) rfl q) ?_
      by_cases c25 : rr = (0 : Int64)
      · refine own_go (T' := T19) (g' := (mkF m 55 #[.val (.long p1), .second, .val (.long p2), .second, .val (.long rr), .second, .val (.ref a2), .unset] [])) (fun t q => XS.ifNo X19.here hx rfl (hb hby at_52) rfl ((if0 _ _).trans (teq ((own_leq rr (0 : Int64)).mpr c25)).2) q) ?_
        refine own_go (T' := T19) (g' := (mkF m 56 #[.val (.long p1), .second, .val (.long p2), .second, .val (.long rr), .second, .val (.ref a2), .unset] [(.int (0 : Int32))])) (fun t q => XS.iconst X19.here hx rfl (hb hby at_55) q) ?_
        refine own_go (T' := T19) (g' := (mkF m 58 #[.val (.long p1), .second, .val (.long p2), .second, .val (.long rr), .second, .val (.ref a2), .val (.int (0 : Int32))] [])) (fun t q => XS.istore X19.here hx rfl (hb hby at_56) rfl (l' := #[.val (.long p1), .second, .val (.long p2), .second, .val (.long rr), .second, .val (.ref a2), .val (.int (0 : Int32))]) rfl q) ?_
        refine own_go (T' := T19) (g' := (mkF m 64 #[.val (.long p1), .second, .val (.long p2), .second, .val (.long rr), .second, .val (.ref a2), .val (.int (0 : Int32))] [])) (fun t q => XS.goto X19.here hx rfl (pc0 := 58) (pc' := 64) rfl (hb hby at_58) (by decide) (by decide) q) ?_
        refine own_go (T' := T19) (g' := (mkF m 66 #[.val (.long p1), .second, .val (.long p2), .second, .val (.long rr), .second, .val (.ref a2), .val (.int (0 : Int32))] [(.ref a2)])) (fun t q => XS.aload X19.here hx rfl (hb hby at_64) rfl rfl q) ?_
        obtain ⟨v26, T26, L26, X26, Q26, st26⟩ := own_callV X19 hx hZ (y := (⟨"com/example/mendline/mendline/data/DataServer$Settings", "scanning", "()Z"⟩ : MethodName)) (b := a2) (argsL := []) (rest := []) hown (hw _ (List.mem_of_getElem? (i := 32) rfl)) (hw _ (List.mem_of_getElem? (i := 33) rfl)) (hw _ (List.mem_of_getElem? (i := 35) rfl)) (hw _ (List.mem_of_getElem? (i := 34) rfl)) (hw _ (List.mem_of_getElem? (i := 3) rfl)) (hw _ (List.mem_of_getElem? (i := 36) rfl)) (rm_sc l Z a0 hw [] a2 p1 rr T19.heap F119 F219) (rfl : T19.heap = T19.heap) XA19 (by decide) (by decide) 0 (by decide) (by decide) (by decide) (g := (mkF m 66 #[.val (.long p1), .second, .val (.long p2), .second, .val (.long rr), .second, .val (.ref a2), .val (.int (0 : Int32))] [(.ref a2)])) rfl (by rw [hml]; rfl) (lenOf (ps := []) (r := (some .boolean)) (by decide +kernel) rfl) rfl (by show 2 * 0 + _ ≤ _; exact Nat.le_of_eq rfl) (hb hby at_66)
        obtain ⟨Q26, e26, rfl⟩ := Q26
        rcases Q26 with ⟨hP, hR, rfl⟩ | ⟨_, rfl⟩
        · exact absurd (c25 ▸ hR : (0 : Int64) < 0) (by decide)
        · refine own_go (T' := T26) (g' := (mkF m 69 #[.val (.long p1), .second, .val (.long p2), .second, .val (.long rr), .second, .val (.ref a2), .val (.int (0 : Int32))] [(.int (0 : Int32))])) (fun t q => st26 t q) ?_
          refine own_go (T' := T26) (g' := (mkF m 71 #[.val (.long p1), .second, .val (.long p2), .second, .val (.long rr), .second, .val (.ref a2), .val (.int (0 : Int32))] [(.int (0 : Int32)), (.int (0 : Int32))])) (fun t q => XS.iload X26.here hx rfl (hb hby at_69) rfl q) ?_
          have c27 : (0 : Int32) = (0 : Int32) := by decide
          refine own_go (T' := T26) (g' := (mkF m 74 #[.val (.long p1), .second, .val (.long p2), .second, .val (.long rr), .second, .val (.ref a2), .val (.int (0 : Int32))] [])) (fun t q => XS.icmpNo X26.here hx rfl (hb hby at_71) rfl (teq c27).2 q) ?_
          refine own_go (T' := T26) (g' := (mkF m 75 #[.val (.long p1), .second, .val (.long p2), .second, .val (.long rr), .second, .val (.ref a2), .val (.int (0 : Int32))] [(.int (1 : Int32))])) (fun t q => XS.iconst X26.here hx rfl (hb hby at_74) q) ?_
          refine own_go (T' := T26) (g' := (mkF m 79 #[.val (.long p1), .second, .val (.long p2), .second, .val (.long rr), .second, .val (.ref a2), .val (.int (0 : Int32))] [(.int (1 : Int32))])) (fun t q => XS.goto X26.here hx rfl (pc0 := 75) (pc' := 79) rfl (hb hby at_75) (by decide) (by decide) q) ?_
          refine own_outN X26 hx hlk hret (t := .boolean) (by simp) (hb hby at_79) (w := (1 : Int32)) (by decide) ?_ (by decide) (by decide)
          exact ⟨rfl, (Fr.app N19 (Fr.nil _))⟩
      · refine own_go (T' := T19) (g' := (mkF m 61 #[.val (.long p1), .second, .val (.long p2), .second, .val (.long rr), .second, .val (.ref a2), .unset] [])) (fun t q => XS.ifYes X19.here hx rfl (pc0 := 52) (pc' := 61) rfl (hb hby at_52) rfl ((if0 _ _).trans (feq (fun z => c25 ((own_leq rr (0 : Int64)).mp z))).2) (by decide) (by decide) q) ?_
        refine own_go (T' := T19) (g' := (mkF m 62 #[.val (.long p1), .second, .val (.long p2), .second, .val (.long rr), .second, .val (.ref a2), .unset] [(.int (1 : Int32))])) (fun t q => XS.iconst X19.here hx rfl (hb hby at_61) q) ?_
        refine own_go (T' := T19) (g' := (mkF m 64 #[.val (.long p1), .second, .val (.long p2), .second, .val (.long rr), .second, .val (.ref a2), .val (.int (1 : Int32))] [])) (fun t q => XS.istore X19.here hx rfl (hb hby at_62) rfl (l' := #[.val (.long p1), .second, .val (.long p2), .second, .val (.long rr), .second, .val (.ref a2), .val (.int (1 : Int32))]) rfl q) ?_
        refine own_go (T' := T19) (g' := (mkF m 66 #[.val (.long p1), .second, .val (.long p2), .second, .val (.long rr), .second, .val (.ref a2), .val (.int (1 : Int32))] [(.ref a2)])) (fun t q => XS.aload X19.here hx rfl (hb hby at_64) rfl rfl q) ?_
        obtain ⟨v28, T28, L28, X28, Q28, st28⟩ := own_callV X19 hx hZ (y := (⟨"com/example/mendline/mendline/data/DataServer$Settings", "scanning", "()Z"⟩ : MethodName)) (b := a2) (argsL := []) (rest := []) hown (hw _ (List.mem_of_getElem? (i := 32) rfl)) (hw _ (List.mem_of_getElem? (i := 33) rfl)) (hw _ (List.mem_of_getElem? (i := 35) rfl)) (hw _ (List.mem_of_getElem? (i := 34) rfl)) (hw _ (List.mem_of_getElem? (i := 3) rfl)) (hw _ (List.mem_of_getElem? (i := 36) rfl)) (rm_sc l Z a0 hw [] a2 p1 rr T19.heap F119 F219) (rfl : T19.heap = T19.heap) XA19 (by decide) (by decide) 0 (by decide) (by decide) (by decide) (g := (mkF m 66 #[.val (.long p1), .second, .val (.long p2), .second, .val (.long rr), .second, .val (.ref a2), .val (.int (1 : Int32))] [(.ref a2)])) rfl (by rw [hml]; rfl) (lenOf (ps := []) (r := (some .boolean)) (by decide +kernel) rfl) rfl (by show 2 * 0 + _ ≤ _; exact Nat.le_of_eq rfl) (hb hby at_66)
        obtain ⟨Q28, e28, rfl⟩ := Q28
        rcases Q28 with ⟨_, _, rfl⟩ | ⟨hO, rfl⟩
        · refine own_go (T' := T28) (g' := (mkF m 69 #[.val (.long p1), .second, .val (.long p2), .second, .val (.long rr), .second, .val (.ref a2), .val (.int (1 : Int32))] [(.int (1 : Int32))])) (fun t q => st28 t q) ?_
          refine own_go (T' := T28) (g' := (mkF m 71 #[.val (.long p1), .second, .val (.long p2), .second, .val (.long rr), .second, .val (.ref a2), .val (.int (1 : Int32))] [(.int (1 : Int32)), (.int (1 : Int32))])) (fun t q => XS.iload X28.here hx rfl (hb hby at_69) rfl q) ?_
          have c29 : (1 : Int32) = (1 : Int32) := by decide
          refine own_go (T' := T28) (g' := (mkF m 74 #[.val (.long p1), .second, .val (.long p2), .second, .val (.long rr), .second, .val (.ref a2), .val (.int (1 : Int32))] [])) (fun t q => XS.icmpNo X28.here hx rfl (hb hby at_71) rfl (teq c29).2 q) ?_
          refine own_go (T' := T28) (g' := (mkF m 75 #[.val (.long p1), .second, .val (.long p2), .second, .val (.long rr), .second, .val (.ref a2), .val (.int (1 : Int32))] [(.int (1 : Int32))])) (fun t q => XS.iconst X28.here hx rfl (hb hby at_74) q) ?_
          refine own_go (T' := T28) (g' := (mkF m 79 #[.val (.long p1), .second, .val (.long p2), .second, .val (.long rr), .second, .val (.ref a2), .val (.int (1 : Int32))] [(.int (1 : Int32))])) (fun t q => XS.goto X28.here hx rfl (pc0 := 75) (pc' := 79) rfl (hb hby at_75) (by decide) (by decide) q) ?_
          refine own_outN X28 hx hlk hret (t := .boolean) (by simp) (hb hby at_79) (w := (1 : Int32)) (by decide) ?_ (by decide) (by decide)
          exact ⟨rfl, (Fr.app N19 (Fr.nil _))⟩
        · exact (hO.elim (fun z => z (own_gt0 c1 c22)) (fun z => z (own_gt0 c25 hrr))).elim
set_option maxRecDepth 65536 in
set_option maxHeartbeats 40000000 in
theorem comes_1 {Post : Tables → Env → Array Value → State → Outcome → State → Prop} (hpost : ∀ tb e args s v u, (limb_1_1.after args s (.returned v) u = true ∧ limb_1_2.after args s (.returned v) u = true ∧ True) → FrameEnd s (.returned v) u (Jvm.fieldLocs frame_1_writes args s ++ Jvm.arrayLocs frame_1_arrays args s ++ Jvm.staticLocs frame_1_statics s) 16 128 → Post tb e args s (.returned v) u) :
    ArmFor flags0 classFile x code maxLocals ret World_1 tables_1 room_1 Calls_1 rest_1 Pre_1 Post := by
  intro l hfl _ _ p e ha hc hk s m args below hf hA hF happ hP
  obtain ⟨hcalls, hrest, hpre⟩ := hP
  obtain ⟨-, -, -, hnamed, -, -, -, hat⟩ := (Spec.applies_iff hf).mp happ
  obtain ⟨hg, hn⟩ := and_e (Cond.before_iff.mp (show (Jvm.Cond.and given_1 narrow_1).before args s = true from hpre))
  obtain ⟨h1, hg⟩ := and_e hg
  obtain ⟨g0, hg⟩ := and_e hg
  have g1 := hg
  obtain ⟨w0, w1, rfl⟩ : ∃ w0 w1 : Value, args = #[w0, w1] := by
    have hs : args.size = 2 := by simpa [Cond.value, given_1] using h1
    obtain ⟨L⟩ := args
    match L, hs with
    | [w0, w1], _ => exact ⟨w0, w1, rfl⟩
  have hw := fun d (hd : d ∈ tables_1) => atoms_spec (ws := Jvm.Cond.code x code maxLocals ret :: tables_1) hat d (List.mem_cons_of_mem _ hd)
  have hfit : Fit s := fun {y c} hc i hi => by
    obtain ⟨ha, rfl⟩ := Array.getElem?_eq_some_iff.mp hc
    have q := List.all_eq_true.mp ((Array.all_eq_true_iff_forall_mem.mp hF) _ (Array.getElem_mem ha)) i (List.mem_range.mpr hi)
    simpa [Array.getElem?_eq_getElem hi] using q
  obtain ⟨i0, b0⟩ := isL_v g0
  obtain rfl : w0 = (.long i0) := Option.some.inj b0
  obtain ⟨i1, b1⟩ := isL_v g1
  obtain rfl : w1 = (.long i1) := Option.some.inj b1
  obtain ⟨n, o, h1, h2, h3, _, L, rfl, ⟨rfl, N⟩, hq⟩ := rm0 l s _ hw tables_1 i0 i1 s.heap p e ha hc hk s m _ below hf ((Spec.applies_iff_loose hf).mp happ).1 ⟨rfl, State.Warmed39.refl s, rfl⟩ trivial
  refine ⟨n, _, h1, h2, h3, hpost _ _ _ _ _ _ ⟨Cond.after_iff.mpr rfl, Cond.after_iff.mpr (eq_i res_at (Term.int_eval (1)) rfl), trivial⟩ ⟨hq.1, hq.2.1, (hq.2.2.sift fun y hy => Or.inr (N y hy)).mono (by decide) (by decide)⟩⟩
theorem main_1_1 : Claimed_1_1 := comes_1 fun _ _ _ _ _ _ h hF => ⟨h.1, hF⟩
theorem main_1_2 : Claimed_1_2 := comes_1 fun _ _ _ _ _ _ h hF => ⟨h.2.1, hF⟩
end Jvm.Pilot.@@N@@
namespace Jvm.Pilot.@@N@@
open Jvm Jvm.ClassFile Sem Op Lib Jvm.Free Jvm.Stand Jvm.Pilot.@@N@@.Jvm.D
/-! MADE BY PROGRAM (witnessworld.py) out of the Statement's table words and the real class files: 11 classes; the members and pool entries that the words name. The judged class is class 1, her method 1. -/
namespace start1
open Jvm.ClassFile
def u (s : String) : CpInfo := .utf8 (stringToUtf16 s)
/-- a pool by its gaps: so many unusable entries, then the entry; so many at the end -/
def gap : Nat → List CpInfo → List CpInfo
  | 0, r => r
  | n + 1, r => .unusable :: gap n r
def poolList (es : List (Nat × CpInfo)) (last : Nat) : List CpInfo := es.foldr (fun e r => gap e.1 (e.2 :: r)) (gap last [])
def pool (es : List (Nat × CpInfo)) (last : Nat) : Array CpInfo := ⟨poolList es last⟩
def fileOf (pool : Array CpInfo) (this : Nat) (attrs : Array Attribute := #[]) (ms : Array MethodInfo := #[]) (fl : Nat := 33) (sup : Nat := 0) (ifs : Array Nat := #[]) (fds : Array FieldInfo := #[]) : ClassFile where
  minorVersion := 0
  majorVersion := 65
  constantPool := pool
  accessFlags := fl
  thisClass := this
  superClass := sup
  interfaces := ifs
  fields := fds
  methods := ms
  attributes := attrs
def plain (name : String) (sup : Option ClassId) : Class where
  name := name
  kind := .ordinary
  loader := none
  accessFlags := 33
  super := sup
  interfaces := #[]
  cf := none
  fields := #[]
  methods := #[]
  instanceTypes := #[]
  staticTypes := #[]
  resolved := #[]
  callSites := []
  init := .initialized
  statics := none
  mirror := none

def pool0 : Array CpInfo := pool [(5, u "<init>"), (0, u "()V"), (1, .class_ 10), (1, u "java/lang/Object")] 113

def k0c0 : Code := { maxStack := 0, maxLocals := 1, code := object_method_1_code, exceptionTable := #[], attributes := #[] }
def k0m0 : Method := { name := "<init>", desc := "()V", sig := { parameters := [], returnType := none }, accessFlags := 1, code := some k0c0 }
/-- java/lang/Object -/
def k0 : Class := { plain "java/lang/Object" none with
  accessFlags := 33
  interfaces := #[]
  cf := some (fileOf pool0 8 #[] #[{ accessFlags := 1, nameIndex := 5, descriptorIndex := 6, attributes := #[] }] 33 0 #[] #[])
  fields := #[]
  methods := #[k0m0]
  instanceTypes := #[]
  staticTypes := #[]
  resolved := Array.replicate 124 none
  statics := none }

def pool1 : Array CpInfo := pool [(2, .class_ 4), (1, u "java/lang/Object"), (0, u "<init>"), (0, u "()V"), (2, .long 9223372036854775807), (1, .class_ 12), (0, u "com/example/mendline/mendline/data/DataServer$Settings"), (0, .class_ 14), (0, u "com/example/mendline/mendline/protocol/ChainTimeouts"), (0, .methodref 13 16), (0, .nameAndType 5 17), (0, u "(II)V"), (0, .methodref 11 19), (0, .nameAndType 5 20), (0, u "(Lcom/example/mendline/mendline/protocol/ChainTimeouts;JJ)V"), (0, .methodref 11 22), (0, .nameAndType 23 24), (0, u "scanning"), (0, u "()Z"), (0, .class_ 26), (0, u "com/example/mendline/mendline/data/SettingsScanningPinLaw"), (2, u "law"), (0, u "(JJ)Z")] 7

def k1m0 : Method := { name := "<init>", desc := "()V", sig := { parameters := [], returnType := none }, accessFlags := 2, code := none }
def k1c1 : Code := { maxStack := 7, maxLocals := 8, code := code, exceptionTable := #[], attributes := #[] }
def k1m1 : Method := { name := "law", desc := "(JJ)Z", sig := { parameters := [.long, .long], returnType := some .boolean }, accessFlags := 9, code := some k1c1 }
/-- com/example/mendline/mendline/data/SettingsScanningPinLaw -/
def k1 : Class := { plain "com/example/mendline/mendline/data/SettingsScanningPinLaw" (some 0) with
  accessFlags := 49
  interfaces := #[]
  cf := some (fileOf pool1 25 #[] #[{ accessFlags := 2, nameIndex := 5, descriptorIndex := 6, attributes := #[] }, { accessFlags := 9, nameIndex := 29, descriptorIndex := 30, attributes := #[] }] 49 2 #[] #[])
  fields := #[]
  methods := #[k1m0, k1m1]
  instanceTypes := #[]
  staticTypes := #[]
  resolved := Array.replicate 38 none
  statics := none }

def pool2 : Array CpInfo := pool [(1, .methodref 2 3), (0, .class_ 4), (0, .nameAndType 5 6), (0, u "java/lang/Object"), (0, u "<init>"), (0, u "()V"), (0, .class_ 8), (0, u "java/lang/Record")] 13

def k2c0 : Code := { maxStack := 1, maxLocals := 1, code := jdk_30_method_1_code, exceptionTable := #[], attributes := #[] }
def k2m0 : Method := { name := "<init>", desc := "()V", sig := { parameters := [], returnType := none }, accessFlags := 4, code := some k2c0 }
/-- java/lang/Record -/
def k2 : Class := { plain "java/lang/Record" (some 0) with
  accessFlags := 1057
  interfaces := #[]
  cf := some (fileOf pool2 7 #[] #[{ accessFlags := 4, nameIndex := 5, descriptorIndex := 6, attributes := #[] }] 1057 2 #[] #[])
  fields := #[]
  methods := #[k2m0]
  instanceTypes := #[]
  staticTypes := #[]
  resolved := Array.replicate 22 none
  statics := none }

def pool3 : Array CpInfo := pool [(1, .methodref 2 3), (0, .class_ 4), (0, .nameAndType 5 6), (0, u "java/lang/Record"), (0, u "<init>"), (0, u "()V"), (9, .fieldref 17 18), (0, .class_ 19), (0, .nameAndType 20 21), (0, u "com/example/mendline/mendline/data/DataServer$Settings"), (0, u "chainTimeouts"), (0, u "Lcom/example/mendline/mendline/protocol/ChainTimeouts;"), (0, .fieldref 17 23), (0, .nameAndType 24 25), (0, u "scanPeriodSeconds"), (0, u "J"), (0, .fieldref 17 27), (0, .nameAndType 28 25), (0, u "scanBytesPerSecond"), (2, u "(Lcom/example/mendline/mendline/protocol/ChainTimeouts;JJ)V"), (16, u "DEFAULTS"), (6, u "Lcom/example/mendline/mendline/data/DataServer$Settings;"), (8, u "scanning"), (0, u "()Z"), (9, .class_ 76), (0, u "com/example/mendline/mendline/data/DataServer")] 29

def k3c0 : Code := { maxStack := 6, maxLocals := 6, code := prog_31_method_1_code, exceptionTable := #[], attributes := #[] }
def k3m0 : Method := { name := "<init>", desc := "(Lcom/example/mendline/mendline/protocol/ChainTimeouts;JJ)V", sig := { parameters := [(.object "com/example/mendline/mendline/protocol/ChainTimeouts"), .long, .long], returnType := none }, accessFlags := 1, code := some k3c0 }
def k3c1 : Code := { maxStack := 4, maxLocals := 1, code := prog_31_method_4_code, exceptionTable := #[], attributes := #[] }
def k3m1 : Method := { name := "scanning", desc := "()Z", sig := { parameters := [], returnType := some .boolean }, accessFlags := 1, code := some k3c1 }
/-- com/example/mendline/mendline/data/DataServer$Settings -/
def k3 : Class := { plain "com/example/mendline/mendline/data/DataServer$Settings" (some 2) with
  accessFlags := 49
  interfaces := #[]
  cf := some (fileOf pool3 17 #[.nestHost 75] #[{ accessFlags := 1, nameIndex := 5, descriptorIndex := 31, attributes := #[] }, { accessFlags := 1, nameIndex := 64, descriptorIndex := 65, attributes := #[] }] 49 2 #[] #[{ accessFlags := 18, nameIndex := 20, descriptorIndex := 21, attributes := #[] }, { accessFlags := 18, nameIndex := 24, descriptorIndex := 25, attributes := #[] }, { accessFlags := 18, nameIndex := 28, descriptorIndex := 25, attributes := #[] }, { accessFlags := 25, nameIndex := 48, descriptorIndex := 55, attributes := #[] }])
  fields := #[{ name := "chainTimeouts", type := (.object "com/example/mendline/mendline/protocol/ChainTimeouts"), accessFlags := 18, slot := 0, constantValue := 0 }, { name := "scanPeriodSeconds", type := .long, accessFlags := 18, slot := 1, constantValue := 0 }, { name := "scanBytesPerSecond", type := .long, accessFlags := 18, slot := 2, constantValue := 0 }, { name := "DEFAULTS", type := (.object "com/example/mendline/mendline/data/DataServer$Settings"), accessFlags := 25, slot := 0, constantValue := 0 }]
  methods := #[k3m0, k3m1]
  instanceTypes := #[(.object "com/example/mendline/mendline/protocol/ChainTimeouts"), .long, .long]
  staticTypes := #[(.object "com/example/mendline/mendline/data/DataServer$Settings")]
  resolved := Array.replicate 106 none
  statics := none }

def pool4 : Array CpInfo := pool [(1, .methodref 2 3), (0, .class_ 4), (0, .nameAndType 5 6), (0, u "java/lang/Record"), (0, u "<init>"), (0, u "()V"), (9, .fieldref 17 18), (0, .class_ 19), (0, .nameAndType 20 21), (0, u "com/example/mendline/mendline/protocol/ChainTimeouts"), (0, u "baseMs"), (0, u "I"), (0, .fieldref 17 23), (0, .nameAndType 24 21), (0, u "perServerMs"), (24, u "(II)V"), (2, u "DEFAULTS"), (0, u "Lcom/example/mendline/mendline/protocol/ChainTimeouts;")] 39

def k4c0 : Code := { maxStack := 4, maxLocals := 3, code := prog_73_method_1_code, exceptionTable := #[], attributes := #[] }
def k4m0 : Method := { name := "<init>", desc := "(II)V", sig := { parameters := [.int, .int], returnType := none }, accessFlags := 1, code := some k4c0 }
/-- com/example/mendline/mendline/protocol/ChainTimeouts -/
def k4 : Class := { plain "com/example/mendline/mendline/protocol/ChainTimeouts" (some 2) with
  accessFlags := 49
  interfaces := #[]
  cf := some (fileOf pool4 17 #[] #[{ accessFlags := 1, nameIndex := 5, descriptorIndex := 49, attributes := #[] }] 49 2 #[] #[{ accessFlags := 18, nameIndex := 20, descriptorIndex := 21, attributes := #[] }, { accessFlags := 18, nameIndex := 24, descriptorIndex := 21, attributes := #[] }, { accessFlags := 25, nameIndex := 52, descriptorIndex := 53, attributes := #[] }])
  fields := #[{ name := "baseMs", type := .int, accessFlags := 18, slot := 0, constantValue := 0 }, { name := "perServerMs", type := .int, accessFlags := 18, slot := 1, constantValue := 0 }, { name := "DEFAULTS", type := (.object "com/example/mendline/mendline/protocol/ChainTimeouts"), accessFlags := 25, slot := 0, constantValue := 0 }]
  methods := #[k4m0]
  instanceTypes := #[.int, .int]
  staticTypes := #[(.object "com/example/mendline/mendline/protocol/ChainTimeouts")]
  resolved := Array.replicate 93 none
  statics := none }

def pool5 : Array CpInfo := pool [(1, u "java/lang/Cloneable"), (0, .class_ 1), (0, u "java/lang/Object"), (0, .class_ 3)] 3

/-- java/lang/Cloneable -/
def k5 : Class := { plain "java/lang/Cloneable" (some 0) with
  accessFlags := 1537
  interfaces := #[]
  cf := some (fileOf pool5 2 #[] #[] 1537 4 #[] #[])
  fields := #[]
  methods := #[]
  instanceTypes := #[]
  staticTypes := #[]
  resolved := Array.replicate 8 none
  statics := none }

def pool6 : Array CpInfo := pool [(1, u "java/io/Serializable"), (0, .class_ 1), (0, u "java/lang/Object"), (0, .class_ 3)] 3

/-- java/io/Serializable -/
def k6 : Class := { plain "java/io/Serializable" (some 0) with
  accessFlags := 1537
  interfaces := #[]
  cf := some (fileOf pool6 2 #[] #[] 1537 4 #[] #[])
  fields := #[]
  methods := #[]
  instanceTypes := #[]
  staticTypes := #[]
  resolved := Array.replicate 8 none
  statics := none }

/-- the primitive byte -/
def k7 : Class := { plain "byte" none with kind := .primitive 'B', accessFlags := 0x411 }
/-- [B -/
def k8 : Class := { plain "[B" (some 0) with kind := .array 7 .byte, interfaces := #[5, 6], accessFlags := 1041 }

/-- the primitive int -/
def k9 : Class := { plain "int" none with kind := .primitive 'I', accessFlags := 0x411 }
/-- [I -/
def k10 : Class := { plain "[I" (some 0) with kind := .array 9 .int, interfaces := #[5, 6], accessFlags := 1041 }

def heap : Heap := #[]
def classes : Array Class := #[k0, k1, k2, k3, k4, k5, k6, k7, k8, k9, k10]
def interned : List (Array UInt16 × Addr) := []
def slotsUsed : Nat := 0
def theMethod : MethodId := ⟨1, 1⟩
def args0 : Array Value := #[.long 5, .long 7]
def aboutOver (below : List Frame) : State where
  vm := { classes := classes, interned := interned.toArray }
  heap := heap
  slotsUsed := slotsUsed
  threads := #[{ frames := .invoking theMethod args0 :: below }]
def below0 : List Frame := [.native { method := ⟨0, 0⟩, args := #[] }]
def about1 : State := aboutOver below0
def p0 : Program := .bare "" "" ""
def e0 : Env := launch0.env 0 0 0
theorem w_frames : about1.frames = Frame.invoking theMethod args0 :: below0 := rfl
set_option maxRecDepth 65536 in
theorem w_args : argsFit about1.vm theMethod args0 = true := by decide +kernel
set_option maxRecDepth 65536 in
theorem w_heap : heapFits about1 = true := by decide +kernel
set_option maxRecDepth 65536 in
theorem w_runnable : about1.curStatus? = some .runnable := by decide +kernel
set_option maxRecDepth 65536 in
theorem w_alone : about1.alone = true := by decide +kernel
set_option maxRecDepth 65536 in
theorem w_named : about1.methodNamed? x = some theMethod := by decide +kernel
set_option maxRecDepth 65536 in
theorem w_hears : about1.hears theMethod below0 = true := by decide +kernel
set_option maxRecDepth 65536 in
theorem w_ripe : about1.ripe theMethod args0 below0 = true := by decide +kernel
theorem w_running : about1.status = .running := rfl
set_option maxRecDepth 65536 in
theorem w_room : about1.hasRoom e0.platform room_1 = true :=
  launch0.hasRoom_least _ room_1 (by decide +kernel) (by decide +kernel) (by decide +kernel) (by decide +kernel) (by decide +kernel) (by decide +kernel)
theorem allAtoms_all (ts : List Jvm.Cond) (a : Array Jvm.Value) (st : Jvm.State) : (allAtoms ts).before a st = ts.all (fun c => c.before a st) := by
  induction ts with
  | nil => rfl
  | cons c t ih =>
    show (Jvm.Cond.and c (allAtoms t)).before a st = _
    rw [Jvm.Cond.before_and, ih, List.all_cons]
def words1 : List Jvm.Cond := Jvm.Cond.code x code maxLocals ret :: tables_1
/-- a 'code' word, met by the world's own term for the bytes: nothing is compared byte by byte -/
theorem code_word {y : MethodName} {bytes : ByteArray} {mx : Nat} {rt : Option FieldType} {a : Array Value} {s : State} {m : MethodId} {meth : Method} {c : Code} (h1 : s.methodNamed? y = some m) (h2 : s.vm.method? m = some meth) (h3 : meth.code = some c) (h4 : c.code = bytes)
    (h5 : (c.maxLocals == mx && c.exceptionTable.isEmpty && decide (c.maxStack ≤ mostOperands) && decide (meth.sig.returnType = rt) && !meth.locks && decide (parseMethodDescriptor y.desc = some meth.sig)) = true) : (Jvm.Cond.code y bytes mx rt).before a s = true := by
  simp only [Bool.and_eq_true, beq_iff_eq, Bool.not_eq_true', decide_eq_true_eq] at h5
  obtain ⟨⟨⟨⟨⟨g1, g2⟩, g3⟩, g4⟩, g5⟩, g6⟩ := h5
  simp [Cond.before, Cond.holds, Cond.value, h1, h2, h3, h4, g1, g2, g3, g4, g5, g6]
def isCode : Jvm.Cond → Bool
  | .code _ _ _ _ => true
  | _ => false
theorem all_split {L : List Jvm.Cond} {P : Jvm.Cond → Bool} (h1 : L.all (fun c => isCode c || P c) = true) (h2 : ∀ c ∈ L.filter isCode, P c = true) : L.all P = true := by
  refine List.all_eq_true.mpr fun c hc => ?_
  have h := List.all_eq_true.mp h1 c hc
  rcases Bool.eq_false_or_eq_true (isCode c) with hi | hi
  · exact h2 c (List.mem_filter.mpr ⟨hc, hi⟩)
  · simpa [hi] using h
set_option maxRecDepth 65536 in
theorem w_c0 : (Jvm.Cond.code x code maxLocals ret).before args0 about1 = true := code_word (m := ⟨1, 1⟩) (meth := k1m1) (c := k1c1) (by decide +kernel) rfl rfl rfl (by decide +kernel)
set_option maxRecDepth 65536 in
theorem w_c1 : (Jvm.Cond.code ({ cls := "com/example/mendline/mendline/protocol/ChainTimeouts", name := "<init>", desc := "(II)V" } : Jvm.MethodName) prog_73_method_1_code (3 : Nat) (Option.none : Option Jvm.ClassFile.FieldType)).before args0 about1 = true := code_word (m := ⟨4, 0⟩) (meth := k4m0) (c := k4c0) (by decide +kernel) rfl rfl rfl (by decide +kernel)
set_option maxRecDepth 65536 in
theorem w_c2 : (Jvm.Cond.code ({ cls := "java/lang/Record", name := "<init>", desc := "()V" } : Jvm.MethodName) jdk_30_method_1_code (1 : Nat) (Option.none : Option Jvm.ClassFile.FieldType)).before args0 about1 = true := code_word (m := ⟨2, 0⟩) (meth := k2m0) (c := k2c0) (by decide +kernel) rfl rfl rfl (by decide +kernel)
set_option maxRecDepth 65536 in
theorem w_c3 : (Jvm.Cond.code ({ cls := "java/lang/Object", name := "<init>", desc := "()V" } : Jvm.MethodName) object_method_1_code (1 : Nat) (Option.none : Option Jvm.ClassFile.FieldType)).before args0 about1 = true := code_word (m := ⟨0, 0⟩) (meth := k0m0) (c := k0c0) (by decide +kernel) rfl rfl rfl (by decide +kernel)
set_option maxRecDepth 65536 in
theorem w_c4 : (Jvm.Cond.code ({ cls := "com/example/mendline/mendline/data/DataServer$Settings", name := "<init>", desc := "(Lcom/example/mendline/mendline/protocol/ChainTimeouts;JJ)V" } : Jvm.MethodName) prog_31_method_1_code (6 : Nat) (Option.none : Option Jvm.ClassFile.FieldType)).before args0 about1 = true := code_word (m := ⟨3, 0⟩) (meth := k3m0) (c := k3c0) (by decide +kernel) rfl rfl rfl (by decide +kernel)
set_option maxRecDepth 65536 in
theorem w_c5 : (Jvm.Cond.code ({ cls := "com/example/mendline/mendline/data/DataServer$Settings", name := "scanning", desc := "()Z" } : Jvm.MethodName) prog_31_method_4_code (1 : Nat) (Option.some Jvm.ClassFile.FieldType.boolean)).before args0 about1 = true := code_word (m := ⟨3, 1⟩) (meth := k3m1) (c := k3c1) (by decide +kernel) rfl rfl rfl (by decide +kernel)
def codes1 : List Jvm.Cond := [Jvm.Cond.code x code maxLocals ret, Jvm.Cond.code ({ cls := "com/example/mendline/mendline/protocol/ChainTimeouts", name := "<init>", desc := "(II)V" } : Jvm.MethodName) prog_73_method_1_code (3 : Nat) (Option.none : Option Jvm.ClassFile.FieldType), Jvm.Cond.code ({ cls := "java/lang/Record", name := "<init>", desc := "()V" } : Jvm.MethodName) jdk_30_method_1_code (1 : Nat) (Option.none : Option Jvm.ClassFile.FieldType), Jvm.Cond.code ({ cls := "java/lang/Object", name := "<init>", desc := "()V" } : Jvm.MethodName) object_method_1_code (1 : Nat) (Option.none : Option Jvm.ClassFile.FieldType), Jvm.Cond.code ({ cls := "com/example/mendline/mendline/data/DataServer$Settings", name := "<init>", desc := "(Lcom/example/mendline/mendline/protocol/ChainTimeouts;JJ)V" } : Jvm.MethodName) prog_31_method_1_code (6 : Nat) (Option.none : Option Jvm.ClassFile.FieldType), Jvm.Cond.code ({ cls := "com/example/mendline/mendline/data/DataServer$Settings", name := "scanning", desc := "()Z" } : Jvm.MethodName) prog_31_method_4_code (1 : Nat) (Option.some Jvm.ClassFile.FieldType.boolean)]
set_option maxRecDepth 65536 in
theorem codes_eq : words1.filter isCode = codes1 := rfl
theorem w_codes : ∀ c ∈ words1.filter isCode, c.before args0 about1 = true := by
  rw [codes_eq]
  intro c hc
  simp only [codes1, List.mem_cons, List.not_mem_nil, or_false] at hc
  rcases hc with rfl | rfl | rfl | rfl | rfl | rfl
  · exact w_c0
  · exact w_c1
  · exact w_c2
  · exact w_c3
  · exact w_c4
  · exact w_c5
set_option maxRecDepth 65536 in
theorem w_t1 : (words1.take 24).all (fun c => isCode c || c.before args0 about1) = true := by decide +kernel
set_option maxRecDepth 65536 in
theorem w_t2 : (words1.drop 24).all (fun c => isCode c || c.before args0 about1) = true := by decide +kernel
theorem w_tables : (allAtoms (Jvm.Cond.code x code maxLocals ret :: tables_1)).before args0 about1 = true := by
  rw [allAtoms_all]
  show words1.all (fun c => c.before args0 about1) = true
  refine all_split ?_ w_codes
  rw [← List.take_append_drop 24 words1, List.all_append, w_t1, w_t2]
  rfl
set_option maxRecDepth 65536 in
theorem w_case : (Jvm.Cond.and given_1 narrow_1).before args0 about1 = true := by decide +kernel
theorem w_applies : (headSpec (Jvm.Cond.code x code maxLocals ret :: tables_1) room_1).applies x e0.platform about1 = true :=
  (Spec.applies_iff w_frames).mpr ⟨w_running, w_runnable, w_alone, w_named, w_hears, w_ripe, w_room, w_tables⟩
theorem atStart : AtStart classFile x code maxLocals ret World_1 tables_1 room_1 Calls_1 rest_1 Pre_1 launch0 p0 e0 about1 theMethod args0 below0 :=
  ⟨lists_1, trivial, launch0.admits_env _ _ _, launch0.least_env, fairChoices_fair.cas, fairChoices_fair.clock, w_frames, w_args, w_heap, w_applies, trivial, trivial, w_case⟩
end start1
theorem witness_1 : WitnessClaimed_1 := ⟨start1.p0, start1.e0, start1.about1, start1.theMethod, start1.args0, start1.below0, start1.atStart⟩
end Jvm.Pilot.@@N@@
