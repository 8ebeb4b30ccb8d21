import JvmDerived
import JvmDerived.Pilot.@@N@@Statement
import JvmDerived.Pilot.@@N@@Code
set_option linter.unusedVariables false
set_option linter.unusedSimpArgs false
namespace Jvm.RoadKit
open Sem ClassFile Op Lib Jvm.Stand Jvm.Free Jvm.LawKit
section OwnWalk
variable {p : Program} {l : Launch} {e : Env} {R : Room} {s : State} {m : MethodId} {args : Array Value} {below : List Frame} {meth : Method} {c : Code} {T : State} {locs : List Loc} {cells slots : Nat} {Z : State} {a0 : Array Value} {h : Heap}
theorem retI (X : Stand p l e R s m args below meth c T locs cells slots) (hx : p.tables.exec = Jvm.exec) {pc : Nat} {Ls : Array Slot} {z : Int32} {rest : List Value} (hret : meth.sig.returnType = some .int) (hd : decode c.code pc = .ok (.ireturn, 1)) {fs : List Frame}
    (hl : ∀ (f : JFrame) (acts : List Action), f.method = m → f.locked = none → f.entered = [] → (doReturn e (T.setTop f) acts (some (.int z))).1 = T.setFrames fs) : Steps p.tables e below (T.setTop (mkF m pc Ls (.int z :: rest))) (T.setFrames fs) := by
  have hm' : T.vm.method? m = some meth := X.method'
  have hn : narrow .int (.int z) = .int z := rfl
  show Steps p.tables e below (T.setTop { method := m, pc := pc, locals := Ls, stack := _ :: rest, locked := none }) _
  jvm_step X.here [X.here.top, hx, hd, hm', hret, hn]
  first | (intro acts; rw [hl _ acts rfl rfl rfl]) | rw [hl _ _ rfl rfl rfl]
  exact Steps.refl _
/-- a body's contract at given arguments and a given heap -/
abbrev own_Met (l : Launch) (y : MethodName) (bytes : ByteArray) (maxL : Nat) (ret : Option FieldType) (ws : List Cond) (rm : Room) (Z : State) (as' : Array Value) (h : Heap) (Q : Option Value → Heap → List Loc → Prop) : Prop :=
  MetFree l y (head1 (Cond.code y bytes maxL ret :: ws) rm) (fun a U => a = as' ∧ Z.Warmed39 U.vm ∧ U.heap = h) (fun _ _ _ _ _ => True) (fun _ U o U' => ∃ v L, o = .returned v ∧ Q v U'.heap L ∧ FrameEnd U o U' L rm.cells rm.slots)
/-- from here the walk comes to its end, and Q holds there -/
def own_Go (p : Program) (e : Env) (below : List Frame) (s T : State) (g : JFrame) (k n : Nat) (Q : Option Value → Heap → List Loc → Prop) : Prop :=
  ∃ s₂ o, Steps p.tables e below (T.setTop g) s₂ ∧ s₂.status = .running ∧ Ended s₂ below o ∧ ∃ v L, o = .returned v ∧ Q v s₂.heap L ∧ FrameEnd s o s₂ L k n
variable {k n : Nat} {Q : Option Value → Heap → List Loc → Prop}
theorem own_in {g g' : JFrame} (ef : g = g') (q : own_Go p e below s T g' k n Q) : ∃ s₂ o, Steps p.tables e below (T.setTop g) s₂ ∧ s₂.status = .running ∧ Ended s₂ below o ∧ ∃ v L, o = .returned v ∧ Q v s₂.heap L ∧ FrameEnd s o s₂ L k n := by
  subst ef; exact q
theorem own_go {T' : State} {g g' : JFrame} (f : ∀ t, Steps p.tables e below (T'.setTop g') t → Steps p.tables e below (T.setTop g) t) (q : own_Go p e below s T' g' k n Q) : own_Go p e below s T g k n Q := by
  obtain ⟨s₂, o, h1, h2⟩ := q; exact ⟨s₂, o, f _ h1, h2⟩
theorem own_outI (X : Stand p l e R s m args below meth c T locs cells slots) (hx : p.tables.exec = Jvm.exec) (hlk : meth.locks = false) (hret : meth.sig.returnType = some .int) {pc : Nat} {Ls : Array Slot} {z : Int32} {rest : List Value} (hd : decode c.code pc = .ok (.ireturn, 1))
    (q : Q (some (.int z)) T.heap locs) (hk : cells ≤ k) (hn : slots ≤ n) : own_Go p e below s T (mkF m pc Ls (.int z :: rest)) k n Q := by
  obtain ⟨fs, hr, hrun, hended, hW, hsame⟩ := X.leave (v := some (.int z)) (fun h => by rw [hret] at h; cases h) hlk
  exact ⟨_, _, retI X hx hret hd hr, hrun, hended, _, _, rfl, q, ⟨_, rfl⟩, hW, hsame.mono hk hn⟩
theorem own_outN (X : Stand p l e R s m args below meth c T locs cells slots) (hx : p.tables.exec = Jvm.exec) (hlk : meth.locks = false) {t : FieldType} (hret : meth.sig.returnType = some t) (ht : t = .boolean ∨ t = .byte ∨ t = .char ∨ t = .short) {pc : Nat} {Ls : Array Slot} {z w : Int32} {rest : List Value} (hd : decode c.code pc = .ok (.ireturn, 1))
    (hw : nar t z = w) (q : Q (some (.int w)) T.heap locs) (hk : cells ≤ k) (hn : slots ≤ n) : own_Go p e below s T (mkF m pc Ls (.int z :: rest)) k n Q := by
  subst hw
  obtain ⟨fs, hr, hrun, hended, hW, hsame⟩ := X.leave (v := some (.int (nar t z))) (fun h => by rw [hret] at h; cases h) hlk
  exact ⟨_, _, retN X hx hret ht hd hr, hrun, hended, _, _, rfl, q, ⟨_, rfl⟩, hW, hsame.mono hk hn⟩
theorem own_outJ (X : Stand p l e R s m args below meth c T locs cells slots) (hx : p.tables.exec = Jvm.exec) (hlk : meth.locks = false) (hret : meth.sig.returnType = some .long) {pc : Nat} {Ls : Array Slot} {z : Int64} {rest : List Value} (hd : decode c.code pc = .ok (.lreturn, 1))
    (q : Q (some (.long z)) T.heap locs) (hk : cells ≤ k) (hn : slots ≤ n) : own_Go p e below s T (mkF m pc Ls (.long z :: rest)) k n Q := by
  obtain ⟨fs, hr, hrun, hended, hW, hsame⟩ := X.leave (v := some (.long z)) (fun h => by rw [hret] at h; cases h) hlk
  exact ⟨_, _, retOut X hx hret rfl (Or.inr (Or.inl ⟨rfl, rfl, _, rfl⟩)) hd hr, hrun, hended, _, _, rfl, q, ⟨_, rfl⟩, hW, hsame.mono hk hn⟩
theorem own_outD (X : Stand p l e R s m args below meth c T locs cells slots) (hx : p.tables.exec = Jvm.exec) (hlk : meth.locks = false) (hret : meth.sig.returnType = some .double) {pc : Nat} {Ls : Array Slot} {z : UInt64} {rest : List Value} (hd : decode c.code pc = .ok (.dreturn, 1))
    (q : Q (some (.double z)) T.heap locs) (hk : cells ≤ k) (hn : slots ≤ n) : own_Go p e below s T (mkF m pc Ls (.double z :: rest)) k n Q := by
  obtain ⟨fs, hr, hrun, hended, hW, hsame⟩ := X.leave (v := some (.double z)) (fun h => by rw [hret] at h; cases h) hlk
  exact ⟨_, _, retOut X hx hret rfl (Or.inr (Or.inr (Or.inl ⟨rfl, rfl, _, rfl⟩))) hd hr, hrun, hended, _, _, rfl, q, ⟨_, rfl⟩, hW, hsame.mono hk hn⟩
theorem own_outA (X : Stand p l e R s m args below meth c T locs cells slots) (hx : p.tables.exec = Jvm.exec) (hlk : meth.locks = false) {t : FieldType} (hret : meth.sig.returnType = some t) (ht : t.isReference = true) {pc : Nat} {Ls : Array Slot} {w : Value} {rest : List Value} (hwr : w.isRef = true) (hd : decode c.code pc = .ok (.areturn, 1))
    (q : Q (some w) T.heap locs) (hk : cells ≤ k) (hn : slots ≤ n) : own_Go p e below s T (mkF m pc Ls (w :: rest)) k n Q := by
  obtain ⟨fs, hr, hrun, hended, hW, hsame⟩ := X.leave (v := some w) (fun h => by rw [hret] at h; cases h) hlk
  have hnw : narrow t w = w := by rcases ref_cases hwr with rfl | ⟨a, rfl⟩ <;> cases t <;> first | rfl | cases ht
  exact ⟨_, _, retOut X hx hret hnw (Or.inr (Or.inr (Or.inr (Or.inr ⟨rfl, ht, hwr⟩)))) hd hr, hrun, hended, _, _, rfl, q, ⟨_, rfl⟩, hW, hsame.mono hk hn⟩
theorem own_outV (X : Stand p l e R s m args below meth c T locs cells slots) (hx : p.tables.exec = Jvm.exec) (hlk : meth.locks = false) (hret : meth.sig.returnType = none) {pc : Nat} {Ls : Array Slot} (hd : decode c.code pc = .ok (.return_, 1))
    (q : Q none T.heap locs) (hk : cells ≤ k) (hn : slots ≤ n) : own_Go p e below s T (mkF m pc Ls []) k n Q := by
  obtain ⟨fs, hr, hrun, hended, hW, hsame⟩ := X.leave (v := none) (fun _ => rfl) hlk
  exact ⟨_, _, X.returnOut hx hret hd hr, hrun, hended, _, _, rfl, q, ⟨_, rfl⟩, hW, hsame.mono hk hn⟩
theorem own_callS (X : Stand p l e R s m args below meth c T locs cells slots) (hx : p.tables.exec = Jvm.exec) (hZ : Z.Warmed39 s.vm) {own : String} {index : Nat} {y : MethodName} {bytes : ByteArray} {maxL : Nat} {ret : Option FieldType} {rm : Room} {argsL rest : List Value}
    (hown : s.vm.findClass own = some m.cls) (w1 : (Cond.methodLink own index y).before a0 Z = true) (w2 : (Cond.static y).before a0 Z = true) (w3 : (Cond.initialized y.cls).before a0 Z = true) (w4 : (Cond.code y bytes maxL ret).before a0 Z = true)
    (hM : own_Met l y bytes maxL ret [] rm Z argsL.toArray h Q) (eT : T.heap = h) (hy : y.cls ≠ "java/lang/invoke/MethodHandle" ∧ y.cls ≠ "java/lang/invoke/VarHandle") (hf : rm.frames + 1 ≤ R.frames) (W : Nat) (hl : W + (maxL + 11) + rm.locals ≤ R.locals) (hc : cells + rm.cells ≤ R.cells) (hs : slots + rm.slots ≤ R.slots)
    {g : JFrame} (hg : g.method = m) (hsize : g.locals.size = c.maxLocals) (hlen : ∀ sig, parseMethodDescriptor y.desc = some sig → argsL.length = sig.parameters.length) (hstack : g.stack = argsL.reverse ++ rest) (hW : 2 * g.monitorRoom + (rest.map fun v => v.category).sum ≤ W) (hd : decode c.code g.pc = .ok (.invokestatic index, 3)) :
    ∃ v T' L, Stand p l e R s m args below meth c T' (locs ++ L) (cells + rm.cells) (slots + rm.slots) ∧ Q v T'.heap L ∧ ∀ t, Steps p.tables e below (T'.setTop { g with pc := g.pc + 3, stack := v.toList ++ rest }) t → Steps p.tables e below (T.setTop g) t := by
  obtain ⟨v, _, ⟨T', L', k', n'⟩, -, X', ⟨Lc, hQ, l1, l2, l3⟩, st⟩ := Jvm.LawKit.callS X hx (y := y) hown (mvT hZ w1) (mvT hZ w2) (mvT hZ w3) (mvT hZ w4) hy (backOf (W := W) hM hZ w4 w3 hf hl) hg hsize (argsL := argsL) (rest := rest) hlen hstack hW hd (fun _ _ => ⟨rfl, eT, hc, hs⟩)
  dsimp only [Pt.U, Pt.locs, Pt.cells, Pt.slots] at X' l1 l2 l3 st hQ
  subst l1 l2 l3
  exact ⟨v, T', Lc, X', hQ, st⟩
theorem own_callV (X : Stand p l e R s m args below meth c T locs cells slots) (hx : p.tables.exec = Jvm.exec) (hZ : Z.Warmed39 s.vm) {own C : String} {index : Nat} {y : MethodName} {bytes : ByteArray} {maxL : Nat} {ret : Option FieldType} {rm : Room} {b : Addr} {argsL rest : List Value}
    (hown : s.vm.findClass own = some m.cls) (w1 : (Cond.methodLink own index y).before a0 Z = true) (w2 : (Cond.declares y).before a0 Z = true) (w3 : (Cond.selects C y y).before a0 Z = true) (w4 : (Cond.instanceMethod y).before a0 Z = true) (w5 : (Cond.initialized y.cls).before a0 Z = true) (w6 : (Cond.code y bytes maxL ret).before a0 Z = true)
    (hM : own_Met l y bytes maxL ret [] rm Z (.ref b :: argsL).toArray h Q) (eT : T.heap = h) (E : Exa Z h b C) (hy : y.cls ≠ "java/lang/invoke/MethodHandle" ∧ y.cls ≠ "java/lang/invoke/VarHandle") (hf : rm.frames + 1 ≤ R.frames) (W : Nat) (hl : W + (maxL + 11) + rm.locals ≤ R.locals) (hc : cells + rm.cells ≤ R.cells) (hs : slots + rm.slots ≤ R.slots)
    {g : JFrame} (hg : g.method = m) (hsize : g.locals.size = c.maxLocals) (hlen : ∀ sig, parseMethodDescriptor y.desc = some sig → argsL.length = sig.parameters.length) (hstack : g.stack = argsL.reverse ++ .ref b :: rest) (hW : 2 * g.monitorRoom + (rest.map fun v => v.category).sum ≤ W) (hd : decode c.code g.pc = .ok (.invokevirtual index, 3)) :
    ∃ v T' L, Stand p l e R s m args below meth c T' (locs ++ L) (cells + rm.cells) (slots + rm.slots) ∧ Q v T'.heap L ∧ ∀ t, Steps p.tables e below (T'.setTop { g with pc := g.pc + 3, stack := v.toList ++ rest }) t → Steps p.tables e below (T.setTop g) t := by
  obtain ⟨cq, kq, qa, qb, qc⟩ := isOf hZ eT E
  obtain ⟨v, _, ⟨T', L', k', n'⟩, -, X', ⟨Lc, hQ, l1, l2, l3⟩, st⟩ := X.virtualBack hx (y := y) (z := y) hown (mvT hZ w1) (mvT hZ w2) (notFace_of_selects (args := #[]) (mvT hZ w3)) (mvT hZ w3) (mvT hZ w4) hy (backOf (W := W) hM hZ w6 w5 hf hl) qa qc hg hsize (Steps.refl _) (argsL := argsL) (rest := rest) hlen hstack hW hd (fun _ _ => ⟨rfl, eT, hc, hs⟩)
  dsimp only [Pt.U, Pt.locs, Pt.cells, Pt.slots] at X' l1 l2 l3 st hQ
  subst l1 l2 l3
  exact ⟨v, T', Lc, X', hQ, fun t q => st.trans q⟩
theorem own_callP (X : Stand p l e R s m args below meth c T locs cells slots) (hx : p.tables.exec = Jvm.exec) (hZ : Z.Warmed39 s.vm) {own : String} {index : Nat} {y : MethodName} {bytes : ByteArray} {maxL : Nat} {rm : Room} {a : Addr} {argsL rest : List Value}
    (hown : s.vm.findClass own = some m.cls) (hy1 : y.name = "<init>") (w1 : (Cond.methodLink own index y).before a0 Z = true) (w2 : (Cond.instanceMethod y).before a0 Z = true) (w3 : (Cond.initialized y.cls).before a0 Z = true) (w4 : (Cond.code y bytes maxL none).before a0 Z = true)
    (hM : own_Met l y bytes maxL none [] rm Z (.ref a :: argsL).toArray h Q) (eT : T.heap = h) (hy : y.cls ≠ "java/lang/invoke/MethodHandle" ∧ y.cls ≠ "java/lang/invoke/VarHandle") (hf : rm.frames + 1 ≤ R.frames) (W : Nat) (hl : W + (maxL + 11) + rm.locals ≤ R.locals) (hc : cells + rm.cells ≤ R.cells) (hs : slots + rm.slots ≤ R.slots)
    {g : JFrame} (hg : g.method = m) (hsize : g.locals.size = c.maxLocals) (hlen : ∀ sig, parseMethodDescriptor y.desc = some sig → argsL.length = sig.parameters.length) (hstack : g.stack = argsL.reverse ++ .ref a :: rest) (hW : 2 * g.monitorRoom + (rest.map fun v => v.category).sum ≤ W) (hd : decode c.code g.pc = .ok (.invokespecial index, 3)) :
    ∃ v T' L, Stand p l e R s m args below meth c T' (locs ++ L) (cells + rm.cells) (slots + rm.slots) ∧ Q v T'.heap L ∧ ∀ t, Steps p.tables e below (T'.setTop { g with pc := g.pc + 3, stack := v.toList ++ rest }) t → Steps p.tables e below (T.setTop g) t := by
  obtain ⟨v, _, ⟨T', L', k', n'⟩, -, X', ⟨Lc, hQ, l1, l2, l3⟩, st⟩ := X.specialBack hx (y := y) hy1 hown (mvT hZ w1) (mvT hZ w2) (mvT hZ w4) hy (backOf (W := W) hM hZ w4 w3 hf hl) hg hsize (Steps.refl _) (a := a) (argsL := argsL) (rest := rest) hlen hstack hW hd (fun _ _ => ⟨rfl, eT, hc, hs⟩)
  dsimp only [Pt.U, Pt.locs, Pt.cells, Pt.slots] at X' l1 l2 l3 st hQ
  subst l1 l2 l3
  exact ⟨v, T', Lc, X', hQ, fun t q => st.trans q⟩
end OwnWalk
theorem own_llt (x y : Int64) : XT.cmpL x y < 0 ↔ x < y := by
  show (if y < x then (1 : Int32) else if x = y then 0 else -1) < 0 ↔ _
  split
  · rename_i h; exact ⟨fun q => absurd q (by decide), fun q => by rw [Int64.lt_iff_toInt_lt] at h q; omega⟩
  · rename_i h; split
    · rename_i h2; subst h2; exact ⟨fun q => absurd q (by decide), fun q => absurd q h⟩
    · rename_i h2; refine ⟨fun _ => ?_, fun _ => by decide⟩
      rw [← Int64.toInt_inj] at h2; rw [Int64.lt_iff_toInt_lt] at h ⊢; omega
theorem own_lgt (x y : Int64) : 0 < XT.cmpL x y ↔ y < x := by
  show 0 < (if y < x then (1 : Int32) else if x = y then 0 else -1) ↔ _
  split
  · rename_i h; exact ⟨fun _ => h, fun _ => by decide⟩
  · rename_i h; split
    · exact ⟨fun q => absurd q (by decide), fun q => absurd q h⟩
    · exact ⟨fun q => absurd q (by decide), fun q => absurd q h⟩
theorem own_leq (x y : Int64) : XT.cmpL x y = 0 ↔ x = y := by
  show (if y < x then (1 : Int32) else if x = y then 0 else -1) = 0 ↔ _
  split
  · rename_i h; refine ⟨fun q => absurd q (by decide), fun q => ?_⟩; subst q; exact absurd h (by simp only [Int64.lt_iff_toInt_lt]; omega)
  · split
    · rename_i h; exact ⟨fun _ => h, fun _ => rfl⟩
    · rename_i h; exact ⟨fun q => absurd q (by decide), fun q => absurd q h⟩
theorem own_at {x y : Value} (h : x = y) : XT.acmp .eq x y = true ∧ XT.acmp .ne x y = false := by subst h; exact ⟨decide_eq_true rfl, decide_eq_false fun q => q rfl⟩
theorem own_af {x y : Value} (h : ¬ (x = y)) : XT.acmp .eq x y = false ∧ XT.acmp .ne x y = true := ⟨decide_eq_false h, decide_eq_true h⟩
theorem own_fld {s : State} {args : Array Value} {t u : Term} {C n d : String} {a : Addr} {v : Value} (ev : t.eval args s none [] s = some (.ref a)) (hu : u.eval args s none [] s = some v) (hq : (Cond.eq (.field t C n d) u).value args s none s [] = some true) : Fld s s.heap a C n d v := by
  refine Fld.start ?_
  obtain ⟨x, y, h1, h2, -, -⟩ := cmp_v (Or.inl hq)
  cases hu.symm.trans h2
  have h3 := h1
  rw [fld_at ev] at h3
  simp only [Cond.value, h1, h2] at hq
  rw [h3]
  cases x <;> cases v <;> simp at hq ⊢ <;> exact hq
section OwnArr
variable {p : Program} {l : Launch} {e : Env} {R : Room} {s : State} {m : MethodId} {args : Array Value} {below : List Frame} {meth : Method} {c : Code} {T : State} {locs : List Loc} {cells slots : Nat} {Z : State} {a0 : Array Value} {h h' : Heap} {a b : Addr} {ty : FieldType} {vs : List Value} {v : Value} {ws : List Addr} {sl : Nat}
/-- an array whose components are known, each -/
def own_Ar (Z : State) (h : Heap) (a : Addr) (ty : FieldType) (vs : List Value) : Prop := ∃ c : Cell, Arr Z h a c ty ∧ c.slots = vs.toArray
theorem own_Ar.ext (F : own_Ar Z h a ty vs) (E : Ext h h') : own_Ar Z h' a ty vs := by obtain ⟨c, A, q⟩ := F; exact ⟨c, A.ext E, q⟩
theorem own_Ar.other (F : own_Ar Z h b ty vs) (W : Wr h h' a sl v) (q : b ≠ a) : own_Ar Z h' b ty vs := by obtain ⟨c, A, r⟩ := F; exact ⟨c, A.other W q, r⟩
theorem own_Ar.keep (F : own_Ar Z h a ty vs) (K : Keep h h' ws) (q : a ∉ ws) : own_Ar Z h' a ty vs := by obtain ⟨c, A, r⟩ := F; exact ⟨c, ⟨K.2.1 a c A.1 q, A.2⟩, r⟩
theorem own_Ar.lt (F : own_Ar Z h a ty vs) : a < h.size := by obtain ⟨c, A, -⟩ := F; exact A.lt
theorem own_Ar.put (F : own_Ar Z h a ty vs) {j : Nat} (W : Wr h h' a j v) : own_Ar Z h' a ty (vs.set j v) := by
  obtain ⟨c, A, q⟩ := F
  refine ⟨_, A.same W, ?_⟩
  show c.slots.setIfInBounds j v = _
  rw [q, List.setIfInBounds_toArray]
theorem own_newP (X : Stand p l e R s m args below meth c T locs cells slots) (hx : p.tables.exec = Jvm.exec) (hZ : Z.Warmed39 s.vm) {aty : ArrayType} (w : (Cond.arrayClass (newarray.typeOf aty)).before a0 Z = true) (eT : T.heap = h) {g : JFrame} (hg : g.method = m) (hd : decode c.code g.pc = .ok (.newarray aty, 2)) {n : Int32} {rest : List Value} (hs : g.stack = .int n :: rest)
    (hn : ¬ n < 0) (k : Nat) (hk : n.toNatClampNeg = k) (hb : k * 8 ≤ 536870912) (hc : cells + 1 ≤ R.cells) (hl : slots + k ≤ R.slots) :
    ∃ T' h', Stand p l e R s m args below meth c T' locs (cells + 1) (slots + k) ∧ T'.heap = h' ∧ Ext h h' ∧ own_Ar Z h' h.size (newarray.typeOf aty) (List.replicate k (defaultValue (newarray.typeOf aty))) ∧
      ∀ target, Steps p.tables e below (T'.setTop { g with pc := g.pc + 2, stack := .ref h.size :: rest }) target → Steps p.tables e below (T.setTop g) target := by
  obtain ⟨T', h', cA, X', e', E, A, st⟩ := newP X hx hZ w eT hg hd hs hn (cap := k) (Nat.le_of_eq hk) hb hc hl
  refine ⟨T', h', X', e', E, ⟨_, A, ?_⟩, st⟩
  show Array.replicate n.toNatClampNeg _ = _
  rw [hk, ← List.toArray_replicate]
theorem own_in_of (F : own_Ar Z h a ty vs) {j : Int32} (hj : ¬ j < 0) (hl : j.toNatClampNeg < vs.length) : ∃ cl : Cell, Arr Z h a cl ty ∧ cl.slots = vs.toArray ∧ ¬ (j < 0 ∨ cl.slots.size ≤ j.toNatClampNeg) := by
  obtain ⟨cl, A, q⟩ := F
  refine ⟨cl, A, q, fun z => z.elim hj fun y => ?_⟩
  rw [q] at y
  exact absurd hl (Nat.not_lt.mpr (by simpa using y))
theorem own_stJ (X : Stand p l e R s m args below meth c T locs cells slots) (hx : p.tables.exec = Jvm.exec) (hZ : Z.Warmed39 s.vm) (eT : T.heap = h) (F : own_Ar Z h a .long vs) {j : Int32} {x : Int64} (hj : ¬ j < 0) (k : Nat) (hk : j.toNatClampNeg = k) (hl : k < vs.length) {g : JFrame} (hg : g.method = m) {rest : List Value} (hs : g.stack = .long x :: .int j :: .ref a :: rest) (hd : decode c.code g.pc = .ok (.lastore, 1)) :
    ∃ T' h', Stand p l e R s m args below meth c T' (locs ++ [⟨a, k⟩]) cells slots ∧ T'.heap = h' ∧ Wr h h' a k (.long x) ∧ own_Ar Z h' a .long (vs.set k (.long x)) ∧ ∀ target, Steps p.tables e below (T'.setTop { g with pc := g.pc + 1, stack := rest }) target → Steps p.tables e below (T.setTop g) target := by
  subst hk
  obtain ⟨cl, A, q, hin⟩ := own_in_of F hj hl
  obtain ⟨T', h', X', e', W, st⟩ := stJ X hx hZ eT A hin hg hs hd
  exact ⟨T', h', X', e', W, F.put W, st⟩
theorem own_stI (X : Stand p l e R s m args below meth c T locs cells slots) (hx : p.tables.exec = Jvm.exec) (hZ : Z.Warmed39 s.vm) (eT : T.heap = h) (F : own_Ar Z h a .int vs) {j x : Int32} (hj : ¬ j < 0) (k : Nat) (hk : j.toNatClampNeg = k) (hl : k < vs.length) {g : JFrame} (hg : g.method = m) {rest : List Value} (hs : g.stack = .int x :: .int j :: .ref a :: rest) (hd : decode c.code g.pc = .ok (.iastore, 1)) :
    ∃ T' h', Stand p l e R s m args below meth c T' (locs ++ [⟨a, k⟩]) cells slots ∧ T'.heap = h' ∧ Wr h h' a k (.int x) ∧ own_Ar Z h' a .int (vs.set k (.int x)) ∧ ∀ target, Steps p.tables e below (T'.setTop { g with pc := g.pc + 1, stack := rest }) target → Steps p.tables e below (T.setTop g) target := by
  subst hk
  obtain ⟨cl, A, q, hin⟩ := own_in_of F hj hl
  obtain ⟨T', h', X', e', W, st⟩ := stI X hx hZ eT A hin hg hs hd
  exact ⟨T', h', X', e', W, F.put W, st⟩
theorem own_stB (X : Stand p l e R s m args below meth c T locs cells slots) (hx : p.tables.exec = Jvm.exec) (hZ : Z.Warmed39 s.vm) (eT : T.heap = h) (F : own_Ar Z h a .byte vs) {j x : Int32} (hj : ¬ j < 0) (k : Nat) (hk : j.toNatClampNeg = k) (hl : k < vs.length) {g : JFrame} (hg : g.method = m) {rest : List Value} (hs : g.stack = .int x :: .int j :: .ref a :: rest) (hd : decode c.code g.pc = .ok (.bastore, 1)) :
    ∃ T' h', Stand p l e R s m args below meth c T' (locs ++ [⟨a, k⟩]) cells slots ∧ T'.heap = h' ∧ Wr h h' a k (.int (nar .byte x)) ∧ own_Ar Z h' a .byte (vs.set k (.int (nar .byte x))) ∧ ∀ target, Steps p.tables e below (T'.setTop { g with pc := g.pc + 1, stack := rest }) target → Steps p.tables e below (T.setTop g) target := by
  subst hk
  obtain ⟨cl, A, q, hin⟩ := own_in_of F hj hl
  obtain ⟨T', h', X', e', W, st⟩ := stB X hx hZ eT A hin hg hs hd
  exact ⟨T', h', X', e', W, F.put W, st⟩
theorem own_stC (X : Stand p l e R s m args below meth c T locs cells slots) (hx : p.tables.exec = Jvm.exec) (hZ : Z.Warmed39 s.vm) (eT : T.heap = h) (F : own_Ar Z h a .char vs) {j x : Int32} (hj : ¬ j < 0) (k : Nat) (hk : j.toNatClampNeg = k) (hl : k < vs.length) {g : JFrame} (hg : g.method = m) {rest : List Value} (hs : g.stack = .int x :: .int j :: .ref a :: rest) (hd : decode c.code g.pc = .ok (.castore, 1)) :
    ∃ T' h', Stand p l e R s m args below meth c T' (locs ++ [⟨a, k⟩]) cells slots ∧ T'.heap = h' ∧ Wr h h' a k (.int (nar .char x)) ∧ own_Ar Z h' a .char (vs.set k (.int (nar .char x))) ∧ ∀ target, Steps p.tables e below (T'.setTop { g with pc := g.pc + 1, stack := rest }) target → Steps p.tables e below (T.setTop g) target := by
  subst hk
  obtain ⟨cl, A, q, hin⟩ := own_in_of F hj hl
  obtain ⟨T', h', X', e', W, st⟩ := stC X hx hZ eT A hin hg hs hd
  exact ⟨T', h', X', e', W, F.put W, st⟩
theorem own_clone (X : Stand p l e R s m args below meth c T locs cells slots) (hx : p.tables.exec = Jvm.exec) (hZ : Z.Warmed39 s.vm) {own ad : String} {index : Nat} (hown : s.vm.findClass own = some m.cls)
    (w1 : (Cond.methodLink own index ⟨ad, "clone", "()Ljava/lang/Object;"⟩).before a0 Z = true) (w2 : (Cond.sameMethod ad "java/lang/Object" "clone" "()Ljava/lang/Object;").before a0 Z = true) (w3 : (Cond.native ⟨"java/lang/Object", "clone", "()Ljava/lang/Object;"⟩).before a0 Z = true)
    (w4 : (Cond.instanceMethod ⟨"java/lang/Object", "clone", "()Ljava/lang/Object;"⟩).before a0 Z = true) (w5 : (Cond.selects ad ⟨ad, "clone", "()Ljava/lang/Object;"⟩ ⟨"java/lang/Object", "clone", "()Ljava/lang/Object;"⟩).before a0 Z = true) (w6 : (Cond.castable ad "java/lang/Cloneable").before a0 Z = true)
    (eT : T.heap = h) (F : own_Ar Z h a ty vs) (hfit : ∀ v ∈ vs, fits ty v = true) (E : Exa Z h a ad) {g : JFrame} (hg : g.method = m) (hsize : g.locals.size = c.maxLocals) {rest : List Value} (hs : g.stack = .ref a :: rest) (hd : decode c.code g.pc = .ok (.invokevirtual index, 3))
    (hf : 1 ≤ R.frames) (W : Nat) (hW : 2 * g.monitorRoom + (rest.map fun v => v.category).sum ≤ W) (hl : W + 14 ≤ R.locals) (hc : cells + 1 ≤ R.cells) (kk : Nat) (hkk : vs.length = kk) (hsl : slots + kk ≤ R.slots) :
    ∃ T' h', Stand p l e R s m args below meth c T' locs (cells + 1) (slots + kk) ∧ T'.heap = h' ∧ Ext h h' ∧ own_Ar Z h' h.size ty vs ∧ Exa Z h' h.size ad ∧
      ∀ target, Steps p.tables e below (T'.setTop { g with pc := g.pc + 3, stack := .ref h.size :: rest }) target → Steps p.tables e below (T.setTop g) target := by
  obtain ⟨cl, A, q⟩ := F
  have FC : FitC Z cl := fitC_of A fun i hi v hv => hfit v (by rw [q, List.getElem?_toArray] at hv; exact List.mem_of_getElem? hv)
  obtain ⟨T', h', X', e', ex, A', E', st⟩ := cloneA X hx hZ hown w1 w2 w3 w4 w5 w6 eT A E FC hg hsize hs hd hf hW hl (cap := kk) (by rw [q, ← hkk]; simp) hc hsl
  exact ⟨T', h', X', e', ex, ⟨cloneOf cl, A', q⟩, E', st⟩
theorem own_StaK {C n d D : String} {w : Value} (S : Sta Z h C n d w) (E : Exa Z h a D) (K : Keep h h' [a]) : Sta Z h' C n d w := by
  obtain ⟨cf, i, k, f, st, cell, h1, h2, h3, h4, h5, h6, h7⟩ := S
  obtain ⟨c2, k2, e1, -, -, e4, -⟩ := E
  have ne : st ≠ a := fun z => by subst z; cases h5.symm.trans e1; rw [e4] at h6; cases h6
  exact ⟨cf, i, k, f, st, cell, h1, h2, h3, h4, K.2.1 st cell h5 (by simpa using ne), h6, h7⟩
theorem own_StaE {C n d : String} {w : Value} (S : Sta Z h C n d w) (K : Keep h h' []) : Sta Z h' C n d w := by
  obtain ⟨cf, i, k, f, st, cell, h1, h2, h3, h4, h5, h6, h7⟩ := S
  exact ⟨cf, i, k, f, st, cell, h1, h2, h3, h4, K.2.1 st cell h5 nin0, h6, h7⟩
theorem own_Xt {h0 : Heap} (O : Ext h0 h) (E : Ext h h') : Ext h0 h' := ⟨Nat.le_trans O.1 E.1, fun x c q => E.2 x c (O.2 x c q)⟩
theorem own_Xr (h : Heap) : Ext h h := ⟨Nat.le_refl _, fun _ _ q => q⟩
theorem own_Xk {h0 : Heap} (O : Ext h0 h) (K : Keep h h' ws) (q : ∀ x ∈ ws, h0.size ≤ x) : Ext h0 h' := ⟨Nat.le_trans O.1 K.1, fun x c r => K.2.1 x c (O.2 x c r) fun z => absurd (Array.getElem?_eq_some_iff.mp r).1 (Nat.not_lt.mpr (q x z))⟩
theorem own_Xw {h0 : Heap} (O : Ext h0 h) (W : Wr h h' a sl v) (q : h0.size ≤ a) : Ext h0 h' := own_Xk O (Keep.of_wr W) (allS q all0)
theorem own_val {cl : Cell} (q : cl.slots = vs.toArray) {j : Nat} (hv : vs[j]? = some v) : cl.slots[j]? = some v := by rw [q, List.getElem?_toArray]; exact hv
theorem own_lt {j : Nat} (hv : vs[j]? = some v) : j < vs.length := (List.getElem?_eq_some_iff.mp hv).1
theorem own_ldJ (X : Stand p l e R s m args below meth c T locs cells slots) (hx : p.tables.exec = Jvm.exec) (hZ : Z.Warmed39 s.vm) (eT : T.heap = h) (F : own_Ar Z h a .long vs) {j : Int32} (hj : ¬ j < 0) (hv : vs[j.toNatClampNeg]? = some v) {g : JFrame} (hg : g.method = m) {rest : List Value} (hs : g.stack = .int j :: .ref a :: rest) (hd : decode c.code g.pc = .ok (.laload, 1)) :
    ∀ target, Steps p.tables e below (T.setTop { g with pc := g.pc + 1, stack := v :: rest }) target → Steps p.tables e below (T.setTop g) target := by
  obtain ⟨cl, A, q, hin⟩ := own_in_of F hj (own_lt hv)
  exact fun t k => X.laload hx (by rw [eT]; exact A.1) (State.isArrayOf_alike hZ.alike A.2.1) A.2.2 hin (own_val q hv) hg hs hd t k
theorem own_ldI (X : Stand p l e R s m args below meth c T locs cells slots) (hx : p.tables.exec = Jvm.exec) (hZ : Z.Warmed39 s.vm) (eT : T.heap = h) (F : own_Ar Z h a .int vs) {j : Int32} (hj : ¬ j < 0) (hv : vs[j.toNatClampNeg]? = some v) {g : JFrame} (hg : g.method = m) {rest : List Value} (hs : g.stack = .int j :: .ref a :: rest) (hd : decode c.code g.pc = .ok (.iaload, 1)) :
    ∀ target, Steps p.tables e below (T.setTop { g with pc := g.pc + 1, stack := v :: rest }) target → Steps p.tables e below (T.setTop g) target := by
  obtain ⟨cl, A, q, hin⟩ := own_in_of F hj (own_lt hv)
  exact fun t k => X.iaload hx (by rw [eT]; exact A.1) (State.isArrayOf_alike hZ.alike A.2.1) A.2.2 hin (own_val q hv) hg hs hd t k
theorem own_ldB (X : Stand p l e R s m args below meth c T locs cells slots) (hx : p.tables.exec = Jvm.exec) (hZ : Z.Warmed39 s.vm) (eT : T.heap = h) (F : own_Ar Z h a .byte vs) {j : Int32} (hj : ¬ j < 0) (hv : vs[j.toNatClampNeg]? = some v) {g : JFrame} (hg : g.method = m) {rest : List Value} (hs : g.stack = .int j :: .ref a :: rest) (hd : decode c.code g.pc = .ok (.baload, 1)) :
    ∀ target, Steps p.tables e below (T.setTop { g with pc := g.pc + 1, stack := v :: rest }) target → Steps p.tables e below (T.setTop g) target := by
  obtain ⟨cl, A, q, hin⟩ := own_in_of F hj (own_lt hv)
  exact fun t k => X.baloadBytes hx (by rw [eT]; exact A.1) (State.isArrayOf_alike hZ.alike A.2.1) A.2.2 hin (own_val q hv) hg hs hd t k
theorem own_ldC (X : Stand p l e R s m args below meth c T locs cells slots) (hx : p.tables.exec = Jvm.exec) (hZ : Z.Warmed39 s.vm) (eT : T.heap = h) (F : own_Ar Z h a .char vs) {j : Int32} (hj : ¬ j < 0) (hv : vs[j.toNatClampNeg]? = some v) {g : JFrame} (hg : g.method = m) {rest : List Value} (hs : g.stack = .int j :: .ref a :: rest) (hd : decode c.code g.pc = .ok (.caload, 1)) :
    ∀ target, Steps p.tables e below (T.setTop { g with pc := g.pc + 1, stack := v :: rest }) target → Steps p.tables e below (T.setTop g) target := by
  obtain ⟨cl, A, q, hin⟩ := own_in_of F hj (own_lt hv)
  exact fun t k => X.caload hx (by rw [eT]; exact A.1) (State.isArrayOf_alike hZ.alike A.2.1) A.2.2 hin (own_val q hv) hg hs hd t k
theorem own_ldA (X : Stand p l e R s m args below meth c T locs cells slots) (hx : p.tables.exec = Jvm.exec) (hZ : Z.Warmed39 s.vm) (eT : T.heap = h) (hty : ty.isReference = true) (F : own_Ar Z h a ty vs) {j : Int32} (hj : ¬ j < 0) (hv : vs[j.toNatClampNeg]? = some v) {g : JFrame} (hg : g.method = m) {rest : List Value} (hs : g.stack = .int j :: .ref a :: rest) (hd : decode c.code g.pc = .ok (.aaload, 1)) :
    ∀ target, Steps p.tables e below (T.setTop { g with pc := g.pc + 1, stack := v :: rest }) target → Steps p.tables e below (T.setTop g) target := by
  obtain ⟨cl, A, q, hin⟩ := own_in_of F hj (own_lt hv)
  exact fun t k => X.aaload hx (by rw [eT]; exact A.1) (State.isArrayOf_alike hZ.alike A.2.1) hty A.2.2 hin (own_val q hv) hg hs hd t k
theorem own_len (X : Stand p l e R s m args below meth c T locs cells slots) (hx : p.tables.exec = Jvm.exec) (hZ : Z.Warmed39 s.vm) (eT : T.heap = h) (F : own_Ar Z h a ty vs) {n : Int32} (hn : vs.length.toInt32 = n) {g : JFrame} (hg : g.method = m) {rest : List Value} (hs : g.stack = .ref a :: rest) (hd : decode c.code g.pc = .ok (.arraylength, 1)) :
    ∀ target, Steps p.tables e below (T.setTop { g with pc := g.pc + 1, stack := .int n :: rest }) target → Steps p.tables e below (T.setTop g) target := by
  obtain ⟨cl, A, q⟩ := F
  intro t k
  refine X.arraylength hx (by rw [eT]; exact A.1) (State.isArrayOf_alike hZ.alike A.2.1) hg hs hd t ?_
  rw [q, List.size_toArray, hn]; exact k
end OwnArr
end Jvm.RoadKit
namespace Jvm.Pilot.@@N@@
open Jvm Jvm.ClassFile Sem Op Lib Jvm.Free Jvm.Stand Jvm.LawKit Jvm.RoadKit Bundle Jvm.Pilot.@@N@@.Jvm.D
theorem own_mod (p n : Int32) (hn : 0 < n.toInt) : 0 ≤ ((p &&& 2147483647) % n).toInt ∧ ((p &&& 2147483647) % n).toInt < n.toInt := by
  have h1 : (p &&& 2147483647).toInt = p.toInt % ((2 ^ 31 : Nat) : Int) := c_mask p 2147483647 31 (by decide) (by decide)
  rw [Int32.toInt_mod, h1]
  have h2 : 0 ≤ p.toInt % ((2 ^ 31 : Nat) : Int) := Int.emod_nonneg _ (by decide)
  exact ⟨Int.tmod_nonneg _ h2, Int.tmod_lt_of_pos _ hn⟩
theorem own_ne {k n : Int32} (h : k ≠ n) : k.toInt ≠ n.toInt := fun q => h (Int32.toInt_inj.mp q)
theorem own_asym {x y : Int64} (h : x < y) (h' : y < x) : False := by
  rw [Int64.lt_iff_toInt_lt] at h h'; omega
theorem own_irr {x : Int64} (h : x < x) : False := own_asym h h
theorem own_tri {x y : Int64} (h1 : ¬ x < y) (h2 : ¬ y < x) : x = y := by
  rw [Int64.lt_iff_toInt_lt] at h1 h2; exact Int64.toInt_inj.mp (by omega)
theorem own_three (x y z : Int64) (p : Int32) {k : Int32} (hk : k = ((p &&& (2147483647 : Int32)) % (3 : Int32))) : ¬ k < 0 ∧ ∃ u : Int64, [Value.long x, Value.long y, Value.long z][k.toNatClampNeg]? = some (Value.long u) := by
  have h := own_mod p 3 (by decide)
  rw [← hk, show (3 : Int32).toInt = 3 from by decide] at h
  have q : k.toInt = 0 ∨ k.toInt = 1 ∨ k.toInt = 2 := by omega
  rcases q with q | q | q
  · obtain rfl : k = 0 := Int32.toInt_inj.mp (q.trans (by decide)); exact ⟨by decide, x, rfl⟩
  · obtain rfl : k = 1 := Int32.toInt_inj.mp (q.trans (by decide)); exact ⟨by decide, y, rfl⟩
  · obtain rfl : k = 2 := Int32.toInt_inj.mp (q.trans (by decide)); exact ⟨by decide, z, rfl⟩
theorem d2_0 : decode prog_32_method_1_code 0 = .ok (.aload_n 0, 1) := by decide +kernel
theorem d2_1 : decode prog_32_method_1_code 1 = .ok (.invokespecial 1, 3) := by decide +kernel
theorem d2_4 : decode prog_32_method_1_code 4 = .ok (.return_, 1) := by decide +kernel
set_option maxRecDepth 65536 in
set_option maxHeartbeats 40000000 in
theorem rm_si (l : Launch) (Z : State) (a0 : Array Value) (hw : ∀ d ∈ tables_1, d.before a0 Z = true) (ws : List Jvm.Cond) (a : Addr) (h0 : Heap)  :
    own_Met l (⟨"com/example/minsum/minsum/solve/ScaledDistances", "<init>", "()V"⟩ : MethodName) prog_32_method_1_code 1 none ws ({ frames := 1, cells := 0, slots := 0, locals := 12 } : Room) Z #[(.ref a)] h0 (fun v h L => v = none ∧ h = h0 ∧ L = []) := by
  refine MetFree.of_bodySF (plainFor_of_name (by first | (simp [plainName, overriddenIn]; done) | decide +kernel)) hisR ?_
  intro p e s m args below meth c s₁ Bd hml0 hP hK
  obtain ⟨rfl, hZ, hh⟩ := hP
  have hx := Bd.exec
  have hby := Bd.bytes
  have hml : c.maxLocals = 1 := hml0
  have hown : s.vm.findClass "com/example/minsum/minsum/solve/ScaledDistances" = some m.cls := findClass_of_methodNamed Bd.named
  have hnm := (name_of_methodNamed Bd.named Bd.method).1
  have hlk : meth.locks = false := Bd.notSynchronized
  have hret := Bd.returns
  have X0 : Stand p l e ({ frames := 1, cells := 0, slots := 0, locals := 12 } : Room) s m #[(.ref a)] below meth c s₁ [] 0 0 := Stand.of_body Bd
  have e0 : s₁.heap = h0 := by rw [← hh, Bd.state]; rfl
  refine own_in (Q := fun v h L => v = none ∧ h = h0 ∧ L = []) (ef := by first | (simp [entryFrame, mkF, argsToLocals, Value.category, maxLocals]; done) | rfl) (g' := (mkF m 0 #[.val (.ref a)] [])) ?_
  refine own_go (T' := s₁) (g' := (mkF m 1 #[.val (.ref a)] [(.ref a)])) (fun t q => XS.aloadN X0.here hx rfl (hb hby d2_0) rfl rfl q) ?_
  obtain ⟨T1, X1, e1, st1⟩ := initO X0 hx hZ hown (hw _ (List.mem_of_getElem? (i := 13) rfl)) (hw _ (List.mem_of_getElem? (i := 14) rfl)) (hw _ (List.mem_of_getElem? (i := 15) rfl)) e0 (g := (mkF m 1 #[.val (.ref a)] [(.ref a)])) rfl (by rw [hml]; rfl) rfl (hb hby d2_1) (by decide) (W := 0) (by show 2 * 0 + _ ≤ _; exact Nat.le_of_eq rfl) (by decide)
  refine own_go (T' := T1) (g' := (mkF m 4 #[.val (.ref a)] [])) (fun t q => st1 t q) ?_
  refine own_outV X1 hx hlk hret (hb hby d2_4) ?_ (by decide) (by decide)
  exact ⟨rfl, e1, rfl⟩
theorem d1_0 : decode prog_34_method_1_code 0 = .ok (.aload_n 0, 1) := by decide +kernel
theorem d1_1 : decode prog_34_method_1_code 1 = .ok (.invokespecial 1, 3) := by decide +kernel
theorem d1_4 : decode prog_34_method_1_code 4 = .ok (.aload_n 0, 1) := by decide +kernel
theorem d1_5 : decode prog_34_method_1_code 5 = .ok (.aload_n 1, 1) := by decide +kernel
theorem d1_6 : decode prog_34_method_1_code 6 = .ok (.putfield 7, 3) := by decide +kernel
theorem d1_9 : decode prog_34_method_1_code 9 = .ok (.aload_n 0, 1) := by decide +kernel
theorem d1_10 : decode prog_34_method_1_code 10 = .ok (.iload_n 2, 1) := by decide +kernel
theorem d1_11 : decode prog_34_method_1_code 11 = .ok (.putfield 13, 3) := by decide +kernel
theorem d1_14 : decode prog_34_method_1_code 14 = .ok (.return_, 1) := by decide +kernel
set_option maxRecDepth 65536 in
set_option maxHeartbeats 40000000 in
theorem rm_li (l : Launch) (Z : State) (a0 : Array Value) (hw : ∀ d ∈ tables_1, d.before a0 Z = true) (ws : List Jvm.Cond) (n0 : Nat) (a b : Addr) (p1 : Int32) (h0 : Heap) (Z0 : n0 ≤ h0.size) (ga : n0 ≤ a) (A0 : Exa Z h0 a "com/example/minsum/minsum/solve/ScaledDistances$Longs") (B0 : Fld Z h0 a "com/example/minsum/minsum/solve/ScaledDistances$Longs" "unscaled" "[J" .null) (B1 : Fld Z h0 a "com/example/minsum/minsum/solve/ScaledDistances$Longs" "scale" "I" (.int (0 : Int32))) :
    own_Met l (⟨"com/example/minsum/minsum/solve/ScaledDistances$Longs", "<init>", "([JI)V"⟩ : MethodName) prog_34_method_1_code 3 none ws ({ frames := 2, cells := 0, slots := 0, locals := 24 } : Room) Z #[(.ref a), (.ref b), (.int p1)] h0 (fun v h L => v = none ∧ Fr n0 L ∧ Keep h0 h [a] ∧ Exa Z h a "com/example/minsum/minsum/solve/ScaledDistances$Longs" ∧ Fld Z h a "com/example/minsum/minsum/solve/ScaledDistances$Longs" "unscaled" "[J" (.ref b)) := by
  refine MetFree.of_bodySF (plainFor_of_name (by first | (simp [plainName, overriddenIn]; done) | decide +kernel)) hisR ?_
  intro p e s m args below meth c s₁ Bd hml0 hP hK
  obtain ⟨rfl, hZ, hh⟩ := hP
  have hx := Bd.exec
  have hby := Bd.bytes
  have hml : c.maxLocals = 3 := hml0
  have hown : s.vm.findClass "com/example/minsum/minsum/solve/ScaledDistances$Longs" = some m.cls := findClass_of_methodNamed Bd.named
  have hnm := (name_of_methodNamed Bd.named Bd.method).1
  have hlk : meth.locks = false := Bd.notSynchronized
  have hret := Bd.returns
  have X0 : Stand p l e ({ frames := 2, cells := 0, slots := 0, locals := 24 } : Room) s m #[(.ref a), (.ref b), (.int p1)] below meth c s₁ [] 0 0 := Stand.of_body Bd
  have e0 : s₁.heap = h0 := by rw [← hh, Bd.state]; rfl
  refine own_in (Q := fun v h L => v = none ∧ Fr n0 L ∧ Keep h0 h [a] ∧ Exa Z h a "com/example/minsum/minsum/solve/ScaledDistances$Longs" ∧ Fld Z h a "com/example/minsum/minsum/solve/ScaledDistances$Longs" "unscaled" "[J" (.ref b)) (ef := by first | (simp [entryFrame, mkF, argsToLocals, Value.category, maxLocals]; done) | rfl) (g' := (mkF m 0 #[.val (.ref a), .val (.ref b), .val (.int p1)] [])) ?_
  refine own_go (T' := s₁) (g' := (mkF m 1 #[.val (.ref a), .val (.ref b), .val (.int p1)] [(.ref a)])) (fun t q => XS.aloadN X0.here hx rfl (hb hby d1_0) rfl rfl q) ?_
  obtain ⟨v1, T1, L1, X1, Q1, st1⟩ := own_callP X0 hx hZ (y := (⟨"com/example/minsum/minsum/solve/ScaledDistances", "<init>", "()V"⟩ : MethodName)) (a := a) (argsL := []) (rest := []) hown rfl (hw _ (List.mem_of_getElem? (i := 8) rfl)) (hw _ (List.mem_of_getElem? (i := 9) rfl)) (hw _ (List.mem_of_getElem? (i := 11) rfl)) (hw _ (List.mem_of_getElem? (i := 12) rfl)) (rm_si l Z a0 hw [] a h0) e0 (by decide) (by decide) 0 (by decide) (by decide) (by decide) (g := (mkF m 1 #[.val (.ref a), .val (.ref b), .val (.int p1)] [(.ref a)])) rfl (by rw [hml]; rfl) (lenOf (ps := []) (r := none) (by decide +kernel) rfl) rfl (by show 2 * 0 + _ ≤ _; exact Nat.le_of_eq rfl) (hb hby d1_1)
  obtain ⟨rfl, e1, rfl⟩ := Q1
  refine own_go (T' := T1) (g' := (mkF m 4 #[.val (.ref a), .val (.ref b), .val (.int p1)] [])) (fun t q => st1 t q) ?_
  refine own_go (T' := T1) (g' := (mkF m 5 #[.val (.ref a), .val (.ref b), .val (.int p1)] [(.ref a)])) (fun t q => XS.aloadN X1.here hx rfl (hb hby d1_4) rfl rfl q) ?_
  refine own_go (T' := T1) (g' := (mkF m 6 #[.val (.ref a), .val (.ref b), .val (.int p1)] [(.ref b), (.ref a)])) (fun t q => XS.aloadN X1.here hx rfl (hb hby d1_5) rfl rfl q) ?_
  obtain ⟨T2, h2, X2, e2, W2, st2⟩ := putF X1 hx hZ hown (host := "") (Or.inl (hw _ (List.mem_of_getElem? (i := 16) rfl))) Via.refl e1 B0 A0 (Or.inr ⟨(hw _ (List.mem_of_getElem? (i := 17) rfl)), rfl, hnm⟩) (hw _ (List.mem_of_getElem? (i := 3) rfl)) (ty := (.array .long)) (by decide) rfl rfl (g := (mkF m 6 #[.val (.ref a), .val (.ref b), .val (.int p1)] [(.ref b), (.ref a)])) rfl rfl (hb hby d1_6)
  have N2 := Fr.snoc X2 (Fr.app (Fr.nil _) (Fr.nil _)) ga
  have P2 : Keep h0 h2 [a] := (Keep.refl _ _).wr W2 (Or.inl (List.mem_of_getElem? (i := 0) rfl))
  have f3 := A0.wr W2
  have f4 := B1.other W2 (Or.inr (slot_ne (Or.inr (hw _ (List.mem_of_getElem? (i := 19) rfl))) (Or.inr (hw _ (List.mem_of_getElem? (i := 17) rfl))) (by decide) (t := .int) (t' := (.array .long)) (by decide) (by decide)))
  have f2_ : Fld Z h2 a "com/example/minsum/minsum/solve/ScaledDistances$Longs" "unscaled" "[J" (.ref b) := B0.same W2
  have sz2 : n0 ≤ h2.size := by rw [W2.size]; exact Z0
  refine own_go (T' := T2) (g' := (mkF m 9 #[.val (.ref a), .val (.ref b), .val (.int p1)] [])) (fun t q => st2 t q) ?_
  refine own_go (T' := T2) (g' := (mkF m 10 #[.val (.ref a), .val (.ref b), .val (.int p1)] [(.ref a)])) (fun t q => XS.aloadN X2.here hx rfl (hb hby d1_9) rfl rfl q) ?_
  refine own_go (T' := T2) (g' := (mkF m 11 #[.val (.ref a), .val (.ref b), .val (.int p1)] [(.int p1), (.ref a)])) (fun t q => XS.iloadN X2.here hx rfl (hb hby d1_10) rfl q) ?_
  obtain ⟨T5, h5, X5, e5, W5, st5⟩ := putF X2 hx hZ hown (host := "") (Or.inl (hw _ (List.mem_of_getElem? (i := 18) rfl))) Via.refl e2 f4 f3 (Or.inr ⟨(hw _ (List.mem_of_getElem? (i := 19) rfl)), rfl, hnm⟩) (hw _ (List.mem_of_getElem? (i := 3) rfl)) (ty := .int) (by decide) rfl rfl (g := (mkF m 11 #[.val (.ref a), .val (.ref b), .val (.int p1)] [(.int p1), (.ref a)])) rfl rfl (hb hby d1_11)
  have N5 := Fr.snoc X5 N2 ga
  have P5 : Keep h0 h5 [a] := P2.wr W5 (Or.inl (List.mem_of_getElem? (i := 0) rfl))
  have f6 := f3.wr W5
  have f7 := f2_.other W5 (Or.inr (slot_ne (Or.inr (hw _ (List.mem_of_getElem? (i := 17) rfl))) (Or.inr (hw _ (List.mem_of_getElem? (i := 19) rfl))) (by decide) (t := (.array .long)) (t' := .int) (by decide) (by decide)))
  have f5_ : Fld Z h5 a "com/example/minsum/minsum/solve/ScaledDistances$Longs" "scale" "I" (.int p1) := f4.same W5
  have sz5 : n0 ≤ h5.size := by rw [W5.size]; exact sz2
  refine own_go (T' := T5) (g' := (mkF m 14 #[.val (.ref a), .val (.ref b), .val (.int p1)] [])) (fun t q => st5 t q) ?_
  refine own_outV X5 hx hlk hret (hb hby d1_14) ?_ (by decide) (by decide)
  rw [e5]
  exact ⟨rfl, N5, P5, f6, f7⟩
theorem d5_0 : decode jdk_35_method_42_code 0 = .ok (.lload_n 0, 1) := by decide +kernel
theorem d5_1 : decode jdk_35_method_42_code 1 = .ok (.lload_n 2, 1) := by decide +kernel
theorem d5_2 : decode jdk_35_method_42_code 2 = .ok (.lcmp, 1) := by decide +kernel
theorem d5_3 : decode jdk_35_method_42_code 3 = .ok (.ifCond .ge 7, 3) := by decide +kernel
theorem d5_6 : decode jdk_35_method_42_code 6 = .ok (.iconst (-1), 1) := by decide +kernel
theorem d5_7 : decode jdk_35_method_42_code 7 = .ok (.goto 14, 3) := by decide +kernel
theorem d5_10 : decode jdk_35_method_42_code 10 = .ok (.lload_n 0, 1) := by decide +kernel
theorem d5_11 : decode jdk_35_method_42_code 11 = .ok (.lload_n 2, 1) := by decide +kernel
theorem d5_12 : decode jdk_35_method_42_code 12 = .ok (.lcmp, 1) := by decide +kernel
theorem d5_13 : decode jdk_35_method_42_code 13 = .ok (.ifCond .ne 7, 3) := by decide +kernel
theorem d5_16 : decode jdk_35_method_42_code 16 = .ok (.iconst 0, 1) := by decide +kernel
theorem d5_17 : decode jdk_35_method_42_code 17 = .ok (.goto 4, 3) := by decide +kernel
theorem d5_20 : decode jdk_35_method_42_code 20 = .ok (.iconst 1, 1) := by decide +kernel
theorem d5_21 : decode jdk_35_method_42_code 21 = .ok (.ireturn, 1) := by decide +kernel
set_option maxRecDepth 65536 in
set_option maxHeartbeats 40000000 in
theorem rm_lc (l : Launch) (Z : State) (a0 : Array Value) (hw : ∀ d ∈ tables_1, d.before a0 Z = true) (ws : List Jvm.Cond) (p1 p2 : Int64) (h0 : Heap)  :
    own_Met l (⟨"java/lang/Long", "compare", "(JJ)I"⟩ : MethodName) jdk_35_method_42_code 4 (some .int) ws ({ frames := 0, cells := 0, slots := 0, locals := 0 } : Room) Z #[(.long p1), (.long p2)] h0 (fun v h L => ((p1 < p2 ∧ v = some (.int (-1 : Int32))) ∨ (p1 = p2 ∧ v = some (.int (0 : Int32))) ∨ (p2 < p1 ∧ v = some (.int (1 : Int32)))) ∧ h = h0 ∧ L = []) := by
  refine MetFree.of_bodySF (plainFor_of_name (by first | (simp [plainName, overriddenIn]; done) | decide +kernel)) hisR ?_
  intro p e s m args below meth c s₁ Bd hml0 hP hK
  obtain ⟨rfl, hZ, hh⟩ := hP
  have hx := Bd.exec
  have hby := Bd.bytes
  have hml : c.maxLocals = 4 := hml0
  have hown : s.vm.findClass "java/lang/Long" = some m.cls := findClass_of_methodNamed Bd.named
  have hnm := (name_of_methodNamed Bd.named Bd.method).1
  have hlk : meth.locks = false := Bd.notSynchronized
  have hret := Bd.returns
  have X0 : Stand p l e ({ frames := 0, cells := 0, slots := 0, locals := 0 } : Room) s m #[(.long p1), (.long p2)] below meth c s₁ [] 0 0 := Stand.of_body Bd
  have e0 : s₁.heap = h0 := by rw [← hh, Bd.state]; rfl
  refine own_in (Q := fun v h L => ((p1 < p2 ∧ v = some (.int (-1 : Int32))) ∨ (p1 = p2 ∧ v = some (.int (0 : Int32))) ∨ (p2 < p1 ∧ v = some (.int (1 : Int32)))) ∧ h = h0 ∧ L = []) (ef := by first | (simp [entryFrame, mkF, argsToLocals, Value.category, maxLocals]; done) | rfl) (g' := (mkF m 0 #[.val (.long p1), .second, .val (.long p2), .second] [])) ?_
  refine own_go (T' := s₁) (g' := (mkF m 1 #[.val (.long p1), .second, .val (.long p2), .second] [(.long p1)])) (fun t q => XT.lloadN X0.here hx rfl (hb hby d5_0) rfl q) ?_
  refine own_go (T' := s₁) (g' := (mkF m 2 #[.val (.long p1), .second, .val (.long p2), .second] [(.long p2), (.long p1)])) (fun t q => XT.lloadN X0.here hx rfl (hb hby d5_1) rfl q) ?_
  refine own_go (T' := s₁) (g' := (mkF m 3 #[.val (.long p1), .second, .val (.long p2), .second] [(.int (XT.cmpL p1 p2))])) (fun t q => XT.lcmp X0.here hx rfl (hb hby d5_2) rfl q) ?_
  by_cases c1 : p1 < p2
  · refine own_go (T' := s₁) (g' := (mkF m 6 #[.val (.long p1), .second, .val (.long p2), .second] [])) (fun t q => XS.ifNo X0.here hx rfl (hb hby d5_3) rfl ((if0 _ _).trans (tlt ((own_llt p1 p2).mpr c1)).2.1) q) ?_
    refine own_go (T' := s₁) (g' := (mkF m 7 #[.val (.long p1), .second, .val (.long p2), .second] [(.int (-1 : Int32))])) (fun t q => XS.iconst X0.here hx rfl (hb hby d5_6) q) ?_
    refine own_go (T' := s₁) (g' := (mkF m 21 #[.val (.long p1), .second, .val (.long p2), .second] [(.int (-1 : Int32))])) (fun t q => XS.goto X0.here hx rfl (pc0 := 7) (pc' := 21) rfl (hb hby d5_7) (by decide) (by decide) q) ?_
    refine own_outI X0 hx hlk hret (hb hby d5_21) ?_ (by decide) (by decide)
    exact ⟨Or.inl ⟨c1, rfl⟩, e0, rfl⟩
  · refine own_go (T' := s₁) (g' := (mkF m 10 #[.val (.long p1), .second, .val (.long p2), .second] [])) (fun t q => XS.ifYes X0.here hx rfl (pc0 := 3) (pc' := 10) rfl (hb hby d5_3) rfl ((if0 _ _).trans (flt (fun z => c1 ((own_llt p1 p2).mp z))).2.1) (by decide) (by decide) q) ?_
    refine own_go (T' := s₁) (g' := (mkF m 11 #[.val (.long p1), .second, .val (.long p2), .second] [(.long p1)])) (fun t q => XT.lloadN X0.here hx rfl (hb hby d5_10) rfl q) ?_
    refine own_go (T' := s₁) (g' := (mkF m 12 #[.val (.long p1), .second, .val (.long p2), .second] [(.long p2), (.long p1)])) (fun t q => XT.lloadN X0.here hx rfl (hb hby d5_11) rfl q) ?_
    refine own_go (T' := s₁) (g' := (mkF m 13 #[.val (.long p1), .second, .val (.long p2), .second] [(.int (XT.cmpL p1 p2))])) (fun t q => XT.lcmp X0.here hx rfl (hb hby d5_12) rfl q) ?_
    by_cases c2 : p1 = p2
    · refine own_go (T' := s₁) (g' := (mkF m 16 #[.val (.long p1), .second, .val (.long p2), .second] [])) (fun t q => XS.ifNo X0.here hx rfl (hb hby d5_13) rfl ((if0 _ _).trans (teq ((own_leq p1 p2).mpr c2)).2) q) ?_
      refine own_go (T' := s₁) (g' := (mkF m 17 #[.val (.long p1), .second, .val (.long p2), .second] [(.int (0 : Int32))])) (fun t q => XS.iconst X0.here hx rfl (hb hby d5_16) q) ?_
      refine own_go (T' := s₁) (g' := (mkF m 21 #[.val (.long p1), .second, .val (.long p2), .second] [(.int (0 : Int32))])) (fun t q => XS.goto X0.here hx rfl (pc0 := 17) (pc' := 21) rfl (hb hby d5_17) (by decide) (by decide) q) ?_
      refine own_outI X0 hx hlk hret (hb hby d5_21) ?_ (by decide) (by decide)
      exact ⟨Or.inr (Or.inl ⟨c2, rfl⟩), e0, rfl⟩
    · refine own_go (T' := s₁) (g' := (mkF m 20 #[.val (.long p1), .second, .val (.long p2), .second] [])) (fun t q => XS.ifYes X0.here hx rfl (pc0 := 13) (pc' := 20) rfl (hb hby d5_13) rfl ((if0 _ _).trans (feq (fun z => c2 ((own_leq p1 p2).mp z))).2) (by decide) (by decide) q) ?_
      refine own_go (T' := s₁) (g' := (mkF m 21 #[.val (.long p1), .second, .val (.long p2), .second] [(.int (1 : Int32))])) (fun t q => XS.iconst X0.here hx rfl (hb hby d5_20) q) ?_
      refine own_outI X0 hx hlk hret (hb hby d5_21) ?_ (by decide) (by decide)
      exact ⟨Or.inr (Or.inr ⟨Decidable.byContradiction fun z => c2 (own_tri c1 z), rfl⟩), e0, rfl⟩
theorem d7_0 : decode method_3_code 0 = .ok (.lload_n 0, 1) := by decide +kernel
theorem d7_1 : decode method_3_code 1 = .ok (.lload_n 2, 1) := by decide +kernel
theorem d7_2 : decode method_3_code 2 = .ok (.lcmp, 1) := by decide +kernel
theorem d7_3 : decode method_3_code 3 = .ok (.ifCond .ge 5, 3) := by decide +kernel
theorem d7_6 : decode method_3_code 6 = .ok (.iconst (-1), 1) := by decide +kernel
theorem d7_7 : decode method_3_code 7 = .ok (.ireturn, 1) := by decide +kernel
theorem d7_8 : decode method_3_code 8 = .ok (.lload_n 0, 1) := by decide +kernel
theorem d7_9 : decode method_3_code 9 = .ok (.lload_n 2, 1) := by decide +kernel
theorem d7_10 : decode method_3_code 10 = .ok (.lcmp, 1) := by decide +kernel
theorem d7_11 : decode method_3_code 11 = .ok (.ifCond .le 5, 3) := by decide +kernel
theorem d7_14 : decode method_3_code 14 = .ok (.iconst 1, 1) := by decide +kernel
theorem d7_15 : decode method_3_code 15 = .ok (.ireturn, 1) := by decide +kernel
theorem d7_16 : decode method_3_code 16 = .ok (.iconst 0, 1) := by decide +kernel
theorem d7_17 : decode method_3_code 17 = .ok (.ireturn, 1) := by decide +kernel
set_option maxRecDepth 65536 in
set_option maxHeartbeats 40000000 in
theorem rm_ex (l : Launch) (Z : State) (a0 : Array Value) (hw : ∀ d ∈ tables_1, d.before a0 Z = true) (ws : List Jvm.Cond) (p1 p2 : Int64) (h0 : Heap)  :
    own_Met l (⟨"com/example/minsum/minsum/solve/LongsComparePinLaw", "expected", "(JJ)I"⟩ : MethodName) method_3_code 4 (some .int) ws ({ frames := 0, cells := 0, slots := 0, locals := 0 } : Room) Z #[(.long p1), (.long p2)] h0 (fun v h L => ((p1 < p2 ∧ v = some (.int (-1 : Int32))) ∨ (p1 = p2 ∧ v = some (.int (0 : Int32))) ∨ (p2 < p1 ∧ v = some (.int (1 : Int32)))) ∧ h = h0 ∧ L = []) := by
  refine MetFree.of_bodySF (plainFor_of_name (by first | (simp [plainName, overriddenIn]; done) | decide +kernel)) hisR ?_
  intro p e s m args below meth c s₁ Bd hml0 hP hK
  obtain ⟨rfl, hZ, hh⟩ := hP
  have hx := Bd.exec
  have hby := Bd.bytes
  have hml : c.maxLocals = 4 := hml0
  have hown : s.vm.findClass "com/example/minsum/minsum/solve/LongsComparePinLaw" = some m.cls := findClass_of_methodNamed Bd.named
  have hnm := (name_of_methodNamed Bd.named Bd.method).1
  have hlk : meth.locks = false := Bd.notSynchronized
  have hret := Bd.returns
  have X0 : Stand p l e ({ frames := 0, cells := 0, slots := 0, locals := 0 } : Room) s m #[(.long p1), (.long p2)] below meth c s₁ [] 0 0 := Stand.of_body Bd
  have e0 : s₁.heap = h0 := by rw [← hh, Bd.state]; rfl
  refine own_in (Q := fun v h L => ((p1 < p2 ∧ v = some (.int (-1 : Int32))) ∨ (p1 = p2 ∧ v = some (.int (0 : Int32))) ∨ (p2 < p1 ∧ v = some (.int (1 : Int32)))) ∧ h = h0 ∧ L = []) (ef := by first | (simp [entryFrame, mkF, argsToLocals, Value.category, maxLocals]; done) | rfl) (g' := (mkF m 0 #[.val (.long p1), .second, .val (.long p2), .second] [])) ?_
  refine own_go (T' := s₁) (g' := (mkF m 1 #[.val (.long p1), .second, .val (.long p2), .second] [(.long p1)])) (fun t q => XT.lloadN X0.here hx rfl (hb hby d7_0) rfl q) ?_
  refine own_go (T' := s₁) (g' := (mkF m 2 #[.val (.long p1), .second, .val (.long p2), .second] [(.long p2), (.long p1)])) (fun t q => XT.lloadN X0.here hx rfl (hb hby d7_1) rfl q) ?_
  refine own_go (T' := s₁) (g' := (mkF m 3 #[.val (.long p1), .second, .val (.long p2), .second] [(.int (XT.cmpL p1 p2))])) (fun t q => XT.lcmp X0.here hx rfl (hb hby d7_2) rfl q) ?_
  by_cases c1 : p1 < p2
  · refine own_go (T' := s₁) (g' := (mkF m 6 #[.val (.long p1), .second, .val (.long p2), .second] [])) (fun t q => XS.ifNo X0.here hx rfl (hb hby d7_3) rfl ((if0 _ _).trans (tlt ((own_llt p1 p2).mpr c1)).2.1) q) ?_
    refine own_go (T' := s₁) (g' := (mkF m 7 #[.val (.long p1), .second, .val (.long p2), .second] [(.int (-1 : Int32))])) (fun t q => XS.iconst X0.here hx rfl (hb hby d7_6) q) ?_
    refine own_outI X0 hx hlk hret (hb hby d7_7) ?_ (by decide) (by decide)
    exact ⟨Or.inl ⟨c1, rfl⟩, e0, rfl⟩
  · refine own_go (T' := s₁) (g' := (mkF m 8 #[.val (.long p1), .second, .val (.long p2), .second] [])) (fun t q => XS.ifYes X0.here hx rfl (pc0 := 3) (pc' := 8) rfl (hb hby d7_3) rfl ((if0 _ _).trans (flt (fun z => c1 ((own_llt p1 p2).mp z))).2.1) (by decide) (by decide) q) ?_
    refine own_go (T' := s₁) (g' := (mkF m 9 #[.val (.long p1), .second, .val (.long p2), .second] [(.long p1)])) (fun t q => XT.lloadN X0.here hx rfl (hb hby d7_8) rfl q) ?_
    refine own_go (T' := s₁) (g' := (mkF m 10 #[.val (.long p1), .second, .val (.long p2), .second] [(.long p2), (.long p1)])) (fun t q => XT.lloadN X0.here hx rfl (hb hby d7_9) rfl q) ?_
    refine own_go (T' := s₁) (g' := (mkF m 11 #[.val (.long p1), .second, .val (.long p2), .second] [(.int (XT.cmpL p1 p2))])) (fun t q => XT.lcmp X0.here hx rfl (hb hby d7_10) rfl q) ?_
    by_cases c2 : p2 < p1
    · refine own_go (T' := s₁) (g' := (mkF m 14 #[.val (.long p1), .second, .val (.long p2), .second] [])) (fun t q => XS.ifNo X0.here hx rfl (hb hby d7_11) rfl ((if0 _ _).trans (tlt ((own_lgt p1 p2).mpr c2)).2.2.2) q) ?_
      refine own_go (T' := s₁) (g' := (mkF m 15 #[.val (.long p1), .second, .val (.long p2), .second] [(.int (1 : Int32))])) (fun t q => XS.iconst X0.here hx rfl (hb hby d7_14) q) ?_
      refine own_outI X0 hx hlk hret (hb hby d7_15) ?_ (by decide) (by decide)
      exact ⟨Or.inr (Or.inr ⟨c2, rfl⟩), e0, rfl⟩
    · refine own_go (T' := s₁) (g' := (mkF m 16 #[.val (.long p1), .second, .val (.long p2), .second] [])) (fun t q => XS.ifYes X0.here hx rfl (pc0 := 11) (pc' := 16) rfl (hb hby d7_11) rfl ((if0 _ _).trans (flt (fun z => c2 ((own_lgt p1 p2).mp z))).2.2.2) (by decide) (by decide) q) ?_
      refine own_go (T' := s₁) (g' := (mkF m 17 #[.val (.long p1), .second, .val (.long p2), .second] [(.int (0 : Int32))])) (fun t q => XS.iconst X0.here hx rfl (hb hby d7_16) q) ?_
      refine own_outI X0 hx hlk hret (hb hby d7_17) ?_ (by decide) (by decide)
      exact ⟨Or.inr (Or.inl ⟨own_tri c1 c2, rfl⟩), e0, rfl⟩
theorem d6_0 : decode method_2_code 0 = .ok (.iload_n 0, 1) := by decide +kernel
theorem d6_1 : decode method_2_code 1 = .ok (.ifCond .ge 5, 3) := by decide +kernel
theorem d6_4 : decode method_2_code 4 = .ok (.iconst (-1), 1) := by decide +kernel
theorem d6_5 : decode method_2_code 5 = .ok (.ireturn, 1) := by decide +kernel
set_option maxRecDepth 65536 in
set_option maxHeartbeats 40000000 in
theorem rm_sg_0 (l : Launch) (Z : State) (a0 : Array Value) (hw : ∀ d ∈ tables_1, d.before a0 Z = true) (ws : List Jvm.Cond)  (h0 : Heap)  :
    own_Met l (⟨"com/example/minsum/minsum/solve/LongsComparePinLaw", "sign", "(I)I"⟩ : MethodName) method_2_code 1 (some .int) ws ({ frames := 0, cells := 0, slots := 0, locals := 0 } : Room) Z #[(.int (-1 : Int32))] h0 (fun v h L => v = some (.int (-1 : Int32)) ∧ h = h0 ∧ L = []) := by
  refine MetFree.of_bodySF (plainFor_of_name (by first | (simp [plainName, overriddenIn]; done) | decide +kernel)) hisR ?_
  intro p e s m args below meth c s₁ Bd hml0 hP hK
  obtain ⟨rfl, hZ, hh⟩ := hP
  have hx := Bd.exec
  have hby := Bd.bytes
  have hml : c.maxLocals = 1 := hml0
  have hown : s.vm.findClass "com/example/minsum/minsum/solve/LongsComparePinLaw" = some m.cls := findClass_of_methodNamed Bd.named
  have hnm := (name_of_methodNamed Bd.named Bd.method).1
  have hlk : meth.locks = false := Bd.notSynchronized
  have hret := Bd.returns
  have X0 : Stand p l e ({ frames := 0, cells := 0, slots := 0, locals := 0 } : Room) s m #[(.int (-1 : Int32))] below meth c s₁ [] 0 0 := Stand.of_body Bd
  have e0 : s₁.heap = h0 := by rw [← hh, Bd.state]; rfl
  refine own_in (Q := fun v h L => v = some (.int (-1 : Int32)) ∧ h = h0 ∧ L = []) (ef := by first | (simp [entryFrame, mkF, argsToLocals, Value.category, maxLocals]; done) | rfl) (g' := (mkF m 0 #[.val (.int (-1 : Int32))] [])) ?_
  refine own_go (T' := s₁) (g' := (mkF m 1 #[.val (.int (-1 : Int32))] [(.int (-1 : Int32))])) (fun t q => XS.iloadN X0.here hx rfl (hb hby d6_0) rfl q) ?_
  have c1 : (-1 : Int32) < (0 : Int32) := by decide
  refine own_go (T' := s₁) (g' := (mkF m 4 #[.val (.int (-1 : Int32))] [])) (fun t q => XS.ifNo X0.here hx rfl (hb hby d6_1) rfl ((if0 _ _).trans (tlt c1).2.1) q) ?_
  refine own_go (T' := s₁) (g' := (mkF m 5 #[.val (.int (-1 : Int32))] [(.int (-1 : Int32))])) (fun t q => XS.iconst X0.here hx rfl (hb hby d6_4) q) ?_
  refine own_outI X0 hx hlk hret (hb hby d6_5) ?_ (by decide) (by decide)
  exact ⟨rfl, e0, rfl⟩
theorem d6_6 : decode method_2_code 6 = .ok (.iload_n 0, 1) := by decide +kernel
theorem d6_7 : decode method_2_code 7 = .ok (.ifCond .le 5, 3) := by decide +kernel
theorem d6_12 : decode method_2_code 12 = .ok (.iconst 0, 1) := by decide +kernel
theorem d6_13 : decode method_2_code 13 = .ok (.ireturn, 1) := by decide +kernel
set_option maxRecDepth 65536 in
set_option maxHeartbeats 40000000 in
theorem rm_sg_1 (l : Launch) (Z : State) (a0 : Array Value) (hw : ∀ d ∈ tables_1, d.before a0 Z = true) (ws : List Jvm.Cond)  (h0 : Heap)  :
    own_Met l (⟨"com/example/minsum/minsum/solve/LongsComparePinLaw", "sign", "(I)I"⟩ : MethodName) method_2_code 1 (some .int) ws ({ frames := 0, cells := 0, slots := 0, locals := 0 } : Room) Z #[(.int (0 : Int32))] h0 (fun v h L => v = some (.int (0 : Int32)) ∧ h = h0 ∧ L = []) := by
  refine MetFree.of_bodySF (plainFor_of_name (by first | (simp [plainName, overriddenIn]; done) | decide +kernel)) hisR ?_
  intro p e s m args below meth c s₁ Bd hml0 hP hK
  obtain ⟨rfl, hZ, hh⟩ := hP
  have hx := Bd.exec
  have hby := Bd.bytes
  have hml : c.maxLocals = 1 := hml0
  have hown : s.vm.findClass "com/example/minsum/minsum/solve/LongsComparePinLaw" = some m.cls := findClass_of_methodNamed Bd.named
  have hnm := (name_of_methodNamed Bd.named Bd.method).1
  have hlk : meth.locks = false := Bd.notSynchronized
  have hret := Bd.returns
  have X0 : Stand p l e ({ frames := 0, cells := 0, slots := 0, locals := 0 } : Room) s m #[(.int (0 : Int32))] below meth c s₁ [] 0 0 := Stand.of_body Bd
  have e0 : s₁.heap = h0 := by rw [← hh, Bd.state]; rfl
  refine own_in (Q := fun v h L => v = some (.int (0 : Int32)) ∧ h = h0 ∧ L = []) (ef := by first | (simp [entryFrame, mkF, argsToLocals, Value.category, maxLocals]; done) | rfl) (g' := (mkF m 0 #[.val (.int (0 : Int32))] [])) ?_
  refine own_go (T' := s₁) (g' := (mkF m 1 #[.val (.int (0 : Int32))] [(.int (0 : Int32))])) (fun t q => XS.iloadN X0.here hx rfl (hb hby d6_0) rfl q) ?_
  have c1 : ¬ ((0 : Int32) < (0 : Int32)) := by decide
  refine own_go (T' := s₁) (g' := (mkF m 6 #[.val (.int (0 : Int32))] [])) (fun t q => XS.ifYes X0.here hx rfl (pc0 := 1) (pc' := 6) rfl (hb hby d6_1) rfl ((if0 _ _).trans (flt c1).2.1) (by decide) (by decide) q) ?_
  refine own_go (T' := s₁) (g' := (mkF m 7 #[.val (.int (0 : Int32))] [(.int (0 : Int32))])) (fun t q => XS.iloadN X0.here hx rfl (hb hby d6_6) rfl q) ?_
  have c2 : ¬ ((0 : Int32) < (0 : Int32)) := by decide
  refine own_go (T' := s₁) (g' := (mkF m 12 #[.val (.int (0 : Int32))] [])) (fun t q => XS.ifYes X0.here hx rfl (pc0 := 7) (pc' := 12) rfl (hb hby d6_7) rfl ((if0 _ _).trans (flt c2).2.2.2) (by decide) (by decide) q) ?_
  refine own_go (T' := s₁) (g' := (mkF m 13 #[.val (.int (0 : Int32))] [(.int (0 : Int32))])) (fun t q => XS.iconst X0.here hx rfl (hb hby d6_12) q) ?_
  refine own_outI X0 hx hlk hret (hb hby d6_13) ?_ (by decide) (by decide)
  exact ⟨rfl, e0, rfl⟩
theorem d6_10 : decode method_2_code 10 = .ok (.iconst 1, 1) := by decide +kernel
theorem d6_11 : decode method_2_code 11 = .ok (.ireturn, 1) := by decide +kernel
set_option maxRecDepth 65536 in
set_option maxHeartbeats 40000000 in
theorem rm_sg_2 (l : Launch) (Z : State) (a0 : Array Value) (hw : ∀ d ∈ tables_1, d.before a0 Z = true) (ws : List Jvm.Cond)  (h0 : Heap)  :
    own_Met l (⟨"com/example/minsum/minsum/solve/LongsComparePinLaw", "sign", "(I)I"⟩ : MethodName) method_2_code 1 (some .int) ws ({ frames := 0, cells := 0, slots := 0, locals := 0 } : Room) Z #[(.int (1 : Int32))] h0 (fun v h L => v = some (.int (1 : Int32)) ∧ h = h0 ∧ L = []) := by
  refine MetFree.of_bodySF (plainFor_of_name (by first | (simp [plainName, overriddenIn]; done) | decide +kernel)) hisR ?_
  intro p e s m args below meth c s₁ Bd hml0 hP hK
  obtain ⟨rfl, hZ, hh⟩ := hP
  have hx := Bd.exec
  have hby := Bd.bytes
  have hml : c.maxLocals = 1 := hml0
  have hown : s.vm.findClass "com/example/minsum/minsum/solve/LongsComparePinLaw" = some m.cls := findClass_of_methodNamed Bd.named
  have hnm := (name_of_methodNamed Bd.named Bd.method).1
  have hlk : meth.locks = false := Bd.notSynchronized
  have hret := Bd.returns
  have X0 : Stand p l e ({ frames := 0, cells := 0, slots := 0, locals := 0 } : Room) s m #[(.int (1 : Int32))] below meth c s₁ [] 0 0 := Stand.of_body Bd
  have e0 : s₁.heap = h0 := by rw [← hh, Bd.state]; rfl
  refine own_in (Q := fun v h L => v = some (.int (1 : Int32)) ∧ h = h0 ∧ L = []) (ef := by first | (simp [entryFrame, mkF, argsToLocals, Value.category, maxLocals]; done) | rfl) (g' := (mkF m 0 #[.val (.int (1 : Int32))] [])) ?_
  refine own_go (T' := s₁) (g' := (mkF m 1 #[.val (.int (1 : Int32))] [(.int (1 : Int32))])) (fun t q => XS.iloadN X0.here hx rfl (hb hby d6_0) rfl q) ?_
  have c1 : ¬ ((1 : Int32) < (0 : Int32)) := by decide
  refine own_go (T' := s₁) (g' := (mkF m 6 #[.val (.int (1 : Int32))] [])) (fun t q => XS.ifYes X0.here hx rfl (pc0 := 1) (pc' := 6) rfl (hb hby d6_1) rfl ((if0 _ _).trans (flt c1).2.1) (by decide) (by decide) q) ?_
  refine own_go (T' := s₁) (g' := (mkF m 7 #[.val (.int (1 : Int32))] [(.int (1 : Int32))])) (fun t q => XS.iloadN X0.here hx rfl (hb hby d6_6) rfl q) ?_
  have c2 : (0 : Int32) < (1 : Int32) := by decide
  refine own_go (T' := s₁) (g' := (mkF m 10 #[.val (.int (1 : Int32))] [])) (fun t q => XS.ifNo X0.here hx rfl (hb hby d6_7) rfl ((if0 _ _).trans (tlt c2).2.2.2) q) ?_
  refine own_go (T' := s₁) (g' := (mkF m 11 #[.val (.int (1 : Int32))] [(.int (1 : Int32))])) (fun t q => XS.iconst X0.here hx rfl (hb hby d6_10) q) ?_
  refine own_outI X0 hx hlk hret (hb hby d6_11) ?_ (by decide) (by decide)
  exact ⟨rfl, e0, rfl⟩
theorem d4_0 : decode prog_34_method_3_code 0 = .ok (.aload_n 0, 1) := by decide +kernel
theorem d4_1 : decode prog_34_method_3_code 1 = .ok (.getfield 7, 3) := by decide +kernel
theorem d4_4 : decode prog_34_method_3_code 4 = .ok (.iload_n 1, 1) := by decide +kernel
theorem d4_5 : decode prog_34_method_3_code 5 = .ok (.laload, 1) := by decide +kernel
theorem d4_6 : decode prog_34_method_3_code 6 = .ok (.aload_n 0, 1) := by decide +kernel
theorem d4_7 : decode prog_34_method_3_code 7 = .ok (.getfield 7, 3) := by decide +kernel
theorem d4_10 : decode prog_34_method_3_code 10 = .ok (.iload_n 2, 1) := by decide +kernel
theorem d4_11 : decode prog_34_method_3_code 11 = .ok (.laload, 1) := by decide +kernel
theorem d4_12 : decode prog_34_method_3_code 12 = .ok (.invokestatic 17, 3) := by decide +kernel
theorem d4_15 : decode prog_34_method_3_code 15 = .ok (.ireturn, 1) := by decide +kernel
set_option maxRecDepth 65536 in
set_option maxHeartbeats 40000000 in
theorem rm_cmp (l : Launch) (Z : State) (a0 : Array Value) (hw : ∀ d ∈ tables_1, d.before a0 Z = true) (ws : List Jvm.Cond) (a b : Addr) (i j : Int32) (vs : List Value) (p1 p2 : Int64) (h0 : Heap) (B : Fld Z h0 a "com/example/minsum/minsum/solve/ScaledDistances$Longs" "unscaled" "[J" (.ref b)) (A : own_Ar Z h0 b .long vs) (hi0 : ¬ i < 0) (hi : vs[i.toNatClampNeg]? = some (.long p1)) (hj0 : ¬ j < 0) (hj : vs[j.toNatClampNeg]? = some (.long p2)) :
    own_Met l (⟨"com/example/minsum/minsum/solve/ScaledDistances$Longs", "compare", "(II)I"⟩ : MethodName) prog_34_method_3_code 3 (some .int) ws ({ frames := 1, cells := 0, slots := 0, locals := 15 } : Room) Z #[(.ref a), (.int i), (.int j)] h0 (fun v h L => ((p1 < p2 ∧ v = some (.int (-1 : Int32))) ∨ (p1 = p2 ∧ v = some (.int (0 : Int32))) ∨ (p2 < p1 ∧ v = some (.int (1 : Int32)))) ∧ h = h0 ∧ L = []) := by
  refine MetFree.of_bodySF (plainFor_of_name (by first | (simp [plainName, overriddenIn]; done) | decide +kernel)) hisR ?_
  intro p e s m args below meth c s₁ Bd hml0 hP hK
  obtain ⟨rfl, hZ, hh⟩ := hP
  have hx := Bd.exec
  have hby := Bd.bytes
  have hml : c.maxLocals = 3 := hml0
  have hown : s.vm.findClass "com/example/minsum/minsum/solve/ScaledDistances$Longs" = some m.cls := findClass_of_methodNamed Bd.named
  have hnm := (name_of_methodNamed Bd.named Bd.method).1
  have hlk : meth.locks = false := Bd.notSynchronized
  have hret := Bd.returns
  have X0 : Stand p l e ({ frames := 1, cells := 0, slots := 0, locals := 15 } : Room) s m #[(.ref a), (.int i), (.int j)] below meth c s₁ [] 0 0 := Stand.of_body Bd
  have e0 : s₁.heap = h0 := by rw [← hh, Bd.state]; rfl
  refine own_in (Q := fun v h L => ((p1 < p2 ∧ v = some (.int (-1 : Int32))) ∨ (p1 = p2 ∧ v = some (.int (0 : Int32))) ∨ (p2 < p1 ∧ v = some (.int (1 : Int32)))) ∧ h = h0 ∧ L = []) (ef := by first | (simp [entryFrame, mkF, argsToLocals, Value.category, maxLocals]; done) | rfl) (g' := (mkF m 0 #[.val (.ref a), .val (.int i), .val (.int j)] [])) ?_
  refine own_go (T' := s₁) (g' := (mkF m 1 #[.val (.ref a), .val (.int i), .val (.int j)] [(.ref a)])) (fun t q => XS.aloadN X0.here hx rfl (hb hby d4_0) rfl rfl q) ?_
  obtain ⟨T1, X1, e1, st1⟩ := getF X0 hx hZ hown (host := "") (Or.inl (hw _ (List.mem_of_getElem? (i := 16) rfl))) Via.refl e0 B (g := (mkF m 1 #[.val (.ref a), .val (.int i), .val (.int j)] [(.ref a)])) rfl rfl (hb hby d4_1)
  refine own_go (T' := T1) (g' := (mkF m 4 #[.val (.ref a), .val (.int i), .val (.int j)] [(.ref b)])) (fun t q => st1 t q) ?_
  refine own_go (T' := T1) (g' := (mkF m 5 #[.val (.ref a), .val (.int i), .val (.int j)] [(.int i), (.ref b)])) (fun t q => XS.iloadN X1.here hx rfl (hb hby d4_4) rfl q) ?_
  refine own_go (T' := T1) (g' := (mkF m 6 #[.val (.ref a), .val (.int i), .val (.int j)] [(.long p1)])) (fun t q => own_ldJ X1 hx hZ e1 A hi0 hi (g := (mkF m 5 #[.val (.ref a), .val (.int i), .val (.int j)] [(.int i), (.ref b)])) rfl rfl (hb hby d4_5) t q) ?_
  refine own_go (T' := T1) (g' := (mkF m 7 #[.val (.ref a), .val (.int i), .val (.int j)] [(.ref a), (.long p1)])) (fun t q => XS.aloadN X1.here hx rfl (hb hby d4_6) rfl rfl q) ?_
  obtain ⟨T2, X2, e2, st2⟩ := getF X1 hx hZ hown (host := "") (Or.inl (hw _ (List.mem_of_getElem? (i := 16) rfl))) Via.refl e1 B (g := (mkF m 7 #[.val (.ref a), .val (.int i), .val (.int j)] [(.ref a), (.long p1)])) rfl rfl (hb hby d4_7)
  refine own_go (T' := T2) (g' := (mkF m 10 #[.val (.ref a), .val (.int i), .val (.int j)] [(.ref b), (.long p1)])) (fun t q => st2 t q) ?_
  refine own_go (T' := T2) (g' := (mkF m 11 #[.val (.ref a), .val (.int i), .val (.int j)] [(.int j), (.ref b), (.long p1)])) (fun t q => XS.iloadN X2.here hx rfl (hb hby d4_10) rfl q) ?_
  refine own_go (T' := T2) (g' := (mkF m 12 #[.val (.ref a), .val (.int i), .val (.int j)] [(.long p2), (.long p1)])) (fun t q => own_ldJ X2 hx hZ e2 A hj0 hj (g := (mkF m 11 #[.val (.ref a), .val (.int i), .val (.int j)] [(.int j), (.ref b), (.long p1)])) rfl rfl (hb hby d4_11) t q) ?_
  obtain ⟨v3, T3, L3, X3, Q3, st3⟩ := own_callS X2 hx hZ (y := (⟨"java/lang/Long", "compare", "(JJ)I"⟩ : MethodName)) (argsL := [(.long p1), (.long p2)]) (rest := []) hown (hw _ (List.mem_of_getElem? (i := 25) rfl)) (hw _ (List.mem_of_getElem? (i := 26) rfl)) (hw _ (List.mem_of_getElem? (i := 27) rfl)) (hw _ (List.mem_of_getElem? (i := 28) rfl)) (rm_lc l Z a0 hw [] p1 p2 h0) e2 (by decide) (by decide) 0 (by decide) (by decide) (by decide) (g := (mkF m 12 #[.val (.ref a), .val (.int i), .val (.int j)] [(.long p2), (.long p1)])) rfl (by rw [hml]; rfl) (lenOf (ps := [.long, .long]) (r := (some .int)) (by decide +kernel) rfl) rfl (by show 2 * 0 + _ ≤ _; exact Nat.le_of_eq rfl) (hb hby d4_12)
  obtain ⟨Q3, e3, rfl⟩ := Q3
  rcases Q3 with ⟨hk, rfl⟩ | ⟨hk, rfl⟩ | ⟨hk, rfl⟩
  · refine own_go (T' := T3) (g' := (mkF m 15 #[.val (.ref a), .val (.int i), .val (.int j)] [(.int (-1 : Int32))])) (fun t q => st3 t q) ?_
    refine own_outI X3 hx hlk hret (hb hby d4_15) ?_ (by decide) (by decide)
    exact ⟨Or.inl ⟨hk, rfl⟩, e3, rfl⟩
  · refine own_go (T' := T3) (g' := (mkF m 15 #[.val (.ref a), .val (.int i), .val (.int j)] [(.int (0 : Int32))])) (fun t q => st3 t q) ?_
    refine own_outI X3 hx hlk hret (hb hby d4_15) ?_ (by decide) (by decide)
    exact ⟨Or.inr (Or.inl ⟨hk, rfl⟩), e3, rfl⟩
  · refine own_go (T' := T3) (g' := (mkF m 15 #[.val (.ref a), .val (.int i), .val (.int j)] [(.int (1 : Int32))])) (fun t q => st3 t q) ?_
    refine own_outI X3 hx hlk hret (hb hby d4_15) ?_ (by decide) (by decide)
    exact ⟨Or.inr (Or.inr ⟨hk, rfl⟩), e3, rfl⟩
set_option maxRecDepth 65536 in
set_option maxHeartbeats 40000000 in
theorem rm0 (l : Launch) (Z : State) (a0 : Array Value) (hw : ∀ d ∈ tables_1, d.before a0 Z = true) (ws : List Jvm.Cond) (p1 p2 p3 : Int64) (p4 p5 p6 : Int32) (h0 : Heap)  :
    own_Met l x code maxLocals ret ws room_1 Z #[(.long p1), (.long p2), (.long p3), (.int p4), (.int p5), (.int p6)] h0 (fun v _ L => v = some (.int (1 : Int32)) ∧ Fr h0.size L) := by
  refine MetFree.of_bodySF (plainFor_of_name (by first | (simp [plainName, overriddenIn]; done) | decide +kernel)) hisR ?_
  intro p e s m args below meth c s₁ Bd hml0 hP hK
  obtain ⟨rfl, hZ, hh⟩ := hP
  have hx := Bd.exec
  have hby := Bd.bytes
  have hml : c.maxLocals = 19 := hml0
  have hown : s.vm.findClass "com/example/minsum/minsum/solve/LongsComparePinLaw" = some m.cls := findClass_of_methodNamed Bd.named
  have hnm := (name_of_methodNamed Bd.named Bd.method).1
  have hlk : meth.locks = false := Bd.notSynchronized
  have hret := Bd.returns
  have X0 : Stand p l e room_1 s m #[(.long p1), (.long p2), (.long p3), (.int p4), (.int p5), (.int p6)] below meth c s₁ [] 0 0 := Stand.of_body Bd
  have e0 : s₁.heap = h0 := by rw [← hh, Bd.state]; rfl
  refine own_in (Q := fun v _ L => v = some (.int (1 : Int32)) ∧ Fr h0.size L) (ef := by first | (simp [entryFrame, mkF, argsToLocals, Value.category, maxLocals]; done) | rfl) (g' := (mkF m 0 #[.val (.long p1), .second, .val (.long p2), .second, .val (.long p3), .second, .val (.int p4), .val (.int p5), .val (.int p6), .unset, .unset, .unset, .unset, .unset, .unset, .unset, .unset, .unset, .unset] [])) ?_
  refine own_go (T' := s₁) (g' := (mkF m 1 #[.val (.long p1), .second, .val (.long p2), .second, .val (.long p3), .second, .val (.int p4), .val (.int p5), .val (.int p6), .unset, .unset, .unset, .unset, .unset, .unset, .unset, .unset, .unset, .unset] [(.int (3 : Int32))])) (fun t q => XS.iconst X0.here hx rfl (hb hby at_0) q) ?_
  obtain ⟨T1, h1, X1, e1, E1, A1, st1⟩ := own_newP X0 hx hZ (hw _ (List.mem_of_getElem? (i := 0) rfl)) e0 (g := (mkF m 1 #[.val (.long p1), .second, .val (.long p2), .second, .val (.long p3), .second, .val (.int p4), .val (.int p5), .val (.int p6), .unset, .unset, .unset, .unset, .unset, .unset, .unset, .unset, .unset, .unset] [(.int (3 : Int32))])) rfl (hb hby at_1) rfl (by decide) 3 (by decide) (by decide) (by decide) (by decide)
  obtain ⟨a1, g1⟩ : ∃ z, z = h0.size := ⟨_, rfl⟩
  rw [← g1] at A1 st1
  have za1 : h0.size ≤ a1 := by rw [g1]; exact (Nat.le_refl _)
  have sz1 : h0.size ≤ h1.size := Nat.le_trans (Nat.le_refl _) E1.1
  have f1_ : own_Ar Z h1 a1 .long [(.long (0 : Int64)), (.long (0 : Int64)), (.long (0 : Int64))] := A1
  refine own_go (T' := T1) (g' := (mkF m 3 #[.val (.long p1), .second, .val (.long p2), .second, .val (.long p3), .second, .val (.int p4), .val (.int p5), .val (.int p6), .unset, .unset, .unset, .unset, .unset, .unset, .unset, .unset, .unset, .unset] [(.ref a1)])) (fun t q => st1 t q) ?_
  refine own_go (T' := T1) (g' := (mkF m 4 #[.val (.long p1), .second, .val (.long p2), .second, .val (.long p3), .second, .val (.int p4), .val (.int p5), .val (.int p6), .unset, .unset, .unset, .unset, .unset, .unset, .unset, .unset, .unset, .unset] [(.ref a1), (.ref a1)])) (fun t q => XS.dup X1.here hx rfl (hb hby at_3) rfl rfl q) ?_
  refine own_go (T' := T1) (g' := (mkF m 5 #[.val (.long p1), .second, .val (.long p2), .second, .val (.long p3), .second, .val (.int p4), .val (.int p5), .val (.int p6), .unset, .unset, .unset, .unset, .unset, .unset, .unset, .unset, .unset, .unset] [(.int (0 : Int32)), (.ref a1), (.ref a1)])) (fun t q => XS.iconst X1.here hx rfl (hb hby at_4) q) ?_
  refine own_go (T' := T1) (g' := (mkF m 6 #[.val (.long p1), .second, .val (.long p2), .second, .val (.long p3), .second, .val (.int p4), .val (.int p5), .val (.int p6), .unset, .unset, .unset, .unset, .unset, .unset, .unset, .unset, .unset, .unset] [(.long p1), (.int (0 : Int32)), (.ref a1), (.ref a1)])) (fun t q => XT.lloadN X1.here hx rfl (hb hby at_5) rfl q) ?_
  obtain ⟨T2, h2, X2, e2, W2, A2, st2⟩ := own_stJ X1 hx hZ e1 f1_ (by decide) 0 (by decide) (by show 0 < 3; decide) (g := (mkF m 6 #[.val (.long p1), .second, .val (.long p2), .second, .val (.long p3), .second, .val (.int p4), .val (.int p5), .val (.int p6), .unset, .unset, .unset, .unset, .unset, .unset, .unset, .unset, .unset, .unset] [(.long p1), (.int (0 : Int32)), (.ref a1), (.ref a1)])) rfl rfl (hb hby at_6)
  have N2 := Fr.snoc X2 (Fr.nil _) za1
  have f2_ : own_Ar Z h2 a1 .long [(.long p1), (.long (0 : Int64)), (.long (0 : Int64))] := A2
  have sz2 : h0.size ≤ h2.size := by rw [W2.size]; exact sz1
  refine own_go (T' := T2) (g' := (mkF m 7 #[.val (.long p1), .second, .val (.long p2), .second, .val (.long p3), .second, .val (.int p4), .val (.int p5), .val (.int p6), .unset, .unset, .unset, .unset, .unset, .unset, .unset, .unset, .unset, .unset] [(.ref a1)])) (fun t q => st2 t q) ?_
  refine own_go (T' := T2) (g' := (mkF m 8 #[.val (.long p1), .second, .val (.long p2), .second, .val (.long p3), .second, .val (.int p4), .val (.int p5), .val (.int p6), .unset, .unset, .unset, .unset, .unset, .unset, .unset, .unset, .unset, .unset] [(.ref a1), (.ref a1)])) (fun t q => XS.dup X2.here hx rfl (hb hby at_7) rfl rfl q) ?_
  refine own_go (T' := T2) (g' := (mkF m 9 #[.val (.long p1), .second, .val (.long p2), .second, .val (.long p3), .second, .val (.int p4), .val (.int p5), .val (.int p6), .unset, .unset, .unset, .unset, .unset, .unset, .unset, .unset, .unset, .unset] [(.int (1 : Int32)), (.ref a1), (.ref a1)])) (fun t q => XS.iconst X2.here hx rfl (hb hby at_8) q) ?_
  refine own_go (T' := T2) (g' := (mkF m 10 #[.val (.long p1), .second, .val (.long p2), .second, .val (.long p3), .second, .val (.int p4), .val (.int p5), .val (.int p6), .unset, .unset, .unset, .unset, .unset, .unset, .unset, .unset, .unset, .unset] [(.long p2), (.int (1 : Int32)), (.ref a1), (.ref a1)])) (fun t q => XT.lloadN X2.here hx rfl (hb hby at_9) rfl q) ?_
  obtain ⟨T3, h3, X3, e3, W3, A3, st3⟩ := own_stJ X2 hx hZ e2 f2_ (by decide) 1 (by decide) (by show 1 < 3; decide) (g := (mkF m 10 #[.val (.long p1), .second, .val (.long p2), .second, .val (.long p3), .second, .val (.int p4), .val (.int p5), .val (.int p6), .unset, .unset, .unset, .unset, .unset, .unset, .unset, .unset, .unset, .unset] [(.long p2), (.int (1 : Int32)), (.ref a1), (.ref a1)])) rfl rfl (hb hby at_10)
  have N3 := Fr.snoc X3 N2 za1
  have f3_ : own_Ar Z h3 a1 .long [(.long p1), (.long p2), (.long (0 : Int64))] := A3
  have sz3 : h0.size ≤ h3.size := by rw [W3.size]; exact sz2
  refine own_go (T' := T3) (g' := (mkF m 11 #[.val (.long p1), .second, .val (.long p2), .second, .val (.long p3), .second, .val (.int p4), .val (.int p5), .val (.int p6), .unset, .unset, .unset, .unset, .unset, .unset, .unset, .unset, .unset, .unset] [(.ref a1)])) (fun t q => st3 t q) ?_
  refine own_go (T' := T3) (g' := (mkF m 12 #[.val (.long p1), .second, .val (.long p2), .second, .val (.long p3), .second, .val (.int p4), .val (.int p5), .val (.int p6), .unset, .unset, .unset, .unset, .unset, .unset, .unset, .unset, .unset, .unset] [(.ref a1), (.ref a1)])) (fun t q => XS.dup X3.here hx rfl (hb hby at_11) rfl rfl q) ?_
  refine own_go (T' := T3) (g' := (mkF m 13 #[.val (.long p1), .second, .val (.long p2), .second, .val (.long p3), .second, .val (.int p4), .val (.int p5), .val (.int p6), .unset, .unset, .unset, .unset, .unset, .unset, .unset, .unset, .unset, .unset] [(.int (2 : Int32)), (.ref a1), (.ref a1)])) (fun t q => XS.iconst X3.here hx rfl (hb hby at_12) q) ?_
  refine own_go (T' := T3) (g' := (mkF m 15 #[.val (.long p1), .second, .val (.long p2), .second, .val (.long p3), .second, .val (.int p4), .val (.int p5), .val (.int p6), .unset, .unset, .unset, .unset, .unset, .unset, .unset, .unset, .unset, .unset] [(.long p3), (.int (2 : Int32)), (.ref a1), (.ref a1)])) (fun t q => XT.lload X3.here hx rfl (hb hby at_13) rfl q) ?_
  obtain ⟨T4, h4, X4, e4, W4, A4, st4⟩ := own_stJ X3 hx hZ e3 f3_ (by decide) 2 (by decide) (by show 2 < 3; decide) (g := (mkF m 15 #[.val (.long p1), .second, .val (.long p2), .second, .val (.long p3), .second, .val (.int p4), .val (.int p5), .val (.int p6), .unset, .unset, .unset, .unset, .unset, .unset, .unset, .unset, .unset, .unset] [(.long p3), (.int (2 : Int32)), (.ref a1), (.ref a1)])) rfl rfl (hb hby at_15)
  have N4 := Fr.snoc X4 N3 za1
  have f4_ : own_Ar Z h4 a1 .long [(.long p1), (.long p2), (.long p3)] := A4
  have sz4 : h0.size ≤ h4.size := by rw [W4.size]; exact sz3
  refine own_go (T' := T4) (g' := (mkF m 16 #[.val (.long p1), .second, .val (.long p2), .second, .val (.long p3), .second, .val (.int p4), .val (.int p5), .val (.int p6), .unset, .unset, .unset, .unset, .unset, .unset, .unset, .unset, .unset, .unset] [(.ref a1)])) (fun t q => st4 t q) ?_
  refine own_go (T' := T4) (g' := (mkF m 18 #[.val (.long p1), .second, .val (.long p2), .second, .val (.long p3), .second, .val (.int p4), .val (.int p5), .val (.int p6), .val (.ref a1), .unset, .unset, .unset, .unset, .unset, .unset, .unset, .unset, .unset] [])) (fun t q => XS.astore X4.here hx rfl (hb hby at_16) rfl rfl (l' := #[.val (.long p1), .second, .val (.long p2), .second, .val (.long p3), .second, .val (.int p4), .val (.int p5), .val (.int p6), .val (.ref a1), .unset, .unset, .unset, .unset, .unset, .unset, .unset, .unset, .unset]) rfl q) ?_
  refine own_go (T' := T4) (g' := (mkF m 20 #[.val (.long p1), .second, .val (.long p2), .second, .val (.long p3), .second, .val (.int p4), .val (.int p5), .val (.int p6), .val (.ref a1), .unset, .unset, .unset, .unset, .unset, .unset, .unset, .unset, .unset] [(.int p4)])) (fun t q => XS.iload X4.here hx rfl (hb hby at_18) rfl q) ?_
  refine own_go (T' := T4) (g' := (mkF m 22 #[.val (.long p1), .second, .val (.long p2), .second, .val (.long p3), .second, .val (.int p4), .val (.int p5), .val (.int p6), .val (.ref a1), .unset, .unset, .unset, .unset, .unset, .unset, .unset, .unset, .unset] [(.int (2147483647 : Int32)), (.int p4)])) (fun t q => X4.ldcInt hx hown (mvT hZ (hw _ (List.mem_of_getElem? (i := 1) rfl))) (g := (mkF m 20 #[.val (.long p1), .second, .val (.long p2), .second, .val (.long p3), .second, .val (.int p4), .val (.int p5), .val (.int p6), .val (.ref a1), .unset, .unset, .unset, .unset, .unset, .unset, .unset, .unset, .unset] [(.int p4)])) rfl (hb hby at_20) t q) ?_
  refine own_go (T' := T4) (g' := (mkF m 23 #[.val (.long p1), .second, .val (.long p2), .second, .val (.long p3), .second, .val (.int p4), .val (.int p5), .val (.int p6), .val (.ref a1), .unset, .unset, .unset, .unset, .unset, .unset, .unset, .unset, .unset] [(.int (p4 &&& (2147483647 : Int32)))])) (fun t q => XS.iand X4.here hx rfl (hb hby at_22) rfl q) ?_
  refine own_go (T' := T4) (g' := (mkF m 24 #[.val (.long p1), .second, .val (.long p2), .second, .val (.long p3), .second, .val (.int p4), .val (.int p5), .val (.int p6), .val (.ref a1), .unset, .unset, .unset, .unset, .unset, .unset, .unset, .unset, .unset] [(.int (3 : Int32)), (.int (p4 &&& (2147483647 : Int32)))])) (fun t q => XS.iconst X4.here hx rfl (hb hby at_23) q) ?_
  refine own_go (T' := T4) (g' := (mkF m 25 #[.val (.long p1), .second, .val (.long p2), .second, .val (.long p3), .second, .val (.int p4), .val (.int p5), .val (.int p6), .val (.ref a1), .unset, .unset, .unset, .unset, .unset, .unset, .unset, .unset, .unset] [(.int ((p4 &&& (2147483647 : Int32)) % (3 : Int32)))])) (fun t q => iremM X4 hx rfl (hb hby at_24) rfl (by decide) q) ?_
  obtain ⟨aa, h_aa⟩ : ∃ z : Int32, z = ((p4 &&& (2147483647 : Int32)) % (3 : Int32)) := ⟨_, rfl⟩
  rw [← h_aa]
  obtain ⟨na, u, hu⟩ := own_three p1 p2 p3 p4 h_aa
  refine own_go (T' := T4) (g' := (mkF m 27 #[.val (.long p1), .second, .val (.long p2), .second, .val (.long p3), .second, .val (.int p4), .val (.int p5), .val (.int p6), .val (.ref a1), .val (.int aa), .unset, .unset, .unset, .unset, .unset, .unset, .unset, .unset] [])) (fun t q => XS.istore X4.here hx rfl (hb hby at_25) rfl (l' := #[.val (.long p1), .second, .val (.long p2), .second, .val (.long p3), .second, .val (.int p4), .val (.int p5), .val (.int p6), .val (.ref a1), .val (.int aa), .unset, .unset, .unset, .unset, .unset, .unset, .unset, .unset]) rfl q) ?_
  refine own_go (T' := T4) (g' := (mkF m 29 #[.val (.long p1), .second, .val (.long p2), .second, .val (.long p3), .second, .val (.int p4), .val (.int p5), .val (.int p6), .val (.ref a1), .val (.int aa), .unset, .unset, .unset, .unset, .unset, .unset, .unset, .unset] [(.int p5)])) (fun t q => XS.iload X4.here hx rfl (hb hby at_27) rfl q) ?_
  refine own_go (T' := T4) (g' := (mkF m 31 #[.val (.long p1), .second, .val (.long p2), .second, .val (.long p3), .second, .val (.int p4), .val (.int p5), .val (.int p6), .val (.ref a1), .val (.int aa), .unset, .unset, .unset, .unset, .unset, .unset, .unset, .unset] [(.int (2147483647 : Int32)), (.int p5)])) (fun t q => X4.ldcInt hx hown (mvT hZ (hw _ (List.mem_of_getElem? (i := 1) rfl))) (g := (mkF m 29 #[.val (.long p1), .second, .val (.long p2), .second, .val (.long p3), .second, .val (.int p4), .val (.int p5), .val (.int p6), .val (.ref a1), .val (.int aa), .unset, .unset, .unset, .unset, .unset, .unset, .unset, .unset] [(.int p5)])) rfl (hb hby at_29) t q) ?_
  refine own_go (T' := T4) (g' := (mkF m 32 #[.val (.long p1), .second, .val (.long p2), .second, .val (.long p3), .second, .val (.int p4), .val (.int p5), .val (.int p6), .val (.ref a1), .val (.int aa), .unset, .unset, .unset, .unset, .unset, .unset, .unset, .unset] [(.int (p5 &&& (2147483647 : Int32)))])) (fun t q => XS.iand X4.here hx rfl (hb hby at_31) rfl q) ?_
  refine own_go (T' := T4) (g' := (mkF m 33 #[.val (.long p1), .second, .val (.long p2), .second, .val (.long p3), .second, .val (.int p4), .val (.int p5), .val (.int p6), .val (.ref a1), .val (.int aa), .unset, .unset, .unset, .unset, .unset, .unset, .unset, .unset] [(.int (3 : Int32)), (.int (p5 &&& (2147483647 : Int32)))])) (fun t q => XS.iconst X4.here hx rfl (hb hby at_32) q) ?_
  refine own_go (T' := T4) (g' := (mkF m 34 #[.val (.long p1), .second, .val (.long p2), .second, .val (.long p3), .second, .val (.int p4), .val (.int p5), .val (.int p6), .val (.ref a1), .val (.int aa), .unset, .unset, .unset, .unset, .unset, .unset, .unset, .unset] [(.int ((p5 &&& (2147483647 : Int32)) % (3 : Int32)))])) (fun t q => iremM X4 hx rfl (hb hby at_33) rfl (by decide) q) ?_
  obtain ⟨bb, h_bb⟩ : ∃ z : Int32, z = ((p5 &&& (2147483647 : Int32)) % (3 : Int32)) := ⟨_, rfl⟩
  rw [← h_bb]
  obtain ⟨nb, v, hv⟩ := own_three p1 p2 p3 p5 h_bb
  refine own_go (T' := T4) (g' := (mkF m 36 #[.val (.long p1), .second, .val (.long p2), .second, .val (.long p3), .second, .val (.int p4), .val (.int p5), .val (.int p6), .val (.ref a1), .val (.int aa), .val (.int bb), .unset, .unset, .unset, .unset, .unset, .unset, .unset] [])) (fun t q => XS.istore X4.here hx rfl (hb hby at_34) rfl (l' := #[.val (.long p1), .second, .val (.long p2), .second, .val (.long p3), .second, .val (.int p4), .val (.int p5), .val (.int p6), .val (.ref a1), .val (.int aa), .val (.int bb), .unset, .unset, .unset, .unset, .unset, .unset, .unset]) rfl q) ?_
  refine own_go (T' := T4) (g' := (mkF m 38 #[.val (.long p1), .second, .val (.long p2), .second, .val (.long p3), .second, .val (.int p4), .val (.int p5), .val (.int p6), .val (.ref a1), .val (.int aa), .val (.int bb), .unset, .unset, .unset, .unset, .unset, .unset, .unset] [(.ref a1)])) (fun t q => XS.aload X4.here hx rfl (hb hby at_36) rfl rfl q) ?_
  refine own_go (T' := T4) (g' := (mkF m 40 #[.val (.long p1), .second, .val (.long p2), .second, .val (.long p3), .second, .val (.int p4), .val (.int p5), .val (.int p6), .val (.ref a1), .val (.int aa), .val (.int bb), .unset, .unset, .unset, .unset, .unset, .unset, .unset] [(.int aa), (.ref a1)])) (fun t q => XS.iload X4.here hx rfl (hb hby at_38) rfl q) ?_
  refine own_go (T' := T4) (g' := (mkF m 41 #[.val (.long p1), .second, .val (.long p2), .second, .val (.long p3), .second, .val (.int p4), .val (.int p5), .val (.int p6), .val (.ref a1), .val (.int aa), .val (.int bb), .unset, .unset, .unset, .unset, .unset, .unset, .unset] [(.long u)])) (fun t q => own_ldJ X4 hx hZ e4 f4_ na hu (g := (mkF m 40 #[.val (.long p1), .second, .val (.long p2), .second, .val (.long p3), .second, .val (.int p4), .val (.int p5), .val (.int p6), .val (.ref a1), .val (.int aa), .val (.int bb), .unset, .unset, .unset, .unset, .unset, .unset, .unset] [(.int aa), (.ref a1)])) rfl rfl (hb hby at_40) t q) ?_
  refine own_go (T' := T4) (g' := (mkF m 43 #[.val (.long p1), .second, .val (.long p2), .second, .val (.long p3), .second, .val (.int p4), .val (.int p5), .val (.int p6), .val (.ref a1), .val (.int aa), .val (.int bb), .val (.long u), .second, .unset, .unset, .unset, .unset, .unset] [])) (fun t q => XT.lstore X4.here hx rfl (hb hby at_41) rfl (l' := #[.val (.long p1), .second, .val (.long p2), .second, .val (.long p3), .second, .val (.int p4), .val (.int p5), .val (.int p6), .val (.ref a1), .val (.int aa), .val (.int bb), .val (.long u), .second, .unset, .unset, .unset, .unset, .unset]) rfl q) ?_
  refine own_go (T' := T4) (g' := (mkF m 45 #[.val (.long p1), .second, .val (.long p2), .second, .val (.long p3), .second, .val (.int p4), .val (.int p5), .val (.int p6), .val (.ref a1), .val (.int aa), .val (.int bb), .val (.long u), .second, .unset, .unset, .unset, .unset, .unset] [(.ref a1)])) (fun t q => XS.aload X4.here hx rfl (hb hby at_43) rfl rfl q) ?_
  refine own_go (T' := T4) (g' := (mkF m 47 #[.val (.long p1), .second, .val (.long p2), .second, .val (.long p3), .second, .val (.int p4), .val (.int p5), .val (.int p6), .val (.ref a1), .val (.int aa), .val (.int bb), .val (.long u), .second, .unset, .unset, .unset, .unset, .unset] [(.int bb), (.ref a1)])) (fun t q => XS.iload X4.here hx rfl (hb hby at_45) rfl q) ?_
  refine own_go (T' := T4) (g' := (mkF m 48 #[.val (.long p1), .second, .val (.long p2), .second, .val (.long p3), .second, .val (.int p4), .val (.int p5), .val (.int p6), .val (.ref a1), .val (.int aa), .val (.int bb), .val (.long u), .second, .unset, .unset, .unset, .unset, .unset] [(.long v)])) (fun t q => own_ldJ X4 hx hZ e4 f4_ nb hv (g := (mkF m 47 #[.val (.long p1), .second, .val (.long p2), .second, .val (.long p3), .second, .val (.int p4), .val (.int p5), .val (.int p6), .val (.ref a1), .val (.int aa), .val (.int bb), .val (.long u), .second, .unset, .unset, .unset, .unset, .unset] [(.int bb), (.ref a1)])) rfl rfl (hb hby at_47) t q) ?_
  refine own_go (T' := T4) (g' := (mkF m 50 #[.val (.long p1), .second, .val (.long p2), .second, .val (.long p3), .second, .val (.int p4), .val (.int p5), .val (.int p6), .val (.ref a1), .val (.int aa), .val (.int bb), .val (.long u), .second, .val (.long v), .second, .unset, .unset, .unset] [])) (fun t q => XT.lstore X4.here hx rfl (hb hby at_48) rfl (l' := #[.val (.long p1), .second, .val (.long p2), .second, .val (.long p3), .second, .val (.int p4), .val (.int p5), .val (.int p6), .val (.ref a1), .val (.int aa), .val (.int bb), .val (.long u), .second, .val (.long v), .second, .unset, .unset, .unset]) rfl q) ?_
  obtain ⟨T5, h5, X5, e5, E5, A5, D5, -, st5⟩ := newO X4 hx hZ hown (hw _ (List.mem_of_getElem? (i := 2) rfl)) (hw _ (List.mem_of_getElem? (i := 3) rfl)) (hw _ (List.mem_of_getElem? (i := 4) rfl)) e4 (g := (mkF m 50 #[.val (.long p1), .second, .val (.long p2), .second, .val (.long p3), .second, .val (.int p4), .val (.int p5), .val (.int p6), .val (.ref a1), .val (.int aa), .val (.int bb), .val (.long u), .second, .val (.long v), .second, .unset, .unset, .unset] [])) rfl (hb hby at_50) (by decide) (by decide)
  obtain ⟨a5, g5⟩ : ∃ z, z = h4.size := ⟨_, rfl⟩
  rw [← g5] at A5 D5 st5
  have ne_a1_a5 : a1 ≠ a5 := by rw [g5]; exact Nat.ne_of_lt f4_.lt
  have za5 : h0.size ≤ a5 := by rw [g5]; exact sz4
  have f6 := f4_.ext E5
  have sz5 : h0.size ≤ h5.size := Nat.le_trans sz4 E5.1
  have f7 : Fld Z h5 a5 "com/example/minsum/minsum/solve/ScaledDistances$Longs" "unscaled" "[J" .null := D5 (Or.inr (hw _ (List.mem_of_getElem? (i := 17) rfl))) (ty := (.array .long)) (by decide)
  have f8 : Fld Z h5 a5 "com/example/minsum/minsum/solve/ScaledDistances$Longs" "scale" "I" (.int (0 : Int32)) := D5 (Or.inr (hw _ (List.mem_of_getElem? (i := 19) rfl))) (ty := .int) (by decide)
  refine own_go (T' := T5) (g' := (mkF m 53 #[.val (.long p1), .second, .val (.long p2), .second, .val (.long p3), .second, .val (.int p4), .val (.int p5), .val (.int p6), .val (.ref a1), .val (.int aa), .val (.int bb), .val (.long u), .second, .val (.long v), .second, .unset, .unset, .unset] [(.ref a5)])) (fun t q => st5 t q) ?_
  refine own_go (T' := T5) (g' := (mkF m 54 #[.val (.long p1), .second, .val (.long p2), .second, .val (.long p3), .second, .val (.int p4), .val (.int p5), .val (.int p6), .val (.ref a1), .val (.int aa), .val (.int bb), .val (.long u), .second, .val (.long v), .second, .unset, .unset, .unset] [(.ref a5), (.ref a5)])) (fun t q => XS.dup X5.here hx rfl (hb hby at_53) rfl rfl q) ?_
  refine own_go (T' := T5) (g' := (mkF m 56 #[.val (.long p1), .second, .val (.long p2), .second, .val (.long p3), .second, .val (.int p4), .val (.int p5), .val (.int p6), .val (.ref a1), .val (.int aa), .val (.int bb), .val (.long u), .second, .val (.long v), .second, .unset, .unset, .unset] [(.ref a1), (.ref a5), (.ref a5)])) (fun t q => XS.aload X5.here hx rfl (hb hby at_54) rfl rfl q) ?_
  refine own_go (T' := T5) (g' := (mkF m 58 #[.val (.long p1), .second, .val (.long p2), .second, .val (.long p3), .second, .val (.int p4), .val (.int p5), .val (.int p6), .val (.ref a1), .val (.int aa), .val (.int bb), .val (.long u), .second, .val (.long v), .second, .unset, .unset, .unset] [(.int p6), (.ref a1), (.ref a5), (.ref a5)])) (fun t q => XS.iload X5.here hx rfl (hb hby at_56) rfl q) ?_
  obtain ⟨v9, T9, L9, X9, Q9, st9⟩ := own_callP X5 hx hZ (y := (⟨"com/example/minsum/minsum/solve/ScaledDistances$Longs", "<init>", "([JI)V"⟩ : MethodName)) (a := a5) (argsL := [(.ref a1), (.int p6)]) (rest := [(.ref a5)]) hown rfl (hw _ (List.mem_of_getElem? (i := 5) rfl)) (hw _ (List.mem_of_getElem? (i := 6) rfl)) (hw _ (List.mem_of_getElem? (i := 4) rfl)) (hw _ (List.mem_of_getElem? (i := 7) rfl)) (rm_li l Z a0 hw [] h0.size a5 a1 p6 h5 sz5 za5 A5 f7 f8) e5 (by decide) (by decide) 1 (by decide) (by decide) (by decide) (g := (mkF m 58 #[.val (.long p1), .second, .val (.long p2), .second, .val (.long p3), .second, .val (.int p4), .val (.int p5), .val (.int p6), .val (.ref a1), .val (.int aa), .val (.int bb), .val (.long u), .second, .val (.long v), .second, .unset, .unset, .unset] [(.int p6), (.ref a1), (.ref a5), (.ref a5)])) rfl (by rw [hml]; rfl) (lenOf (ps := [(.array .long), .int]) (r := none) (by decide +kernel) rfl) rfl (by show 2 * 0 + _ ≤ _; exact Nat.le_of_eq rfl) (hb hby at_58)
  obtain ⟨rfl, M9, K9, XA9, F19⟩ := Q9
  have f10 := f6.keep K9 (ninS ne_a1_a5 nin0)
  have f11 := A5.keep K9
  have N9 := Fr.app N4 M9
  have sz9 : h0.size ≤ T9.heap.size := Nat.le_trans sz5 K9.1
  refine own_go (T' := T9) (g' := (mkF m 61 #[.val (.long p1), .second, .val (.long p2), .second, .val (.long p3), .second, .val (.int p4), .val (.int p5), .val (.int p6), .val (.ref a1), .val (.int aa), .val (.int bb), .val (.long u), .second, .val (.long v), .second, .unset, .unset, .unset] [(.ref a5)])) (fun t q => st9 t q) ?_
  refine own_go (T' := T9) (g' := (mkF m 63 #[.val (.long p1), .second, .val (.long p2), .second, .val (.long p3), .second, .val (.int p4), .val (.int p5), .val (.int p6), .val (.ref a1), .val (.int aa), .val (.int bb), .val (.long u), .second, .val (.long v), .second, .val (.ref a5), .unset, .unset] [])) (fun t q => XS.astore X9.here hx rfl (hb hby at_61) rfl rfl (l' := #[.val (.long p1), .second, .val (.long p2), .second, .val (.long p3), .second, .val (.int p4), .val (.int p5), .val (.int p6), .val (.ref a1), .val (.int aa), .val (.int bb), .val (.long u), .second, .val (.long v), .second, .val (.ref a5), .unset, .unset]) rfl q) ?_
  refine own_go (T' := T9) (g' := (mkF m 65 #[.val (.long p1), .second, .val (.long p2), .second, .val (.long p3), .second, .val (.int p4), .val (.int p5), .val (.int p6), .val (.ref a1), .val (.int aa), .val (.int bb), .val (.long u), .second, .val (.long v), .second, .val (.ref a5), .unset, .unset] [(.ref a5)])) (fun t q => XS.aload X9.here hx rfl (hb hby at_63) rfl rfl q) ?_
  refine own_go (T' := T9) (g' := (mkF m 67 #[.val (.long p1), .second, .val (.long p2), .second, .val (.long p3), .second, .val (.int p4), .val (.int p5), .val (.int p6), .val (.ref a1), .val (.int aa), .val (.int bb), .val (.long u), .second, .val (.long v), .second, .val (.ref a5), .unset, .unset] [(.int aa), (.ref a5)])) (fun t q => XS.iload X9.here hx rfl (hb hby at_65) rfl q) ?_
  refine own_go (T' := T9) (g' := (mkF m 69 #[.val (.long p1), .second, .val (.long p2), .second, .val (.long p3), .second, .val (.int p4), .val (.int p5), .val (.int p6), .val (.ref a1), .val (.int aa), .val (.int bb), .val (.long u), .second, .val (.long v), .second, .val (.ref a5), .unset, .unset] [(.int bb), (.int aa), (.ref a5)])) (fun t q => XS.iload X9.here hx rfl (hb hby at_67) rfl q) ?_
  obtain ⟨v12, T12, L12, X12, Q12, st12⟩ := own_callV X9 hx hZ (y := (⟨"com/example/minsum/minsum/solve/ScaledDistances$Longs", "compare", "(II)I"⟩ : MethodName)) (b := a5) (argsL := [(.int aa), (.int bb)]) (rest := []) hown (hw _ (List.mem_of_getElem? (i := 20) rfl)) (hw _ (List.mem_of_getElem? (i := 21) rfl)) (hw _ (List.mem_of_getElem? (i := 23) rfl)) (hw _ (List.mem_of_getElem? (i := 22) rfl)) (hw _ (List.mem_of_getElem? (i := 4) rfl)) (hw _ (List.mem_of_getElem? (i := 24) rfl)) (rm_cmp l Z a0 hw [] a5 a1 aa bb [(.long p1), (.long p2), (.long p3)] u v T9.heap F19 f10 na hu nb hv) (rfl : T9.heap = T9.heap) XA9 (by decide) (by decide) 0 (by decide) (by decide) (by decide) (g := (mkF m 69 #[.val (.long p1), .second, .val (.long p2), .second, .val (.long p3), .second, .val (.int p4), .val (.int p5), .val (.int p6), .val (.ref a1), .val (.int aa), .val (.int bb), .val (.long u), .second, .val (.long v), .second, .val (.ref a5), .unset, .unset] [(.int bb), (.int aa), (.ref a5)])) rfl (by rw [hml]; rfl) (lenOf (ps := [.int, .int]) (r := (some .int)) (by decide +kernel) rfl) rfl (by show 2 * 0 + _ ≤ _; exact Nat.le_of_eq rfl) (hb hby at_69)
  obtain ⟨Q12, e12, rfl⟩ := Q12
  rcases Q12 with ⟨hk1, rfl⟩ | ⟨hk1, rfl⟩ | ⟨hk1, rfl⟩
  · refine own_go (T' := T12) (g' := (mkF m 72 #[.val (.long p1), .second, .val (.long p2), .second, .val (.long p3), .second, .val (.int p4), .val (.int p5), .val (.int p6), .val (.ref a1), .val (.int aa), .val (.int bb), .val (.long u), .second, .val (.long v), .second, .val (.ref a5), .unset, .unset] [(.int (-1 : Int32))])) (fun t q => st12 t q) ?_
    refine own_go (T' := T12) (g' := (mkF m 74 #[.val (.long p1), .second, .val (.long p2), .second, .val (.long p3), .second, .val (.int p4), .val (.int p5), .val (.int p6), .val (.ref a1), .val (.int aa), .val (.int bb), .val (.long u), .second, .val (.long v), .second, .val (.ref a5), .val (.int (-1 : Int32)), .unset] [])) (fun t q => XS.istore X12.here hx rfl (hb hby at_72) rfl (l' := #[.val (.long p1), .second, .val (.long p2), .second, .val (.long p3), .second, .val (.int p4), .val (.int p5), .val (.int p6), .val (.ref a1), .val (.int aa), .val (.int bb), .val (.long u), .second, .val (.long v), .second, .val (.ref a5), .val (.int (-1 : Int32)), .unset]) rfl q) ?_
    refine own_go (T' := T12) (g' := (mkF m 76 #[.val (.long p1), .second, .val (.long p2), .second, .val (.long p3), .second, .val (.int p4), .val (.int p5), .val (.int p6), .val (.ref a1), .val (.int aa), .val (.int bb), .val (.long u), .second, .val (.long v), .second, .val (.ref a5), .val (.int (-1 : Int32)), .unset] [(.ref a5)])) (fun t q => XS.aload X12.here hx rfl (hb hby at_74) rfl rfl q) ?_
    refine own_go (T' := T12) (g' := (mkF m 78 #[.val (.long p1), .second, .val (.long p2), .second, .val (.long p3), .second, .val (.int p4), .val (.int p5), .val (.int p6), .val (.ref a1), .val (.int aa), .val (.int bb), .val (.long u), .second, .val (.long v), .second, .val (.ref a5), .val (.int (-1 : Int32)), .unset] [(.int bb), (.ref a5)])) (fun t q => XS.iload X12.here hx rfl (hb hby at_76) rfl q) ?_
    refine own_go (T' := T12) (g' := (mkF m 80 #[.val (.long p1), .second, .val (.long p2), .second, .val (.long p3), .second, .val (.int p4), .val (.int p5), .val (.int p6), .val (.ref a1), .val (.int aa), .val (.int bb), .val (.long u), .second, .val (.long v), .second, .val (.ref a5), .val (.int (-1 : Int32)), .unset] [(.int aa), (.int bb), (.ref a5)])) (fun t q => XS.iload X12.here hx rfl (hb hby at_78) rfl q) ?_
    obtain ⟨v13, T13, L13, X13, Q13, st13⟩ := own_callV X12 hx hZ (y := (⟨"com/example/minsum/minsum/solve/ScaledDistances$Longs", "compare", "(II)I"⟩ : MethodName)) (b := a5) (argsL := [(.int bb), (.int aa)]) (rest := []) hown (hw _ (List.mem_of_getElem? (i := 20) rfl)) (hw _ (List.mem_of_getElem? (i := 21) rfl)) (hw _ (List.mem_of_getElem? (i := 23) rfl)) (hw _ (List.mem_of_getElem? (i := 22) rfl)) (hw _ (List.mem_of_getElem? (i := 4) rfl)) (hw _ (List.mem_of_getElem? (i := 24) rfl)) (rm_cmp l Z a0 hw [] a5 a1 bb aa [(.long p1), (.long p2), (.long p3)] v u T9.heap F19 f10 nb hv na hu) e12 XA9 (by decide) (by decide) 0 (by decide) (by decide) (by decide) (g := (mkF m 80 #[.val (.long p1), .second, .val (.long p2), .second, .val (.long p3), .second, .val (.int p4), .val (.int p5), .val (.int p6), .val (.ref a1), .val (.int aa), .val (.int bb), .val (.long u), .second, .val (.long v), .second, .val (.ref a5), .val (.int (-1 : Int32)), .unset] [(.int aa), (.int bb), (.ref a5)])) rfl (by rw [hml]; rfl) (lenOf (ps := [.int, .int]) (r := (some .int)) (by decide +kernel) rfl) rfl (by show 2 * 0 + _ ≤ _; exact Nat.le_of_eq rfl) (hb hby at_80)
    obtain ⟨Q13, e13, rfl⟩ := Q13
    rcases Q13 with ⟨hk2, rfl⟩ | ⟨hk2, rfl⟩ | ⟨hk2, rfl⟩
    · exact (own_asym hk1 hk2).elim
    · exact (own_irr (hk2 ▸ hk1)).elim
    · refine own_go (T' := T13) (g' := (mkF m 83 #[.val (.long p1), .second, .val (.long p2), .second, .val (.long p3), .second, .val (.int p4), .val (.int p5), .val (.int p6), .val (.ref a1), .val (.int aa), .val (.int bb), .val (.long u), .second, .val (.long v), .second, .val (.ref a5), .val (.int (-1 : Int32)), .unset] [(.int (1 : Int32))])) (fun t q => st13 t q) ?_
      refine own_go (T' := T13) (g' := (mkF m 85 #[.val (.long p1), .second, .val (.long p2), .second, .val (.long p3), .second, .val (.int p4), .val (.int p5), .val (.int p6), .val (.ref a1), .val (.int aa), .val (.int bb), .val (.long u), .second, .val (.long v), .second, .val (.ref a5), .val (.int (-1 : Int32)), .val (.int (1 : Int32))] [])) (fun t q => XS.istore X13.here hx rfl (hb hby at_83) rfl (l' := #[.val (.long p1), .second, .val (.long p2), .second, .val (.long p3), .second, .val (.int p4), .val (.int p5), .val (.int p6), .val (.ref a1), .val (.int aa), .val (.int bb), .val (.long u), .second, .val (.long v), .second, .val (.ref a5), .val (.int (-1 : Int32)), .val (.int (1 : Int32))]) rfl q) ?_
      refine own_go (T' := T13) (g' := (mkF m 87 #[.val (.long p1), .second, .val (.long p2), .second, .val (.long p3), .second, .val (.int p4), .val (.int p5), .val (.int p6), .val (.ref a1), .val (.int aa), .val (.int bb), .val (.long u), .second, .val (.long v), .second, .val (.ref a5), .val (.int (-1 : Int32)), .val (.int (1 : Int32))] [(.int (-1 : Int32))])) (fun t q => XS.iload X13.here hx rfl (hb hby at_85) rfl q) ?_
      obtain ⟨v14, T14, L14, X14, Q14, st14⟩ := own_callS X13 hx hZ (y := (⟨"com/example/minsum/minsum/solve/LongsComparePinLaw", "sign", "(I)I"⟩ : MethodName)) (argsL := [(.int (-1 : Int32))]) (rest := []) hown (hw _ (List.mem_of_getElem? (i := 29) rfl)) (hw _ (List.mem_of_getElem? (i := 30) rfl)) (hw _ (List.mem_of_getElem? (i := 31) rfl)) (hw _ (List.mem_of_getElem? (i := 32) rfl)) (rm_sg_0 l Z a0 hw [] T9.heap) e13 (by decide) (by decide) 0 (by decide) (by decide) (by decide) (g := (mkF m 87 #[.val (.long p1), .second, .val (.long p2), .second, .val (.long p3), .second, .val (.int p4), .val (.int p5), .val (.int p6), .val (.ref a1), .val (.int aa), .val (.int bb), .val (.long u), .second, .val (.long v), .second, .val (.ref a5), .val (.int (-1 : Int32)), .val (.int (1 : Int32))] [(.int (-1 : Int32))])) rfl (by rw [hml]; rfl) (lenOf (ps := [.int]) (r := (some .int)) (by decide +kernel) rfl) rfl (by show 2 * 0 + _ ≤ _; exact Nat.le_of_eq rfl) (hb hby at_87)
      obtain ⟨rfl, e14, rfl⟩ := Q14
      refine own_go (T' := T14) (g' := (mkF m 90 #[.val (.long p1), .second, .val (.long p2), .second, .val (.long p3), .second, .val (.int p4), .val (.int p5), .val (.int p6), .val (.ref a1), .val (.int aa), .val (.int bb), .val (.long u), .second, .val (.long v), .second, .val (.ref a5), .val (.int (-1 : Int32)), .val (.int (1 : Int32))] [(.int (-1 : Int32))])) (fun t q => st14 t q) ?_
      refine own_go (T' := T14) (g' := (mkF m 92 #[.val (.long p1), .second, .val (.long p2), .second, .val (.long p3), .second, .val (.int p4), .val (.int p5), .val (.int p6), .val (.ref a1), .val (.int aa), .val (.int bb), .val (.long u), .second, .val (.long v), .second, .val (.ref a5), .val (.int (-1 : Int32)), .val (.int (1 : Int32))] [(.long u), (.int (-1 : Int32))])) (fun t q => XT.lload X14.here hx rfl (hb hby at_90) rfl q) ?_
      refine own_go (T' := T14) (g' := (mkF m 94 #[.val (.long p1), .second, .val (.long p2), .second, .val (.long p3), .second, .val (.int p4), .val (.int p5), .val (.int p6), .val (.ref a1), .val (.int aa), .val (.int bb), .val (.long u), .second, .val (.long v), .second, .val (.ref a5), .val (.int (-1 : Int32)), .val (.int (1 : Int32))] [(.long v), (.long u), (.int (-1 : Int32))])) (fun t q => XT.lload X14.here hx rfl (hb hby at_92) rfl q) ?_
      obtain ⟨v15, T15, L15, X15, Q15, st15⟩ := own_callS X14 hx hZ (y := (⟨"com/example/minsum/minsum/solve/LongsComparePinLaw", "expected", "(JJ)I"⟩ : MethodName)) (argsL := [(.long u), (.long v)]) (rest := [(.int (-1 : Int32))]) hown (hw _ (List.mem_of_getElem? (i := 33) rfl)) (hw _ (List.mem_of_getElem? (i := 34) rfl)) (hw _ (List.mem_of_getElem? (i := 31) rfl)) (hw _ (List.mem_of_getElem? (i := 35) rfl)) (rm_ex l Z a0 hw [] u v T9.heap) e14 (by decide) (by decide) 1 (by decide) (by decide) (by decide) (g := (mkF m 94 #[.val (.long p1), .second, .val (.long p2), .second, .val (.long p3), .second, .val (.int p4), .val (.int p5), .val (.int p6), .val (.ref a1), .val (.int aa), .val (.int bb), .val (.long u), .second, .val (.long v), .second, .val (.ref a5), .val (.int (-1 : Int32)), .val (.int (1 : Int32))] [(.long v), (.long u), (.int (-1 : Int32))])) rfl (by rw [hml]; rfl) (lenOf (ps := [.long, .long]) (r := (some .int)) (by decide +kernel) rfl) rfl (by show 2 * 0 + _ ≤ _; exact Nat.le_of_eq rfl) (hb hby at_94)
      obtain ⟨Q15, e15, rfl⟩ := Q15
      rcases Q15 with ⟨hk3, rfl⟩ | ⟨hk3, rfl⟩ | ⟨hk3, rfl⟩
      · refine own_go (T' := T15) (g' := (mkF m 97 #[.val (.long p1), .second, .val (.long p2), .second, .val (.long p3), .second, .val (.int p4), .val (.int p5), .val (.int p6), .val (.ref a1), .val (.int aa), .val (.int bb), .val (.long u), .second, .val (.long v), .second, .val (.ref a5), .val (.int (-1 : Int32)), .val (.int (1 : Int32))] [(.int (-1 : Int32)), (.int (-1 : Int32))])) (fun t q => st15 t q) ?_
        have c16 : (-1 : Int32) = (-1 : Int32) := by decide
        refine own_go (T' := T15) (g' := (mkF m 100 #[.val (.long p1), .second, .val (.long p2), .second, .val (.long p3), .second, .val (.int p4), .val (.int p5), .val (.int p6), .val (.ref a1), .val (.int aa), .val (.int bb), .val (.long u), .second, .val (.long v), .second, .val (.ref a5), .val (.int (-1 : Int32)), .val (.int (1 : Int32))] [])) (fun t q => XS.icmpNo X15.here hx rfl (hb hby at_97) rfl (teq c16).2 q) ?_
        refine own_go (T' := T15) (g' := (mkF m 102 #[.val (.long p1), .second, .val (.long p2), .second, .val (.long p3), .second, .val (.int p4), .val (.int p5), .val (.int p6), .val (.ref a1), .val (.int aa), .val (.int bb), .val (.long u), .second, .val (.long v), .second, .val (.ref a5), .val (.int (-1 : Int32)), .val (.int (1 : Int32))] [(.int (1 : Int32))])) (fun t q => XS.iload X15.here hx rfl (hb hby at_100) rfl q) ?_
        obtain ⟨v17, T17, L17, X17, Q17, st17⟩ := own_callS X15 hx hZ (y := (⟨"com/example/minsum/minsum/solve/LongsComparePinLaw", "sign", "(I)I"⟩ : MethodName)) (argsL := [(.int (1 : Int32))]) (rest := []) hown (hw _ (List.mem_of_getElem? (i := 29) rfl)) (hw _ (List.mem_of_getElem? (i := 30) rfl)) (hw _ (List.mem_of_getElem? (i := 31) rfl)) (hw _ (List.mem_of_getElem? (i := 32) rfl)) (rm_sg_2 l Z a0 hw [] T9.heap) e15 (by decide) (by decide) 0 (by decide) (by decide) (by decide) (g := (mkF m 102 #[.val (.long p1), .second, .val (.long p2), .second, .val (.long p3), .second, .val (.int p4), .val (.int p5), .val (.int p6), .val (.ref a1), .val (.int aa), .val (.int bb), .val (.long u), .second, .val (.long v), .second, .val (.ref a5), .val (.int (-1 : Int32)), .val (.int (1 : Int32))] [(.int (1 : Int32))])) rfl (by rw [hml]; rfl) (lenOf (ps := [.int]) (r := (some .int)) (by decide +kernel) rfl) rfl (by show 2 * 0 + _ ≤ _; exact Nat.le_of_eq rfl) (hb hby at_102)
        obtain ⟨rfl, e17, rfl⟩ := Q17
        refine own_go (T' := T17) (g' := (mkF m 105 #[.val (.long p1), .second, .val (.long p2), .second, .val (.long p3), .second, .val (.int p4), .val (.int p5), .val (.int p6), .val (.ref a1), .val (.int aa), .val (.int bb), .val (.long u), .second, .val (.long v), .second, .val (.ref a5), .val (.int (-1 : Int32)), .val (.int (1 : Int32))] [(.int (1 : Int32))])) (fun t q => st17 t q) ?_
        refine own_go (T' := T17) (g' := (mkF m 107 #[.val (.long p1), .second, .val (.long p2), .second, .val (.long p3), .second, .val (.int p4), .val (.int p5), .val (.int p6), .val (.ref a1), .val (.int aa), .val (.int bb), .val (.long u), .second, .val (.long v), .second, .val (.ref a5), .val (.int (-1 : Int32)), .val (.int (1 : Int32))] [(.long v), (.int (1 : Int32))])) (fun t q => XT.lload X17.here hx rfl (hb hby at_105) rfl q) ?_
        refine own_go (T' := T17) (g' := (mkF m 109 #[.val (.long p1), .second, .val (.long p2), .second, .val (.long p3), .second, .val (.int p4), .val (.int p5), .val (.int p6), .val (.ref a1), .val (.int aa), .val (.int bb), .val (.long u), .second, .val (.long v), .second, .val (.ref a5), .val (.int (-1 : Int32)), .val (.int (1 : Int32))] [(.long u), (.long v), (.int (1 : Int32))])) (fun t q => XT.lload X17.here hx rfl (hb hby at_107) rfl q) ?_
        obtain ⟨v18, T18, L18, X18, Q18, st18⟩ := own_callS X17 hx hZ (y := (⟨"com/example/minsum/minsum/solve/LongsComparePinLaw", "expected", "(JJ)I"⟩ : MethodName)) (argsL := [(.long v), (.long u)]) (rest := [(.int (1 : Int32))]) hown (hw _ (List.mem_of_getElem? (i := 33) rfl)) (hw _ (List.mem_of_getElem? (i := 34) rfl)) (hw _ (List.mem_of_getElem? (i := 31) rfl)) (hw _ (List.mem_of_getElem? (i := 35) rfl)) (rm_ex l Z a0 hw [] v u T9.heap) e17 (by decide) (by decide) 1 (by decide) (by decide) (by decide) (g := (mkF m 109 #[.val (.long p1), .second, .val (.long p2), .second, .val (.long p3), .second, .val (.int p4), .val (.int p5), .val (.int p6), .val (.ref a1), .val (.int aa), .val (.int bb), .val (.long u), .second, .val (.long v), .second, .val (.ref a5), .val (.int (-1 : Int32)), .val (.int (1 : Int32))] [(.long u), (.long v), (.int (1 : Int32))])) rfl (by rw [hml]; rfl) (lenOf (ps := [.long, .long]) (r := (some .int)) (by decide +kernel) rfl) rfl (by show 2 * 0 + _ ≤ _; exact Nat.le_of_eq rfl) (hb hby at_109)
        obtain ⟨Q18, e18, rfl⟩ := Q18
        rcases Q18 with ⟨hk3, rfl⟩ | ⟨hk3, rfl⟩ | ⟨hk3, rfl⟩
        · exact (own_asym hk1 hk3).elim
        · exact (own_irr (hk3 ▸ hk1)).elim
        · refine own_go (T' := T18) (g' := (mkF m 112 #[.val (.long p1), .second, .val (.long p2), .second, .val (.long p3), .second, .val (.int p4), .val (.int p5), .val (.int p6), .val (.ref a1), .val (.int aa), .val (.int bb), .val (.long u), .second, .val (.long v), .second, .val (.ref a5), .val (.int (-1 : Int32)), .val (.int (1 : Int32))] [(.int (1 : Int32)), (.int (1 : Int32))])) (fun t q => st18 t q) ?_
          have c19 : (1 : Int32) = (1 : Int32) := by decide
          refine own_go (T' := T18) (g' := (mkF m 115 #[.val (.long p1), .second, .val (.long p2), .second, .val (.long p3), .second, .val (.int p4), .val (.int p5), .val (.int p6), .val (.ref a1), .val (.int aa), .val (.int bb), .val (.long u), .second, .val (.long v), .second, .val (.ref a5), .val (.int (-1 : Int32)), .val (.int (1 : Int32))] [])) (fun t q => XS.icmpNo X18.here hx rfl (hb hby at_112) rfl (teq c19).2 q) ?_
          refine own_go (T' := T18) (g' := (mkF m 116 #[.val (.long p1), .second, .val (.long p2), .second, .val (.long p3), .second, .val (.int p4), .val (.int p5), .val (.int p6), .val (.ref a1), .val (.int aa), .val (.int bb), .val (.long u), .second, .val (.long v), .second, .val (.ref a5), .val (.int (-1 : Int32)), .val (.int (1 : Int32))] [(.int (1 : Int32))])) (fun t q => XS.iconst X18.here hx rfl (hb hby at_115) q) ?_
          refine own_go (T' := T18) (g' := (mkF m 120 #[.val (.long p1), .second, .val (.long p2), .second, .val (.long p3), .second, .val (.int p4), .val (.int p5), .val (.int p6), .val (.ref a1), .val (.int aa), .val (.int bb), .val (.long u), .second, .val (.long v), .second, .val (.ref a5), .val (.int (-1 : Int32)), .val (.int (1 : Int32))] [(.int (1 : Int32))])) (fun t q => XS.goto X18.here hx rfl (pc0 := 116) (pc' := 120) rfl (hb hby at_116) (by decide) (by decide) q) ?_
          refine own_outN X18 hx hlk hret (t := .boolean) (by simp) (hb hby at_120) (w := (1 : Int32)) (by decide) ?_ (by decide) (by decide)
          exact ⟨rfl, (Fr.app (Fr.app (Fr.app (Fr.app (Fr.app (Fr.app N9 (Fr.nil _)) (Fr.nil _)) (Fr.nil _)) (Fr.nil _)) (Fr.nil _)) (Fr.nil _))⟩
      · exact (own_irr (hk3 ▸ hk1)).elim
      · exact (own_asym hk1 hk3).elim
  · refine own_go (T' := T12) (g' := (mkF m 72 #[.val (.long p1), .second, .val (.long p2), .second, .val (.long p3), .second, .val (.int p4), .val (.int p5), .val (.int p6), .val (.ref a1), .val (.int aa), .val (.int bb), .val (.long u), .second, .val (.long v), .second, .val (.ref a5), .unset, .unset] [(.int (0 : Int32))])) (fun t q => st12 t q) ?_
    refine own_go (T' := T12) (g' := (mkF m 74 #[.val (.long p1), .second, .val (.long p2), .second, .val (.long p3), .second, .val (.int p4), .val (.int p5), .val (.int p6), .val (.ref a1), .val (.int aa), .val (.int bb), .val (.long u), .second, .val (.long v), .second, .val (.ref a5), .val (.int (0 : Int32)), .unset] [])) (fun t q => XS.istore X12.here hx rfl (hb hby at_72) rfl (l' := #[.val (.long p1), .second, .val (.long p2), .second, .val (.long p3), .second, .val (.int p4), .val (.int p5), .val (.int p6), .val (.ref a1), .val (.int aa), .val (.int bb), .val (.long u), .second, .val (.long v), .second, .val (.ref a5), .val (.int (0 : Int32)), .unset]) rfl q) ?_
    refine own_go (T' := T12) (g' := (mkF m 76 #[.val (.long p1), .second, .val (.long p2), .second, .val (.long p3), .second, .val (.int p4), .val (.int p5), .val (.int p6), .val (.ref a1), .val (.int aa), .val (.int bb), .val (.long u), .second, .val (.long v), .second, .val (.ref a5), .val (.int (0 : Int32)), .unset] [(.ref a5)])) (fun t q => XS.aload X12.here hx rfl (hb hby at_74) rfl rfl q) ?_
    refine own_go (T' := T12) (g' := (mkF m 78 #[.val (.long p1), .second, .val (.long p2), .second, .val (.long p3), .second, .val (.int p4), .val (.int p5), .val (.int p6), .val (.ref a1), .val (.int aa), .val (.int bb), .val (.long u), .second, .val (.long v), .second, .val (.ref a5), .val (.int (0 : Int32)), .unset] [(.int bb), (.ref a5)])) (fun t q => XS.iload X12.here hx rfl (hb hby at_76) rfl q) ?_
    refine own_go (T' := T12) (g' := (mkF m 80 #[.val (.long p1), .second, .val (.long p2), .second, .val (.long p3), .second, .val (.int p4), .val (.int p5), .val (.int p6), .val (.ref a1), .val (.int aa), .val (.int bb), .val (.long u), .second, .val (.long v), .second, .val (.ref a5), .val (.int (0 : Int32)), .unset] [(.int aa), (.int bb), (.ref a5)])) (fun t q => XS.iload X12.here hx rfl (hb hby at_78) rfl q) ?_
    obtain ⟨v20, T20, L20, X20, Q20, st20⟩ := own_callV X12 hx hZ (y := (⟨"com/example/minsum/minsum/solve/ScaledDistances$Longs", "compare", "(II)I"⟩ : MethodName)) (b := a5) (argsL := [(.int bb), (.int aa)]) (rest := []) hown (hw _ (List.mem_of_getElem? (i := 20) rfl)) (hw _ (List.mem_of_getElem? (i := 21) rfl)) (hw _ (List.mem_of_getElem? (i := 23) rfl)) (hw _ (List.mem_of_getElem? (i := 22) rfl)) (hw _ (List.mem_of_getElem? (i := 4) rfl)) (hw _ (List.mem_of_getElem? (i := 24) rfl)) (rm_cmp l Z a0 hw [] a5 a1 bb aa [(.long p1), (.long p2), (.long p3)] v u T9.heap F19 f10 nb hv na hu) e12 XA9 (by decide) (by decide) 0 (by decide) (by decide) (by decide) (g := (mkF m 80 #[.val (.long p1), .second, .val (.long p2), .second, .val (.long p3), .second, .val (.int p4), .val (.int p5), .val (.int p6), .val (.ref a1), .val (.int aa), .val (.int bb), .val (.long u), .second, .val (.long v), .second, .val (.ref a5), .val (.int (0 : Int32)), .unset] [(.int aa), (.int bb), (.ref a5)])) rfl (by rw [hml]; rfl) (lenOf (ps := [.int, .int]) (r := (some .int)) (by decide +kernel) rfl) rfl (by show 2 * 0 + _ ≤ _; exact Nat.le_of_eq rfl) (hb hby at_80)
    obtain ⟨Q20, e20, rfl⟩ := Q20
    rcases Q20 with ⟨hk2, rfl⟩ | ⟨hk2, rfl⟩ | ⟨hk2, rfl⟩
    · exact (own_irr (hk1 ▸ hk2 : _)).elim
    · refine own_go (T' := T20) (g' := (mkF m 83 #[.val (.long p1), .second, .val (.long p2), .second, .val (.long p3), .second, .val (.int p4), .val (.int p5), .val (.int p6), .val (.ref a1), .val (.int aa), .val (.int bb), .val (.long u), .second, .val (.long v), .second, .val (.ref a5), .val (.int (0 : Int32)), .unset] [(.int (0 : Int32))])) (fun t q => st20 t q) ?_
      refine own_go (T' := T20) (g' := (mkF m 85 #[.val (.long p1), .second, .val (.long p2), .second, .val (.long p3), .second, .val (.int p4), .val (.int p5), .val (.int p6), .val (.ref a1), .val (.int aa), .val (.int bb), .val (.long u), .second, .val (.long v), .second, .val (.ref a5), .val (.int (0 : Int32)), .val (.int (0 : Int32))] [])) (fun t q => XS.istore X20.here hx rfl (hb hby at_83) rfl (l' := #[.val (.long p1), .second, .val (.long p2), .second, .val (.long p3), .second, .val (.int p4), .val (.int p5), .val (.int p6), .val (.ref a1), .val (.int aa), .val (.int bb), .val (.long u), .second, .val (.long v), .second, .val (.ref a5), .val (.int (0 : Int32)), .val (.int (0 : Int32))]) rfl q) ?_
      refine own_go (T' := T20) (g' := (mkF m 87 #[.val (.long p1), .second, .val (.long p2), .second, .val (.long p3), .second, .val (.int p4), .val (.int p5), .val (.int p6), .val (.ref a1), .val (.int aa), .val (.int bb), .val (.long u), .second, .val (.long v), .second, .val (.ref a5), .val (.int (0 : Int32)), .val (.int (0 : Int32))] [(.int (0 : Int32))])) (fun t q => XS.iload X20.here hx rfl (hb hby at_85) rfl q) ?_
      obtain ⟨v21, T21, L21, X21, Q21, st21⟩ := own_callS X20 hx hZ (y := (⟨"com/example/minsum/minsum/solve/LongsComparePinLaw", "sign", "(I)I"⟩ : MethodName)) (argsL := [(.int (0 : Int32))]) (rest := []) hown (hw _ (List.mem_of_getElem? (i := 29) rfl)) (hw _ (List.mem_of_getElem? (i := 30) rfl)) (hw _ (List.mem_of_getElem? (i := 31) rfl)) (hw _ (List.mem_of_getElem? (i := 32) rfl)) (rm_sg_1 l Z a0 hw [] T9.heap) e20 (by decide) (by decide) 0 (by decide) (by decide) (by decide) (g := (mkF m 87 #[.val (.long p1), .second, .val (.long p2), .second, .val (.long p3), .second, .val (.int p4), .val (.int p5), .val (.int p6), .val (.ref a1), .val (.int aa), .val (.int bb), .val (.long u), .second, .val (.long v), .second, .val (.ref a5), .val (.int (0 : Int32)), .val (.int (0 : Int32))] [(.int (0 : Int32))])) rfl (by rw [hml]; rfl) (lenOf (ps := [.int]) (r := (some .int)) (by decide +kernel) rfl) rfl (by show 2 * 0 + _ ≤ _; exact Nat.le_of_eq rfl) (hb hby at_87)
      obtain ⟨rfl, e21, rfl⟩ := Q21
      refine own_go (T' := T21) (g' := (mkF m 90 #[.val (.long p1), .second, .val (.long p2), .second, .val (.long p3), .second, .val (.int p4), .val (.int p5), .val (.int p6), .val (.ref a1), .val (.int aa), .val (.int bb), .val (.long u), .second, .val (.long v), .second, .val (.ref a5), .val (.int (0 : Int32)), .val (.int (0 : Int32))] [(.int (0 : Int32))])) (fun t q => st21 t q) ?_
      refine own_go (T' := T21) (g' := (mkF m 92 #[.val (.long p1), .second, .val (.long p2), .second, .val (.long p3), .second, .val (.int p4), .val (.int p5), .val (.int p6), .val (.ref a1), .val (.int aa), .val (.int bb), .val (.long u), .second, .val (.long v), .second, .val (.ref a5), .val (.int (0 : Int32)), .val (.int (0 : Int32))] [(.long u), (.int (0 : Int32))])) (fun t q => XT.lload X21.here hx rfl (hb hby at_90) rfl q) ?_
      refine own_go (T' := T21) (g' := (mkF m 94 #[.val (.long p1), .second, .val (.long p2), .second, .val (.long p3), .second, .val (.int p4), .val (.int p5), .val (.int p6), .val (.ref a1), .val (.int aa), .val (.int bb), .val (.long u), .second, .val (.long v), .second, .val (.ref a5), .val (.int (0 : Int32)), .val (.int (0 : Int32))] [(.long v), (.long u), (.int (0 : Int32))])) (fun t q => XT.lload X21.here hx rfl (hb hby at_92) rfl q) ?_
      obtain ⟨v22, T22, L22, X22, Q22, st22⟩ := own_callS X21 hx hZ (y := (⟨"com/example/minsum/minsum/solve/LongsComparePinLaw", "expected", "(JJ)I"⟩ : MethodName)) (argsL := [(.long u), (.long v)]) (rest := [(.int (0 : Int32))]) hown (hw _ (List.mem_of_getElem? (i := 33) rfl)) (hw _ (List.mem_of_getElem? (i := 34) rfl)) (hw _ (List.mem_of_getElem? (i := 31) rfl)) (hw _ (List.mem_of_getElem? (i := 35) rfl)) (rm_ex l Z a0 hw [] u v T9.heap) e21 (by decide) (by decide) 1 (by decide) (by decide) (by decide) (g := (mkF m 94 #[.val (.long p1), .second, .val (.long p2), .second, .val (.long p3), .second, .val (.int p4), .val (.int p5), .val (.int p6), .val (.ref a1), .val (.int aa), .val (.int bb), .val (.long u), .second, .val (.long v), .second, .val (.ref a5), .val (.int (0 : Int32)), .val (.int (0 : Int32))] [(.long v), (.long u), (.int (0 : Int32))])) rfl (by rw [hml]; rfl) (lenOf (ps := [.long, .long]) (r := (some .int)) (by decide +kernel) rfl) rfl (by show 2 * 0 + _ ≤ _; exact Nat.le_of_eq rfl) (hb hby at_94)
      obtain ⟨Q22, e22, rfl⟩ := Q22
      rcases Q22 with ⟨hk3, rfl⟩ | ⟨hk3, rfl⟩ | ⟨hk3, rfl⟩
      · exact (own_irr (hk1 ▸ hk3 : _)).elim
      · refine own_go (T' := T22) (g' := (mkF m 97 #[.val (.long p1), .second, .val (.long p2), .second, .val (.long p3), .second, .val (.int p4), .val (.int p5), .val (.int p6), .val (.ref a1), .val (.int aa), .val (.int bb), .val (.long u), .second, .val (.long v), .second, .val (.ref a5), .val (.int (0 : Int32)), .val (.int (0 : Int32))] [(.int (0 : Int32)), (.int (0 : Int32))])) (fun t q => st22 t q) ?_
        have c23 : (0 : Int32) = (0 : Int32) := by decide
        refine own_go (T' := T22) (g' := (mkF m 100 #[.val (.long p1), .second, .val (.long p2), .second, .val (.long p3), .second, .val (.int p4), .val (.int p5), .val (.int p6), .val (.ref a1), .val (.int aa), .val (.int bb), .val (.long u), .second, .val (.long v), .second, .val (.ref a5), .val (.int (0 : Int32)), .val (.int (0 : Int32))] [])) (fun t q => XS.icmpNo X22.here hx rfl (hb hby at_97) rfl (teq c23).2 q) ?_
        refine own_go (T' := T22) (g' := (mkF m 102 #[.val (.long p1), .second, .val (.long p2), .second, .val (.long p3), .second, .val (.int p4), .val (.int p5), .val (.int p6), .val (.ref a1), .val (.int aa), .val (.int bb), .val (.long u), .second, .val (.long v), .second, .val (.ref a5), .val (.int (0 : Int32)), .val (.int (0 : Int32))] [(.int (0 : Int32))])) (fun t q => XS.iload X22.here hx rfl (hb hby at_100) rfl q) ?_
        obtain ⟨v24, T24, L24, X24, Q24, st24⟩ := own_callS X22 hx hZ (y := (⟨"com/example/minsum/minsum/solve/LongsComparePinLaw", "sign", "(I)I"⟩ : MethodName)) (argsL := [(.int (0 : Int32))]) (rest := []) hown (hw _ (List.mem_of_getElem? (i := 29) rfl)) (hw _ (List.mem_of_getElem? (i := 30) rfl)) (hw _ (List.mem_of_getElem? (i := 31) rfl)) (hw _ (List.mem_of_getElem? (i := 32) rfl)) (rm_sg_1 l Z a0 hw [] T9.heap) e22 (by decide) (by decide) 0 (by decide) (by decide) (by decide) (g := (mkF m 102 #[.val (.long p1), .second, .val (.long p2), .second, .val (.long p3), .second, .val (.int p4), .val (.int p5), .val (.int p6), .val (.ref a1), .val (.int aa), .val (.int bb), .val (.long u), .second, .val (.long v), .second, .val (.ref a5), .val (.int (0 : Int32)), .val (.int (0 : Int32))] [(.int (0 : Int32))])) rfl (by rw [hml]; rfl) (lenOf (ps := [.int]) (r := (some .int)) (by decide +kernel) rfl) rfl (by show 2 * 0 + _ ≤ _; exact Nat.le_of_eq rfl) (hb hby at_102)
        obtain ⟨rfl, e24, rfl⟩ := Q24
        refine own_go (T' := T24) (g' := (mkF m 105 #[.val (.long p1), .second, .val (.long p2), .second, .val (.long p3), .second, .val (.int p4), .val (.int p5), .val (.int p6), .val (.ref a1), .val (.int aa), .val (.int bb), .val (.long u), .second, .val (.long v), .second, .val (.ref a5), .val (.int (0 : Int32)), .val (.int (0 : Int32))] [(.int (0 : Int32))])) (fun t q => st24 t q) ?_
        refine own_go (T' := T24) (g' := (mkF m 107 #[.val (.long p1), .second, .val (.long p2), .second, .val (.long p3), .second, .val (.int p4), .val (.int p5), .val (.int p6), .val (.ref a1), .val (.int aa), .val (.int bb), .val (.long u), .second, .val (.long v), .second, .val (.ref a5), .val (.int (0 : Int32)), .val (.int (0 : Int32))] [(.long v), (.int (0 : Int32))])) (fun t q => XT.lload X24.here hx rfl (hb hby at_105) rfl q) ?_
        refine own_go (T' := T24) (g' := (mkF m 109 #[.val (.long p1), .second, .val (.long p2), .second, .val (.long p3), .second, .val (.int p4), .val (.int p5), .val (.int p6), .val (.ref a1), .val (.int aa), .val (.int bb), .val (.long u), .second, .val (.long v), .second, .val (.ref a5), .val (.int (0 : Int32)), .val (.int (0 : Int32))] [(.long u), (.long v), (.int (0 : Int32))])) (fun t q => XT.lload X24.here hx rfl (hb hby at_107) rfl q) ?_
        obtain ⟨v25, T25, L25, X25, Q25, st25⟩ := own_callS X24 hx hZ (y := (⟨"com/example/minsum/minsum/solve/LongsComparePinLaw", "expected", "(JJ)I"⟩ : MethodName)) (argsL := [(.long v), (.long u)]) (rest := [(.int (0 : Int32))]) hown (hw _ (List.mem_of_getElem? (i := 33) rfl)) (hw _ (List.mem_of_getElem? (i := 34) rfl)) (hw _ (List.mem_of_getElem? (i := 31) rfl)) (hw _ (List.mem_of_getElem? (i := 35) rfl)) (rm_ex l Z a0 hw [] v u T9.heap) e24 (by decide) (by decide) 1 (by decide) (by decide) (by decide) (g := (mkF m 109 #[.val (.long p1), .second, .val (.long p2), .second, .val (.long p3), .second, .val (.int p4), .val (.int p5), .val (.int p6), .val (.ref a1), .val (.int aa), .val (.int bb), .val (.long u), .second, .val (.long v), .second, .val (.ref a5), .val (.int (0 : Int32)), .val (.int (0 : Int32))] [(.long u), (.long v), (.int (0 : Int32))])) rfl (by rw [hml]; rfl) (lenOf (ps := [.long, .long]) (r := (some .int)) (by decide +kernel) rfl) rfl (by show 2 * 0 + _ ≤ _; exact Nat.le_of_eq rfl) (hb hby at_109)
        obtain ⟨Q25, e25, rfl⟩ := Q25
        rcases Q25 with ⟨hk3, rfl⟩ | ⟨hk3, rfl⟩ | ⟨hk3, rfl⟩
        · exact (own_irr (hk1 ▸ hk3 : _)).elim
        · refine own_go (T' := T25) (g' := (mkF m 112 #[.val (.long p1), .second, .val (.long p2), .second, .val (.long p3), .second, .val (.int p4), .val (.int p5), .val (.int p6), .val (.ref a1), .val (.int aa), .val (.int bb), .val (.long u), .second, .val (.long v), .second, .val (.ref a5), .val (.int (0 : Int32)), .val (.int (0 : Int32))] [(.int (0 : Int32)), (.int (0 : Int32))])) (fun t q => st25 t q) ?_
          have c26 : (0 : Int32) = (0 : Int32) := by decide
          refine own_go (T' := T25) (g' := (mkF m 115 #[.val (.long p1), .second, .val (.long p2), .second, .val (.long p3), .second, .val (.int p4), .val (.int p5), .val (.int p6), .val (.ref a1), .val (.int aa), .val (.int bb), .val (.long u), .second, .val (.long v), .second, .val (.ref a5), .val (.int (0 : Int32)), .val (.int (0 : Int32))] [])) (fun t q => XS.icmpNo X25.here hx rfl (hb hby at_112) rfl (teq c26).2 q) ?_
          refine own_go (T' := T25) (g' := (mkF m 116 #[.val (.long p1), .second, .val (.long p2), .second, .val (.long p3), .second, .val (.int p4), .val (.int p5), .val (.int p6), .val (.ref a1), .val (.int aa), .val (.int bb), .val (.long u), .second, .val (.long v), .second, .val (.ref a5), .val (.int (0 : Int32)), .val (.int (0 : Int32))] [(.int (1 : Int32))])) (fun t q => XS.iconst X25.here hx rfl (hb hby at_115) q) ?_
          refine own_go (T' := T25) (g' := (mkF m 120 #[.val (.long p1), .second, .val (.long p2), .second, .val (.long p3), .second, .val (.int p4), .val (.int p5), .val (.int p6), .val (.ref a1), .val (.int aa), .val (.int bb), .val (.long u), .second, .val (.long v), .second, .val (.ref a5), .val (.int (0 : Int32)), .val (.int (0 : Int32))] [(.int (1 : Int32))])) (fun t q => XS.goto X25.here hx rfl (pc0 := 116) (pc' := 120) rfl (hb hby at_116) (by decide) (by decide) q) ?_
          refine own_outN X25 hx hlk hret (t := .boolean) (by simp) (hb hby at_120) (w := (1 : Int32)) (by decide) ?_ (by decide) (by decide)
          exact ⟨rfl, (Fr.app (Fr.app (Fr.app (Fr.app (Fr.app (Fr.app N9 (Fr.nil _)) (Fr.nil _)) (Fr.nil _)) (Fr.nil _)) (Fr.nil _)) (Fr.nil _))⟩
        · exact (own_irr (hk1 ▸ hk3 : _)).elim
      · exact (own_irr (hk1 ▸ hk3 : _)).elim
    · exact (own_irr (hk1 ▸ hk2 : _)).elim
  · refine own_go (T' := T12) (g' := (mkF m 72 #[.val (.long p1), .second, .val (.long p2), .second, .val (.long p3), .second, .val (.int p4), .val (.int p5), .val (.int p6), .val (.ref a1), .val (.int aa), .val (.int bb), .val (.long u), .second, .val (.long v), .second, .val (.ref a5), .unset, .unset] [(.int (1 : Int32))])) (fun t q => st12 t q) ?_
    refine own_go (T' := T12) (g' := (mkF m 74 #[.val (.long p1), .second, .val (.long p2), .second, .val (.long p3), .second, .val (.int p4), .val (.int p5), .val (.int p6), .val (.ref a1), .val (.int aa), .val (.int bb), .val (.long u), .second, .val (.long v), .second, .val (.ref a5), .val (.int (1 : Int32)), .unset] [])) (fun t q => XS.istore X12.here hx rfl (hb hby at_72) rfl (l' := #[.val (.long p1), .second, .val (.long p2), .second, .val (.long p3), .second, .val (.int p4), .val (.int p5), .val (.int p6), .val (.ref a1), .val (.int aa), .val (.int bb), .val (.long u), .second, .val (.long v), .second, .val (.ref a5), .val (.int (1 : Int32)), .unset]) rfl q) ?_
    refine own_go (T' := T12) (g' := (mkF m 76 #[.val (.long p1), .second, .val (.long p2), .second, .val (.long p3), .second, .val (.int p4), .val (.int p5), .val (.int p6), .val (.ref a1), .val (.int aa), .val (.int bb), .val (.long u), .second, .val (.long v), .second, .val (.ref a5), .val (.int (1 : Int32)), .unset] [(.ref a5)])) (fun t q => XS.aload X12.here hx rfl (hb hby at_74) rfl rfl q) ?_
    refine own_go (T' := T12) (g' := (mkF m 78 #[.val (.long p1), .second, .val (.long p2), .second, .val (.long p3), .second, .val (.int p4), .val (.int p5), .val (.int p6), .val (.ref a1), .val (.int aa), .val (.int bb), .val (.long u), .second, .val (.long v), .second, .val (.ref a5), .val (.int (1 : Int32)), .unset] [(.int bb), (.ref a5)])) (fun t q => XS.iload X12.here hx rfl (hb hby at_76) rfl q) ?_
    refine own_go (T' := T12) (g' := (mkF m 80 #[.val (.long p1), .second, .val (.long p2), .second, .val (.long p3), .second, .val (.int p4), .val (.int p5), .val (.int p6), .val (.ref a1), .val (.int aa), .val (.int bb), .val (.long u), .second, .val (.long v), .second, .val (.ref a5), .val (.int (1 : Int32)), .unset] [(.int aa), (.int bb), (.ref a5)])) (fun t q => XS.iload X12.here hx rfl (hb hby at_78) rfl q) ?_
    obtain ⟨v27, T27, L27, X27, Q27, st27⟩ := own_callV X12 hx hZ (y := (⟨"com/example/minsum/minsum/solve/ScaledDistances$Longs", "compare", "(II)I"⟩ : MethodName)) (b := a5) (argsL := [(.int bb), (.int aa)]) (rest := []) hown (hw _ (List.mem_of_getElem? (i := 20) rfl)) (hw _ (List.mem_of_getElem? (i := 21) rfl)) (hw _ (List.mem_of_getElem? (i := 23) rfl)) (hw _ (List.mem_of_getElem? (i := 22) rfl)) (hw _ (List.mem_of_getElem? (i := 4) rfl)) (hw _ (List.mem_of_getElem? (i := 24) rfl)) (rm_cmp l Z a0 hw [] a5 a1 bb aa [(.long p1), (.long p2), (.long p3)] v u T9.heap F19 f10 nb hv na hu) e12 XA9 (by decide) (by decide) 0 (by decide) (by decide) (by decide) (g := (mkF m 80 #[.val (.long p1), .second, .val (.long p2), .second, .val (.long p3), .second, .val (.int p4), .val (.int p5), .val (.int p6), .val (.ref a1), .val (.int aa), .val (.int bb), .val (.long u), .second, .val (.long v), .second, .val (.ref a5), .val (.int (1 : Int32)), .unset] [(.int aa), (.int bb), (.ref a5)])) rfl (by rw [hml]; rfl) (lenOf (ps := [.int, .int]) (r := (some .int)) (by decide +kernel) rfl) rfl (by show 2 * 0 + _ ≤ _; exact Nat.le_of_eq rfl) (hb hby at_80)
    obtain ⟨Q27, e27, rfl⟩ := Q27
    rcases Q27 with ⟨hk2, rfl⟩ | ⟨hk2, rfl⟩ | ⟨hk2, rfl⟩
    · refine own_go (T' := T27) (g' := (mkF m 83 #[.val (.long p1), .second, .val (.long p2), .second, .val (.long p3), .second, .val (.int p4), .val (.int p5), .val (.int p6), .val (.ref a1), .val (.int aa), .val (.int bb), .val (.long u), .second, .val (.long v), .second, .val (.ref a5), .val (.int (1 : Int32)), .unset] [(.int (-1 : Int32))])) (fun t q => st27 t q) ?_
      refine own_go (T' := T27) (g' := (mkF m 85 #[.val (.long p1), .second, .val (.long p2), .second, .val (.long p3), .second, .val (.int p4), .val (.int p5), .val (.int p6), .val (.ref a1), .val (.int aa), .val (.int bb), .val (.long u), .second, .val (.long v), .second, .val (.ref a5), .val (.int (1 : Int32)), .val (.int (-1 : Int32))] [])) (fun t q => XS.istore X27.here hx rfl (hb hby at_83) rfl (l' := #[.val (.long p1), .second, .val (.long p2), .second, .val (.long p3), .second, .val (.int p4), .val (.int p5), .val (.int p6), .val (.ref a1), .val (.int aa), .val (.int bb), .val (.long u), .second, .val (.long v), .second, .val (.ref a5), .val (.int (1 : Int32)), .val (.int (-1 : Int32))]) rfl q) ?_
      refine own_go (T' := T27) (g' := (mkF m 87 #[.val (.long p1), .second, .val (.long p2), .second, .val (.long p3), .second, .val (.int p4), .val (.int p5), .val (.int p6), .val (.ref a1), .val (.int aa), .val (.int bb), .val (.long u), .second, .val (.long v), .second, .val (.ref a5), .val (.int (1 : Int32)), .val (.int (-1 : Int32))] [(.int (1 : Int32))])) (fun t q => XS.iload X27.here hx rfl (hb hby at_85) rfl q) ?_
      obtain ⟨v28, T28, L28, X28, Q28, st28⟩ := own_callS X27 hx hZ (y := (⟨"com/example/minsum/minsum/solve/LongsComparePinLaw", "sign", "(I)I"⟩ : MethodName)) (argsL := [(.int (1 : Int32))]) (rest := []) hown (hw _ (List.mem_of_getElem? (i := 29) rfl)) (hw _ (List.mem_of_getElem? (i := 30) rfl)) (hw _ (List.mem_of_getElem? (i := 31) rfl)) (hw _ (List.mem_of_getElem? (i := 32) rfl)) (rm_sg_2 l Z a0 hw [] T9.heap) e27 (by decide) (by decide) 0 (by decide) (by decide) (by decide) (g := (mkF m 87 #[.val (.long p1), .second, .val (.long p2), .second, .val (.long p3), .second, .val (.int p4), .val (.int p5), .val (.int p6), .val (.ref a1), .val (.int aa), .val (.int bb), .val (.long u), .second, .val (.long v), .second, .val (.ref a5), .val (.int (1 : Int32)), .val (.int (-1 : Int32))] [(.int (1 : Int32))])) rfl (by rw [hml]; rfl) (lenOf (ps := [.int]) (r := (some .int)) (by decide +kernel) rfl) rfl (by show 2 * 0 + _ ≤ _; exact Nat.le_of_eq rfl) (hb hby at_87)
      obtain ⟨rfl, e28, rfl⟩ := Q28
      refine own_go (T' := T28) (g' := (mkF m 90 #[.val (.long p1), .second, .val (.long p2), .second, .val (.long p3), .second, .val (.int p4), .val (.int p5), .val (.int p6), .val (.ref a1), .val (.int aa), .val (.int bb), .val (.long u), .second, .val (.long v), .second, .val (.ref a5), .val (.int (1 : Int32)), .val (.int (-1 : Int32))] [(.int (1 : Int32))])) (fun t q => st28 t q) ?_
      refine own_go (T' := T28) (g' := (mkF m 92 #[.val (.long p1), .second, .val (.long p2), .second, .val (.long p3), .second, .val (.int p4), .val (.int p5), .val (.int p6), .val (.ref a1), .val (.int aa), .val (.int bb), .val (.long u), .second, .val (.long v), .second, .val (.ref a5), .val (.int (1 : Int32)), .val (.int (-1 : Int32))] [(.long u), (.int (1 : Int32))])) (fun t q => XT.lload X28.here hx rfl (hb hby at_90) rfl q) ?_
      refine own_go (T' := T28) (g' := (mkF m 94 #[.val (.long p1), .second, .val (.long p2), .second, .val (.long p3), .second, .val (.int p4), .val (.int p5), .val (.int p6), .val (.ref a1), .val (.int aa), .val (.int bb), .val (.long u), .second, .val (.long v), .second, .val (.ref a5), .val (.int (1 : Int32)), .val (.int (-1 : Int32))] [(.long v), (.long u), (.int (1 : Int32))])) (fun t q => XT.lload X28.here hx rfl (hb hby at_92) rfl q) ?_
      obtain ⟨v29, T29, L29, X29, Q29, st29⟩ := own_callS X28 hx hZ (y := (⟨"com/example/minsum/minsum/solve/LongsComparePinLaw", "expected", "(JJ)I"⟩ : MethodName)) (argsL := [(.long u), (.long v)]) (rest := [(.int (1 : Int32))]) hown (hw _ (List.mem_of_getElem? (i := 33) rfl)) (hw _ (List.mem_of_getElem? (i := 34) rfl)) (hw _ (List.mem_of_getElem? (i := 31) rfl)) (hw _ (List.mem_of_getElem? (i := 35) rfl)) (rm_ex l Z a0 hw [] u v T9.heap) e28 (by decide) (by decide) 1 (by decide) (by decide) (by decide) (g := (mkF m 94 #[.val (.long p1), .second, .val (.long p2), .second, .val (.long p3), .second, .val (.int p4), .val (.int p5), .val (.int p6), .val (.ref a1), .val (.int aa), .val (.int bb), .val (.long u), .second, .val (.long v), .second, .val (.ref a5), .val (.int (1 : Int32)), .val (.int (-1 : Int32))] [(.long v), (.long u), (.int (1 : Int32))])) rfl (by rw [hml]; rfl) (lenOf (ps := [.long, .long]) (r := (some .int)) (by decide +kernel) rfl) rfl (by show 2 * 0 + _ ≤ _; exact Nat.le_of_eq rfl) (hb hby at_94)
      obtain ⟨Q29, e29, rfl⟩ := Q29
      rcases Q29 with ⟨hk3, rfl⟩ | ⟨hk3, rfl⟩ | ⟨hk3, rfl⟩
      · exact (own_asym hk1 hk3).elim
      · exact (own_irr (hk3 ▸ hk1)).elim
      · refine own_go (T' := T29) (g' := (mkF m 97 #[.val (.long p1), .second, .val (.long p2), .second, .val (.long p3), .second, .val (.int p4), .val (.int p5), .val (.int p6), .val (.ref a1), .val (.int aa), .val (.int bb), .val (.long u), .second, .val (.long v), .second, .val (.ref a5), .val (.int (1 : Int32)), .val (.int (-1 : Int32))] [(.int (1 : Int32)), (.int (1 : Int32))])) (fun t q => st29 t q) ?_
        have c30 : (1 : Int32) = (1 : Int32) := by decide
        refine own_go (T' := T29) (g' := (mkF m 100 #[.val (.long p1), .second, .val (.long p2), .second, .val (.long p3), .second, .val (.int p4), .val (.int p5), .val (.int p6), .val (.ref a1), .val (.int aa), .val (.int bb), .val (.long u), .second, .val (.long v), .second, .val (.ref a5), .val (.int (1 : Int32)), .val (.int (-1 : Int32))] [])) (fun t q => XS.icmpNo X29.here hx rfl (hb hby at_97) rfl (teq c30).2 q) ?_
        refine own_go (T' := T29) (g' := (mkF m 102 #[.val (.long p1), .second, .val (.long p2), .second, .val (.long p3), .second, .val (.int p4), .val (.int p5), .val (.int p6), .val (.ref a1), .val (.int aa), .val (.int bb), .val (.long u), .second, .val (.long v), .second, .val (.ref a5), .val (.int (1 : Int32)), .val (.int (-1 : Int32))] [(.int (-1 : Int32))])) (fun t q => XS.iload X29.here hx rfl (hb hby at_100) rfl q) ?_
        obtain ⟨v31, T31, L31, X31, Q31, st31⟩ := own_callS X29 hx hZ (y := (⟨"com/example/minsum/minsum/solve/LongsComparePinLaw", "sign", "(I)I"⟩ : MethodName)) (argsL := [(.int (-1 : Int32))]) (rest := []) hown (hw _ (List.mem_of_getElem? (i := 29) rfl)) (hw _ (List.mem_of_getElem? (i := 30) rfl)) (hw _ (List.mem_of_getElem? (i := 31) rfl)) (hw _ (List.mem_of_getElem? (i := 32) rfl)) (rm_sg_0 l Z a0 hw [] T9.heap) e29 (by decide) (by decide) 0 (by decide) (by decide) (by decide) (g := (mkF m 102 #[.val (.long p1), .second, .val (.long p2), .second, .val (.long p3), .second, .val (.int p4), .val (.int p5), .val (.int p6), .val (.ref a1), .val (.int aa), .val (.int bb), .val (.long u), .second, .val (.long v), .second, .val (.ref a5), .val (.int (1 : Int32)), .val (.int (-1 : Int32))] [(.int (-1 : Int32))])) rfl (by rw [hml]; rfl) (lenOf (ps := [.int]) (r := (some .int)) (by decide +kernel) rfl) rfl (by show 2 * 0 + _ ≤ _; exact Nat.le_of_eq rfl) (hb hby at_102)
        obtain ⟨rfl, e31, rfl⟩ := Q31
        refine own_go (T' := T31) (g' := (mkF m 105 #[.val (.long p1), .second, .val (.long p2), .second, .val (.long p3), .second, .val (.int p4), .val (.int p5), .val (.int p6), .val (.ref a1), .val (.int aa), .val (.int bb), .val (.long u), .second, .val (.long v), .second, .val (.ref a5), .val (.int (1 : Int32)), .val (.int (-1 : Int32))] [(.int (-1 : Int32))])) (fun t q => st31 t q) ?_
        refine own_go (T' := T31) (g' := (mkF m 107 #[.val (.long p1), .second, .val (.long p2), .second, .val (.long p3), .second, .val (.int p4), .val (.int p5), .val (.int p6), .val (.ref a1), .val (.int aa), .val (.int bb), .val (.long u), .second, .val (.long v), .second, .val (.ref a5), .val (.int (1 : Int32)), .val (.int (-1 : Int32))] [(.long v), (.int (-1 : Int32))])) (fun t q => XT.lload X31.here hx rfl (hb hby at_105) rfl q) ?_
        refine own_go (T' := T31) (g' := (mkF m 109 #[.val (.long p1), .second, .val (.long p2), .second, .val (.long p3), .second, .val (.int p4), .val (.int p5), .val (.int p6), .val (.ref a1), .val (.int aa), .val (.int bb), .val (.long u), .second, .val (.long v), .second, .val (.ref a5), .val (.int (1 : Int32)), .val (.int (-1 : Int32))] [(.long u), (.long v), (.int (-1 : Int32))])) (fun t q => XT.lload X31.here hx rfl (hb hby at_107) rfl q) ?_
        obtain ⟨v32, T32, L32, X32, Q32, st32⟩ := own_callS X31 hx hZ (y := (⟨"com/example/minsum/minsum/solve/LongsComparePinLaw", "expected", "(JJ)I"⟩ : MethodName)) (argsL := [(.long v), (.long u)]) (rest := [(.int (-1 : Int32))]) hown (hw _ (List.mem_of_getElem? (i := 33) rfl)) (hw _ (List.mem_of_getElem? (i := 34) rfl)) (hw _ (List.mem_of_getElem? (i := 31) rfl)) (hw _ (List.mem_of_getElem? (i := 35) rfl)) (rm_ex l Z a0 hw [] v u T9.heap) e31 (by decide) (by decide) 1 (by decide) (by decide) (by decide) (g := (mkF m 109 #[.val (.long p1), .second, .val (.long p2), .second, .val (.long p3), .second, .val (.int p4), .val (.int p5), .val (.int p6), .val (.ref a1), .val (.int aa), .val (.int bb), .val (.long u), .second, .val (.long v), .second, .val (.ref a5), .val (.int (1 : Int32)), .val (.int (-1 : Int32))] [(.long u), (.long v), (.int (-1 : Int32))])) rfl (by rw [hml]; rfl) (lenOf (ps := [.long, .long]) (r := (some .int)) (by decide +kernel) rfl) rfl (by show 2 * 0 + _ ≤ _; exact Nat.le_of_eq rfl) (hb hby at_109)
        obtain ⟨Q32, e32, rfl⟩ := Q32
        rcases Q32 with ⟨hk3, rfl⟩ | ⟨hk3, rfl⟩ | ⟨hk3, rfl⟩
        · refine own_go (T' := T32) (g' := (mkF m 112 #[.val (.long p1), .second, .val (.long p2), .second, .val (.long p3), .second, .val (.int p4), .val (.int p5), .val (.int p6), .val (.ref a1), .val (.int aa), .val (.int bb), .val (.long u), .second, .val (.long v), .second, .val (.ref a5), .val (.int (1 : Int32)), .val (.int (-1 : Int32))] [(.int (-1 : Int32)), (.int (-1 : Int32))])) (fun t q => st32 t q) ?_
          have c33 : (-1 : Int32) = (-1 : Int32) := by decide
          refine own_go (T' := T32) (g' := (mkF m 115 #[.val (.long p1), .second, .val (.long p2), .second, .val (.long p3), .second, .val (.int p4), .val (.int p5), .val (.int p6), .val (.ref a1), .val (.int aa), .val (.int bb), .val (.long u), .second, .val (.long v), .second, .val (.ref a5), .val (.int (1 : Int32)), .val (.int (-1 : Int32))] [])) (fun t q => XS.icmpNo X32.here hx rfl (hb hby at_112) rfl (teq c33).2 q) ?_
          refine own_go (T' := T32) (g' := (mkF m 116 #[.val (.long p1), .second, .val (.long p2), .second, .val (.long p3), .second, .val (.int p4), .val (.int p5), .val (.int p6), .val (.ref a1), .val (.int aa), .val (.int bb), .val (.long u), .second, .val (.long v), .second, .val (.ref a5), .val (.int (1 : Int32)), .val (.int (-1 : Int32))] [(.int (1 : Int32))])) (fun t q => XS.iconst X32.here hx rfl (hb hby at_115) q) ?_
          refine own_go (T' := T32) (g' := (mkF m 120 #[.val (.long p1), .second, .val (.long p2), .second, .val (.long p3), .second, .val (.int p4), .val (.int p5), .val (.int p6), .val (.ref a1), .val (.int aa), .val (.int bb), .val (.long u), .second, .val (.long v), .second, .val (.ref a5), .val (.int (1 : Int32)), .val (.int (-1 : Int32))] [(.int (1 : Int32))])) (fun t q => XS.goto X32.here hx rfl (pc0 := 116) (pc' := 120) rfl (hb hby at_116) (by decide) (by decide) q) ?_
          refine own_outN X32 hx hlk hret (t := .boolean) (by simp) (hb hby at_120) (w := (1 : Int32)) (by decide) ?_ (by decide) (by decide)
          exact ⟨rfl, (Fr.app (Fr.app (Fr.app (Fr.app (Fr.app (Fr.app N9 (Fr.nil _)) (Fr.nil _)) (Fr.nil _)) (Fr.nil _)) (Fr.nil _)) (Fr.nil _))⟩
        · exact (own_irr (hk3 ▸ hk1)).elim
        · exact (own_asym hk1 hk3).elim
    · exact (own_irr (hk2 ▸ hk1)).elim
    · exact (own_asym hk1 hk2).elim
set_option maxRecDepth 65536 in
set_option maxHeartbeats 40000000 in
theorem comes_1 {Post : Tables → Env → Array Value → State → Outcome → State → Prop} (hpost : ∀ tb e args s v u, (limb_1_1.after args s (.returned v) u = true ∧ limb_1_2.after args s (.returned v) u = true ∧ True) → FrameEnd s (.returned v) u (Jvm.fieldLocs frame_1_writes args s ++ Jvm.arrayLocs frame_1_arrays args s ++ Jvm.staticLocs frame_1_statics s) 16 128 → Post tb e args s (.returned v) u) :
    ArmFor flags0 classFile x code maxLocals ret World_1 tables_1 room_1 Calls_1 rest_1 Pre_1 Post := by
  intro l hfl _ _ p e ha hc hk s m args below hf hA hF happ hP
  obtain ⟨hcalls, hrest, hpre⟩ := hP
  obtain ⟨-, -, -, hnamed, -, -, -, hat⟩ := (Spec.applies_iff hf).mp happ
  obtain ⟨hg, hn⟩ := and_e (Cond.before_iff.mp (show (Jvm.Cond.and given_1 narrow_1).before args s = true from hpre))
  obtain ⟨h1, hg⟩ := and_e hg
  obtain ⟨g0, hg⟩ := and_e hg
  obtain ⟨g1, hg⟩ := and_e hg
  obtain ⟨g2, hg⟩ := and_e hg
  obtain ⟨g3, hg⟩ := and_e hg
  obtain ⟨g4, hg⟩ := and_e hg
  have g5 := hg
  obtain ⟨w0, w1, w2, w3, w4, w5, rfl⟩ : ∃ w0 w1 w2 w3 w4 w5 : Value, args = #[w0, w1, w2, w3, w4, w5] := by
    have hs : args.size = 6 := by simpa [Cond.value, given_1] using h1
    obtain ⟨L⟩ := args
    match L, hs with
    | [w0, w1, w2, w3, w4, w5], _ => exact ⟨w0, w1, w2, w3, w4, w5, rfl⟩
  have hw := fun d (hd : d ∈ tables_1) => atoms_spec (ws := Jvm.Cond.code x code maxLocals ret :: tables_1) hat d (List.mem_cons_of_mem _ hd)
  have hfit : Fit s := fun {y c} hc i hi => by
    obtain ⟨ha, rfl⟩ := Array.getElem?_eq_some_iff.mp hc
    have q := List.all_eq_true.mp ((Array.all_eq_true_iff_forall_mem.mp hF) _ (Array.getElem_mem ha)) i (List.mem_range.mpr hi)
    simpa [Array.getElem?_eq_getElem hi] using q
  obtain ⟨i0, b0⟩ := isL_v g0
  obtain rfl : w0 = (.long i0) := Option.some.inj b0
  obtain ⟨i1, b1⟩ := isL_v g1
  obtain rfl : w1 = (.long i1) := Option.some.inj b1
  obtain ⟨i2, b2⟩ := isL_v g2
  obtain rfl : w2 = (.long i2) := Option.some.inj b2
  obtain ⟨i3, b3⟩ := is_v g3
  obtain rfl : w3 = (.int i3) := Option.some.inj b3
  obtain ⟨i4, b4⟩ := is_v g4
  obtain rfl : w4 = (.int i4) := Option.some.inj b4
  obtain ⟨i5, b5⟩ := is_v g5
  obtain rfl : w5 = (.int i5) := Option.some.inj b5
  obtain ⟨n, o, h1, h2, h3, _, L, rfl, ⟨rfl, N⟩, hq⟩ := rm0 l s _ hw tables_1 i0 i1 i2 i3 i4 i5 s.heap p e ha hc hk s m _ below hf ((Spec.applies_iff_loose hf).mp happ).1 ⟨rfl, State.Warmed39.refl s, rfl⟩ trivial
  refine ⟨n, _, h1, h2, h3, hpost _ _ _ _ _ _ ⟨Cond.after_iff.mpr rfl, Cond.after_iff.mpr (eq_i res_at (Term.int_eval (1)) rfl), trivial⟩ ⟨hq.1, hq.2.1, (hq.2.2.sift fun y hy => Or.inr (N y hy)).mono (by decide) (by decide)⟩⟩
theorem main_1_1 : Claimed_1_1 := comes_1 fun _ _ _ _ _ _ h hF => ⟨h.1, hF⟩
theorem main_1_2 : Claimed_1_2 := comes_1 fun _ _ _ _ _ _ h hF => ⟨h.2.1, hF⟩
end Jvm.Pilot.@@N@@
namespace Jvm.Pilot.@@N@@
open Jvm Jvm.ClassFile Sem Op Lib Jvm.Free Jvm.Stand Jvm.Pilot.@@N@@.Jvm.D
/-! MADE BY PROGRAM (witnessworld.py) out of the Statement's table words and the real class files: 17 classes; the members and pool entries that the words name. The judged class is class 1, her method 3. -/
namespace start1
open Jvm.ClassFile
def u (s : String) : CpInfo := .utf8 (stringToUtf16 s)
/-- a pool by its gaps: so many unusable entries, then the entry; so many at the end -/
def gap : Nat → List CpInfo → List CpInfo
  | 0, r => r
  | n + 1, r => .unusable :: gap n r
def poolList (es : List (Nat × CpInfo)) (last : Nat) : List CpInfo := es.foldr (fun e r => gap e.1 (e.2 :: r)) (gap last [])
def pool (es : List (Nat × CpInfo)) (last : Nat) : Array CpInfo := ⟨poolList es last⟩
def fileOf (pool : Array CpInfo) (this : Nat) (attrs : Array Attribute := #[]) (ms : Array MethodInfo := #[]) (fl : Nat := 33) (sup : Nat := 0) (ifs : Array Nat := #[]) (fds : Array FieldInfo := #[]) : ClassFile where
  minorVersion := 0
  majorVersion := 65
  constantPool := pool
  accessFlags := fl
  thisClass := this
  superClass := sup
  interfaces := ifs
  fields := fds
  methods := ms
  attributes := attrs
def plain (name : String) (sup : Option ClassId) : Class where
  name := name
  kind := .ordinary
  loader := none
  accessFlags := 33
  super := sup
  interfaces := #[]
  cf := none
  fields := #[]
  methods := #[]
  instanceTypes := #[]
  staticTypes := #[]
  resolved := #[]
  callSites := []
  init := .initialized
  statics := none
  mirror := none

def pool0 : Array CpInfo := pool [(5, u "<init>"), (0, u "()V"), (1, .class_ 10), (1, u "java/lang/Object")] 113

def k0c0 : Code := { maxStack := 0, maxLocals := 1, code := object_method_1_code, exceptionTable := #[], attributes := #[] }
def k0m0 : Method := { name := "<init>", desc := "()V", sig := { parameters := [], returnType := none }, accessFlags := 1, code := some k0c0 }
/-- java/lang/Object -/
def k0 : Class := { plain "java/lang/Object" none with
  accessFlags := 33
  interfaces := #[]
  cf := some (fileOf pool0 8 #[] #[{ accessFlags := 1, nameIndex := 5, descriptorIndex := 6, attributes := #[] }] 33 0 #[] #[])
  fields := #[]
  methods := #[k0m0]
  instanceTypes := #[]
  staticTypes := #[]
  resolved := Array.replicate 124 none
  statics := none }

def pool1 : Array CpInfo := pool [(2, .class_ 4), (1, u "java/lang/Object"), (0, u "<init>"), (0, u "()V"), (0, .integer 2147483647), (0, .class_ 9), (0, u "com/example/minsum/minsum/solve/ScaledDistances$Longs"), (0, .methodref 8 11), (0, .nameAndType 5 12), (0, u "([JI)V"), (0, .methodref 8 14), (0, .nameAndType 15 16), (0, u "compare"), (0, u "(II)I"), (0, .methodref 18 19), (0, .class_ 20), (0, .nameAndType 21 22), (0, u "com/example/minsum/minsum/solve/LongsComparePinLaw"), (0, u "sign"), (0, u "(I)I"), (0, .methodref 18 24), (0, .nameAndType 25 26), (0, u "expected"), (0, u "(JJ)I"), (3, u "law"), (0, u "(JJJIII)Z")] 8

def k1m0 : Method := { name := "<init>", desc := "()V", sig := { parameters := [], returnType := none }, accessFlags := 1, code := none }
def k1c1 : Code := { maxStack := 1, maxLocals := 1, code := method_2_code, exceptionTable := #[], attributes := #[] }
def k1m1 : Method := { name := "sign", desc := "(I)I", sig := { parameters := [.int], returnType := some .int }, accessFlags := 10, code := some k1c1 }
def k1c2 : Code := { maxStack := 4, maxLocals := 4, code := method_3_code, exceptionTable := #[], attributes := #[] }
def k1m2 : Method := { name := "expected", desc := "(JJ)I", sig := { parameters := [.long, .long], returnType := some .int }, accessFlags := 10, code := some k1c2 }
def k1c3 : Code := { maxStack := 5, maxLocals := 19, code := code, exceptionTable := #[], attributes := #[] }
def k1m3 : Method := { name := "law", desc := "(JJJIII)Z", sig := { parameters := [.long, .long, .long, .int, .int, .int], returnType := some .boolean }, accessFlags := 9, code := some k1c3 }
/-- com/example/minsum/minsum/solve/LongsComparePinLaw -/
def k1 : Class := { plain "com/example/minsum/minsum/solve/LongsComparePinLaw" (some 0) with
  accessFlags := 49
  interfaces := #[]
  cf := some (fileOf pool1 18 #[] #[{ accessFlags := 1, nameIndex := 5, descriptorIndex := 6, attributes := #[] }, { accessFlags := 10, nameIndex := 21, descriptorIndex := 22, attributes := #[] }, { accessFlags := 10, nameIndex := 25, descriptorIndex := 26, attributes := #[] }, { accessFlags := 9, nameIndex := 30, descriptorIndex := 31, attributes := #[] }] 49 2 #[] #[])
  fields := #[]
  methods := #[k1m0, k1m1, k1m2, k1m3]
  instanceTypes := #[]
  staticTypes := #[]
  resolved := Array.replicate 40 none
  statics := none }

def pool2 : Array CpInfo := pool [(1, .methodref 2 3), (0, .class_ 4), (0, .nameAndType 5 6), (0, u "java/lang/Object"), (0, u "<init>"), (0, u "()V"), (0, .class_ 8), (0, u "com/example/minsum/minsum/solve/ScaledDistances"), (13, .class_ 23), (0, u "com/example/minsum/minsum/solve/ScaledDistances$Decimals"), (0, .class_ 25), (0, u "com/example/minsum/minsum/solve/ScaledDistances$Longs")] 3

def k2c0 : Code := { maxStack := 1, maxLocals := 1, code := prog_32_method_1_code, exceptionTable := #[], attributes := #[] }
def k2m0 : Method := { name := "<init>", desc := "()V", sig := { parameters := [], returnType := none }, accessFlags := 0, code := some k2c0 }
/-- com/example/minsum/minsum/solve/ScaledDistances -/
def k2 : Class := { plain "com/example/minsum/minsum/solve/ScaledDistances" (some 0) with
  accessFlags := 1056
  interfaces := #[]
  cf := some (fileOf pool2 7 #[.nestMembers #[22, 24]] #[{ accessFlags := 0, nameIndex := 5, descriptorIndex := 6, attributes := #[] }] 1056 2 #[] #[])
  fields := #[]
  methods := #[k2m0]
  instanceTypes := #[]
  staticTypes := #[]
  resolved := Array.replicate 29 none
  statics := none }

def pool3 : Array CpInfo := pool [(1, .methodref 2 3), (0, .class_ 4), (0, .nameAndType 5 6), (0, u "com/example/minsum/minsum/solve/ScaledDistances"), (0, u "<init>"), (0, u "()V"), (0, .fieldref 8 9), (0, .class_ 10), (0, .nameAndType 11 12), (0, u "com/example/minsum/minsum/solve/ScaledDistances$Longs"), (0, u "unscaled"), (0, u "[J"), (0, .fieldref 8 14), (0, .nameAndType 15 16), (0, u "scale"), (0, u "I"), (0, .methodref 18 19), (0, .class_ 20), (0, .nameAndType 21 22), (0, u "java/lang/Long"), (0, u "compare"), (0, u "(JJ)I"), (16, u "([JI)V"), (4, u "(II)I")] 11

def k3c0 : Code := { maxStack := 2, maxLocals := 3, code := prog_34_method_1_code, exceptionTable := #[], attributes := #[] }
def k3m0 : Method := { name := "<init>", desc := "([JI)V", sig := { parameters := [(.array .long), .int], returnType := none }, accessFlags := 0, code := some k3c0 }
def k3c1 : Code := { maxStack := 4, maxLocals := 3, code := prog_34_method_3_code, exceptionTable := #[], attributes := #[] }
def k3m1 : Method := { name := "compare", desc := "(II)I", sig := { parameters := [.int, .int], returnType := some .int }, accessFlags := 0, code := some k3c1 }
/-- com/example/minsum/minsum/solve/ScaledDistances$Longs -/
def k3 : Class := { plain "com/example/minsum/minsum/solve/ScaledDistances$Longs" (some 2) with
  accessFlags := 48
  interfaces := #[]
  cf := some (fileOf pool3 8 #[.nestHost 2] #[{ accessFlags := 0, nameIndex := 5, descriptorIndex := 39, attributes := #[] }, { accessFlags := 0, nameIndex := 21, descriptorIndex := 44, attributes := #[] }] 48 2 #[] #[{ accessFlags := 18, nameIndex := 11, descriptorIndex := 12, attributes := #[] }, { accessFlags := 18, nameIndex := 15, descriptorIndex := 16, attributes := #[] }])
  fields := #[{ name := "unscaled", type := (.array .long), accessFlags := 18, slot := 0, constantValue := 0 }, { name := "scale", type := .int, accessFlags := 18, slot := 1, constantValue := 0 }]
  methods := #[k3m0, k3m1]
  instanceTypes := #[(.array .long), .int]
  staticTypes := #[]
  resolved := Array.replicate 56 none
  statics := none }

def pool4 : Array CpInfo := pool [(1, .class_ 2), (0, u "java/io/Serializable"), (0, .class_ 4), (0, u "java/lang/Object")] 2

/-- java/io/Serializable -/
def k4 : Class := { plain "java/io/Serializable" (some 0) with
  accessFlags := 1537
  interfaces := #[]
  cf := some (fileOf pool4 1 #[] #[] 1537 3 #[] #[])
  fields := #[]
  methods := #[]
  instanceTypes := #[]
  staticTypes := #[]
  resolved := Array.replicate 7 none
  statics := none }

def pool5 : Array CpInfo := pool [(2, .class_ 4), (1, u "java/lang/Object"), (0, u "<init>"), (0, u "()V"), (1, .class_ 10), (1, u "java/lang/Number"), (2, .class_ 14), (0, u "java/io/Serializable"), (0, u "serialVersionUID"), (0, u "J")] 20

def k5m0 : Method := { name := "<init>", desc := "()V", sig := { parameters := [], returnType := none }, accessFlags := 1, code := none }
/-- java/lang/Number -/
def k5 : Class := { plain "java/lang/Number" (some 0) with
  accessFlags := 1057
  interfaces := #[4]
  cf := some (fileOf pool5 8 #[] #[{ accessFlags := 1, nameIndex := 5, descriptorIndex := 6, attributes := #[] }] 1057 2 #[13] #[{ accessFlags := 26, nameIndex := 15, descriptorIndex := 16, attributes := #[] }])
  fields := #[{ name := "serialVersionUID", type := .long, accessFlags := 26, slot := 0, constantValue := 0 }]
  methods := #[k5m0]
  instanceTypes := #[]
  staticTypes := #[.long]
  resolved := Array.replicate 37 none
  statics := none }

def pool6 : Array CpInfo := pool [(1, .class_ 2), (0, u "java/lang/Comparable"), (0, .class_ 4), (0, u "java/lang/Object")] 7

/-- java/lang/Comparable -/
def k6 : Class := { plain "java/lang/Comparable" (some 0) with
  accessFlags := 1537
  interfaces := #[]
  cf := some (fileOf pool6 1 #[] #[] 1537 3 #[] #[])
  fields := #[]
  methods := #[]
  instanceTypes := #[]
  staticTypes := #[]
  resolved := Array.replicate 12 none
  statics := none }

def pool7 : Array CpInfo := pool [(1, .class_ 2), (0, u "java/lang/constant/Constable"), (0, .class_ 4), (0, u "java/lang/Object")] 6

/-- java/lang/constant/Constable -/
def k7 : Class := { plain "java/lang/constant/Constable" (some 0) with
  accessFlags := 1537
  interfaces := #[]
  cf := some (fileOf pool7 1 #[] #[] 1537 3 #[] #[])
  fields := #[]
  methods := #[]
  instanceTypes := #[]
  staticTypes := #[]
  resolved := Array.replicate 11 none
  statics := none }

def pool8 : Array CpInfo := pool [(1, .class_ 2), (0, u "java/lang/constant/ConstantDesc"), (0, .class_ 4), (0, u "java/lang/Object")] 32

/-- java/lang/constant/ConstantDesc -/
def k8 : Class := { plain "java/lang/constant/ConstantDesc" (some 0) with
  accessFlags := 1537
  interfaces := #[]
  cf := some (fileOf pool8 1 #[] #[] 1537 3 #[] #[])
  fields := #[]
  methods := #[]
  instanceTypes := #[]
  staticTypes := #[]
  resolved := Array.replicate 37 none
  statics := none }

def pool9 : Array CpInfo := pool [(1, .class_ 2), (0, u "java/lang/Long"), (232, .class_ 237), (1, u "java/lang/Long$LongCache"), (33, .class_ 272), (0, u "java/lang/Number"), (2, u "value"), (0, u "J"), (27, u "compare"), (0, u "(JJ)I"), (55, u "TYPE"), (0, u "Ljava/lang/Class;"), (0, .class_ 364), (0, u "java/lang/Comparable"), (0, .class_ 366), (0, u "java/lang/constant/Constable"), (0, .class_ 368), (0, u "java/lang/constant/ConstantDesc"), (0, u "MIN_VALUE"), (1, u "MAX_VALUE"), (4, u "SIZE"), (0, u "I"), (1, u "BYTES"), (1, u "serialVersionUID")] 142

def k9c0 : Code := { maxStack := 4, maxLocals := 4, code := jdk_35_method_42_code, exceptionTable := #[], attributes := #[] }
def k9m0 : Method := { name := "compare", desc := "(JJ)I", sig := { parameters := [.long, .long], returnType := some .int }, accessFlags := 9, code := some k9c0 }
/-- java/lang/Long -/
def k9 : Class := { plain "java/lang/Long" (some 5) with
  accessFlags := 49
  interfaces := #[6, 7, 8]
  cf := some (fileOf pool9 1 #[.nestMembers #[235]] #[{ accessFlags := 9, nameIndex := 304, descriptorIndex := 305, attributes := #[] }] 49 271 #[363, 365, 367] #[{ accessFlags := 25, nameIndex := 369, descriptorIndex := 276, attributes := #[] }, { accessFlags := 25, nameIndex := 371, descriptorIndex := 276, attributes := #[] }, { accessFlags := 25, nameIndex := 361, descriptorIndex := 362, attributes := #[] }, { accessFlags := 18, nameIndex := 275, descriptorIndex := 276, attributes := #[] }, { accessFlags := 25, nameIndex := 376, descriptorIndex := 377, attributes := #[] }, { accessFlags := 25, nameIndex := 379, descriptorIndex := 377, attributes := #[] }, { accessFlags := 26, nameIndex := 381, descriptorIndex := 276, attributes := #[] }])
  fields := #[{ name := "MIN_VALUE", type := .long, accessFlags := 25, slot := 0, constantValue := 0 }, { name := "MAX_VALUE", type := .long, accessFlags := 25, slot := 1, constantValue := 0 }, { name := "TYPE", type := (.object "java/lang/Class"), accessFlags := 25, slot := 2, constantValue := 0 }, { name := "value", type := .long, accessFlags := 18, slot := 0, constantValue := 0 }, { name := "SIZE", type := .int, accessFlags := 25, slot := 3, constantValue := 0 }, { name := "BYTES", type := .int, accessFlags := 25, slot := 4, constantValue := 0 }, { name := "serialVersionUID", type := .long, accessFlags := 26, slot := 5, constantValue := 0 }]
  methods := #[k9m0]
  instanceTypes := #[.long]
  staticTypes := #[.long, .long, (.object "java/lang/Class"), .int, .int, .long]
  resolved := Array.replicate 524 none
  statics := none }

def pool10 : Array CpInfo := pool [(1, u "java/lang/Cloneable"), (0, .class_ 1), (0, u "java/lang/Object"), (0, .class_ 3)] 3

/-- java/lang/Cloneable -/
def k10 : Class := { plain "java/lang/Cloneable" (some 0) with
  accessFlags := 1537
  interfaces := #[]
  cf := some (fileOf pool10 2 #[] #[] 1537 4 #[] #[])
  fields := #[]
  methods := #[]
  instanceTypes := #[]
  staticTypes := #[]
  resolved := Array.replicate 8 none
  statics := none }

/-- the primitive byte -/
def k11 : Class := { plain "byte" none with kind := .primitive 'B', accessFlags := 0x411 }
/-- [B -/
def k12 : Class := { plain "[B" (some 0) with kind := .array 11 .byte, interfaces := #[10, 4], accessFlags := 1041 }

/-- the primitive int -/
def k13 : Class := { plain "int" none with kind := .primitive 'I', accessFlags := 0x411 }
/-- [I -/
def k14 : Class := { plain "[I" (some 0) with kind := .array 13 .int, interfaces := #[10, 4], accessFlags := 1041 }

/-- the primitive long -/
def k15 : Class := { plain "long" none with kind := .primitive 'J', accessFlags := 0x411 }
/-- [J -/
def k16 : Class := { plain "[J" (some 0) with kind := .array 15 .long, interfaces := #[10, 4], accessFlags := 1041 }

def heap : Heap := #[]
def classes : Array Class := #[k0, k1, k2, k3, k4, k5, k6, k7, k8, k9, k10, k11, k12, k13, k14, k15, k16]
def interned : List (Array UInt16 × Addr) := []
def slotsUsed : Nat := 0
def theMethod : MethodId := ⟨1, 3⟩
def args0 : Array Value := #[.long 5, .long 7, .long 8, .int 9, .int 10, .int 11]
def aboutOver (below : List Frame) : State where
  vm := { classes := classes, interned := interned.toArray }
  heap := heap
  slotsUsed := slotsUsed
  threads := #[{ frames := .invoking theMethod args0 :: below }]
def below0 : List Frame := [.native { method := ⟨0, 0⟩, args := #[] }]
def about1 : State := aboutOver below0
def p0 : Program := .bare "" "" ""
def e0 : Env := launch0.env 0 0 0
theorem w_frames : about1.frames = Frame.invoking theMethod args0 :: below0 := rfl
set_option maxRecDepth 65536 in
theorem w_args : argsFit about1.vm theMethod args0 = true := by decide +kernel
set_option maxRecDepth 65536 in
theorem w_heap : heapFits about1 = true := by decide +kernel
set_option maxRecDepth 65536 in
theorem w_runnable : about1.curStatus? = some .runnable := by decide +kernel
set_option maxRecDepth 65536 in
theorem w_alone : about1.alone = true := by decide +kernel
set_option maxRecDepth 65536 in
theorem w_named : about1.methodNamed? x = some theMethod := by decide +kernel
set_option maxRecDepth 65536 in
theorem w_hears : about1.hears theMethod below0 = true := by decide +kernel
set_option maxRecDepth 65536 in
theorem w_ripe : about1.ripe theMethod args0 below0 = true := by decide +kernel
theorem w_running : about1.status = .running := rfl
set_option maxRecDepth 65536 in
theorem w_room : about1.hasRoom e0.platform room_1 = true :=
  launch0.hasRoom_least _ room_1 (by decide +kernel) (by decide +kernel) (by decide +kernel) (by decide +kernel) (by decide +kernel) (by decide +kernel)
theorem allAtoms_all (ts : List Jvm.Cond) (a : Array Jvm.Value) (st : Jvm.State) : (allAtoms ts).before a st = ts.all (fun c => c.before a st) := by
  induction ts with
  | nil => rfl
  | cons c t ih =>
    show (Jvm.Cond.and c (allAtoms t)).before a st = _
    rw [Jvm.Cond.before_and, ih, List.all_cons]
def words1 : List Jvm.Cond := Jvm.Cond.code x code maxLocals ret :: tables_1
/-- a 'code' word, met by the world's own term for the bytes: nothing is compared byte by byte -/
theorem code_word {y : MethodName} {bytes : ByteArray} {mx : Nat} {rt : Option FieldType} {a : Array Value} {s : State} {m : MethodId} {meth : Method} {c : Code} (h1 : s.methodNamed? y = some m) (h2 : s.vm.method? m = some meth) (h3 : meth.code = some c) (h4 : c.code = bytes)
    (h5 : (c.maxLocals == mx && c.exceptionTable.isEmpty && decide (c.maxStack ≤ mostOperands) && decide (meth.sig.returnType = rt) && !meth.locks && decide (parseMethodDescriptor y.desc = some meth.sig)) = true) : (Jvm.Cond.code y bytes mx rt).before a s = true := by
  simp only [Bool.and_eq_true, beq_iff_eq, Bool.not_eq_true', decide_eq_true_eq] at h5
  obtain ⟨⟨⟨⟨⟨g1, g2⟩, g3⟩, g4⟩, g5⟩, g6⟩ := h5
  simp [Cond.before, Cond.holds, Cond.value, h1, h2, h3, h4, g1, g2, g3, g4, g5, g6]
def isCode : Jvm.Cond → Bool
  | .code _ _ _ _ => true
  | _ => false
theorem all_split {L : List Jvm.Cond} {P : Jvm.Cond → Bool} (h1 : L.all (fun c => isCode c || P c) = true) (h2 : ∀ c ∈ L.filter isCode, P c = true) : L.all P = true := by
  refine List.all_eq_true.mpr fun c hc => ?_
  have h := List.all_eq_true.mp h1 c hc
  rcases Bool.eq_false_or_eq_true (isCode c) with hi | hi
  · exact h2 c (List.mem_filter.mpr ⟨hc, hi⟩)
  · simpa [hi] using h
set_option maxRecDepth 65536 in
theorem w_c0 : (Jvm.Cond.code x code maxLocals ret).before args0 about1 = true := code_word (m := ⟨1, 3⟩) (meth := k1m3) (c := k1c3) (by decide +kernel) rfl rfl rfl (by decide +kernel)
set_option maxRecDepth 65536 in
theorem w_c1 : (Jvm.Cond.code ({ cls := "com/example/minsum/minsum/solve/ScaledDistances$Longs", name := "<init>", desc := "([JI)V" } : Jvm.MethodName) prog_34_method_1_code (3 : Nat) (Option.none : Option Jvm.ClassFile.FieldType)).before args0 about1 = true := code_word (m := ⟨3, 0⟩) (meth := k3m0) (c := k3c0) (by decide +kernel) rfl rfl rfl (by decide +kernel)
set_option maxRecDepth 65536 in
theorem w_c2 : (Jvm.Cond.code ({ cls := "com/example/minsum/minsum/solve/ScaledDistances", name := "<init>", desc := "()V" } : Jvm.MethodName) prog_32_method_1_code (1 : Nat) (Option.none : Option Jvm.ClassFile.FieldType)).before args0 about1 = true := code_word (m := ⟨2, 0⟩) (meth := k2m0) (c := k2c0) (by decide +kernel) rfl rfl rfl (by decide +kernel)
set_option maxRecDepth 65536 in
theorem w_c3 : (Jvm.Cond.code ({ cls := "java/lang/Object", name := "<init>", desc := "()V" } : Jvm.MethodName) object_method_1_code (1 : Nat) (Option.none : Option Jvm.ClassFile.FieldType)).before args0 about1 = true := code_word (m := ⟨0, 0⟩) (meth := k0m0) (c := k0c0) (by decide +kernel) rfl rfl rfl (by decide +kernel)
set_option maxRecDepth 65536 in
theorem w_c4 : (Jvm.Cond.code ({ cls := "com/example/minsum/minsum/solve/ScaledDistances$Longs", name := "compare", desc := "(II)I" } : Jvm.MethodName) prog_34_method_3_code (3 : Nat) (Option.some Jvm.ClassFile.FieldType.int)).before args0 about1 = true := code_word (m := ⟨3, 1⟩) (meth := k3m1) (c := k3c1) (by decide +kernel) rfl rfl rfl (by decide +kernel)
set_option maxRecDepth 65536 in
theorem w_c5 : (Jvm.Cond.code ({ cls := "java/lang/Long", name := "compare", desc := "(JJ)I" } : Jvm.MethodName) jdk_35_method_42_code (4 : Nat) (Option.some Jvm.ClassFile.FieldType.int)).before args0 about1 = true := code_word (m := ⟨9, 0⟩) (meth := k9m0) (c := k9c0) (by decide +kernel) rfl rfl rfl (by decide +kernel)
set_option maxRecDepth 65536 in
theorem w_c6 : (Jvm.Cond.code ({ cls := "com/example/minsum/minsum/solve/LongsComparePinLaw", name := "sign", desc := "(I)I" } : Jvm.MethodName) method_2_code (1 : Nat) (Option.some Jvm.ClassFile.FieldType.int)).before args0 about1 = true := code_word (m := ⟨1, 1⟩) (meth := k1m1) (c := k1c1) (by decide +kernel) rfl rfl rfl (by decide +kernel)
set_option maxRecDepth 65536 in
theorem w_c7 : (Jvm.Cond.code ({ cls := "com/example/minsum/minsum/solve/LongsComparePinLaw", name := "expected", desc := "(JJ)I" } : Jvm.MethodName) method_3_code (4 : Nat) (Option.some Jvm.ClassFile.FieldType.int)).before args0 about1 = true := code_word (m := ⟨1, 2⟩) (meth := k1m2) (c := k1c2) (by decide +kernel) rfl rfl rfl (by decide +kernel)
def codes1 : List Jvm.Cond := [Jvm.Cond.code x code maxLocals ret, Jvm.Cond.code ({ cls := "com/example/minsum/minsum/solve/ScaledDistances$Longs", name := "<init>", desc := "([JI)V" } : Jvm.MethodName) prog_34_method_1_code (3 : Nat) (Option.none : Option Jvm.ClassFile.FieldType), Jvm.Cond.code ({ cls := "com/example/minsum/minsum/solve/ScaledDistances", name := "<init>", desc := "()V" } : Jvm.MethodName) prog_32_method_1_code (1 : Nat) (Option.none : Option Jvm.ClassFile.FieldType), Jvm.Cond.code ({ cls := "java/lang/Object", name := "<init>", desc := "()V" } : Jvm.MethodName) object_method_1_code (1 : Nat) (Option.none : Option Jvm.ClassFile.FieldType), Jvm.Cond.code ({ cls := "com/example/minsum/minsum/solve/ScaledDistances$Longs", name := "compare", desc := "(II)I" } : Jvm.MethodName) prog_34_method_3_code (3 : Nat) (Option.some Jvm.ClassFile.FieldType.int), Jvm.Cond.code ({ cls := "java/lang/Long", name := "compare", desc := "(JJ)I" } : Jvm.MethodName) jdk_35_method_42_code (4 : Nat) (Option.some Jvm.ClassFile.FieldType.int), Jvm.Cond.code ({ cls := "com/example/minsum/minsum/solve/LongsComparePinLaw", name := "sign", desc := "(I)I" } : Jvm.MethodName) method_2_code (1 : Nat) (Option.some Jvm.ClassFile.FieldType.int), Jvm.Cond.code ({ cls := "com/example/minsum/minsum/solve/LongsComparePinLaw", name := "expected", desc := "(JJ)I" } : Jvm.MethodName) method_3_code (4 : Nat) (Option.some Jvm.ClassFile.FieldType.int)]
set_option maxRecDepth 65536 in
theorem codes_eq : words1.filter isCode = codes1 := rfl
theorem w_codes : ∀ c ∈ words1.filter isCode, c.before args0 about1 = true := by
  rw [codes_eq]
  intro c hc
  simp only [codes1, List.mem_cons, List.not_mem_nil, or_false] at hc
  rcases hc with rfl | rfl | rfl | rfl | rfl | rfl | rfl | rfl
  · exact w_c0
  · exact w_c1
  · exact w_c2
  · exact w_c3
  · exact w_c4
  · exact w_c5
  · exact w_c6
  · exact w_c7
set_option maxRecDepth 65536 in
theorem w_t1 : (words1.take 24).all (fun c => isCode c || c.before args0 about1) = true := by decide +kernel
set_option maxRecDepth 65536 in
theorem w_t2 : (words1.drop 24).all (fun c => isCode c || c.before args0 about1) = true := by decide +kernel
theorem w_tables : (allAtoms (Jvm.Cond.code x code maxLocals ret :: tables_1)).before args0 about1 = true := by
  rw [allAtoms_all]
  show words1.all (fun c => c.before args0 about1) = true
  refine all_split ?_ w_codes
  rw [← List.take_append_drop 24 words1, List.all_append, w_t1, w_t2]
  rfl
set_option maxRecDepth 65536 in
theorem w_case : (Jvm.Cond.and given_1 narrow_1).before args0 about1 = true := by decide +kernel
theorem w_applies : (headSpec (Jvm.Cond.code x code maxLocals ret :: tables_1) room_1).applies x e0.platform about1 = true :=
  (Spec.applies_iff w_frames).mpr ⟨w_running, w_runnable, w_alone, w_named, w_hears, w_ripe, w_room, w_tables⟩
theorem atStart : AtStart classFile x code maxLocals ret World_1 tables_1 room_1 Calls_1 rest_1 Pre_1 launch0 p0 e0 about1 theMethod args0 below0 :=
  ⟨lists_1, trivial, launch0.admits_env _ _ _, launch0.least_env, fairChoices_fair.cas, fairChoices_fair.clock, w_frames, w_args, w_heap, w_applies, trivial, trivial, w_case⟩
end start1
theorem witness_1 : WitnessClaimed_1 := ⟨start1.p0, start1.e0, start1.about1, start1.theMethod, start1.args0, start1.below0, start1.atStart⟩
end Jvm.Pilot.@@N@@
