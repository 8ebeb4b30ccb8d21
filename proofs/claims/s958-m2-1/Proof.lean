import JvmDerived
import JvmDerived.Pilot.@@N@@Statement
import JvmDerived.Pilot.@@N@@Code
set_option linter.unusedVariables false
set_option linter.unusedSimpArgs false
namespace Jvm.RoadKit
open Sem ClassFile Op Lib Jvm.Stand Jvm.Free Jvm.LawKit
section OwnWalk
variable {p : Program} {l : Launch} {e : Env} {R : Room} {s : State} {m : MethodId} {args : Array Value} {below : List Frame} {meth : Method} {c : Code} {T : State} {locs : List Loc} {cells slots : Nat} {Z : State} {a0 : Array Value} {h : Heap}
theorem retI (X : Stand p l e R s m args below meth c T locs cells slots) (hx : p.tables.exec = Jvm.exec) {pc : Nat} {Ls : Array Slot} {z : Int32} {rest : List Value} (hret : meth.sig.returnType = some .int) (hd : decode c.code pc = .ok (.ireturn, 1)) {fs : List Frame}
    (hl : ∀ (f : JFrame) (acts : List Action), f.method = m → f.locked = none → f.entered = [] → (doReturn e (T.setTop f) acts (some (.int z))).1 = T.setFrames fs) : Steps p.tables e below (T.setTop (mkF m pc Ls (.int z :: rest))) (T.setFrames fs) := by
  have hm' : T.vm.method? m = some meth := X.method'
  have hn : narrow .int (.int z) = .int z := rfl
  show Steps p.tables e below (T.setTop { method := m, pc := pc, locals := Ls, stack := _ :: rest, locked := none }) _
  jvm_step X.here [X.here.top, hx, hd, hm', hret, hn]
  first | (intro acts; rw [hl _ acts rfl rfl rfl]) | rw [hl _ _ rfl rfl rfl]
  exact Steps.refl _
/-- a body's contract at given arguments and a given heap -/
abbrev own_Met (l : Launch) (y : MethodName) (bytes : ByteArray) (maxL : Nat) (ret : Option FieldType) (ws : List Cond) (rm : Room) (Z : State) (as' : Array Value) (h : Heap) (Q : Option Value → Heap → List Loc → Prop) : Prop :=
  MetFree l y (head1 (Cond.code y bytes maxL ret :: ws) rm) (fun a U => a = as' ∧ Z.Warmed39 U.vm ∧ U.heap = h) (fun _ _ _ _ _ => True) (fun _ U o U' => ∃ v L, o = .returned v ∧ Q v U'.heap L ∧ FrameEnd U o U' L rm.cells rm.slots)
/-- from here the walk comes to its end, and Q holds there -/
def own_Go (p : Program) (e : Env) (below : List Frame) (s T : State) (g : JFrame) (k n : Nat) (Q : Option Value → Heap → List Loc → Prop) : Prop :=
  ∃ s₂ o, Steps p.tables e below (T.setTop g) s₂ ∧ s₂.status = .running ∧ Ended s₂ below o ∧ ∃ v L, o = .returned v ∧ Q v s₂.heap L ∧ FrameEnd s o s₂ L k n
variable {k n : Nat} {Q : Option Value → Heap → List Loc → Prop}
theorem own_in {g g' : JFrame} (ef : g = g') (q : own_Go p e below s T g' k n Q) : ∃ s₂ o, Steps p.tables e below (T.setTop g) s₂ ∧ s₂.status = .running ∧ Ended s₂ below o ∧ ∃ v L, o = .returned v ∧ Q v s₂.heap L ∧ FrameEnd s o s₂ L k n := by
  subst ef; exact q
theorem own_go {T' : State} {g g' : JFrame} (f : ∀ t, Steps p.tables e below (T'.setTop g') t → Steps p.tables e below (T.setTop g) t) (q : own_Go p e below s T' g' k n Q) : own_Go p e below s T g k n Q := by
  obtain ⟨s₂, o, h1, h2⟩ := q; exact ⟨s₂, o, f _ h1, h2⟩
theorem own_outI (X : Stand p l e R s m args below meth c T locs cells slots) (hx : p.tables.exec = Jvm.exec) (hlk : meth.locks = false) (hret : meth.sig.returnType = some .int) {pc : Nat} {Ls : Array Slot} {z : Int32} {rest : List Value} (hd : decode c.code pc = .ok (.ireturn, 1))
    (q : Q (some (.int z)) T.heap locs) (hk : cells ≤ k) (hn : slots ≤ n) : own_Go p e below s T (mkF m pc Ls (.int z :: rest)) k n Q := by
  obtain ⟨fs, hr, hrun, hended, hW, hsame⟩ := X.leave (v := some (.int z)) (fun h => by rw [hret] at h; cases h) hlk
  exact ⟨_, _, retI X hx hret hd hr, hrun, hended, _, _, rfl, q, ⟨_, rfl⟩, hW, hsame.mono hk hn⟩
theorem own_outN (X : Stand p l e R s m args below meth c T locs cells slots) (hx : p.tables.exec = Jvm.exec) (hlk : meth.locks = false) {t : FieldType} (hret : meth.sig.returnType = some t) (ht : t = .boolean ∨ t = .byte ∨ t = .char ∨ t = .short) {pc : Nat} {Ls : Array Slot} {z w : Int32} {rest : List Value} (hd : decode c.code pc = .ok (.ireturn, 1))
    (hw : nar t z = w) (q : Q (some (.int w)) T.heap locs) (hk : cells ≤ k) (hn : slots ≤ n) : own_Go p e below s T (mkF m pc Ls (.int z :: rest)) k n Q := by
  subst hw
  obtain ⟨fs, hr, hrun, hended, hW, hsame⟩ := X.leave (v := some (.int (nar t z))) (fun h => by rw [hret] at h; cases h) hlk
  exact ⟨_, _, retN X hx hret ht hd hr, hrun, hended, _, _, rfl, q, ⟨_, rfl⟩, hW, hsame.mono hk hn⟩
theorem own_outJ (X : Stand p l e R s m args below meth c T locs cells slots) (hx : p.tables.exec = Jvm.exec) (hlk : meth.locks = false) (hret : meth.sig.returnType = some .long) {pc : Nat} {Ls : Array Slot} {z : Int64} {rest : List Value} (hd : decode c.code pc = .ok (.lreturn, 1))
    (q : Q (some (.long z)) T.heap locs) (hk : cells ≤ k) (hn : slots ≤ n) : own_Go p e below s T (mkF m pc Ls (.long z :: rest)) k n Q := by
  obtain ⟨fs, hr, hrun, hended, hW, hsame⟩ := X.leave (v := some (.long z)) (fun h => by rw [hret] at h; cases h) hlk
  exact ⟨_, _, retOut X hx hret rfl (Or.inr (Or.inl ⟨rfl, rfl, _, rfl⟩)) hd hr, hrun, hended, _, _, rfl, q, ⟨_, rfl⟩, hW, hsame.mono hk hn⟩
theorem own_outD (X : Stand p l e R s m args below meth c T locs cells slots) (hx : p.tables.exec = Jvm.exec) (hlk : meth.locks = false) (hret : meth.sig.returnType = some .double) {pc : Nat} {Ls : Array Slot} {z : UInt64} {rest : List Value} (hd : decode c.code pc = .ok (.dreturn, 1))
    (q : Q (some (.double z)) T.heap locs) (hk : cells ≤ k) (hn : slots ≤ n) : own_Go p e below s T (mkF m pc Ls (.double z :: rest)) k n Q := by
  obtain ⟨fs, hr, hrun, hended, hW, hsame⟩ := X.leave (v := some (.double z)) (fun h => by rw [hret] at h; cases h) hlk
  exact ⟨_, _, retOut X hx hret rfl (Or.inr (Or.inr (Or.inl ⟨rfl, rfl, _, rfl⟩))) hd hr, hrun, hended, _, _, rfl, q, ⟨_, rfl⟩, hW, hsame.mono hk hn⟩
theorem own_outA (X : Stand p l e R s m args below meth c T locs cells slots) (hx : p.tables.exec = Jvm.exec) (hlk : meth.locks = false) {t : FieldType} (hret : meth.sig.returnType = some t) (ht : t.isReference = true) {pc : Nat} {Ls : Array Slot} {w : Value} {rest : List Value} (hwr : w.isRef = true) (hd : decode c.code pc = .ok (.areturn, 1))
    (q : Q (some w) T.heap locs) (hk : cells ≤ k) (hn : slots ≤ n) : own_Go p e below s T (mkF m pc Ls (w :: rest)) k n Q := by
  obtain ⟨fs, hr, hrun, hended, hW, hsame⟩ := X.leave (v := some w) (fun h => by rw [hret] at h; cases h) hlk
  have hnw : narrow t w = w := by rcases ref_cases hwr with rfl | ⟨a, rfl⟩ <;> cases t <;> first | rfl | cases ht
  exact ⟨_, _, retOut X hx hret hnw (Or.inr (Or.inr (Or.inr (Or.inr ⟨rfl, ht, hwr⟩)))) hd hr, hrun, hended, _, _, rfl, q, ⟨_, rfl⟩, hW, hsame.mono hk hn⟩
theorem own_outV (X : Stand p l e R s m args below meth c T locs cells slots) (hx : p.tables.exec = Jvm.exec) (hlk : meth.locks = false) (hret : meth.sig.returnType = none) {pc : Nat} {Ls : Array Slot} (hd : decode c.code pc = .ok (.return_, 1))
    (q : Q none T.heap locs) (hk : cells ≤ k) (hn : slots ≤ n) : own_Go p e below s T (mkF m pc Ls []) k n Q := by
  obtain ⟨fs, hr, hrun, hended, hW, hsame⟩ := X.leave (v := none) (fun _ => rfl) hlk
  exact ⟨_, _, X.returnOut hx hret hd hr, hrun, hended, _, _, rfl, q, ⟨_, rfl⟩, hW, hsame.mono hk hn⟩
theorem own_callS (X : Stand p l e R s m args below meth c T locs cells slots) (hx : p.tables.exec = Jvm.exec) (hZ : Z.Warmed39 s.vm) {own : String} {index : Nat} {y : MethodName} {bytes : ByteArray} {maxL : Nat} {ret : Option FieldType} {rm : Room} {argsL rest : List Value}
    (hown : s.vm.findClass own = some m.cls) (w1 : (Cond.methodLink own index y).before a0 Z = true) (w2 : (Cond.static y).before a0 Z = true) (w3 : (Cond.initialized y.cls).before a0 Z = true) (w4 : (Cond.code y bytes maxL ret).before a0 Z = true)
    (hM : own_Met l y bytes maxL ret [] rm Z argsL.toArray h Q) (eT : T.heap = h) (hy : y.cls ≠ "java/lang/invoke/MethodHandle" ∧ y.cls ≠ "java/lang/invoke/VarHandle") (hf : rm.frames + 1 ≤ R.frames) (W : Nat) (hl : W + (maxL + 11) + rm.locals ≤ R.locals) (hc : cells + rm.cells ≤ R.cells) (hs : slots + rm.slots ≤ R.slots)
    {g : JFrame} (hg : g.method = m) (hsize : g.locals.size = c.maxLocals) (hlen : ∀ sig, parseMethodDescriptor y.desc = some sig → argsL.length = sig.parameters.length) (hstack : g.stack = argsL.reverse ++ rest) (hW : 2 * g.monitorRoom + (rest.map fun v => v.category).sum ≤ W) (hd : decode c.code g.pc = .ok (.invokestatic index, 3)) :
    ∃ v T' L, Stand p l e R s m args below meth c T' (locs ++ L) (cells + rm.cells) (slots + rm.slots) ∧ Q v T'.heap L ∧ ∀ t, Steps p.tables e below (T'.setTop { g with pc := g.pc + 3, stack := v.toList ++ rest }) t → Steps p.tables e below (T.setTop g) t := by
  obtain ⟨v, _, ⟨T', L', k', n'⟩, -, X', ⟨Lc, hQ, l1, l2, l3⟩, st⟩ := Jvm.LawKit.callS X hx (y := y) hown (mvT hZ w1) (mvT hZ w2) (mvT hZ w3) (mvT hZ w4) hy (backOf (W := W) hM hZ w4 w3 hf hl) hg hsize (argsL := argsL) (rest := rest) hlen hstack hW hd (fun _ _ => ⟨rfl, eT, hc, hs⟩)
  dsimp only [Pt.U, Pt.locs, Pt.cells, Pt.slots] at X' l1 l2 l3 st hQ
  subst l1 l2 l3
  exact ⟨v, T', Lc, X', hQ, st⟩
theorem own_callV (X : Stand p l e R s m args below meth c T locs cells slots) (hx : p.tables.exec = Jvm.exec) (hZ : Z.Warmed39 s.vm) {own C : String} {index : Nat} {y : MethodName} {bytes : ByteArray} {maxL : Nat} {ret : Option FieldType} {rm : Room} {b : Addr} {argsL rest : List Value}
    (hown : s.vm.findClass own = some m.cls) (w1 : (Cond.methodLink own index y).before a0 Z = true) (w2 : (Cond.declares y).before a0 Z = true) (w3 : (Cond.selects C y y).before a0 Z = true) (w4 : (Cond.instanceMethod y).before a0 Z = true) (w5 : (Cond.initialized y.cls).before a0 Z = true) (w6 : (Cond.code y bytes maxL ret).before a0 Z = true)
    (hM : own_Met l y bytes maxL ret [] rm Z (.ref b :: argsL).toArray h Q) (eT : T.heap = h) (E : Exa Z h b C) (hy : y.cls ≠ "java/lang/invoke/MethodHandle" ∧ y.cls ≠ "java/lang/invoke/VarHandle") (hf : rm.frames + 1 ≤ R.frames) (W : Nat) (hl : W + (maxL + 11) + rm.locals ≤ R.locals) (hc : cells + rm.cells ≤ R.cells) (hs : slots + rm.slots ≤ R.slots)
    {g : JFrame} (hg : g.method = m) (hsize : g.locals.size = c.maxLocals) (hlen : ∀ sig, parseMethodDescriptor y.desc = some sig → argsL.length = sig.parameters.length) (hstack : g.stack = argsL.reverse ++ .ref b :: rest) (hW : 2 * g.monitorRoom + (rest.map fun v => v.category).sum ≤ W) (hd : decode c.code g.pc = .ok (.invokevirtual index, 3)) :
    ∃ v T' L, Stand p l e R s m args below meth c T' (locs ++ L) (cells + rm.cells) (slots + rm.slots) ∧ Q v T'.heap L ∧ ∀ t, Steps p.tables e below (T'.setTop { g with pc := g.pc + 3, stack := v.toList ++ rest }) t → Steps p.tables e below (T.setTop g) t := by
  obtain ⟨cq, kq, qa, qb, qc⟩ := isOf hZ eT E
  obtain ⟨v, _, ⟨T', L', k', n'⟩, -, X', ⟨Lc, hQ, l1, l2, l3⟩, st⟩ := X.virtualBack hx (y := y) (z := y) hown (mvT hZ w1) (mvT hZ w2) (notFace_of_selects (args := #[]) (mvT hZ w3)) (mvT hZ w3) (mvT hZ w4) hy (backOf (W := W) hM hZ w6 w5 hf hl) qa qc hg hsize (Steps.refl _) (argsL := argsL) (rest := rest) hlen hstack hW hd (fun _ _ => ⟨rfl, eT, hc, hs⟩)
  dsimp only [Pt.U, Pt.locs, Pt.cells, Pt.slots] at X' l1 l2 l3 st hQ
  subst l1 l2 l3
  exact ⟨v, T', Lc, X', hQ, fun t q => st.trans q⟩
theorem own_callP (X : Stand p l e R s m args below meth c T locs cells slots) (hx : p.tables.exec = Jvm.exec) (hZ : Z.Warmed39 s.vm) {own : String} {index : Nat} {y : MethodName} {bytes : ByteArray} {maxL : Nat} {rm : Room} {a : Addr} {argsL rest : List Value}
    (hown : s.vm.findClass own = some m.cls) (hy1 : y.name = "<init>") (w1 : (Cond.methodLink own index y).before a0 Z = true) (w2 : (Cond.instanceMethod y).before a0 Z = true) (w3 : (Cond.initialized y.cls).before a0 Z = true) (w4 : (Cond.code y bytes maxL none).before a0 Z = true)
    (hM : own_Met l y bytes maxL none [] rm Z (.ref a :: argsL).toArray h Q) (eT : T.heap = h) (hy : y.cls ≠ "java/lang/invoke/MethodHandle" ∧ y.cls ≠ "java/lang/invoke/VarHandle") (hf : rm.frames + 1 ≤ R.frames) (W : Nat) (hl : W + (maxL + 11) + rm.locals ≤ R.locals) (hc : cells + rm.cells ≤ R.cells) (hs : slots + rm.slots ≤ R.slots)
    {g : JFrame} (hg : g.method = m) (hsize : g.locals.size = c.maxLocals) (hlen : ∀ sig, parseMethodDescriptor y.desc = some sig → argsL.length = sig.parameters.length) (hstack : g.stack = argsL.reverse ++ .ref a :: rest) (hW : 2 * g.monitorRoom + (rest.map fun v => v.category).sum ≤ W) (hd : decode c.code g.pc = .ok (.invokespecial index, 3)) :
    ∃ v T' L, Stand p l e R s m args below meth c T' (locs ++ L) (cells + rm.cells) (slots + rm.slots) ∧ Q v T'.heap L ∧ ∀ t, Steps p.tables e below (T'.setTop { g with pc := g.pc + 3, stack := v.toList ++ rest }) t → Steps p.tables e below (T.setTop g) t := by
  obtain ⟨v, _, ⟨T', L', k', n'⟩, -, X', ⟨Lc, hQ, l1, l2, l3⟩, st⟩ := X.specialBack hx (y := y) hy1 hown (mvT hZ w1) (mvT hZ w2) (mvT hZ w4) hy (backOf (W := W) hM hZ w4 w3 hf hl) hg hsize (Steps.refl _) (a := a) (argsL := argsL) (rest := rest) hlen hstack hW hd (fun _ _ => ⟨rfl, eT, hc, hs⟩)
  dsimp only [Pt.U, Pt.locs, Pt.cells, Pt.slots] at X' l1 l2 l3 st hQ
  subst l1 l2 l3
  exact ⟨v, T', Lc, X', hQ, fun t q => st.trans q⟩
end OwnWalk
theorem own_llt (x y : Int64) : XT.cmpL x y < 0 ↔ x < y := by
  show (if y < x then (1 : Int32) else if x = y then 0 else -1) < 0 ↔ _
  split
  · rename_i h; exact ⟨fun q => absurd q (by decide), fun q => by rw [Int64.lt_iff_toInt_lt] at h q; omega⟩
  · rename_i h; split
    · rename_i h2; subst h2; exact ⟨fun q => absurd q (by decide), fun q => absurd q h⟩
    · rename_i h2; refine ⟨fun _ => ?_, fun _ => by decide⟩
      rw [← Int64.toInt_inj] at h2; rw [Int64.lt_iff_toInt_lt] at h ⊢; omega
theorem own_lgt (x y : Int64) : 0 < XT.cmpL x y ↔ y < x := by
  show 0 < (if y < x then (1 : Int32) else if x = y then 0 else -1) ↔ _
  split
  · rename_i h; exact ⟨fun _ => h, fun _ => by decide⟩
  · rename_i h; split
    · exact ⟨fun q => absurd q (by decide), fun q => absurd q h⟩
    · exact ⟨fun q => absurd q (by decide), fun q => absurd q h⟩
theorem own_leq (x y : Int64) : XT.cmpL x y = 0 ↔ x = y := by
  show (if y < x then (1 : Int32) else if x = y then 0 else -1) = 0 ↔ _
  split
  · rename_i h; refine ⟨fun q => absurd q (by decide), fun q => ?_⟩; subst q; exact absurd h (by simp only [Int64.lt_iff_toInt_lt]; omega)
  · split
    · rename_i h; exact ⟨fun _ => h, fun _ => rfl⟩
    · rename_i h; exact ⟨fun q => absurd q (by decide), fun q => absurd q h⟩
theorem own_at {x y : Value} (h : x = y) : XT.acmp .eq x y = true ∧ XT.acmp .ne x y = false := by subst h; exact ⟨decide_eq_true rfl, decide_eq_false fun q => q rfl⟩
theorem own_af {x y : Value} (h : ¬ (x = y)) : XT.acmp .eq x y = false ∧ XT.acmp .ne x y = true := ⟨decide_eq_false h, decide_eq_true h⟩
theorem own_fld {s : State} {args : Array Value} {t u : Term} {C n d : String} {a : Addr} {v : Value} (ev : t.eval args s none [] s = some (.ref a)) (hu : u.eval args s none [] s = some v) (hq : (Cond.eq (.field t C n d) u).value args s none s [] = some true) : Fld s s.heap a C n d v := by
  refine Fld.start ?_
  obtain ⟨x, y, h1, h2, -, -⟩ := cmp_v (Or.inl hq)
  cases hu.symm.trans h2
  have h3 := h1
  rw [fld_at ev] at h3
  simp only [Cond.value, h1, h2] at hq
  rw [h3]
  cases x <;> cases v <;> simp at hq ⊢ <;> exact hq
section OwnArr
variable {p : Program} {l : Launch} {e : Env} {R : Room} {s : State} {m : MethodId} {args : Array Value} {below : List Frame} {meth : Method} {c : Code} {T : State} {locs : List Loc} {cells slots : Nat} {Z : State} {a0 : Array Value} {h h' : Heap} {a b : Addr} {ty : FieldType} {vs : List Value} {v : Value} {ws : List Addr} {sl : Nat}
/-- an array whose components are known, each -/
def own_Ar (Z : State) (h : Heap) (a : Addr) (ty : FieldType) (vs : List Value) : Prop := ∃ c : Cell, Arr Z h a c ty ∧ c.slots = vs.toArray
theorem own_Ar.ext (F : own_Ar Z h a ty vs) (E : Ext h h') : own_Ar Z h' a ty vs := by obtain ⟨c, A, q⟩ := F; exact ⟨c, A.ext E, q⟩
theorem own_Ar.other (F : own_Ar Z h b ty vs) (W : Wr h h' a sl v) (q : b ≠ a) : own_Ar Z h' b ty vs := by obtain ⟨c, A, r⟩ := F; exact ⟨c, A.other W q, r⟩
theorem own_Ar.keep (F : own_Ar Z h a ty vs) (K : Keep h h' ws) (q : a ∉ ws) : own_Ar Z h' a ty vs := by obtain ⟨c, A, r⟩ := F; exact ⟨c, ⟨K.2.1 a c A.1 q, A.2⟩, r⟩
theorem own_Ar.lt (F : own_Ar Z h a ty vs) : a < h.size := by obtain ⟨c, A, -⟩ := F; exact A.lt
theorem own_Ar.put (F : own_Ar Z h a ty vs) {j : Nat} (W : Wr h h' a j v) : own_Ar Z h' a ty (vs.set j v) := by
  obtain ⟨c, A, q⟩ := F
  refine ⟨_, A.same W, ?_⟩
  show c.slots.setIfInBounds j v = _
  rw [q, List.setIfInBounds_toArray]
theorem own_newP (X : Stand p l e R s m args below meth c T locs cells slots) (hx : p.tables.exec = Jvm.exec) (hZ : Z.Warmed39 s.vm) {aty : ArrayType} (w : (Cond.arrayClass (newarray.typeOf aty)).before a0 Z = true) (eT : T.heap = h) {g : JFrame} (hg : g.method = m) (hd : decode c.code g.pc = .ok (.newarray aty, 2)) {n : Int32} {rest : List Value} (hs : g.stack = .int n :: rest)
    (hn : ¬ n < 0) (k : Nat) (hk : n.toNatClampNeg = k) (hb : k * 8 ≤ 536870912) (hc : cells + 1 ≤ R.cells) (hl : slots + k ≤ R.slots) :
    ∃ T' h', Stand p l e R s m args below meth c T' locs (cells + 1) (slots + k) ∧ T'.heap = h' ∧ Ext h h' ∧ own_Ar Z h' h.size (newarray.typeOf aty) (List.replicate k (defaultValue (newarray.typeOf aty))) ∧
      ∀ target, Steps p.tables e below (T'.setTop { g with pc := g.pc + 2, stack := .ref h.size :: rest }) target → Steps p.tables e below (T.setTop g) target := by
  obtain ⟨T', h', cA, X', e', E, A, st⟩ := newP X hx hZ w eT hg hd hs hn (cap := k) (Nat.le_of_eq hk) hb hc hl
  refine ⟨T', h', X', e', E, ⟨_, A, ?_⟩, st⟩
  show Array.replicate n.toNatClampNeg _ = _
  rw [hk, ← List.toArray_replicate]
theorem own_in_of (F : own_Ar Z h a ty vs) {j : Int32} (hj : ¬ j < 0) (hl : j.toNatClampNeg < vs.length) : ∃ cl : Cell, Arr Z h a cl ty ∧ cl.slots = vs.toArray ∧ ¬ (j < 0 ∨ cl.slots.size ≤ j.toNatClampNeg) := by
  obtain ⟨cl, A, q⟩ := F
  refine ⟨cl, A, q, fun z => z.elim hj fun y => ?_⟩
  rw [q] at y
  exact absurd hl (Nat.not_lt.mpr (by simpa using y))
theorem own_stJ (X : Stand p l e R s m args below meth c T locs cells slots) (hx : p.tables.exec = Jvm.exec) (hZ : Z.Warmed39 s.vm) (eT : T.heap = h) (F : own_Ar Z h a .long vs) {j : Int32} {x : Int64} (hj : ¬ j < 0) (k : Nat) (hk : j.toNatClampNeg = k) (hl : k < vs.length) {g : JFrame} (hg : g.method = m) {rest : List Value} (hs : g.stack = .long x :: .int j :: .ref a :: rest) (hd : decode c.code g.pc = .ok (.lastore, 1)) :
    ∃ T' h', Stand p l e R s m args below meth c T' (locs ++ [⟨a, k⟩]) cells slots ∧ T'.heap = h' ∧ Wr h h' a k (.long x) ∧ own_Ar Z h' a .long (vs.set k (.long x)) ∧ ∀ target, Steps p.tables e below (T'.setTop { g with pc := g.pc + 1, stack := rest }) target → Steps p.tables e below (T.setTop g) target := by
  subst hk
  obtain ⟨cl, A, q, hin⟩ := own_in_of F hj hl
  obtain ⟨T', h', X', e', W, st⟩ := stJ X hx hZ eT A hin hg hs hd
  exact ⟨T', h', X', e', W, F.put W, st⟩
theorem own_stI (X : Stand p l e R s m args below meth c T locs cells slots) (hx : p.tables.exec = Jvm.exec) (hZ : Z.Warmed39 s.vm) (eT : T.heap = h) (F : own_Ar Z h a .int vs) {j x : Int32} (hj : ¬ j < 0) (k : Nat) (hk : j.toNatClampNeg = k) (hl : k < vs.length) {g : JFrame} (hg : g.method = m) {rest : List Value} (hs : g.stack = .int x :: .int j :: .ref a :: rest) (hd : decode c.code g.pc = .ok (.iastore, 1)) :
    ∃ T' h', Stand p l e R s m args below meth c T' (locs ++ [⟨a, k⟩]) cells slots ∧ T'.heap = h' ∧ Wr h h' a k (.int x) ∧ own_Ar Z h' a .int (vs.set k (.int x)) ∧ ∀ target, Steps p.tables e below (T'.setTop { g with pc := g.pc + 1, stack := rest }) target → Steps p.tables e below (T.setTop g) target := by
  subst hk
  obtain ⟨cl, A, q, hin⟩ := own_in_of F hj hl
  obtain ⟨T', h', X', e', W, st⟩ := stI X hx hZ eT A hin hg hs hd
  exact ⟨T', h', X', e', W, F.put W, st⟩
theorem own_stB (X : Stand p l e R s m args below meth c T locs cells slots) (hx : p.tables.exec = Jvm.exec) (hZ : Z.Warmed39 s.vm) (eT : T.heap = h) (F : own_Ar Z h a .byte vs) {j x : Int32} (hj : ¬ j < 0) (k : Nat) (hk : j.toNatClampNeg = k) (hl : k < vs.length) {g : JFrame} (hg : g.method = m) {rest : List Value} (hs : g.stack = .int x :: .int j :: .ref a :: rest) (hd : decode c.code g.pc = .ok (.bastore, 1)) :
    ∃ T' h', Stand p l e R s m args below meth c T' (locs ++ [⟨a, k⟩]) cells slots ∧ T'.heap = h' ∧ Wr h h' a k (.int (nar .byte x)) ∧ own_Ar Z h' a .byte (vs.set k (.int (nar .byte x))) ∧ ∀ target, Steps p.tables e below (T'.setTop { g with pc := g.pc + 1, stack := rest }) target → Steps p.tables e below (T.setTop g) target := by
  subst hk
  obtain ⟨cl, A, q, hin⟩ := own_in_of F hj hl
  obtain ⟨T', h', X', e', W, st⟩ := stB X hx hZ eT A hin hg hs hd
  exact ⟨T', h', X', e', W, F.put W, st⟩
theorem own_stC (X : Stand p l e R s m args below meth c T locs cells slots) (hx : p.tables.exec = Jvm.exec) (hZ : Z.Warmed39 s.vm) (eT : T.heap = h) (F : own_Ar Z h a .char vs) {j x : Int32} (hj : ¬ j < 0) (k : Nat) (hk : j.toNatClampNeg = k) (hl : k < vs.length) {g : JFrame} (hg : g.method = m) {rest : List Value} (hs : g.stack = .int x :: .int j :: .ref a :: rest) (hd : decode c.code g.pc = .ok (.castore, 1)) :
    ∃ T' h', Stand p l e R s m args below meth c T' (locs ++ [⟨a, k⟩]) cells slots ∧ T'.heap = h' ∧ Wr h h' a k (.int (nar .char x)) ∧ own_Ar Z h' a .char (vs.set k (.int (nar .char x))) ∧ ∀ target, Steps p.tables e below (T'.setTop { g with pc := g.pc + 1, stack := rest }) target → Steps p.tables e below (T.setTop g) target := by
  subst hk
  obtain ⟨cl, A, q, hin⟩ := own_in_of F hj hl
  obtain ⟨T', h', X', e', W, st⟩ := stC X hx hZ eT A hin hg hs hd
  exact ⟨T', h', X', e', W, F.put W, st⟩
theorem own_clone (X : Stand p l e R s m args below meth c T locs cells slots) (hx : p.tables.exec = Jvm.exec) (hZ : Z.Warmed39 s.vm) {own ad : String} {index : Nat} (hown : s.vm.findClass own = some m.cls)
    (w1 : (Cond.methodLink own index ⟨ad, "clone", "()Ljava/lang/Object;"⟩).before a0 Z = true) (w2 : (Cond.sameMethod ad "java/lang/Object" "clone" "()Ljava/lang/Object;").before a0 Z = true) (w3 : (Cond.native ⟨"java/lang/Object", "clone", "()Ljava/lang/Object;"⟩).before a0 Z = true)
    (w4 : (Cond.instanceMethod ⟨"java/lang/Object", "clone", "()Ljava/lang/Object;"⟩).before a0 Z = true) (w5 : (Cond.selects ad ⟨ad, "clone", "()Ljava/lang/Object;"⟩ ⟨"java/lang/Object", "clone", "()Ljava/lang/Object;"⟩).before a0 Z = true) (w6 : (Cond.castable ad "java/lang/Cloneable").before a0 Z = true)
    (eT : T.heap = h) (F : own_Ar Z h a ty vs) (hfit : ∀ v ∈ vs, fits ty v = true) (E : Exa Z h a ad) {g : JFrame} (hg : g.method = m) (hsize : g.locals.size = c.maxLocals) {rest : List Value} (hs : g.stack = .ref a :: rest) (hd : decode c.code g.pc = .ok (.invokevirtual index, 3))
    (hf : 1 ≤ R.frames) (W : Nat) (hW : 2 * g.monitorRoom + (rest.map fun v => v.category).sum ≤ W) (hl : W + 14 ≤ R.locals) (hc : cells + 1 ≤ R.cells) (kk : Nat) (hkk : vs.length = kk) (hsl : slots + kk ≤ R.slots) :
    ∃ T' h', Stand p l e R s m args below meth c T' locs (cells + 1) (slots + kk) ∧ T'.heap = h' ∧ Ext h h' ∧ own_Ar Z h' h.size ty vs ∧ Exa Z h' h.size ad ∧
      ∀ target, Steps p.tables e below (T'.setTop { g with pc := g.pc + 3, stack := .ref h.size :: rest }) target → Steps p.tables e below (T.setTop g) target := by
  obtain ⟨cl, A, q⟩ := F
  have FC : FitC Z cl := fitC_of A fun i hi v hv => hfit v (by rw [q, List.getElem?_toArray] at hv; exact List.mem_of_getElem? hv)
  obtain ⟨T', h', X', e', ex, A', E', st⟩ := cloneA X hx hZ hown w1 w2 w3 w4 w5 w6 eT A E FC hg hsize hs hd hf hW hl (cap := kk) (by rw [q, ← hkk]; simp) hc hsl
  exact ⟨T', h', X', e', ex, ⟨cloneOf cl, A', q⟩, E', st⟩
theorem own_StaK {C n d D : String} {w : Value} (S : Sta Z h C n d w) (E : Exa Z h a D) (K : Keep h h' [a]) : Sta Z h' C n d w := by
  obtain ⟨cf, i, k, f, st, cell, h1, h2, h3, h4, h5, h6, h7⟩ := S
  obtain ⟨c2, k2, e1, -, -, e4, -⟩ := E
  have ne : st ≠ a := fun z => by subst z; cases h5.symm.trans e1; rw [e4] at h6; cases h6
  exact ⟨cf, i, k, f, st, cell, h1, h2, h3, h4, K.2.1 st cell h5 (by simpa using ne), h6, h7⟩
theorem own_StaE {C n d : String} {w : Value} (S : Sta Z h C n d w) (K : Keep h h' []) : Sta Z h' C n d w := by
  obtain ⟨cf, i, k, f, st, cell, h1, h2, h3, h4, h5, h6, h7⟩ := S
  exact ⟨cf, i, k, f, st, cell, h1, h2, h3, h4, K.2.1 st cell h5 nin0, h6, h7⟩
theorem own_Xt {h0 : Heap} (O : Ext h0 h) (E : Ext h h') : Ext h0 h' := ⟨Nat.le_trans O.1 E.1, fun x c q => E.2 x c (O.2 x c q)⟩
theorem own_Xr (h : Heap) : Ext h h := ⟨Nat.le_refl _, fun _ _ q => q⟩
theorem own_Xk {h0 : Heap} (O : Ext h0 h) (K : Keep h h' ws) (q : ∀ x ∈ ws, h0.size ≤ x) : Ext h0 h' := ⟨Nat.le_trans O.1 K.1, fun x c r => K.2.1 x c (O.2 x c r) fun z => absurd (Array.getElem?_eq_some_iff.mp r).1 (Nat.not_lt.mpr (q x z))⟩
theorem own_Xw {h0 : Heap} (O : Ext h0 h) (W : Wr h h' a sl v) (q : h0.size ≤ a) : Ext h0 h' := own_Xk O (Keep.of_wr W) (allS q all0)
theorem own_val {cl : Cell} (q : cl.slots = vs.toArray) {j : Nat} (hv : vs[j]? = some v) : cl.slots[j]? = some v := by rw [q, List.getElem?_toArray]; exact hv
theorem own_lt {j : Nat} (hv : vs[j]? = some v) : j < vs.length := (List.getElem?_eq_some_iff.mp hv).1
theorem own_ldJ (X : Stand p l e R s m args below meth c T locs cells slots) (hx : p.tables.exec = Jvm.exec) (hZ : Z.Warmed39 s.vm) (eT : T.heap = h) (F : own_Ar Z h a .long vs) {j : Int32} (hj : ¬ j < 0) (hv : vs[j.toNatClampNeg]? = some v) {g : JFrame} (hg : g.method = m) {rest : List Value} (hs : g.stack = .int j :: .ref a :: rest) (hd : decode c.code g.pc = .ok (.laload, 1)) :
    ∀ target, Steps p.tables e below (T.setTop { g with pc := g.pc + 1, stack := v :: rest }) target → Steps p.tables e below (T.setTop g) target := by
  obtain ⟨cl, A, q, hin⟩ := own_in_of F hj (own_lt hv)
  exact fun t k => X.laload hx (by rw [eT]; exact A.1) (State.isArrayOf_alike hZ.alike A.2.1) A.2.2 hin (own_val q hv) hg hs hd t k
theorem own_ldI (X : Stand p l e R s m args below meth c T locs cells slots) (hx : p.tables.exec = Jvm.exec) (hZ : Z.Warmed39 s.vm) (eT : T.heap = h) (F : own_Ar Z h a .int vs) {j : Int32} (hj : ¬ j < 0) (hv : vs[j.toNatClampNeg]? = some v) {g : JFrame} (hg : g.method = m) {rest : List Value} (hs : g.stack = .int j :: .ref a :: rest) (hd : decode c.code g.pc = .ok (.iaload, 1)) :
    ∀ target, Steps p.tables e below (T.setTop { g with pc := g.pc + 1, stack := v :: rest }) target → Steps p.tables e below (T.setTop g) target := by
  obtain ⟨cl, A, q, hin⟩ := own_in_of F hj (own_lt hv)
  exact fun t k => X.iaload hx (by rw [eT]; exact A.1) (State.isArrayOf_alike hZ.alike A.2.1) A.2.2 hin (own_val q hv) hg hs hd t k
theorem own_ldB (X : Stand p l e R s m args below meth c T locs cells slots) (hx : p.tables.exec = Jvm.exec) (hZ : Z.Warmed39 s.vm) (eT : T.heap = h) (F : own_Ar Z h a .byte vs) {j : Int32} (hj : ¬ j < 0) (hv : vs[j.toNatClampNeg]? = some v) {g : JFrame} (hg : g.method = m) {rest : List Value} (hs : g.stack = .int j :: .ref a :: rest) (hd : decode c.code g.pc = .ok (.baload, 1)) :
    ∀ target, Steps p.tables e below (T.setTop { g with pc := g.pc + 1, stack := v :: rest }) target → Steps p.tables e below (T.setTop g) target := by
  obtain ⟨cl, A, q, hin⟩ := own_in_of F hj (own_lt hv)
  exact fun t k => X.baloadBytes hx (by rw [eT]; exact A.1) (State.isArrayOf_alike hZ.alike A.2.1) A.2.2 hin (own_val q hv) hg hs hd t k
theorem own_ldC (X : Stand p l e R s m args below meth c T locs cells slots) (hx : p.tables.exec = Jvm.exec) (hZ : Z.Warmed39 s.vm) (eT : T.heap = h) (F : own_Ar Z h a .char vs) {j : Int32} (hj : ¬ j < 0) (hv : vs[j.toNatClampNeg]? = some v) {g : JFrame} (hg : g.method = m) {rest : List Value} (hs : g.stack = .int j :: .ref a :: rest) (hd : decode c.code g.pc = .ok (.caload, 1)) :
    ∀ target, Steps p.tables e below (T.setTop { g with pc := g.pc + 1, stack := v :: rest }) target → Steps p.tables e below (T.setTop g) target := by
  obtain ⟨cl, A, q, hin⟩ := own_in_of F hj (own_lt hv)
  exact fun t k => X.caload hx (by rw [eT]; exact A.1) (State.isArrayOf_alike hZ.alike A.2.1) A.2.2 hin (own_val q hv) hg hs hd t k
theorem own_ldA (X : Stand p l e R s m args below meth c T locs cells slots) (hx : p.tables.exec = Jvm.exec) (hZ : Z.Warmed39 s.vm) (eT : T.heap = h) (hty : ty.isReference = true) (F : own_Ar Z h a ty vs) {j : Int32} (hj : ¬ j < 0) (hv : vs[j.toNatClampNeg]? = some v) {g : JFrame} (hg : g.method = m) {rest : List Value} (hs : g.stack = .int j :: .ref a :: rest) (hd : decode c.code g.pc = .ok (.aaload, 1)) :
    ∀ target, Steps p.tables e below (T.setTop { g with pc := g.pc + 1, stack := v :: rest }) target → Steps p.tables e below (T.setTop g) target := by
  obtain ⟨cl, A, q, hin⟩ := own_in_of F hj (own_lt hv)
  exact fun t k => X.aaload hx (by rw [eT]; exact A.1) (State.isArrayOf_alike hZ.alike A.2.1) hty A.2.2 hin (own_val q hv) hg hs hd t k
theorem own_len (X : Stand p l e R s m args below meth c T locs cells slots) (hx : p.tables.exec = Jvm.exec) (hZ : Z.Warmed39 s.vm) (eT : T.heap = h) (F : own_Ar Z h a ty vs) {n : Int32} (hn : vs.length.toInt32 = n) {g : JFrame} (hg : g.method = m) {rest : List Value} (hs : g.stack = .ref a :: rest) (hd : decode c.code g.pc = .ok (.arraylength, 1)) :
    ∀ target, Steps p.tables e below (T.setTop { g with pc := g.pc + 1, stack := .int n :: rest }) target → Steps p.tables e below (T.setTop g) target := by
  obtain ⟨cl, A, q⟩ := F
  intro t k
  refine X.arraylength hx (by rw [eT]; exact A.1) (State.isArrayOf_alike hZ.alike A.2.1) hg hs hd t ?_
  rw [q, List.size_toArray, hn]; exact k
end OwnArr
end Jvm.RoadKit
namespace Jvm.Pilot.@@N@@
open Jvm Jvm.ClassFile Sem Op Lib Jvm.Free Jvm.Stand Jvm.LawKit Jvm.RoadKit Bundle Jvm.Pilot.@@N@@.Jvm.D
theorem own_eqi {s : State} {args : Array Value} {a b : Term} {k : Int32} (hb : b.eval args s none [] s = some (.int k)) (hq : (Cond.eq a b).value args s none s [] = some true) : a.eval args s none [] s = some (.int k) := by
  obtain ⟨x, y, h1, h2, -, -⟩ := cmp_v (Or.inl hq)
  cases hb.symm.trans h2
  simp only [Cond.value, h1, h2] at hq
  rw [h1]
  cases x <;> simp at hq ⊢ <;> exact hq
theorem own_fldR {s : State} {args : Array Value} {t : Term} {C n d : String} {a : Addr} {v : Value} (ev : t.eval args s none [] s = some (.ref a)) (e : (Term.field t C n d).eval args s none [] s = some v) : Fld s s.heap a C n d v :=
  Fld.start ((fld_at ev).symm.trans e)
theorem own_lenS {s : State} {args : Array Value} {t : Term} {x : Addr} {cl : Cell} {k : Int32} (h : (Term.length t).eval args s none [] s = some (.int k)) (ht : t.eval args s none [] s = some (.ref x)) (hc : s.heap[x]? = some cl) (hk : ¬ k < 0) : cl.slots.size = k.toNatClampNeg := by
  simp only [Term.eval, Option.bind_eq_bind, ht, Option.bind_some] at h
  obtain ⟨cell, hcell, h⟩ := Option.bind_eq_some_iff.mp h
  have e1 : cell = cl := by
    cases hc.symm.trans (arrayAt_spec hcell).1; rfl
  subst e1
  by_cases hn : cell.slots.size < 2147483648
  · rw [if_pos hn] at h
    have h4 : cell.slots.size.toInt32 = k := by simpa using h
    rw [← h4]
    exact (Int32.toNatClampNeg_ofNat_of_lt hn).symm
  · rw [if_neg hn] at h; cases h
theorem own_ArS {Z : State} {a : Addr} {c : Cell} {ty : FieldType} {vs : List Value} (A : Arr Z Z.heap a c ty) (hs : c.slots.size = vs.length) (H : HasL c 0 vs) : own_Ar Z Z.heap a ty vs := by
  refine ⟨c, A, Array.ext_getElem? fun i => ?_⟩
  by_cases hi : i < vs.length
  · have q := HasL.at (dv := .null) vs 0 H i hi
    rw [Nat.zero_add] at q
    rw [q, List.getElem?_toArray, List.getD_eq_getElem?_getD, List.getElem?_eq_getElem hi]; rfl
  · rw [Array.getElem?_eq_none (by omega), List.getElem?_toArray, List.getElem?_eq_none (by omega)]
def own_F (Z : State) (h : Heap) (w_R w_C s_R s_C v_R v_C w_V : Addr) (cp : Int32) : Prop := Sta Z h "com/example/minsum/minsum/model/Norm" "RECTILINEAR" "Lcom/example/minsum/minsum/model/Norm;" (.ref w_R) ∧ Exa Z h w_R "com/example/minsum/minsum/model/Norm" ∧ Fld Z h w_R "com/example/minsum/minsum/model/Norm" "key" "Ljava/lang/String;" (.ref s_R) ∧ Exa Z h s_R "java/lang/String" ∧ Fld Z h s_R "java/lang/String" "value" "[B" (.ref v_R) ∧ Fld Z h s_R "java/lang/String" "coder" "B" (.int (0 : Int32)) ∧ own_Ar Z h v_R .byte [(.int (108 : Int32)), (.int (49 : Int32))] ∧ Sta Z h "com/example/minsum/minsum/model/Norm" "CHEBYSHEV" "Lcom/example/minsum/minsum/model/Norm;" (.ref w_C) ∧ Exa Z h w_C "com/example/minsum/minsum/model/Norm" ∧ Fld Z h w_C "com/example/minsum/minsum/model/Norm" "key" "Ljava/lang/String;" (.ref s_C) ∧ Exa Z h s_C "java/lang/String" ∧ Fld Z h s_C "java/lang/String" "value" "[B" (.ref v_C) ∧ Fld Z h s_C "java/lang/String" "coder" "B" (.int (0 : Int32)) ∧ own_Ar Z h v_C .byte [(.int (108 : Int32)), (.int (105 : Int32)), (.int (110 : Int32)), (.int (102 : Int32))] ∧ Sta Z h "com/example/minsum/minsum/model/Norm" "$VALUES" "[Lcom/example/minsum/minsum/model/Norm;" (.ref w_V) ∧ Exa Z h w_V "[Lcom/example/minsum/minsum/model/Norm;" ∧ own_Ar Z h w_V (.object "com/example/minsum/minsum/model/Norm") [(.ref w_R), (.ref w_C)] ∧ Sta Z h "java/lang/String" "COMPACT_STRINGS" "Z" (.int cp)
theorem own_Fx {Z : State} {h h' : Heap} {w_R w_C s_R s_C v_R v_C w_V : Addr} {cp : Int32} (F : own_F Z h w_R w_C s_R s_C v_R v_C w_V cp) (E : Ext h h') : own_F Z h' w_R w_C s_R s_C v_R v_C w_V cp := by
  obtain ⟨S_R, E_R, G_R, X_R, H_R, D_R, R_R, S_C, E_C, G_C, X_C, H_C, D_C, R_C, S_V, E_V, R_V, S_cp⟩ := F
  exact ⟨Sta.ext E S_R, E_R.ext E, G_R.ext E, X_R.ext E, H_R.ext E, D_R.ext E, R_R.ext E, Sta.ext E S_C, E_C.ext E, G_C.ext E, X_C.ext E, H_C.ext E, D_C.ext E, R_C.ext E, Sta.ext E S_V, E_V.ext E, R_V.ext E, Sta.ext E S_cp⟩
theorem own_eqr {s : State} {args : Array Value} {a b : Term} {k : Addr} (hb : b.eval args s none [] s = some (.ref k)) (hq : (Cond.eq a b).value args s none s [] = some true) : a.eval args s none [] s = some (.ref k) := by
  obtain ⟨x, y, h1, h2, -, -⟩ := cmp_v (Or.inl hq)
  cases hb.symm.trans h2
  simp only [Cond.value, h1, h2] at hq
  rw [h1]
  cases x <;> simp at hq ⊢ <;> exact hq
theorem d5_0 : decode jdk_52_method_21_code 0 = .ok (.iconst 0, 1) := by decide +kernel
theorem d5_1 : decode jdk_52_method_21_code 1 = .ok (.istore 5, 2) := by decide +kernel
theorem d5_3 : decode jdk_52_method_21_code 3 = .ok (.iload 5, 2) := by decide +kernel
theorem d5_5 : decode jdk_52_method_21_code 5 = .ok (.iload 4, 2) := by decide +kernel
theorem d5_7 : decode jdk_52_method_21_code 7 = .ok (.if_icmp .ge 37, 3) := by decide +kernel
theorem d5_10 : decode jdk_52_method_21_code 10 = .ok (.aload_n 0, 1) := by decide +kernel
theorem d5_11 : decode jdk_52_method_21_code 11 = .ok (.iload_n 1, 1) := by decide +kernel
theorem d5_12 : decode jdk_52_method_21_code 12 = .ok (.caload, 1) := by decide +kernel
theorem d5_13 : decode jdk_52_method_21_code 13 = .ok (.istore 6, 2) := by decide +kernel
theorem d5_15 : decode jdk_52_method_21_code 15 = .ok (.iload 6, 2) := by decide +kernel
theorem d5_17 : decode jdk_52_method_21_code 17 = .ok (.sipush 255, 3) := by decide +kernel
theorem d5_20 : decode jdk_52_method_21_code 20 = .ok (.if_icmp .le 6, 3) := by decide +kernel
theorem d5_26 : decode jdk_52_method_21_code 26 = .ok (.aload_n 2, 1) := by decide +kernel
theorem d5_27 : decode jdk_52_method_21_code 27 = .ok (.iload_n 3, 1) := by decide +kernel
theorem d5_28 : decode jdk_52_method_21_code 28 = .ok (.iload 6, 2) := by decide +kernel
theorem d5_30 : decode jdk_52_method_21_code 30 = .ok (.i2b, 1) := by decide +kernel
theorem d5_31 : decode jdk_52_method_21_code 31 = .ok (.bastore, 1) := by decide +kernel
theorem d5_32 : decode jdk_52_method_21_code 32 = .ok (.iinc 1 1, 3) := by decide +kernel
theorem d5_35 : decode jdk_52_method_21_code 35 = .ok (.iinc 3 1, 3) := by decide +kernel
theorem d5_38 : decode jdk_52_method_21_code 38 = .ok (.iinc 5 1, 3) := by decide +kernel
theorem d5_41 : decode jdk_52_method_21_code 41 = .ok (.goto (-38), 3) := by decide +kernel
theorem d5_44 : decode jdk_52_method_21_code 44 = .ok (.iload 4, 2) := by decide +kernel
theorem d5_46 : decode jdk_52_method_21_code 46 = .ok (.ireturn, 1) := by decide +kernel
set_option maxRecDepth 65536 in
set_option maxHeartbeats 40000000 in
theorem rm_c5_R (l : Launch) (Z : State) (a0 : Array Value) (hw : ∀ d ∈ tables_1, d.before a0 Z = true) (ws : List Jvm.Cond) (n0 : Nat) (cs b : Addr) (h0 : Heap) (Z0 : n0 ≤ h0.size) (gb : n0 ≤ b) (hne : cs ≠ b) (A : own_Ar Z h0 cs .char [(.int (108 : Int32)), (.int (49 : Int32))]) (B : own_Ar Z h0 b .byte [(.int (0 : Int32)), (.int (0 : Int32))]) :
    own_Met l (⟨"java/lang/StringUTF16", "compress", "([CI[BII)I"⟩ : MethodName) jdk_52_method_21_code 7 (some .int) ws ({ frames := 0, cells := 0, slots := 0, locals := 0 } : Room) Z #[(.ref cs), (.int (0 : Int32)), (.ref b), (.int (0 : Int32)), (.int (2 : Int32))] h0 (fun v h L => v = some (.int (2 : Int32)) ∧ Fr n0 L ∧ Keep h0 h [b] ∧ own_Ar Z h b .byte [(.int (108 : Int32)), (.int (49 : Int32))]) := by
  refine MetFree.of_bodySF (plainFor_of_name (by first | (simp [plainName, overriddenIn]; done) | decide +kernel)) hisR ?_
  intro p e s m args below meth c s₁ Bd hml0 hP hK
  obtain ⟨rfl, hZ, hh⟩ := hP
  have hx := Bd.exec
  have hby := Bd.bytes
  have hml : c.maxLocals = 7 := hml0
  have hown : s.vm.findClass "java/lang/StringUTF16" = some m.cls := findClass_of_methodNamed Bd.named
  have hnm := (name_of_methodNamed Bd.named Bd.method).1
  have hlk : meth.locks = false := Bd.notSynchronized
  have hret := Bd.returns
  have X0 : Stand p l e ({ frames := 0, cells := 0, slots := 0, locals := 0 } : Room) s m #[(.ref cs), (.int (0 : Int32)), (.ref b), (.int (0 : Int32)), (.int (2 : Int32))] below meth c s₁ [] 0 0 := Stand.of_body Bd
  have e0 : s₁.heap = h0 := by rw [← hh, Bd.state]; rfl
  refine own_in (Q := fun v h L => v = some (.int (2 : Int32)) ∧ Fr n0 L ∧ Keep h0 h [b] ∧ own_Ar Z h b .byte [(.int (108 : Int32)), (.int (49 : Int32))]) (ef := by first | (simp [entryFrame, mkF, argsToLocals, Value.category, maxLocals]; done) | rfl) (g' := (mkF m 0 #[.val (.ref cs), .val (.int (0 : Int32)), .val (.ref b), .val (.int (0 : Int32)), .val (.int (2 : Int32)), .unset, .unset] [])) ?_
  refine own_go (T' := s₁) (g' := (mkF m 1 #[.val (.ref cs), .val (.int (0 : Int32)), .val (.ref b), .val (.int (0 : Int32)), .val (.int (2 : Int32)), .unset, .unset] [(.int (0 : Int32))])) (fun t q => XS.iconst X0.here hx rfl (hb hby d5_0) q) ?_
  refine own_go (T' := s₁) (g' := (mkF m 3 #[.val (.ref cs), .val (.int (0 : Int32)), .val (.ref b), .val (.int (0 : Int32)), .val (.int (2 : Int32)), .val (.int (0 : Int32)), .unset] [])) (fun t q => XS.istore X0.here hx rfl (hb hby d5_1) rfl (l' := #[.val (.ref cs), .val (.int (0 : Int32)), .val (.ref b), .val (.int (0 : Int32)), .val (.int (2 : Int32)), .val (.int (0 : Int32)), .unset]) rfl q) ?_
  refine own_go (T' := s₁) (g' := (mkF m 5 #[.val (.ref cs), .val (.int (0 : Int32)), .val (.ref b), .val (.int (0 : Int32)), .val (.int (2 : Int32)), .val (.int (0 : Int32)), .unset] [(.int (0 : Int32))])) (fun t q => XS.iload X0.here hx rfl (hb hby d5_3) rfl q) ?_
  refine own_go (T' := s₁) (g' := (mkF m 7 #[.val (.ref cs), .val (.int (0 : Int32)), .val (.ref b), .val (.int (0 : Int32)), .val (.int (2 : Int32)), .val (.int (0 : Int32)), .unset] [(.int (2 : Int32)), (.int (0 : Int32))])) (fun t q => XS.iload X0.here hx rfl (hb hby d5_5) rfl q) ?_
  have c1 : (0 : Int32) < (2 : Int32) := by decide
  refine own_go (T' := s₁) (g' := (mkF m 10 #[.val (.ref cs), .val (.int (0 : Int32)), .val (.ref b), .val (.int (0 : Int32)), .val (.int (2 : Int32)), .val (.int (0 : Int32)), .unset] [])) (fun t q => XS.icmpNo X0.here hx rfl (hb hby d5_7) rfl (tlt c1).2.1 q) ?_
  refine own_go (T' := s₁) (g' := (mkF m 11 #[.val (.ref cs), .val (.int (0 : Int32)), .val (.ref b), .val (.int (0 : Int32)), .val (.int (2 : Int32)), .val (.int (0 : Int32)), .unset] [(.ref cs)])) (fun t q => XS.aloadN X0.here hx rfl (hb hby d5_10) rfl rfl q) ?_
  refine own_go (T' := s₁) (g' := (mkF m 12 #[.val (.ref cs), .val (.int (0 : Int32)), .val (.ref b), .val (.int (0 : Int32)), .val (.int (2 : Int32)), .val (.int (0 : Int32)), .unset] [(.int (0 : Int32)), (.ref cs)])) (fun t q => XS.iloadN X0.here hx rfl (hb hby d5_11) rfl q) ?_
  refine own_go (T' := s₁) (g' := (mkF m 13 #[.val (.ref cs), .val (.int (0 : Int32)), .val (.ref b), .val (.int (0 : Int32)), .val (.int (2 : Int32)), .val (.int (0 : Int32)), .unset] [(.int (108 : Int32))])) (fun t q => own_ldC X0 hx hZ e0 A (by decide) rfl (g := (mkF m 12 #[.val (.ref cs), .val (.int (0 : Int32)), .val (.ref b), .val (.int (0 : Int32)), .val (.int (2 : Int32)), .val (.int (0 : Int32)), .unset] [(.int (0 : Int32)), (.ref cs)])) rfl rfl (hb hby d5_12) t q) ?_
  refine own_go (T' := s₁) (g' := (mkF m 15 #[.val (.ref cs), .val (.int (0 : Int32)), .val (.ref b), .val (.int (0 : Int32)), .val (.int (2 : Int32)), .val (.int (0 : Int32)), .val (.int (108 : Int32))] [])) (fun t q => XS.istore X0.here hx rfl (hb hby d5_13) rfl (l' := #[.val (.ref cs), .val (.int (0 : Int32)), .val (.ref b), .val (.int (0 : Int32)), .val (.int (2 : Int32)), .val (.int (0 : Int32)), .val (.int (108 : Int32))]) rfl q) ?_
  refine own_go (T' := s₁) (g' := (mkF m 17 #[.val (.ref cs), .val (.int (0 : Int32)), .val (.ref b), .val (.int (0 : Int32)), .val (.int (2 : Int32)), .val (.int (0 : Int32)), .val (.int (108 : Int32))] [(.int (108 : Int32))])) (fun t q => XS.iload X0.here hx rfl (hb hby d5_15) rfl q) ?_
  refine own_go (T' := s₁) (g' := (mkF m 20 #[.val (.ref cs), .val (.int (0 : Int32)), .val (.ref b), .val (.int (0 : Int32)), .val (.int (2 : Int32)), .val (.int (0 : Int32)), .val (.int (108 : Int32))] [(.int (255 : Int32)), (.int (108 : Int32))])) (fun t q => XS.sipush X0.here hx rfl (hb hby d5_17) q) ?_
  have c2 : ¬ ((255 : Int32) < (108 : Int32)) := by decide
  refine own_go (T' := s₁) (g' := (mkF m 26 #[.val (.ref cs), .val (.int (0 : Int32)), .val (.ref b), .val (.int (0 : Int32)), .val (.int (2 : Int32)), .val (.int (0 : Int32)), .val (.int (108 : Int32))] [])) (fun t q => XS.icmpYes X0.here hx rfl (pc0 := 20) (pc' := 26) rfl (hb hby d5_20) rfl (flt c2).2.2.2 (by decide) (by decide) q) ?_
  refine own_go (T' := s₁) (g' := (mkF m 27 #[.val (.ref cs), .val (.int (0 : Int32)), .val (.ref b), .val (.int (0 : Int32)), .val (.int (2 : Int32)), .val (.int (0 : Int32)), .val (.int (108 : Int32))] [(.ref b)])) (fun t q => XS.aloadN X0.here hx rfl (hb hby d5_26) rfl rfl q) ?_
  refine own_go (T' := s₁) (g' := (mkF m 28 #[.val (.ref cs), .val (.int (0 : Int32)), .val (.ref b), .val (.int (0 : Int32)), .val (.int (2 : Int32)), .val (.int (0 : Int32)), .val (.int (108 : Int32))] [(.int (0 : Int32)), (.ref b)])) (fun t q => XS.iloadN X0.here hx rfl (hb hby d5_27) rfl q) ?_
  refine own_go (T' := s₁) (g' := (mkF m 30 #[.val (.ref cs), .val (.int (0 : Int32)), .val (.ref b), .val (.int (0 : Int32)), .val (.int (2 : Int32)), .val (.int (0 : Int32)), .val (.int (108 : Int32))] [(.int (108 : Int32)), (.int (0 : Int32)), (.ref b)])) (fun t q => XS.iload X0.here hx rfl (hb hby d5_28) rfl q) ?_
  refine own_go (T' := s₁) (g' := (mkF m 31 #[.val (.ref cs), .val (.int (0 : Int32)), .val (.ref b), .val (.int (0 : Int32)), .val (.int (2 : Int32)), .val (.int (0 : Int32)), .val (.int (108 : Int32))] [(.int (108 : Int32)), (.int (0 : Int32)), (.ref b)])) (fun t q => XT.i2b X0.here hx rfl (hb hby d5_30) rfl q) ?_
  obtain ⟨T3, h3, X3, e3, W3, A3, st3⟩ := own_stB X0 hx hZ e0 B (by decide) 0 (by decide) (by show 0 < 2; decide) (g := (mkF m 31 #[.val (.ref cs), .val (.int (0 : Int32)), .val (.ref b), .val (.int (0 : Int32)), .val (.int (2 : Int32)), .val (.int (0 : Int32)), .val (.int (108 : Int32))] [(.int (108 : Int32)), (.int (0 : Int32)), (.ref b)])) rfl rfl (hb hby d5_31)
  have N3 := Fr.snoc X3 (Fr.nil _) gb
  have f4 := A.other W3 hne
  have P3 : Keep h0 h3 [b] := (Keep.refl _ _).wr W3 (Or.inl (List.mem_of_getElem? (i := 0) rfl))
  have f3_ : own_Ar Z h3 b .byte [(.int (108 : Int32)), (.int (0 : Int32))] := A3
  have sz3 : n0 ≤ h3.size := by rw [W3.size]; exact Z0
  refine own_go (T' := T3) (g' := (mkF m 32 #[.val (.ref cs), .val (.int (0 : Int32)), .val (.ref b), .val (.int (0 : Int32)), .val (.int (2 : Int32)), .val (.int (0 : Int32)), .val (.int (108 : Int32))] [])) (fun t q => st3 t q) ?_
  refine own_go (T' := T3) (g' := (mkF m 35 #[.val (.ref cs), .val (.int (1 : Int32)), .val (.ref b), .val (.int (0 : Int32)), .val (.int (2 : Int32)), .val (.int (0 : Int32)), .val (.int (108 : Int32))] [])) (fun t q => XS.iinc X3.here hx rfl (hb hby d5_32) rfl (l' := #[.val (.ref cs), .val (.int (1 : Int32)), .val (.ref b), .val (.int (0 : Int32)), .val (.int (2 : Int32)), .val (.int (0 : Int32)), .val (.int (108 : Int32))]) rfl q) ?_
  refine own_go (T' := T3) (g' := (mkF m 38 #[.val (.ref cs), .val (.int (1 : Int32)), .val (.ref b), .val (.int (1 : Int32)), .val (.int (2 : Int32)), .val (.int (0 : Int32)), .val (.int (108 : Int32))] [])) (fun t q => XS.iinc X3.here hx rfl (hb hby d5_35) rfl (l' := #[.val (.ref cs), .val (.int (1 : Int32)), .val (.ref b), .val (.int (1 : Int32)), .val (.int (2 : Int32)), .val (.int (0 : Int32)), .val (.int (108 : Int32))]) rfl q) ?_
  refine own_go (T' := T3) (g' := (mkF m 41 #[.val (.ref cs), .val (.int (1 : Int32)), .val (.ref b), .val (.int (1 : Int32)), .val (.int (2 : Int32)), .val (.int (1 : Int32)), .val (.int (108 : Int32))] [])) (fun t q => XS.iinc X3.here hx rfl (hb hby d5_38) rfl (l' := #[.val (.ref cs), .val (.int (1 : Int32)), .val (.ref b), .val (.int (1 : Int32)), .val (.int (2 : Int32)), .val (.int (1 : Int32)), .val (.int (108 : Int32))]) rfl q) ?_
  refine own_go (T' := T3) (g' := (mkF m 3 #[.val (.ref cs), .val (.int (1 : Int32)), .val (.ref b), .val (.int (1 : Int32)), .val (.int (2 : Int32)), .val (.int (1 : Int32)), .val (.int (108 : Int32))] [])) (fun t q => XS.goto X3.here hx rfl (pc0 := 41) (pc' := 3) rfl (hb hby d5_41) (by decide) (by decide) q) ?_
  refine own_go (T' := T3) (g' := (mkF m 5 #[.val (.ref cs), .val (.int (1 : Int32)), .val (.ref b), .val (.int (1 : Int32)), .val (.int (2 : Int32)), .val (.int (1 : Int32)), .val (.int (108 : Int32))] [(.int (1 : Int32))])) (fun t q => XS.iload X3.here hx rfl (hb hby d5_3) rfl q) ?_
  refine own_go (T' := T3) (g' := (mkF m 7 #[.val (.ref cs), .val (.int (1 : Int32)), .val (.ref b), .val (.int (1 : Int32)), .val (.int (2 : Int32)), .val (.int (1 : Int32)), .val (.int (108 : Int32))] [(.int (2 : Int32)), (.int (1 : Int32))])) (fun t q => XS.iload X3.here hx rfl (hb hby d5_5) rfl q) ?_
  have c5 : (1 : Int32) < (2 : Int32) := by decide
  refine own_go (T' := T3) (g' := (mkF m 10 #[.val (.ref cs), .val (.int (1 : Int32)), .val (.ref b), .val (.int (1 : Int32)), .val (.int (2 : Int32)), .val (.int (1 : Int32)), .val (.int (108 : Int32))] [])) (fun t q => XS.icmpNo X3.here hx rfl (hb hby d5_7) rfl (tlt c5).2.1 q) ?_
  refine own_go (T' := T3) (g' := (mkF m 11 #[.val (.ref cs), .val (.int (1 : Int32)), .val (.ref b), .val (.int (1 : Int32)), .val (.int (2 : Int32)), .val (.int (1 : Int32)), .val (.int (108 : Int32))] [(.ref cs)])) (fun t q => XS.aloadN X3.here hx rfl (hb hby d5_10) rfl rfl q) ?_
  refine own_go (T' := T3) (g' := (mkF m 12 #[.val (.ref cs), .val (.int (1 : Int32)), .val (.ref b), .val (.int (1 : Int32)), .val (.int (2 : Int32)), .val (.int (1 : Int32)), .val (.int (108 : Int32))] [(.int (1 : Int32)), (.ref cs)])) (fun t q => XS.iloadN X3.here hx rfl (hb hby d5_11) rfl q) ?_
  refine own_go (T' := T3) (g' := (mkF m 13 #[.val (.ref cs), .val (.int (1 : Int32)), .val (.ref b), .val (.int (1 : Int32)), .val (.int (2 : Int32)), .val (.int (1 : Int32)), .val (.int (108 : Int32))] [(.int (49 : Int32))])) (fun t q => own_ldC X3 hx hZ e3 f4 (by decide) rfl (g := (mkF m 12 #[.val (.ref cs), .val (.int (1 : Int32)), .val (.ref b), .val (.int (1 : Int32)), .val (.int (2 : Int32)), .val (.int (1 : Int32)), .val (.int (108 : Int32))] [(.int (1 : Int32)), (.ref cs)])) rfl rfl (hb hby d5_12) t q) ?_
  refine own_go (T' := T3) (g' := (mkF m 15 #[.val (.ref cs), .val (.int (1 : Int32)), .val (.ref b), .val (.int (1 : Int32)), .val (.int (2 : Int32)), .val (.int (1 : Int32)), .val (.int (49 : Int32))] [])) (fun t q => XS.istore X3.here hx rfl (hb hby d5_13) rfl (l' := #[.val (.ref cs), .val (.int (1 : Int32)), .val (.ref b), .val (.int (1 : Int32)), .val (.int (2 : Int32)), .val (.int (1 : Int32)), .val (.int (49 : Int32))]) rfl q) ?_
  refine own_go (T' := T3) (g' := (mkF m 17 #[.val (.ref cs), .val (.int (1 : Int32)), .val (.ref b), .val (.int (1 : Int32)), .val (.int (2 : Int32)), .val (.int (1 : Int32)), .val (.int (49 : Int32))] [(.int (49 : Int32))])) (fun t q => XS.iload X3.here hx rfl (hb hby d5_15) rfl q) ?_
  refine own_go (T' := T3) (g' := (mkF m 20 #[.val (.ref cs), .val (.int (1 : Int32)), .val (.ref b), .val (.int (1 : Int32)), .val (.int (2 : Int32)), .val (.int (1 : Int32)), .val (.int (49 : Int32))] [(.int (255 : Int32)), (.int (49 : Int32))])) (fun t q => XS.sipush X3.here hx rfl (hb hby d5_17) q) ?_
  have c6 : ¬ ((255 : Int32) < (49 : Int32)) := by decide
  refine own_go (T' := T3) (g' := (mkF m 26 #[.val (.ref cs), .val (.int (1 : Int32)), .val (.ref b), .val (.int (1 : Int32)), .val (.int (2 : Int32)), .val (.int (1 : Int32)), .val (.int (49 : Int32))] [])) (fun t q => XS.icmpYes X3.here hx rfl (pc0 := 20) (pc' := 26) rfl (hb hby d5_20) rfl (flt c6).2.2.2 (by decide) (by decide) q) ?_
  refine own_go (T' := T3) (g' := (mkF m 27 #[.val (.ref cs), .val (.int (1 : Int32)), .val (.ref b), .val (.int (1 : Int32)), .val (.int (2 : Int32)), .val (.int (1 : Int32)), .val (.int (49 : Int32))] [(.ref b)])) (fun t q => XS.aloadN X3.here hx rfl (hb hby d5_26) rfl rfl q) ?_
  refine own_go (T' := T3) (g' := (mkF m 28 #[.val (.ref cs), .val (.int (1 : Int32)), .val (.ref b), .val (.int (1 : Int32)), .val (.int (2 : Int32)), .val (.int (1 : Int32)), .val (.int (49 : Int32))] [(.int (1 : Int32)), (.ref b)])) (fun t q => XS.iloadN X3.here hx rfl (hb hby d5_27) rfl q) ?_
  refine own_go (T' := T3) (g' := (mkF m 30 #[.val (.ref cs), .val (.int (1 : Int32)), .val (.ref b), .val (.int (1 : Int32)), .val (.int (2 : Int32)), .val (.int (1 : Int32)), .val (.int (49 : Int32))] [(.int (49 : Int32)), (.int (1 : Int32)), (.ref b)])) (fun t q => XS.iload X3.here hx rfl (hb hby d5_28) rfl q) ?_
  refine own_go (T' := T3) (g' := (mkF m 31 #[.val (.ref cs), .val (.int (1 : Int32)), .val (.ref b), .val (.int (1 : Int32)), .val (.int (2 : Int32)), .val (.int (1 : Int32)), .val (.int (49 : Int32))] [(.int (49 : Int32)), (.int (1 : Int32)), (.ref b)])) (fun t q => XT.i2b X3.here hx rfl (hb hby d5_30) rfl q) ?_
  obtain ⟨T7, h7, X7, e7, W7, A7, st7⟩ := own_stB X3 hx hZ e3 f3_ (by decide) 1 (by decide) (by show 1 < 2; decide) (g := (mkF m 31 #[.val (.ref cs), .val (.int (1 : Int32)), .val (.ref b), .val (.int (1 : Int32)), .val (.int (2 : Int32)), .val (.int (1 : Int32)), .val (.int (49 : Int32))] [(.int (49 : Int32)), (.int (1 : Int32)), (.ref b)])) rfl rfl (hb hby d5_31)
  have N7 := Fr.snoc X7 N3 gb
  have f8 := f4.other W7 hne
  have P7 : Keep h0 h7 [b] := P3.wr W7 (Or.inl (List.mem_of_getElem? (i := 0) rfl))
  have f7_ : own_Ar Z h7 b .byte [(.int (108 : Int32)), (.int (49 : Int32))] := A7
  have sz7 : n0 ≤ h7.size := by rw [W7.size]; exact sz3
  refine own_go (T' := T7) (g' := (mkF m 32 #[.val (.ref cs), .val (.int (1 : Int32)), .val (.ref b), .val (.int (1 : Int32)), .val (.int (2 : Int32)), .val (.int (1 : Int32)), .val (.int (49 : Int32))] [])) (fun t q => st7 t q) ?_
  refine own_go (T' := T7) (g' := (mkF m 35 #[.val (.ref cs), .val (.int (2 : Int32)), .val (.ref b), .val (.int (1 : Int32)), .val (.int (2 : Int32)), .val (.int (1 : Int32)), .val (.int (49 : Int32))] [])) (fun t q => XS.iinc X7.here hx rfl (hb hby d5_32) rfl (l' := #[.val (.ref cs), .val (.int (2 : Int32)), .val (.ref b), .val (.int (1 : Int32)), .val (.int (2 : Int32)), .val (.int (1 : Int32)), .val (.int (49 : Int32))]) rfl q) ?_
  refine own_go (T' := T7) (g' := (mkF m 38 #[.val (.ref cs), .val (.int (2 : Int32)), .val (.ref b), .val (.int (2 : Int32)), .val (.int (2 : Int32)), .val (.int (1 : Int32)), .val (.int (49 : Int32))] [])) (fun t q => XS.iinc X7.here hx rfl (hb hby d5_35) rfl (l' := #[.val (.ref cs), .val (.int (2 : Int32)), .val (.ref b), .val (.int (2 : Int32)), .val (.int (2 : Int32)), .val (.int (1 : Int32)), .val (.int (49 : Int32))]) rfl q) ?_
  refine own_go (T' := T7) (g' := (mkF m 41 #[.val (.ref cs), .val (.int (2 : Int32)), .val (.ref b), .val (.int (2 : Int32)), .val (.int (2 : Int32)), .val (.int (2 : Int32)), .val (.int (49 : Int32))] [])) (fun t q => XS.iinc X7.here hx rfl (hb hby d5_38) rfl (l' := #[.val (.ref cs), .val (.int (2 : Int32)), .val (.ref b), .val (.int (2 : Int32)), .val (.int (2 : Int32)), .val (.int (2 : Int32)), .val (.int (49 : Int32))]) rfl q) ?_
  refine own_go (T' := T7) (g' := (mkF m 3 #[.val (.ref cs), .val (.int (2 : Int32)), .val (.ref b), .val (.int (2 : Int32)), .val (.int (2 : Int32)), .val (.int (2 : Int32)), .val (.int (49 : Int32))] [])) (fun t q => XS.goto X7.here hx rfl (pc0 := 41) (pc' := 3) rfl (hb hby d5_41) (by decide) (by decide) q) ?_
  refine own_go (T' := T7) (g' := (mkF m 5 #[.val (.ref cs), .val (.int (2 : Int32)), .val (.ref b), .val (.int (2 : Int32)), .val (.int (2 : Int32)), .val (.int (2 : Int32)), .val (.int (49 : Int32))] [(.int (2 : Int32))])) (fun t q => XS.iload X7.here hx rfl (hb hby d5_3) rfl q) ?_
  refine own_go (T' := T7) (g' := (mkF m 7 #[.val (.ref cs), .val (.int (2 : Int32)), .val (.ref b), .val (.int (2 : Int32)), .val (.int (2 : Int32)), .val (.int (2 : Int32)), .val (.int (49 : Int32))] [(.int (2 : Int32)), (.int (2 : Int32))])) (fun t q => XS.iload X7.here hx rfl (hb hby d5_5) rfl q) ?_
  have c9 : ¬ ((2 : Int32) < (2 : Int32)) := by decide
  refine own_go (T' := T7) (g' := (mkF m 44 #[.val (.ref cs), .val (.int (2 : Int32)), .val (.ref b), .val (.int (2 : Int32)), .val (.int (2 : Int32)), .val (.int (2 : Int32)), .val (.int (49 : Int32))] [])) (fun t q => XS.icmpYes X7.here hx rfl (pc0 := 7) (pc' := 44) rfl (hb hby d5_7) rfl (flt c9).2.1 (by decide) (by decide) q) ?_
  refine own_go (T' := T7) (g' := (mkF m 46 #[.val (.ref cs), .val (.int (2 : Int32)), .val (.ref b), .val (.int (2 : Int32)), .val (.int (2 : Int32)), .val (.int (2 : Int32)), .val (.int (49 : Int32))] [(.int (2 : Int32))])) (fun t q => XS.iload X7.here hx rfl (hb hby d5_44) rfl q) ?_
  refine own_outI X7 hx hlk hret (hb hby d5_46) ?_ (by decide) (by decide)
  rw [e7]
  exact ⟨rfl, N7, P7, f7_⟩
theorem d4_0 : decode jdk_52_method_16_code 0 = .ok (.iload_n 2, 1) := by decide +kernel
theorem d4_1 : decode jdk_52_method_16_code 1 = .ok (.newarray .byte, 2) := by decide +kernel
theorem d4_3 : decode jdk_52_method_16_code 3 = .ok (.astore_n 3, 1) := by decide +kernel
theorem d4_4 : decode jdk_52_method_16_code 4 = .ok (.aload_n 0, 1) := by decide +kernel
theorem d4_5 : decode jdk_52_method_16_code 5 = .ok (.iload_n 1, 1) := by decide +kernel
theorem d4_6 : decode jdk_52_method_16_code 6 = .ok (.aload_n 3, 1) := by decide +kernel
theorem d4_7 : decode jdk_52_method_16_code 7 = .ok (.iconst 0, 1) := by decide +kernel
theorem d4_8 : decode jdk_52_method_16_code 8 = .ok (.iload_n 2, 1) := by decide +kernel
theorem d4_9 : decode jdk_52_method_16_code 9 = .ok (.invokestatic 115, 3) := by decide +kernel
theorem d4_12 : decode jdk_52_method_16_code 12 = .ok (.istore 4, 2) := by decide +kernel
theorem d4_14 : decode jdk_52_method_16_code 14 = .ok (.iload 4, 2) := by decide +kernel
theorem d4_16 : decode jdk_52_method_16_code 16 = .ok (.iload_n 2, 1) := by decide +kernel
theorem d4_17 : decode jdk_52_method_16_code 17 = .ok (.if_icmp .eq 40, 3) := by decide +kernel
theorem d4_57 : decode jdk_52_method_16_code 57 = .ok (.aload_n 3, 1) := by decide +kernel
theorem d4_58 : decode jdk_52_method_16_code 58 = .ok (.areturn, 1) := by decide +kernel
set_option maxRecDepth 65536 in
set_option maxHeartbeats 40000000 in
theorem rm_c3_R (l : Launch) (Z : State) (a0 : Array Value) (hw : ∀ d ∈ tables_1, d.before a0 Z = true) (ws : List Jvm.Cond) (n0 : Nat) (cs : Addr) (h0 : Heap) (Z0 : n0 ≤ h0.size) (A : own_Ar Z h0 cs .char [(.int (108 : Int32)), (.int (49 : Int32))]) :
    own_Met l (⟨"java/lang/StringUTF16", "compress", "([CII)[B"⟩ : MethodName) jdk_52_method_16_code 6 (some (.array .byte)) ws ({ frames := 1, cells := 1, slots := 2, locals := 18 } : Room) Z #[(.ref cs), (.int (0 : Int32)), (.int (2 : Int32))] h0 (fun v h L => ∃ b : Addr, v = some (.ref b) ∧ Fr n0 L ∧ Keep h0 h [] ∧ own_Ar Z h b .byte [(.int (108 : Int32)), (.int (49 : Int32))] ∧ n0 ≤ b ∧ h0.size ≤ b) := by
  refine MetFree.of_bodySF (plainFor_of_name (by first | (simp [plainName, overriddenIn]; done) | decide +kernel)) hisR ?_
  intro p e s m args below meth c s₁ Bd hml0 hP hK
  obtain ⟨rfl, hZ, hh⟩ := hP
  have hx := Bd.exec
  have hby := Bd.bytes
  have hml : c.maxLocals = 6 := hml0
  have hown : s.vm.findClass "java/lang/StringUTF16" = some m.cls := findClass_of_methodNamed Bd.named
  have hnm := (name_of_methodNamed Bd.named Bd.method).1
  have hlk : meth.locks = false := Bd.notSynchronized
  have hret := Bd.returns
  have X0 : Stand p l e ({ frames := 1, cells := 1, slots := 2, locals := 18 } : Room) s m #[(.ref cs), (.int (0 : Int32)), (.int (2 : Int32))] below meth c s₁ [] 0 0 := Stand.of_body Bd
  have e0 : s₁.heap = h0 := by rw [← hh, Bd.state]; rfl
  refine own_in (Q := fun v h L => ∃ b : Addr, v = some (.ref b) ∧ Fr n0 L ∧ Keep h0 h [] ∧ own_Ar Z h b .byte [(.int (108 : Int32)), (.int (49 : Int32))] ∧ n0 ≤ b ∧ h0.size ≤ b) (ef := by first | (simp [entryFrame, mkF, argsToLocals, Value.category, maxLocals]; done) | rfl) (g' := (mkF m 0 #[.val (.ref cs), .val (.int (0 : Int32)), .val (.int (2 : Int32)), .unset, .unset, .unset] [])) ?_
  refine own_go (T' := s₁) (g' := (mkF m 1 #[.val (.ref cs), .val (.int (0 : Int32)), .val (.int (2 : Int32)), .unset, .unset, .unset] [(.int (2 : Int32))])) (fun t q => XS.iloadN X0.here hx rfl (hb hby d4_0) rfl q) ?_
  obtain ⟨T1, h1, X1, e1, E1, A1, st1⟩ := own_newP X0 hx hZ (hw _ (List.mem_of_getElem? (i := 19) rfl)) e0 (g := (mkF m 1 #[.val (.ref cs), .val (.int (0 : Int32)), .val (.int (2 : Int32)), .unset, .unset, .unset] [(.int (2 : Int32))])) rfl (hb hby d4_1) rfl (by decide) 2 (by decide) (by decide) (by decide) (by decide)
  obtain ⟨a1, g1⟩ : ∃ z, z = h0.size := ⟨_, rfl⟩
  rw [← g1] at A1 st1
  have ne_cs_a1 : cs ≠ a1 := by rw [g1]; exact Nat.ne_of_lt A.lt
  have za1 : n0 ≤ a1 := by rw [g1]; exact Z0
  have f2 := A.ext E1
  have sz1 : n0 ≤ h1.size := Nat.le_trans Z0 E1.1
  have f1_ : own_Ar Z h1 a1 .byte [(.int (0 : Int32)), (.int (0 : Int32))] := A1
  have P1 : Keep h0 h1 [] := (Keep.refl _ _).ext E1
  have gh1 : h0.size ≤ a1 := by rw [g1]; exact Nat.le_refl _
  refine own_go (T' := T1) (g' := (mkF m 3 #[.val (.ref cs), .val (.int (0 : Int32)), .val (.int (2 : Int32)), .unset, .unset, .unset] [(.ref a1)])) (fun t q => st1 t q) ?_
  refine own_go (T' := T1) (g' := (mkF m 4 #[.val (.ref cs), .val (.int (0 : Int32)), .val (.int (2 : Int32)), .val (.ref a1), .unset, .unset] [])) (fun t q => XS.astoreN X1.here hx rfl (hb hby d4_3) rfl rfl (l' := #[.val (.ref cs), .val (.int (0 : Int32)), .val (.int (2 : Int32)), .val (.ref a1), .unset, .unset]) rfl q) ?_
  refine own_go (T' := T1) (g' := (mkF m 5 #[.val (.ref cs), .val (.int (0 : Int32)), .val (.int (2 : Int32)), .val (.ref a1), .unset, .unset] [(.ref cs)])) (fun t q => XS.aloadN X1.here hx rfl (hb hby d4_4) rfl rfl q) ?_
  refine own_go (T' := T1) (g' := (mkF m 6 #[.val (.ref cs), .val (.int (0 : Int32)), .val (.int (2 : Int32)), .val (.ref a1), .unset, .unset] [(.int (0 : Int32)), (.ref cs)])) (fun t q => XS.iloadN X1.here hx rfl (hb hby d4_5) rfl q) ?_
  refine own_go (T' := T1) (g' := (mkF m 7 #[.val (.ref cs), .val (.int (0 : Int32)), .val (.int (2 : Int32)), .val (.ref a1), .unset, .unset] [(.ref a1), (.int (0 : Int32)), (.ref cs)])) (fun t q => XS.aloadN X1.here hx rfl (hb hby d4_6) rfl rfl q) ?_
  refine own_go (T' := T1) (g' := (mkF m 8 #[.val (.ref cs), .val (.int (0 : Int32)), .val (.int (2 : Int32)), .val (.ref a1), .unset, .unset] [(.int (0 : Int32)), (.ref a1), (.int (0 : Int32)), (.ref cs)])) (fun t q => XS.iconst X1.here hx rfl (hb hby d4_7) q) ?_
  refine own_go (T' := T1) (g' := (mkF m 9 #[.val (.ref cs), .val (.int (0 : Int32)), .val (.int (2 : Int32)), .val (.ref a1), .unset, .unset] [(.int (2 : Int32)), (.int (0 : Int32)), (.ref a1), (.int (0 : Int32)), (.ref cs)])) (fun t q => XS.iloadN X1.here hx rfl (hb hby d4_8) rfl q) ?_
  obtain ⟨v3, T3, L3, X3, Q3, st3⟩ := own_callS X1 hx hZ (y := (⟨"java/lang/StringUTF16", "compress", "([CI[BII)I"⟩ : MethodName)) (argsL := [(.ref cs), (.int (0 : Int32)), (.ref a1), (.int (0 : Int32)), (.int (2 : Int32))]) (rest := []) hown (hw _ (List.mem_of_getElem? (i := 20) rfl)) (hw _ (List.mem_of_getElem? (i := 21) rfl)) (hw _ (List.mem_of_getElem? (i := 17) rfl)) (hw _ (List.mem_of_getElem? (i := 22) rfl)) (rm_c5_R l Z a0 hw [] n0 cs a1 h1 sz1 za1 ne_cs_a1 f2 f1_) e1 (by decide) (by decide) 0 (by decide) (by decide) (by decide) (g := (mkF m 9 #[.val (.ref cs), .val (.int (0 : Int32)), .val (.int (2 : Int32)), .val (.ref a1), .unset, .unset] [(.int (2 : Int32)), (.int (0 : Int32)), (.ref a1), (.int (0 : Int32)), (.ref cs)])) rfl (by rw [hml]; rfl) (lenOf (ps := [(.array .char), .int, (.array .byte), .int, .int]) (r := (some .int)) (by decide +kernel) rfl) rfl (by show 2 * 0 + _ ≤ _; exact Nat.le_of_eq rfl) (hb hby d4_9)
  obtain ⟨rfl, M3, K3, RR3⟩ := Q3
  have f4 := f2.keep K3 (ninS ne_cs_a1 nin0)
  have N3 := Fr.app (Fr.nil _) M3
  have sz3 : n0 ≤ T3.heap.size := Nat.le_trans sz1 K3.1
  have P3 : Keep h0 T3.heap [] := P1.trans K3 (allS (Or.inr gh1) all0)
  refine own_go (T' := T3) (g' := (mkF m 12 #[.val (.ref cs), .val (.int (0 : Int32)), .val (.int (2 : Int32)), .val (.ref a1), .unset, .unset] [(.int (2 : Int32))])) (fun t q => st3 t q) ?_
  refine own_go (T' := T3) (g' := (mkF m 14 #[.val (.ref cs), .val (.int (0 : Int32)), .val (.int (2 : Int32)), .val (.ref a1), .val (.int (2 : Int32)), .unset] [])) (fun t q => XS.istore X3.here hx rfl (hb hby d4_12) rfl (l' := #[.val (.ref cs), .val (.int (0 : Int32)), .val (.int (2 : Int32)), .val (.ref a1), .val (.int (2 : Int32)), .unset]) rfl q) ?_
  refine own_go (T' := T3) (g' := (mkF m 16 #[.val (.ref cs), .val (.int (0 : Int32)), .val (.int (2 : Int32)), .val (.ref a1), .val (.int (2 : Int32)), .unset] [(.int (2 : Int32))])) (fun t q => XS.iload X3.here hx rfl (hb hby d4_14) rfl q) ?_
  refine own_go (T' := T3) (g' := (mkF m 17 #[.val (.ref cs), .val (.int (0 : Int32)), .val (.int (2 : Int32)), .val (.ref a1), .val (.int (2 : Int32)), .unset] [(.int (2 : Int32)), (.int (2 : Int32))])) (fun t q => XS.iloadN X3.here hx rfl (hb hby d4_16) rfl q) ?_
  have c5 : (2 : Int32) = (2 : Int32) := by decide
  refine own_go (T' := T3) (g' := (mkF m 57 #[.val (.ref cs), .val (.int (0 : Int32)), .val (.int (2 : Int32)), .val (.ref a1), .val (.int (2 : Int32)), .unset] [])) (fun t q => XS.icmpYes X3.here hx rfl (pc0 := 17) (pc' := 57) rfl (hb hby d4_17) rfl (teq c5).1 (by decide) (by decide) q) ?_
  refine own_go (T' := T3) (g' := (mkF m 58 #[.val (.ref cs), .val (.int (0 : Int32)), .val (.int (2 : Int32)), .val (.ref a1), .val (.int (2 : Int32)), .unset] [(.ref a1)])) (fun t q => XS.aloadN X3.here hx rfl (hb hby d4_57) rfl rfl q) ?_
  refine own_outA X3 hx hlk hret rfl rfl (hb hby d4_58) ?_ (by decide) (by decide)
  exact ⟨_, rfl, N3, P3, RR3, za1, gh1⟩
theorem d6_0 : decode jdk_52_method_15_code 0 = .ok (.iload_n 1, 1) := by decide +kernel
theorem d6_1 : decode jdk_52_method_15_code 1 = .ok (.aload_n 0, 1) := by decide +kernel
theorem d6_2 : decode jdk_52_method_15_code 2 = .ok (.arraylength, 1) := by decide +kernel
theorem d6_3 : decode jdk_52_method_15_code 3 = .ok (.isub, 1) := by decide +kernel
theorem d6_4 : decode jdk_52_method_15_code 4 = .ok (.bipush 31, 2) := by decide +kernel
theorem d6_6 : decode jdk_52_method_15_code 6 = .ok (.iushr, 1) := by decide +kernel
theorem d6_7 : decode jdk_52_method_15_code 7 = .ok (.i2b, 1) := by decide +kernel
theorem d6_8 : decode jdk_52_method_15_code 8 = .ok (.ireturn, 1) := by decide +kernel
set_option maxRecDepth 65536 in
set_option maxHeartbeats 40000000 in
theorem rm_cod_R (l : Launch) (Z : State) (a0 : Array Value) (hw : ∀ d ∈ tables_1, d.before a0 Z = true) (ws : List Jvm.Cond) (b : Addr) (h0 : Heap) (A : own_Ar Z h0 b .byte [(.int (108 : Int32)), (.int (49 : Int32))]) :
    own_Met l (⟨"java/lang/StringUTF16", "coderFromArrayLen", "([BI)B"⟩ : MethodName) jdk_52_method_15_code 2 (some .byte) ws ({ frames := 0, cells := 0, slots := 0, locals := 0 } : Room) Z #[(.ref b), (.int (2 : Int32))] h0 (fun v h L => v = some (.int (0 : Int32)) ∧ h = h0 ∧ L = []) := by
  refine MetFree.of_bodySF (plainFor_of_name (by first | (simp [plainName, overriddenIn]; done) | decide +kernel)) hisR ?_
  intro p e s m args below meth c s₁ Bd hml0 hP hK
  obtain ⟨rfl, hZ, hh⟩ := hP
  have hx := Bd.exec
  have hby := Bd.bytes
  have hml : c.maxLocals = 2 := hml0
  have hown : s.vm.findClass "java/lang/StringUTF16" = some m.cls := findClass_of_methodNamed Bd.named
  have hnm := (name_of_methodNamed Bd.named Bd.method).1
  have hlk : meth.locks = false := Bd.notSynchronized
  have hret := Bd.returns
  have X0 : Stand p l e ({ frames := 0, cells := 0, slots := 0, locals := 0 } : Room) s m #[(.ref b), (.int (2 : Int32))] below meth c s₁ [] 0 0 := Stand.of_body Bd
  have e0 : s₁.heap = h0 := by rw [← hh, Bd.state]; rfl
  refine own_in (Q := fun v h L => v = some (.int (0 : Int32)) ∧ h = h0 ∧ L = []) (ef := by first | (simp [entryFrame, mkF, argsToLocals, Value.category, maxLocals]; done) | rfl) (g' := (mkF m 0 #[.val (.ref b), .val (.int (2 : Int32))] [])) ?_
  refine own_go (T' := s₁) (g' := (mkF m 1 #[.val (.ref b), .val (.int (2 : Int32))] [(.int (2 : Int32))])) (fun t q => XS.iloadN X0.here hx rfl (hb hby d6_0) rfl q) ?_
  refine own_go (T' := s₁) (g' := (mkF m 2 #[.val (.ref b), .val (.int (2 : Int32))] [(.ref b), (.int (2 : Int32))])) (fun t q => XS.aloadN X0.here hx rfl (hb hby d6_1) rfl rfl q) ?_
  refine own_go (T' := s₁) (g' := (mkF m 3 #[.val (.ref b), .val (.int (2 : Int32))] [(.int (2 : Int32)), (.int (2 : Int32))])) (fun t q => own_len X0 hx hZ e0 A (n := (2 : Int32)) rfl (g := (mkF m 2 #[.val (.ref b), .val (.int (2 : Int32))] [(.ref b), (.int (2 : Int32))])) rfl rfl (hb hby d6_2) t q) ?_
  refine own_go (T' := s₁) (g' := (mkF m 4 #[.val (.ref b), .val (.int (2 : Int32))] [(.int (0 : Int32))])) (fun t q => XS.isub X0.here hx rfl (hb hby d6_3) rfl q) ?_
  refine own_go (T' := s₁) (g' := (mkF m 6 #[.val (.ref b), .val (.int (2 : Int32))] [(.int (31 : Int32)), (.int (0 : Int32))])) (fun t q => XS.bipush X0.here hx rfl (hb hby d6_4) q) ?_
  refine own_go (T' := s₁) (g' := (mkF m 7 #[.val (.ref b), .val (.int (2 : Int32))] [(.int (0 : Int32))])) (fun t q => XT.iushr X0.here hx rfl (hb hby d6_6) rfl q) ?_
  refine own_go (T' := s₁) (g' := (mkF m 8 #[.val (.ref b), .val (.int (2 : Int32))] [(.int (0 : Int32))])) (fun t q => XT.i2b X0.here hx rfl (hb hby d6_7) rfl q) ?_
  refine own_outN X0 hx hlk hret (t := .byte) (by simp) (hb hby d6_8) (w := (0 : Int32)) (by decide) ?_ (by decide) (by decide)
  exact ⟨rfl, e0, rfl⟩
theorem d2_0 : decode jdk_42_method_149_code 0 = .ok (.aload_n 0, 1) := by decide +kernel
theorem d2_1 : decode jdk_42_method_149_code 1 = .ok (.invokespecial 1, 3) := by decide +kernel
theorem d2_4 : decode jdk_42_method_149_code 4 = .ok (.iload_n 3, 1) := by decide +kernel
theorem d2_5 : decode jdk_42_method_149_code 5 = .ok (.ifCond .ne 22, 3) := by decide +kernel
theorem d2_27 : decode jdk_42_method_149_code 27 = .ok (.getstatic 38, 3) := by decide +kernel
theorem d2_30 : decode jdk_42_method_149_code 30 = .ok (.ifCond .eq 28, 3) := by decide +kernel
theorem d2_33 : decode jdk_42_method_149_code 33 = .ok (.aload_n 1, 1) := by decide +kernel
theorem d2_34 : decode jdk_42_method_149_code 34 = .ok (.iload_n 2, 1) := by decide +kernel
theorem d2_35 : decode jdk_42_method_149_code 35 = .ok (.iload_n 3, 1) := by decide +kernel
theorem d2_36 : decode jdk_42_method_149_code 36 = .ok (.invokestatic 177, 3) := by decide +kernel
theorem d2_39 : decode jdk_42_method_149_code 39 = .ok (.astore 5, 2) := by decide +kernel
theorem d2_41 : decode jdk_42_method_149_code 41 = .ok (.aload_n 0, 1) := by decide +kernel
theorem d2_42 : decode jdk_42_method_149_code 42 = .ok (.aload 5, 2) := by decide +kernel
theorem d2_44 : decode jdk_42_method_149_code 44 = .ok (.iload_n 3, 1) := by decide +kernel
theorem d2_45 : decode jdk_42_method_149_code 45 = .ok (.invokestatic 47, 3) := by decide +kernel
theorem d2_48 : decode jdk_42_method_149_code 48 = .ok (.putfield 15, 3) := by decide +kernel
theorem d2_51 : decode jdk_42_method_149_code 51 = .ok (.aload_n 0, 1) := by decide +kernel
theorem d2_52 : decode jdk_42_method_149_code 52 = .ok (.aload 5, 2) := by decide +kernel
theorem d2_54 : decode jdk_42_method_149_code 54 = .ok (.putfield 9, 3) := by decide +kernel
theorem d2_57 : decode jdk_42_method_149_code 57 = .ok (.return_, 1) := by decide +kernel
set_option maxRecDepth 65536 in
set_option maxHeartbeats 40000000 in
theorem rm_s4_R (l : Launch) (Z : State) (a0 : Array Value) (hw : ∀ d ∈ tables_1, d.before a0 Z = true) (ws : List Jvm.Cond) (n0 : Nat) (a cs : Addr) (cp : Int32) (h0 : Heap) (Z0 : n0 ≤ h0.size) (ga : n0 ≤ a) (A0 : Exa Z h0 a "java/lang/String") (B0 : Fld Z h0 a "java/lang/String" "coder" "B" (.int (0 : Int32))) (B1 : Fld Z h0 a "java/lang/String" "value" "[B" .null) (hne : cs ≠ a) (A : own_Ar Z h0 cs .char [(.int (108 : Int32)), (.int (49 : Int32))]) (cp0 : ¬ (cp = (0 : Int32))) (S_cp : Sta Z h0 "java/lang/String" "COMPACT_STRINGS" "Z" (.int cp)) :
    own_Met l (⟨"java/lang/String", "<init>", "([CIILjava/lang/Void;)V"⟩ : MethodName) jdk_42_method_149_code 6 none ws ({ frames := 2, cells := 1, slots := 2, locals := 35 } : Room) Z #[(.ref a), (.ref cs), (.int (0 : Int32)), (.int (2 : Int32)), .null] h0 (fun v h L => v = none ∧ Fr n0 L ∧ Keep h0 h [a] ∧ Exa Z h a "java/lang/String" ∧ Fld Z h a "java/lang/String" "coder" "B" (.int (0 : Int32)) ∧ ∃ b : Addr, Fld Z h a "java/lang/String" "value" "[B" (.ref b) ∧ own_Ar Z h b .byte [(.int (108 : Int32)), (.int (49 : Int32))] ∧ n0 ≤ b ∧ h0.size ≤ b) := by
  refine MetFree.of_bodySF (plainFor_of_name (by first | (simp [plainName, overriddenIn]; done) | decide +kernel)) hisR ?_
  intro p e s m args below meth c s₁ Bd hml0 hP hK
  obtain ⟨rfl, hZ, hh⟩ := hP
  have hx := Bd.exec
  have hby := Bd.bytes
  have hml : c.maxLocals = 6 := hml0
  have hown : s.vm.findClass "java/lang/String" = some m.cls := findClass_of_methodNamed Bd.named
  have hnm := (name_of_methodNamed Bd.named Bd.method).1
  have hlk : meth.locks = false := Bd.notSynchronized
  have hret := Bd.returns
  have X0 : Stand p l e ({ frames := 2, cells := 1, slots := 2, locals := 35 } : Room) s m #[(.ref a), (.ref cs), (.int (0 : Int32)), (.int (2 : Int32)), .null] below meth c s₁ [] 0 0 := Stand.of_body Bd
  have e0 : s₁.heap = h0 := by rw [← hh, Bd.state]; rfl
  refine own_in (Q := fun v h L => v = none ∧ Fr n0 L ∧ Keep h0 h [a] ∧ Exa Z h a "java/lang/String" ∧ Fld Z h a "java/lang/String" "coder" "B" (.int (0 : Int32)) ∧ ∃ b : Addr, Fld Z h a "java/lang/String" "value" "[B" (.ref b) ∧ own_Ar Z h b .byte [(.int (108 : Int32)), (.int (49 : Int32))] ∧ n0 ≤ b ∧ h0.size ≤ b) (ef := by first | (simp [entryFrame, mkF, argsToLocals, Value.category, maxLocals]; done) | rfl) (g' := (mkF m 0 #[.val (.ref a), .val (.ref cs), .val (.int (0 : Int32)), .val (.int (2 : Int32)), .val .null, .unset] [])) ?_
  refine own_go (T' := s₁) (g' := (mkF m 1 #[.val (.ref a), .val (.ref cs), .val (.int (0 : Int32)), .val (.int (2 : Int32)), .val .null, .unset] [(.ref a)])) (fun t q => XS.aloadN X0.here hx rfl (hb hby d2_0) rfl rfl q) ?_
  obtain ⟨T1, X1, e1, st1⟩ := initO X0 hx hZ hown (hw _ (List.mem_of_getElem? (i := 11) rfl)) (hw _ (List.mem_of_getElem? (i := 12) rfl)) (hw _ (List.mem_of_getElem? (i := 13) rfl)) e0 (g := (mkF m 1 #[.val (.ref a), .val (.ref cs), .val (.int (0 : Int32)), .val (.int (2 : Int32)), .val .null, .unset] [(.ref a)])) rfl (by rw [hml]; rfl) rfl (hb hby d2_1) (by decide) (W := 0) (by show 2 * 0 + _ ≤ _; exact Nat.le_of_eq rfl) (by decide)
  refine own_go (T' := T1) (g' := (mkF m 4 #[.val (.ref a), .val (.ref cs), .val (.int (0 : Int32)), .val (.int (2 : Int32)), .val .null, .unset] [])) (fun t q => st1 t q) ?_
  refine own_go (T' := T1) (g' := (mkF m 5 #[.val (.ref a), .val (.ref cs), .val (.int (0 : Int32)), .val (.int (2 : Int32)), .val .null, .unset] [(.int (2 : Int32))])) (fun t q => XS.iloadN X1.here hx rfl (hb hby d2_4) rfl q) ?_
  have c2 : ¬ ((2 : Int32) = (0 : Int32)) := by decide
  refine own_go (T' := T1) (g' := (mkF m 27 #[.val (.ref a), .val (.ref cs), .val (.int (0 : Int32)), .val (.int (2 : Int32)), .val .null, .unset] [])) (fun t q => XS.ifYes X1.here hx rfl (pc0 := 5) (pc' := 27) rfl (hb hby d2_5) rfl ((if0 _ _).trans (feq c2).2) (by decide) (by decide) q) ?_
  obtain ⟨T3, X3, e3, st3⟩ := getS2 X1 hx hZ hown (host := "") (Or.inl (hw _ (List.mem_of_getElem? (i := 14) rfl))) Via.refl e1 S_cp (g := (mkF m 27 #[.val (.ref a), .val (.ref cs), .val (.int (0 : Int32)), .val (.int (2 : Int32)), .val .null, .unset] [])) rfl (hb hby d2_27)
  refine own_go (T' := T3) (g' := (mkF m 30 #[.val (.ref a), .val (.ref cs), .val (.int (0 : Int32)), .val (.int (2 : Int32)), .val .null, .unset] [(.int cp)])) (fun t q => st3 t q) ?_
  have c4 : ¬ (cp = (0 : Int32)) := cp0
  refine own_go (T' := T3) (g' := (mkF m 33 #[.val (.ref a), .val (.ref cs), .val (.int (0 : Int32)), .val (.int (2 : Int32)), .val .null, .unset] [])) (fun t q => XS.ifNo X3.here hx rfl (hb hby d2_30) rfl ((if0 _ _).trans (feq c4).1) q) ?_
  refine own_go (T' := T3) (g' := (mkF m 34 #[.val (.ref a), .val (.ref cs), .val (.int (0 : Int32)), .val (.int (2 : Int32)), .val .null, .unset] [(.ref cs)])) (fun t q => XS.aloadN X3.here hx rfl (hb hby d2_33) rfl rfl q) ?_
  refine own_go (T' := T3) (g' := (mkF m 35 #[.val (.ref a), .val (.ref cs), .val (.int (0 : Int32)), .val (.int (2 : Int32)), .val .null, .unset] [(.int (0 : Int32)), (.ref cs)])) (fun t q => XS.iloadN X3.here hx rfl (hb hby d2_34) rfl q) ?_
  refine own_go (T' := T3) (g' := (mkF m 36 #[.val (.ref a), .val (.ref cs), .val (.int (0 : Int32)), .val (.int (2 : Int32)), .val .null, .unset] [(.int (2 : Int32)), (.int (0 : Int32)), (.ref cs)])) (fun t q => XS.iloadN X3.here hx rfl (hb hby d2_35) rfl q) ?_
  obtain ⟨v5, T5, L5, X5, Q5, st5⟩ := own_callS X3 hx hZ (y := (⟨"java/lang/StringUTF16", "compress", "([CII)[B"⟩ : MethodName)) (argsL := [(.ref cs), (.int (0 : Int32)), (.int (2 : Int32))]) (rest := []) hown (hw _ (List.mem_of_getElem? (i := 15) rfl)) (hw _ (List.mem_of_getElem? (i := 16) rfl)) (hw _ (List.mem_of_getElem? (i := 17) rfl)) (hw _ (List.mem_of_getElem? (i := 18) rfl)) (rm_c3_R l Z a0 hw [] n0 cs h0 Z0 A) e3 (by decide) (by decide) 0 (by decide) (by decide) (by decide) (g := (mkF m 36 #[.val (.ref a), .val (.ref cs), .val (.int (0 : Int32)), .val (.int (2 : Int32)), .val .null, .unset] [(.int (2 : Int32)), (.int (0 : Int32)), (.ref cs)])) rfl (by rw [hml]; rfl) (lenOf (ps := [(.array .char), .int, .int]) (r := (some (.array .byte))) (by decide +kernel) rfl) rfl (by show 2 * 0 + _ ≤ _; exact Nat.le_of_eq rfl) (hb hby d2_36)
  obtain ⟨b5, rfl, M5, K5, RR5, gn5, gh5⟩ := Q5
  have nb5_a : a ≠ b5 := Nat.ne_of_lt (Nat.lt_of_lt_of_le A0.lt gh5)
  have nb5_cs : cs ≠ b5 := Nat.ne_of_lt (Nat.lt_of_lt_of_le A.lt gh5)
  have f6 := A0.keep K5
  have f7 := B0.keep K5 nin0
  have f8 := B1.keep K5 nin0
  have f9 := A.keep K5 nin0
  have N5 := Fr.app (Fr.nil _) M5
  have sz5 : n0 ≤ T5.heap.size := Nat.le_trans Z0 K5.1
  have P5 : Keep h0 T5.heap [a] := (Keep.refl _ _).trans K5 all0
  have gz5 : h0.size ≤ b5 := Nat.le_trans (Nat.le_refl _) gh5
  refine own_go (T' := T5) (g' := (mkF m 39 #[.val (.ref a), .val (.ref cs), .val (.int (0 : Int32)), .val (.int (2 : Int32)), .val .null, .unset] [(.ref b5)])) (fun t q => st5 t q) ?_
  refine own_go (T' := T5) (g' := (mkF m 41 #[.val (.ref a), .val (.ref cs), .val (.int (0 : Int32)), .val (.int (2 : Int32)), .val .null, .val (.ref b5)] [])) (fun t q => XS.astore X5.here hx rfl (hb hby d2_39) rfl rfl (l' := #[.val (.ref a), .val (.ref cs), .val (.int (0 : Int32)), .val (.int (2 : Int32)), .val .null, .val (.ref b5)]) rfl q) ?_
  refine own_go (T' := T5) (g' := (mkF m 42 #[.val (.ref a), .val (.ref cs), .val (.int (0 : Int32)), .val (.int (2 : Int32)), .val .null, .val (.ref b5)] [(.ref a)])) (fun t q => XS.aloadN X5.here hx rfl (hb hby d2_41) rfl rfl q) ?_
  refine own_go (T' := T5) (g' := (mkF m 44 #[.val (.ref a), .val (.ref cs), .val (.int (0 : Int32)), .val (.int (2 : Int32)), .val .null, .val (.ref b5)] [(.ref b5), (.ref a)])) (fun t q => XS.aload X5.here hx rfl (hb hby d2_42) rfl rfl q) ?_
  refine own_go (T' := T5) (g' := (mkF m 45 #[.val (.ref a), .val (.ref cs), .val (.int (0 : Int32)), .val (.int (2 : Int32)), .val .null, .val (.ref b5)] [(.int (2 : Int32)), (.ref b5), (.ref a)])) (fun t q => XS.iloadN X5.here hx rfl (hb hby d2_44) rfl q) ?_
  obtain ⟨v10, T10, L10, X10, Q10, st10⟩ := own_callS X5 hx hZ (y := (⟨"java/lang/StringUTF16", "coderFromArrayLen", "([BI)B"⟩ : MethodName)) (argsL := [(.ref b5), (.int (2 : Int32))]) (rest := [(.ref a)]) hown (hw _ (List.mem_of_getElem? (i := 23) rfl)) (hw _ (List.mem_of_getElem? (i := 24) rfl)) (hw _ (List.mem_of_getElem? (i := 17) rfl)) (hw _ (List.mem_of_getElem? (i := 25) rfl)) (rm_cod_R l Z a0 hw [] b5 T5.heap RR5) (rfl : T5.heap = T5.heap) (by decide) (by decide) 1 (by decide) (by decide) (by decide) (g := (mkF m 45 #[.val (.ref a), .val (.ref cs), .val (.int (0 : Int32)), .val (.int (2 : Int32)), .val .null, .val (.ref b5)] [(.int (2 : Int32)), (.ref b5), (.ref a)])) rfl (by rw [hml]; rfl) (lenOf (ps := [(.array .byte), .int]) (r := (some .byte)) (by decide +kernel) rfl) rfl (by show 2 * 0 + _ ≤ _; exact Nat.le_of_eq rfl) (hb hby d2_45)
  obtain ⟨rfl, e10, rfl⟩ := Q10
  refine own_go (T' := T10) (g' := (mkF m 48 #[.val (.ref a), .val (.ref cs), .val (.int (0 : Int32)), .val (.int (2 : Int32)), .val .null, .val (.ref b5)] [(.int (0 : Int32)), (.ref a)])) (fun t q => st10 t q) ?_
  obtain ⟨T11, h11, X11, e11, W11, st11⟩ := putF X10 hx hZ hown (host := "") (Or.inl (hw _ (List.mem_of_getElem? (i := 26) rfl))) Via.refl e10 f7 f6 (Or.inr ⟨(hw _ (List.mem_of_getElem? (i := 27) rfl)), rfl, hnm⟩) (hw _ (List.mem_of_getElem? (i := 2) rfl)) (ty := .byte) (by decide) rfl rfl (g := (mkF m 48 #[.val (.ref a), .val (.ref cs), .val (.int (0 : Int32)), .val (.int (2 : Int32)), .val .null, .val (.ref b5)] [(.int (0 : Int32)), (.ref a)])) rfl rfl (hb hby d2_48)
  have N11 := Fr.snoc X11 (Fr.app N5 (Fr.nil _)) ga
  have P11 : Keep h0 h11 [a] := P5.wr W11 (Or.inl (List.mem_of_getElem? (i := 0) rfl))
  have f12 := f6.wr W11
  have f13 := f8.other W11 (Or.inr (slot_ne (Or.inr (hw _ (List.mem_of_getElem? (i := 29) rfl))) (Or.inr (hw _ (List.mem_of_getElem? (i := 27) rfl))) (by decide) (t := (.array .byte)) (t' := .byte) (by decide) (by decide)))
  have f14 := f9.other W11 hne
  have f15 := RR5.other W11 (Ne.symm nb5_a)
  have f11_ : Fld Z h11 a "java/lang/String" "coder" "B" (.int (0 : Int32)) := f7.same W11
  have sz11 : n0 ≤ h11.size := by rw [W11.size]; exact sz5
  refine own_go (T' := T11) (g' := (mkF m 51 #[.val (.ref a), .val (.ref cs), .val (.int (0 : Int32)), .val (.int (2 : Int32)), .val .null, .val (.ref b5)] [])) (fun t q => st11 t q) ?_
  refine own_go (T' := T11) (g' := (mkF m 52 #[.val (.ref a), .val (.ref cs), .val (.int (0 : Int32)), .val (.int (2 : Int32)), .val .null, .val (.ref b5)] [(.ref a)])) (fun t q => XS.aloadN X11.here hx rfl (hb hby d2_51) rfl rfl q) ?_
  refine own_go (T' := T11) (g' := (mkF m 54 #[.val (.ref a), .val (.ref cs), .val (.int (0 : Int32)), .val (.int (2 : Int32)), .val .null, .val (.ref b5)] [(.ref b5), (.ref a)])) (fun t q => XS.aload X11.here hx rfl (hb hby d2_52) rfl rfl q) ?_
  obtain ⟨T16, h16, X16, e16, W16, st16⟩ := putF X11 hx hZ hown (host := "") (Or.inl (hw _ (List.mem_of_getElem? (i := 28) rfl))) Via.refl e11 f13 f12 (Or.inr ⟨(hw _ (List.mem_of_getElem? (i := 29) rfl)), rfl, hnm⟩) (hw _ (List.mem_of_getElem? (i := 2) rfl)) (ty := (.array .byte)) (by decide) rfl rfl (g := (mkF m 54 #[.val (.ref a), .val (.ref cs), .val (.int (0 : Int32)), .val (.int (2 : Int32)), .val .null, .val (.ref b5)] [(.ref b5), (.ref a)])) rfl rfl (hb hby d2_54)
  have N16 := Fr.snoc X16 N11 ga
  have P16 : Keep h0 h16 [a] := P11.wr W16 (Or.inl (List.mem_of_getElem? (i := 0) rfl))
  have f17 := f12.wr W16
  have f18 := f14.other W16 hne
  have f19 := f15.other W16 (Ne.symm nb5_a)
  have f20 := f11_.other W16 (Or.inr (slot_ne (Or.inr (hw _ (List.mem_of_getElem? (i := 27) rfl))) (Or.inr (hw _ (List.mem_of_getElem? (i := 29) rfl))) (by decide) (t := .byte) (t' := (.array .byte)) (by decide) (by decide)))
  have f16_ : Fld Z h16 a "java/lang/String" "value" "[B" (.ref b5) := f13.same W16
  have sz16 : n0 ≤ h16.size := by rw [W16.size]; exact sz11
  refine own_go (T' := T16) (g' := (mkF m 57 #[.val (.ref a), .val (.ref cs), .val (.int (0 : Int32)), .val (.int (2 : Int32)), .val .null, .val (.ref b5)] [])) (fun t q => st16 t q) ?_
  refine own_outV X16 hx hlk hret (hb hby d2_57) ?_ (by decide) (by decide)
  rw [e16]
  exact ⟨rfl, N16, P16, f17, f20, b5, f16_, f19, gn5, gz5⟩
theorem d1_0 : decode jdk_42_method_3_code 0 = .ok (.aload_n 0, 1) := by decide +kernel
theorem d1_1 : decode jdk_42_method_3_code 1 = .ok (.aload_n 1, 1) := by decide +kernel
theorem d1_2 : decode jdk_42_method_3_code 2 = .ok (.iconst 0, 1) := by decide +kernel
theorem d1_3 : decode jdk_42_method_3_code 3 = .ok (.aload_n 1, 1) := by decide +kernel
theorem d1_4 : decode jdk_42_method_3_code 4 = .ok (.arraylength, 1) := by decide +kernel
theorem d1_5 : decode jdk_42_method_3_code 5 = .ok (.aconst_null, 1) := by decide +kernel
theorem d1_6 : decode jdk_42_method_3_code 6 = .ok (.invokespecial 27, 3) := by decide +kernel
theorem d1_9 : decode jdk_42_method_3_code 9 = .ok (.return_, 1) := by decide +kernel
set_option maxRecDepth 65536 in
set_option maxHeartbeats 40000000 in
theorem rm_s1_R (l : Launch) (Z : State) (a0 : Array Value) (hw : ∀ d ∈ tables_1, d.before a0 Z = true) (ws : List Jvm.Cond) (n0 : Nat) (a cs : Addr) (cp : Int32) (h0 : Heap) (Z0 : n0 ≤ h0.size) (ga : n0 ≤ a) (A0 : Exa Z h0 a "java/lang/String") (B0 : Fld Z h0 a "java/lang/String" "coder" "B" (.int (0 : Int32))) (B1 : Fld Z h0 a "java/lang/String" "value" "[B" .null) (hne : cs ≠ a) (A : own_Ar Z h0 cs .char [(.int (108 : Int32)), (.int (49 : Int32))]) (cp0 : ¬ (cp = (0 : Int32))) (S_cp : Sta Z h0 "java/lang/String" "COMPACT_STRINGS" "Z" (.int cp)) :
    own_Met l (⟨"java/lang/String", "<init>", "([C)V"⟩ : MethodName) jdk_42_method_3_code 2 none ws ({ frames := 3, cells := 1, slots := 2, locals := 52 } : Room) Z #[(.ref a), (.ref cs)] h0 (fun v h L => v = none ∧ Fr n0 L ∧ Keep h0 h [a] ∧ Exa Z h a "java/lang/String" ∧ Fld Z h a "java/lang/String" "coder" "B" (.int (0 : Int32)) ∧ ∃ b : Addr, Fld Z h a "java/lang/String" "value" "[B" (.ref b) ∧ own_Ar Z h b .byte [(.int (108 : Int32)), (.int (49 : Int32))] ∧ n0 ≤ b ∧ h0.size ≤ b) := by
  refine MetFree.of_bodySF (plainFor_of_name (by first | (simp [plainName, overriddenIn]; done) | decide +kernel)) hisR ?_
  intro p e s m args below meth c s₁ Bd hml0 hP hK
  obtain ⟨rfl, hZ, hh⟩ := hP
  have hx := Bd.exec
  have hby := Bd.bytes
  have hml : c.maxLocals = 2 := hml0
  have hown : s.vm.findClass "java/lang/String" = some m.cls := findClass_of_methodNamed Bd.named
  have hnm := (name_of_methodNamed Bd.named Bd.method).1
  have hlk : meth.locks = false := Bd.notSynchronized
  have hret := Bd.returns
  have X0 : Stand p l e ({ frames := 3, cells := 1, slots := 2, locals := 52 } : Room) s m #[(.ref a), (.ref cs)] below meth c s₁ [] 0 0 := Stand.of_body Bd
  have e0 : s₁.heap = h0 := by rw [← hh, Bd.state]; rfl
  refine own_in (Q := fun v h L => v = none ∧ Fr n0 L ∧ Keep h0 h [a] ∧ Exa Z h a "java/lang/String" ∧ Fld Z h a "java/lang/String" "coder" "B" (.int (0 : Int32)) ∧ ∃ b : Addr, Fld Z h a "java/lang/String" "value" "[B" (.ref b) ∧ own_Ar Z h b .byte [(.int (108 : Int32)), (.int (49 : Int32))] ∧ n0 ≤ b ∧ h0.size ≤ b) (ef := by first | (simp [entryFrame, mkF, argsToLocals, Value.category, maxLocals]; done) | rfl) (g' := (mkF m 0 #[.val (.ref a), .val (.ref cs)] [])) ?_
  refine own_go (T' := s₁) (g' := (mkF m 1 #[.val (.ref a), .val (.ref cs)] [(.ref a)])) (fun t q => XS.aloadN X0.here hx rfl (hb hby d1_0) rfl rfl q) ?_
  refine own_go (T' := s₁) (g' := (mkF m 2 #[.val (.ref a), .val (.ref cs)] [(.ref cs), (.ref a)])) (fun t q => XS.aloadN X0.here hx rfl (hb hby d1_1) rfl rfl q) ?_
  refine own_go (T' := s₁) (g' := (mkF m 3 #[.val (.ref a), .val (.ref cs)] [(.int (0 : Int32)), (.ref cs), (.ref a)])) (fun t q => XS.iconst X0.here hx rfl (hb hby d1_2) q) ?_
  refine own_go (T' := s₁) (g' := (mkF m 4 #[.val (.ref a), .val (.ref cs)] [(.ref cs), (.int (0 : Int32)), (.ref cs), (.ref a)])) (fun t q => XS.aloadN X0.here hx rfl (hb hby d1_3) rfl rfl q) ?_
  refine own_go (T' := s₁) (g' := (mkF m 5 #[.val (.ref a), .val (.ref cs)] [(.int (2 : Int32)), (.int (0 : Int32)), (.ref cs), (.ref a)])) (fun t q => own_len X0 hx hZ e0 A (n := (2 : Int32)) rfl (g := (mkF m 4 #[.val (.ref a), .val (.ref cs)] [(.ref cs), (.int (0 : Int32)), (.ref cs), (.ref a)])) rfl rfl (hb hby d1_4) t q) ?_
  refine own_go (T' := s₁) (g' := (mkF m 6 #[.val (.ref a), .val (.ref cs)] [.null, (.int (2 : Int32)), (.int (0 : Int32)), (.ref cs), (.ref a)])) (fun t q => XS.aconstNull X0.here hx rfl (hb hby d1_5) q) ?_
  obtain ⟨v1, T1, L1, X1, Q1, st1⟩ := own_callP X0 hx hZ (y := (⟨"java/lang/String", "<init>", "([CIILjava/lang/Void;)V"⟩ : MethodName)) (a := a) (argsL := [(.ref cs), (.int (0 : Int32)), (.int (2 : Int32)), .null]) (rest := []) hown rfl (hw _ (List.mem_of_getElem? (i := 7) rfl)) (hw _ (List.mem_of_getElem? (i := 8) rfl)) (hw _ (List.mem_of_getElem? (i := 3) rfl)) (hw _ (List.mem_of_getElem? (i := 10) rfl)) (rm_s4_R l Z a0 hw [] n0 a cs cp h0 Z0 ga A0 B0 B1 hne A cp0 S_cp) e0 (by decide) (by decide) 0 (by decide) (by decide) (by decide) (g := (mkF m 6 #[.val (.ref a), .val (.ref cs)] [.null, (.int (2 : Int32)), (.int (0 : Int32)), (.ref cs), (.ref a)])) rfl (by rw [hml]; rfl) (lenOf (ps := [(.array .char), .int, .int, (.object "java/lang/Void")]) (r := none) (by decide +kernel) rfl) rfl (by show 2 * 0 + _ ≤ _; exact Nat.le_of_eq rfl) (hb hby d1_6)
  obtain ⟨rfl, M1, K1, XA1, FC1, b1, FV1, RR1, gn1, gh1⟩ := Q1
  have nb1_a : a ≠ b1 := Nat.ne_of_lt (Nat.lt_of_lt_of_le A0.lt gh1)
  have nb1_cs : cs ≠ b1 := Nat.ne_of_lt (Nat.lt_of_lt_of_le A.lt gh1)
  have f2 := A0.keep K1
  have f3 := A.keep K1 (ninS hne nin0)
  have N1 := Fr.app (Fr.nil _) M1
  have sz1 : n0 ≤ T1.heap.size := Nat.le_trans Z0 K1.1
  have P1 : Keep h0 T1.heap [a] := (Keep.refl _ _).trans K1 (allS (Or.inl (List.mem_of_getElem? (i := 0) rfl)) all0)
  refine own_go (T' := T1) (g' := (mkF m 9 #[.val (.ref a), .val (.ref cs)] [])) (fun t q => st1 t q) ?_
  refine own_outV X1 hx hlk hret (hb hby d1_9) ?_ (by decide) (by decide)
  exact ⟨rfl, N1, P1, XA1, FC1, b1, FV1, RR1, gn1, gh1⟩
set_option maxRecDepth 65536 in
set_option maxHeartbeats 40000000 in
theorem rm_c5_C (l : Launch) (Z : State) (a0 : Array Value) (hw : ∀ d ∈ tables_1, d.before a0 Z = true) (ws : List Jvm.Cond) (n0 : Nat) (cs b : Addr) (h0 : Heap) (Z0 : n0 ≤ h0.size) (gb : n0 ≤ b) (hne : cs ≠ b) (A : own_Ar Z h0 cs .char [(.int (108 : Int32)), (.int (105 : Int32)), (.int (110 : Int32)), (.int (102 : Int32))]) (B : own_Ar Z h0 b .byte [(.int (0 : Int32)), (.int (0 : Int32)), (.int (0 : Int32)), (.int (0 : Int32))]) :
    own_Met l (⟨"java/lang/StringUTF16", "compress", "([CI[BII)I"⟩ : MethodName) jdk_52_method_21_code 7 (some .int) ws ({ frames := 0, cells := 0, slots := 0, locals := 0 } : Room) Z #[(.ref cs), (.int (0 : Int32)), (.ref b), (.int (0 : Int32)), (.int (4 : Int32))] h0 (fun v h L => v = some (.int (4 : Int32)) ∧ Fr n0 L ∧ Keep h0 h [b] ∧ own_Ar Z h b .byte [(.int (108 : Int32)), (.int (105 : Int32)), (.int (110 : Int32)), (.int (102 : Int32))]) := by
  refine MetFree.of_bodySF (plainFor_of_name (by first | (simp [plainName, overriddenIn]; done) | decide +kernel)) hisR ?_
  intro p e s m args below meth c s₁ Bd hml0 hP hK
  obtain ⟨rfl, hZ, hh⟩ := hP
  have hx := Bd.exec
  have hby := Bd.bytes
  have hml : c.maxLocals = 7 := hml0
  have hown : s.vm.findClass "java/lang/StringUTF16" = some m.cls := findClass_of_methodNamed Bd.named
  have hnm := (name_of_methodNamed Bd.named Bd.method).1
  have hlk : meth.locks = false := Bd.notSynchronized
  have hret := Bd.returns
  have X0 : Stand p l e ({ frames := 0, cells := 0, slots := 0, locals := 0 } : Room) s m #[(.ref cs), (.int (0 : Int32)), (.ref b), (.int (0 : Int32)), (.int (4 : Int32))] below meth c s₁ [] 0 0 := Stand.of_body Bd
  have e0 : s₁.heap = h0 := by rw [← hh, Bd.state]; rfl
  refine own_in (Q := fun v h L => v = some (.int (4 : Int32)) ∧ Fr n0 L ∧ Keep h0 h [b] ∧ own_Ar Z h b .byte [(.int (108 : Int32)), (.int (105 : Int32)), (.int (110 : Int32)), (.int (102 : Int32))]) (ef := by first | (simp [entryFrame, mkF, argsToLocals, Value.category, maxLocals]; done) | rfl) (g' := (mkF m 0 #[.val (.ref cs), .val (.int (0 : Int32)), .val (.ref b), .val (.int (0 : Int32)), .val (.int (4 : Int32)), .unset, .unset] [])) ?_
  refine own_go (T' := s₁) (g' := (mkF m 1 #[.val (.ref cs), .val (.int (0 : Int32)), .val (.ref b), .val (.int (0 : Int32)), .val (.int (4 : Int32)), .unset, .unset] [(.int (0 : Int32))])) (fun t q => XS.iconst X0.here hx rfl (hb hby d5_0) q) ?_
  refine own_go (T' := s₁) (g' := (mkF m 3 #[.val (.ref cs), .val (.int (0 : Int32)), .val (.ref b), .val (.int (0 : Int32)), .val (.int (4 : Int32)), .val (.int (0 : Int32)), .unset] [])) (fun t q => XS.istore X0.here hx rfl (hb hby d5_1) rfl (l' := #[.val (.ref cs), .val (.int (0 : Int32)), .val (.ref b), .val (.int (0 : Int32)), .val (.int (4 : Int32)), .val (.int (0 : Int32)), .unset]) rfl q) ?_
  refine own_go (T' := s₁) (g' := (mkF m 5 #[.val (.ref cs), .val (.int (0 : Int32)), .val (.ref b), .val (.int (0 : Int32)), .val (.int (4 : Int32)), .val (.int (0 : Int32)), .unset] [(.int (0 : Int32))])) (fun t q => XS.iload X0.here hx rfl (hb hby d5_3) rfl q) ?_
  refine own_go (T' := s₁) (g' := (mkF m 7 #[.val (.ref cs), .val (.int (0 : Int32)), .val (.ref b), .val (.int (0 : Int32)), .val (.int (4 : Int32)), .val (.int (0 : Int32)), .unset] [(.int (4 : Int32)), (.int (0 : Int32))])) (fun t q => XS.iload X0.here hx rfl (hb hby d5_5) rfl q) ?_
  have c1 : (0 : Int32) < (4 : Int32) := by decide
  refine own_go (T' := s₁) (g' := (mkF m 10 #[.val (.ref cs), .val (.int (0 : Int32)), .val (.ref b), .val (.int (0 : Int32)), .val (.int (4 : Int32)), .val (.int (0 : Int32)), .unset] [])) (fun t q => XS.icmpNo X0.here hx rfl (hb hby d5_7) rfl (tlt c1).2.1 q) ?_
  refine own_go (T' := s₁) (g' := (mkF m 11 #[.val (.ref cs), .val (.int (0 : Int32)), .val (.ref b), .val (.int (0 : Int32)), .val (.int (4 : Int32)), .val (.int (0 : Int32)), .unset] [(.ref cs)])) (fun t q => XS.aloadN X0.here hx rfl (hb hby d5_10) rfl rfl q) ?_
  refine own_go (T' := s₁) (g' := (mkF m 12 #[.val (.ref cs), .val (.int (0 : Int32)), .val (.ref b), .val (.int (0 : Int32)), .val (.int (4 : Int32)), .val (.int (0 : Int32)), .unset] [(.int (0 : Int32)), (.ref cs)])) (fun t q => XS.iloadN X0.here hx rfl (hb hby d5_11) rfl q) ?_
  refine own_go (T' := s₁) (g' := (mkF m 13 #[.val (.ref cs), .val (.int (0 : Int32)), .val (.ref b), .val (.int (0 : Int32)), .val (.int (4 : Int32)), .val (.int (0 : Int32)), .unset] [(.int (108 : Int32))])) (fun t q => own_ldC X0 hx hZ e0 A (by decide) rfl (g := (mkF m 12 #[.val (.ref cs), .val (.int (0 : Int32)), .val (.ref b), .val (.int (0 : Int32)), .val (.int (4 : Int32)), .val (.int (0 : Int32)), .unset] [(.int (0 : Int32)), (.ref cs)])) rfl rfl (hb hby d5_12) t q) ?_
  refine own_go (T' := s₁) (g' := (mkF m 15 #[.val (.ref cs), .val (.int (0 : Int32)), .val (.ref b), .val (.int (0 : Int32)), .val (.int (4 : Int32)), .val (.int (0 : Int32)), .val (.int (108 : Int32))] [])) (fun t q => XS.istore X0.here hx rfl (hb hby d5_13) rfl (l' := #[.val (.ref cs), .val (.int (0 : Int32)), .val (.ref b), .val (.int (0 : Int32)), .val (.int (4 : Int32)), .val (.int (0 : Int32)), .val (.int (108 : Int32))]) rfl q) ?_
  refine own_go (T' := s₁) (g' := (mkF m 17 #[.val (.ref cs), .val (.int (0 : Int32)), .val (.ref b), .val (.int (0 : Int32)), .val (.int (4 : Int32)), .val (.int (0 : Int32)), .val (.int (108 : Int32))] [(.int (108 : Int32))])) (fun t q => XS.iload X0.here hx rfl (hb hby d5_15) rfl q) ?_
  refine own_go (T' := s₁) (g' := (mkF m 20 #[.val (.ref cs), .val (.int (0 : Int32)), .val (.ref b), .val (.int (0 : Int32)), .val (.int (4 : Int32)), .val (.int (0 : Int32)), .val (.int (108 : Int32))] [(.int (255 : Int32)), (.int (108 : Int32))])) (fun t q => XS.sipush X0.here hx rfl (hb hby d5_17) q) ?_
  have c2 : ¬ ((255 : Int32) < (108 : Int32)) := by decide
  refine own_go (T' := s₁) (g' := (mkF m 26 #[.val (.ref cs), .val (.int (0 : Int32)), .val (.ref b), .val (.int (0 : Int32)), .val (.int (4 : Int32)), .val (.int (0 : Int32)), .val (.int (108 : Int32))] [])) (fun t q => XS.icmpYes X0.here hx rfl (pc0 := 20) (pc' := 26) rfl (hb hby d5_20) rfl (flt c2).2.2.2 (by decide) (by decide) q) ?_
  refine own_go (T' := s₁) (g' := (mkF m 27 #[.val (.ref cs), .val (.int (0 : Int32)), .val (.ref b), .val (.int (0 : Int32)), .val (.int (4 : Int32)), .val (.int (0 : Int32)), .val (.int (108 : Int32))] [(.ref b)])) (fun t q => XS.aloadN X0.here hx rfl (hb hby d5_26) rfl rfl q) ?_
  refine own_go (T' := s₁) (g' := (mkF m 28 #[.val (.ref cs), .val (.int (0 : Int32)), .val (.ref b), .val (.int (0 : Int32)), .val (.int (4 : Int32)), .val (.int (0 : Int32)), .val (.int (108 : Int32))] [(.int (0 : Int32)), (.ref b)])) (fun t q => XS.iloadN X0.here hx rfl (hb hby d5_27) rfl q) ?_
  refine own_go (T' := s₁) (g' := (mkF m 30 #[.val (.ref cs), .val (.int (0 : Int32)), .val (.ref b), .val (.int (0 : Int32)), .val (.int (4 : Int32)), .val (.int (0 : Int32)), .val (.int (108 : Int32))] [(.int (108 : Int32)), (.int (0 : Int32)), (.ref b)])) (fun t q => XS.iload X0.here hx rfl (hb hby d5_28) rfl q) ?_
  refine own_go (T' := s₁) (g' := (mkF m 31 #[.val (.ref cs), .val (.int (0 : Int32)), .val (.ref b), .val (.int (0 : Int32)), .val (.int (4 : Int32)), .val (.int (0 : Int32)), .val (.int (108 : Int32))] [(.int (108 : Int32)), (.int (0 : Int32)), (.ref b)])) (fun t q => XT.i2b X0.here hx rfl (hb hby d5_30) rfl q) ?_
  obtain ⟨T3, h3, X3, e3, W3, A3, st3⟩ := own_stB X0 hx hZ e0 B (by decide) 0 (by decide) (by show 0 < 4; decide) (g := (mkF m 31 #[.val (.ref cs), .val (.int (0 : Int32)), .val (.ref b), .val (.int (0 : Int32)), .val (.int (4 : Int32)), .val (.int (0 : Int32)), .val (.int (108 : Int32))] [(.int (108 : Int32)), (.int (0 : Int32)), (.ref b)])) rfl rfl (hb hby d5_31)
  have N3 := Fr.snoc X3 (Fr.nil _) gb
  have f4 := A.other W3 hne
  have P3 : Keep h0 h3 [b] := (Keep.refl _ _).wr W3 (Or.inl (List.mem_of_getElem? (i := 0) rfl))
  have f3_ : own_Ar Z h3 b .byte [(.int (108 : Int32)), (.int (0 : Int32)), (.int (0 : Int32)), (.int (0 : Int32))] := A3
  have sz3 : n0 ≤ h3.size := by rw [W3.size]; exact Z0
  refine own_go (T' := T3) (g' := (mkF m 32 #[.val (.ref cs), .val (.int (0 : Int32)), .val (.ref b), .val (.int (0 : Int32)), .val (.int (4 : Int32)), .val (.int (0 : Int32)), .val (.int (108 : Int32))] [])) (fun t q => st3 t q) ?_
  refine own_go (T' := T3) (g' := (mkF m 35 #[.val (.ref cs), .val (.int (1 : Int32)), .val (.ref b), .val (.int (0 : Int32)), .val (.int (4 : Int32)), .val (.int (0 : Int32)), .val (.int (108 : Int32))] [])) (fun t q => XS.iinc X3.here hx rfl (hb hby d5_32) rfl (l' := #[.val (.ref cs), .val (.int (1 : Int32)), .val (.ref b), .val (.int (0 : Int32)), .val (.int (4 : Int32)), .val (.int (0 : Int32)), .val (.int (108 : Int32))]) rfl q) ?_
  refine own_go (T' := T3) (g' := (mkF m 38 #[.val (.ref cs), .val (.int (1 : Int32)), .val (.ref b), .val (.int (1 : Int32)), .val (.int (4 : Int32)), .val (.int (0 : Int32)), .val (.int (108 : Int32))] [])) (fun t q => XS.iinc X3.here hx rfl (hb hby d5_35) rfl (l' := #[.val (.ref cs), .val (.int (1 : Int32)), .val (.ref b), .val (.int (1 : Int32)), .val (.int (4 : Int32)), .val (.int (0 : Int32)), .val (.int (108 : Int32))]) rfl q) ?_
  refine own_go (T' := T3) (g' := (mkF m 41 #[.val (.ref cs), .val (.int (1 : Int32)), .val (.ref b), .val (.int (1 : Int32)), .val (.int (4 : Int32)), .val (.int (1 : Int32)), .val (.int (108 : Int32))] [])) (fun t q => XS.iinc X3.here hx rfl (hb hby d5_38) rfl (l' := #[.val (.ref cs), .val (.int (1 : Int32)), .val (.ref b), .val (.int (1 : Int32)), .val (.int (4 : Int32)), .val (.int (1 : Int32)), .val (.int (108 : Int32))]) rfl q) ?_
  refine own_go (T' := T3) (g' := (mkF m 3 #[.val (.ref cs), .val (.int (1 : Int32)), .val (.ref b), .val (.int (1 : Int32)), .val (.int (4 : Int32)), .val (.int (1 : Int32)), .val (.int (108 : Int32))] [])) (fun t q => XS.goto X3.here hx rfl (pc0 := 41) (pc' := 3) rfl (hb hby d5_41) (by decide) (by decide) q) ?_
  refine own_go (T' := T3) (g' := (mkF m 5 #[.val (.ref cs), .val (.int (1 : Int32)), .val (.ref b), .val (.int (1 : Int32)), .val (.int (4 : Int32)), .val (.int (1 : Int32)), .val (.int (108 : Int32))] [(.int (1 : Int32))])) (fun t q => XS.iload X3.here hx rfl (hb hby d5_3) rfl q) ?_
  refine own_go (T' := T3) (g' := (mkF m 7 #[.val (.ref cs), .val (.int (1 : Int32)), .val (.ref b), .val (.int (1 : Int32)), .val (.int (4 : Int32)), .val (.int (1 : Int32)), .val (.int (108 : Int32))] [(.int (4 : Int32)), (.int (1 : Int32))])) (fun t q => XS.iload X3.here hx rfl (hb hby d5_5) rfl q) ?_
  have c5 : (1 : Int32) < (4 : Int32) := by decide
  refine own_go (T' := T3) (g' := (mkF m 10 #[.val (.ref cs), .val (.int (1 : Int32)), .val (.ref b), .val (.int (1 : Int32)), .val (.int (4 : Int32)), .val (.int (1 : Int32)), .val (.int (108 : Int32))] [])) (fun t q => XS.icmpNo X3.here hx rfl (hb hby d5_7) rfl (tlt c5).2.1 q) ?_
  refine own_go (T' := T3) (g' := (mkF m 11 #[.val (.ref cs), .val (.int (1 : Int32)), .val (.ref b), .val (.int (1 : Int32)), .val (.int (4 : Int32)), .val (.int (1 : Int32)), .val (.int (108 : Int32))] [(.ref cs)])) (fun t q => XS.aloadN X3.here hx rfl (hb hby d5_10) rfl rfl q) ?_
  refine own_go (T' := T3) (g' := (mkF m 12 #[.val (.ref cs), .val (.int (1 : Int32)), .val (.ref b), .val (.int (1 : Int32)), .val (.int (4 : Int32)), .val (.int (1 : Int32)), .val (.int (108 : Int32))] [(.int (1 : Int32)), (.ref cs)])) (fun t q => XS.iloadN X3.here hx rfl (hb hby d5_11) rfl q) ?_
  refine own_go (T' := T3) (g' := (mkF m 13 #[.val (.ref cs), .val (.int (1 : Int32)), .val (.ref b), .val (.int (1 : Int32)), .val (.int (4 : Int32)), .val (.int (1 : Int32)), .val (.int (108 : Int32))] [(.int (105 : Int32))])) (fun t q => own_ldC X3 hx hZ e3 f4 (by decide) rfl (g := (mkF m 12 #[.val (.ref cs), .val (.int (1 : Int32)), .val (.ref b), .val (.int (1 : Int32)), .val (.int (4 : Int32)), .val (.int (1 : Int32)), .val (.int (108 : Int32))] [(.int (1 : Int32)), (.ref cs)])) rfl rfl (hb hby d5_12) t q) ?_
  refine own_go (T' := T3) (g' := (mkF m 15 #[.val (.ref cs), .val (.int (1 : Int32)), .val (.ref b), .val (.int (1 : Int32)), .val (.int (4 : Int32)), .val (.int (1 : Int32)), .val (.int (105 : Int32))] [])) (fun t q => XS.istore X3.here hx rfl (hb hby d5_13) rfl (l' := #[.val (.ref cs), .val (.int (1 : Int32)), .val (.ref b), .val (.int (1 : Int32)), .val (.int (4 : Int32)), .val (.int (1 : Int32)), .val (.int (105 : Int32))]) rfl q) ?_
  refine own_go (T' := T3) (g' := (mkF m 17 #[.val (.ref cs), .val (.int (1 : Int32)), .val (.ref b), .val (.int (1 : Int32)), .val (.int (4 : Int32)), .val (.int (1 : Int32)), .val (.int (105 : Int32))] [(.int (105 : Int32))])) (fun t q => XS.iload X3.here hx rfl (hb hby d5_15) rfl q) ?_
  refine own_go (T' := T3) (g' := (mkF m 20 #[.val (.ref cs), .val (.int (1 : Int32)), .val (.ref b), .val (.int (1 : Int32)), .val (.int (4 : Int32)), .val (.int (1 : Int32)), .val (.int (105 : Int32))] [(.int (255 : Int32)), (.int (105 : Int32))])) (fun t q => XS.sipush X3.here hx rfl (hb hby d5_17) q) ?_
  have c6 : ¬ ((255 : Int32) < (105 : Int32)) := by decide
  refine own_go (T' := T3) (g' := (mkF m 26 #[.val (.ref cs), .val (.int (1 : Int32)), .val (.ref b), .val (.int (1 : Int32)), .val (.int (4 : Int32)), .val (.int (1 : Int32)), .val (.int (105 : Int32))] [])) (fun t q => XS.icmpYes X3.here hx rfl (pc0 := 20) (pc' := 26) rfl (hb hby d5_20) rfl (flt c6).2.2.2 (by decide) (by decide) q) ?_
  refine own_go (T' := T3) (g' := (mkF m 27 #[.val (.ref cs), .val (.int (1 : Int32)), .val (.ref b), .val (.int (1 : Int32)), .val (.int (4 : Int32)), .val (.int (1 : Int32)), .val (.int (105 : Int32))] [(.ref b)])) (fun t q => XS.aloadN X3.here hx rfl (hb hby d5_26) rfl rfl q) ?_
  refine own_go (T' := T3) (g' := (mkF m 28 #[.val (.ref cs), .val (.int (1 : Int32)), .val (.ref b), .val (.int (1 : Int32)), .val (.int (4 : Int32)), .val (.int (1 : Int32)), .val (.int (105 : Int32))] [(.int (1 : Int32)), (.ref b)])) (fun t q => XS.iloadN X3.here hx rfl (hb hby d5_27) rfl q) ?_
  refine own_go (T' := T3) (g' := (mkF m 30 #[.val (.ref cs), .val (.int (1 : Int32)), .val (.ref b), .val (.int (1 : Int32)), .val (.int (4 : Int32)), .val (.int (1 : Int32)), .val (.int (105 : Int32))] [(.int (105 : Int32)), (.int (1 : Int32)), (.ref b)])) (fun t q => XS.iload X3.here hx rfl (hb hby d5_28) rfl q) ?_
  refine own_go (T' := T3) (g' := (mkF m 31 #[.val (.ref cs), .val (.int (1 : Int32)), .val (.ref b), .val (.int (1 : Int32)), .val (.int (4 : Int32)), .val (.int (1 : Int32)), .val (.int (105 : Int32))] [(.int (105 : Int32)), (.int (1 : Int32)), (.ref b)])) (fun t q => XT.i2b X3.here hx rfl (hb hby d5_30) rfl q) ?_
  obtain ⟨T7, h7, X7, e7, W7, A7, st7⟩ := own_stB X3 hx hZ e3 f3_ (by decide) 1 (by decide) (by show 1 < 4; decide) (g := (mkF m 31 #[.val (.ref cs), .val (.int (1 : Int32)), .val (.ref b), .val (.int (1 : Int32)), .val (.int (4 : Int32)), .val (.int (1 : Int32)), .val (.int (105 : Int32))] [(.int (105 : Int32)), (.int (1 : Int32)), (.ref b)])) rfl rfl (hb hby d5_31)
  have N7 := Fr.snoc X7 N3 gb
  have f8 := f4.other W7 hne
  have P7 : Keep h0 h7 [b] := P3.wr W7 (Or.inl (List.mem_of_getElem? (i := 0) rfl))
  have f7_ : own_Ar Z h7 b .byte [(.int (108 : Int32)), (.int (105 : Int32)), (.int (0 : Int32)), (.int (0 : Int32))] := A7
  have sz7 : n0 ≤ h7.size := by rw [W7.size]; exact sz3
  refine own_go (T' := T7) (g' := (mkF m 32 #[.val (.ref cs), .val (.int (1 : Int32)), .val (.ref b), .val (.int (1 : Int32)), .val (.int (4 : Int32)), .val (.int (1 : Int32)), .val (.int (105 : Int32))] [])) (fun t q => st7 t q) ?_
  refine own_go (T' := T7) (g' := (mkF m 35 #[.val (.ref cs), .val (.int (2 : Int32)), .val (.ref b), .val (.int (1 : Int32)), .val (.int (4 : Int32)), .val (.int (1 : Int32)), .val (.int (105 : Int32))] [])) (fun t q => XS.iinc X7.here hx rfl (hb hby d5_32) rfl (l' := #[.val (.ref cs), .val (.int (2 : Int32)), .val (.ref b), .val (.int (1 : Int32)), .val (.int (4 : Int32)), .val (.int (1 : Int32)), .val (.int (105 : Int32))]) rfl q) ?_
  refine own_go (T' := T7) (g' := (mkF m 38 #[.val (.ref cs), .val (.int (2 : Int32)), .val (.ref b), .val (.int (2 : Int32)), .val (.int (4 : Int32)), .val (.int (1 : Int32)), .val (.int (105 : Int32))] [])) (fun t q => XS.iinc X7.here hx rfl (hb hby d5_35) rfl (l' := #[.val (.ref cs), .val (.int (2 : Int32)), .val (.ref b), .val (.int (2 : Int32)), .val (.int (4 : Int32)), .val (.int (1 : Int32)), .val (.int (105 : Int32))]) rfl q) ?_
  refine own_go (T' := T7) (g' := (mkF m 41 #[.val (.ref cs), .val (.int (2 : Int32)), .val (.ref b), .val (.int (2 : Int32)), .val (.int (4 : Int32)), .val (.int (2 : Int32)), .val (.int (105 : Int32))] [])) (fun t q => XS.iinc X7.here hx rfl (hb hby d5_38) rfl (l' := #[.val (.ref cs), .val (.int (2 : Int32)), .val (.ref b), .val (.int (2 : Int32)), .val (.int (4 : Int32)), .val (.int (2 : Int32)), .val (.int (105 : Int32))]) rfl q) ?_
  refine own_go (T' := T7) (g' := (mkF m 3 #[.val (.ref cs), .val (.int (2 : Int32)), .val (.ref b), .val (.int (2 : Int32)), .val (.int (4 : Int32)), .val (.int (2 : Int32)), .val (.int (105 : Int32))] [])) (fun t q => XS.goto X7.here hx rfl (pc0 := 41) (pc' := 3) rfl (hb hby d5_41) (by decide) (by decide) q) ?_
  refine own_go (T' := T7) (g' := (mkF m 5 #[.val (.ref cs), .val (.int (2 : Int32)), .val (.ref b), .val (.int (2 : Int32)), .val (.int (4 : Int32)), .val (.int (2 : Int32)), .val (.int (105 : Int32))] [(.int (2 : Int32))])) (fun t q => XS.iload X7.here hx rfl (hb hby d5_3) rfl q) ?_
  refine own_go (T' := T7) (g' := (mkF m 7 #[.val (.ref cs), .val (.int (2 : Int32)), .val (.ref b), .val (.int (2 : Int32)), .val (.int (4 : Int32)), .val (.int (2 : Int32)), .val (.int (105 : Int32))] [(.int (4 : Int32)), (.int (2 : Int32))])) (fun t q => XS.iload X7.here hx rfl (hb hby d5_5) rfl q) ?_
  have c9 : (2 : Int32) < (4 : Int32) := by decide
  refine own_go (T' := T7) (g' := (mkF m 10 #[.val (.ref cs), .val (.int (2 : Int32)), .val (.ref b), .val (.int (2 : Int32)), .val (.int (4 : Int32)), .val (.int (2 : Int32)), .val (.int (105 : Int32))] [])) (fun t q => XS.icmpNo X7.here hx rfl (hb hby d5_7) rfl (tlt c9).2.1 q) ?_
  refine own_go (T' := T7) (g' := (mkF m 11 #[.val (.ref cs), .val (.int (2 : Int32)), .val (.ref b), .val (.int (2 : Int32)), .val (.int (4 : Int32)), .val (.int (2 : Int32)), .val (.int (105 : Int32))] [(.ref cs)])) (fun t q => XS.aloadN X7.here hx rfl (hb hby d5_10) rfl rfl q) ?_
  refine own_go (T' := T7) (g' := (mkF m 12 #[.val (.ref cs), .val (.int (2 : Int32)), .val (.ref b), .val (.int (2 : Int32)), .val (.int (4 : Int32)), .val (.int (2 : Int32)), .val (.int (105 : Int32))] [(.int (2 : Int32)), (.ref cs)])) (fun t q => XS.iloadN X7.here hx rfl (hb hby d5_11) rfl q) ?_
  refine own_go (T' := T7) (g' := (mkF m 13 #[.val (.ref cs), .val (.int (2 : Int32)), .val (.ref b), .val (.int (2 : Int32)), .val (.int (4 : Int32)), .val (.int (2 : Int32)), .val (.int (105 : Int32))] [(.int (110 : Int32))])) (fun t q => own_ldC X7 hx hZ e7 f8 (by decide) rfl (g := (mkF m 12 #[.val (.ref cs), .val (.int (2 : Int32)), .val (.ref b), .val (.int (2 : Int32)), .val (.int (4 : Int32)), .val (.int (2 : Int32)), .val (.int (105 : Int32))] [(.int (2 : Int32)), (.ref cs)])) rfl rfl (hb hby d5_12) t q) ?_
  refine own_go (T' := T7) (g' := (mkF m 15 #[.val (.ref cs), .val (.int (2 : Int32)), .val (.ref b), .val (.int (2 : Int32)), .val (.int (4 : Int32)), .val (.int (2 : Int32)), .val (.int (110 : Int32))] [])) (fun t q => XS.istore X7.here hx rfl (hb hby d5_13) rfl (l' := #[.val (.ref cs), .val (.int (2 : Int32)), .val (.ref b), .val (.int (2 : Int32)), .val (.int (4 : Int32)), .val (.int (2 : Int32)), .val (.int (110 : Int32))]) rfl q) ?_
  refine own_go (T' := T7) (g' := (mkF m 17 #[.val (.ref cs), .val (.int (2 : Int32)), .val (.ref b), .val (.int (2 : Int32)), .val (.int (4 : Int32)), .val (.int (2 : Int32)), .val (.int (110 : Int32))] [(.int (110 : Int32))])) (fun t q => XS.iload X7.here hx rfl (hb hby d5_15) rfl q) ?_
  refine own_go (T' := T7) (g' := (mkF m 20 #[.val (.ref cs), .val (.int (2 : Int32)), .val (.ref b), .val (.int (2 : Int32)), .val (.int (4 : Int32)), .val (.int (2 : Int32)), .val (.int (110 : Int32))] [(.int (255 : Int32)), (.int (110 : Int32))])) (fun t q => XS.sipush X7.here hx rfl (hb hby d5_17) q) ?_
  have c10 : ¬ ((255 : Int32) < (110 : Int32)) := by decide
  refine own_go (T' := T7) (g' := (mkF m 26 #[.val (.ref cs), .val (.int (2 : Int32)), .val (.ref b), .val (.int (2 : Int32)), .val (.int (4 : Int32)), .val (.int (2 : Int32)), .val (.int (110 : Int32))] [])) (fun t q => XS.icmpYes X7.here hx rfl (pc0 := 20) (pc' := 26) rfl (hb hby d5_20) rfl (flt c10).2.2.2 (by decide) (by decide) q) ?_
  refine own_go (T' := T7) (g' := (mkF m 27 #[.val (.ref cs), .val (.int (2 : Int32)), .val (.ref b), .val (.int (2 : Int32)), .val (.int (4 : Int32)), .val (.int (2 : Int32)), .val (.int (110 : Int32))] [(.ref b)])) (fun t q => XS.aloadN X7.here hx rfl (hb hby d5_26) rfl rfl q) ?_
  refine own_go (T' := T7) (g' := (mkF m 28 #[.val (.ref cs), .val (.int (2 : Int32)), .val (.ref b), .val (.int (2 : Int32)), .val (.int (4 : Int32)), .val (.int (2 : Int32)), .val (.int (110 : Int32))] [(.int (2 : Int32)), (.ref b)])) (fun t q => XS.iloadN X7.here hx rfl (hb hby d5_27) rfl q) ?_
  refine own_go (T' := T7) (g' := (mkF m 30 #[.val (.ref cs), .val (.int (2 : Int32)), .val (.ref b), .val (.int (2 : Int32)), .val (.int (4 : Int32)), .val (.int (2 : Int32)), .val (.int (110 : Int32))] [(.int (110 : Int32)), (.int (2 : Int32)), (.ref b)])) (fun t q => XS.iload X7.here hx rfl (hb hby d5_28) rfl q) ?_
  refine own_go (T' := T7) (g' := (mkF m 31 #[.val (.ref cs), .val (.int (2 : Int32)), .val (.ref b), .val (.int (2 : Int32)), .val (.int (4 : Int32)), .val (.int (2 : Int32)), .val (.int (110 : Int32))] [(.int (110 : Int32)), (.int (2 : Int32)), (.ref b)])) (fun t q => XT.i2b X7.here hx rfl (hb hby d5_30) rfl q) ?_
  obtain ⟨T11, h11, X11, e11, W11, A11, st11⟩ := own_stB X7 hx hZ e7 f7_ (by decide) 2 (by decide) (by show 2 < 4; decide) (g := (mkF m 31 #[.val (.ref cs), .val (.int (2 : Int32)), .val (.ref b), .val (.int (2 : Int32)), .val (.int (4 : Int32)), .val (.int (2 : Int32)), .val (.int (110 : Int32))] [(.int (110 : Int32)), (.int (2 : Int32)), (.ref b)])) rfl rfl (hb hby d5_31)
  have N11 := Fr.snoc X11 N7 gb
  have f12 := f8.other W11 hne
  have P11 : Keep h0 h11 [b] := P7.wr W11 (Or.inl (List.mem_of_getElem? (i := 0) rfl))
  have f11_ : own_Ar Z h11 b .byte [(.int (108 : Int32)), (.int (105 : Int32)), (.int (110 : Int32)), (.int (0 : Int32))] := A11
  have sz11 : n0 ≤ h11.size := by rw [W11.size]; exact sz7
  refine own_go (T' := T11) (g' := (mkF m 32 #[.val (.ref cs), .val (.int (2 : Int32)), .val (.ref b), .val (.int (2 : Int32)), .val (.int (4 : Int32)), .val (.int (2 : Int32)), .val (.int (110 : Int32))] [])) (fun t q => st11 t q) ?_
  refine own_go (T' := T11) (g' := (mkF m 35 #[.val (.ref cs), .val (.int (3 : Int32)), .val (.ref b), .val (.int (2 : Int32)), .val (.int (4 : Int32)), .val (.int (2 : Int32)), .val (.int (110 : Int32))] [])) (fun t q => XS.iinc X11.here hx rfl (hb hby d5_32) rfl (l' := #[.val (.ref cs), .val (.int (3 : Int32)), .val (.ref b), .val (.int (2 : Int32)), .val (.int (4 : Int32)), .val (.int (2 : Int32)), .val (.int (110 : Int32))]) rfl q) ?_
  refine own_go (T' := T11) (g' := (mkF m 38 #[.val (.ref cs), .val (.int (3 : Int32)), .val (.ref b), .val (.int (3 : Int32)), .val (.int (4 : Int32)), .val (.int (2 : Int32)), .val (.int (110 : Int32))] [])) (fun t q => XS.iinc X11.here hx rfl (hb hby d5_35) rfl (l' := #[.val (.ref cs), .val (.int (3 : Int32)), .val (.ref b), .val (.int (3 : Int32)), .val (.int (4 : Int32)), .val (.int (2 : Int32)), .val (.int (110 : Int32))]) rfl q) ?_
  refine own_go (T' := T11) (g' := (mkF m 41 #[.val (.ref cs), .val (.int (3 : Int32)), .val (.ref b), .val (.int (3 : Int32)), .val (.int (4 : Int32)), .val (.int (3 : Int32)), .val (.int (110 : Int32))] [])) (fun t q => XS.iinc X11.here hx rfl (hb hby d5_38) rfl (l' := #[.val (.ref cs), .val (.int (3 : Int32)), .val (.ref b), .val (.int (3 : Int32)), .val (.int (4 : Int32)), .val (.int (3 : Int32)), .val (.int (110 : Int32))]) rfl q) ?_
  refine own_go (T' := T11) (g' := (mkF m 3 #[.val (.ref cs), .val (.int (3 : Int32)), .val (.ref b), .val (.int (3 : Int32)), .val (.int (4 : Int32)), .val (.int (3 : Int32)), .val (.int (110 : Int32))] [])) (fun t q => XS.goto X11.here hx rfl (pc0 := 41) (pc' := 3) rfl (hb hby d5_41) (by decide) (by decide) q) ?_
  refine own_go (T' := T11) (g' := (mkF m 5 #[.val (.ref cs), .val (.int (3 : Int32)), .val (.ref b), .val (.int (3 : Int32)), .val (.int (4 : Int32)), .val (.int (3 : Int32)), .val (.int (110 : Int32))] [(.int (3 : Int32))])) (fun t q => XS.iload X11.here hx rfl (hb hby d5_3) rfl q) ?_
  refine own_go (T' := T11) (g' := (mkF m 7 #[.val (.ref cs), .val (.int (3 : Int32)), .val (.ref b), .val (.int (3 : Int32)), .val (.int (4 : Int32)), .val (.int (3 : Int32)), .val (.int (110 : Int32))] [(.int (4 : Int32)), (.int (3 : Int32))])) (fun t q => XS.iload X11.here hx rfl (hb hby d5_5) rfl q) ?_
  have c13 : (3 : Int32) < (4 : Int32) := by decide
  refine own_go (T' := T11) (g' := (mkF m 10 #[.val (.ref cs), .val (.int (3 : Int32)), .val (.ref b), .val (.int (3 : Int32)), .val (.int (4 : Int32)), .val (.int (3 : Int32)), .val (.int (110 : Int32))] [])) (fun t q => XS.icmpNo X11.here hx rfl (hb hby d5_7) rfl (tlt c13).2.1 q) ?_
  refine own_go (T' := T11) (g' := (mkF m 11 #[.val (.ref cs), .val (.int (3 : Int32)), .val (.ref b), .val (.int (3 : Int32)), .val (.int (4 : Int32)), .val (.int (3 : Int32)), .val (.int (110 : Int32))] [(.ref cs)])) (fun t q => XS.aloadN X11.here hx rfl (hb hby d5_10) rfl rfl q) ?_
  refine own_go (T' := T11) (g' := (mkF m 12 #[.val (.ref cs), .val (.int (3 : Int32)), .val (.ref b), .val (.int (3 : Int32)), .val (.int (4 : Int32)), .val (.int (3 : Int32)), .val (.int (110 : Int32))] [(.int (3 : Int32)), (.ref cs)])) (fun t q => XS.iloadN X11.here hx rfl (hb hby d5_11) rfl q) ?_
  refine own_go (T' := T11) (g' := (mkF m 13 #[.val (.ref cs), .val (.int (3 : Int32)), .val (.ref b), .val (.int (3 : Int32)), .val (.int (4 : Int32)), .val (.int (3 : Int32)), .val (.int (110 : Int32))] [(.int (102 : Int32))])) (fun t q => own_ldC X11 hx hZ e11 f12 (by decide) rfl (g := (mkF m 12 #[.val (.ref cs), .val (.int (3 : Int32)), .val (.ref b), .val (.int (3 : Int32)), .val (.int (4 : Int32)), .val (.int (3 : Int32)), .val (.int (110 : Int32))] [(.int (3 : Int32)), (.ref cs)])) rfl rfl (hb hby d5_12) t q) ?_
  refine own_go (T' := T11) (g' := (mkF m 15 #[.val (.ref cs), .val (.int (3 : Int32)), .val (.ref b), .val (.int (3 : Int32)), .val (.int (4 : Int32)), .val (.int (3 : Int32)), .val (.int (102 : Int32))] [])) (fun t q => XS.istore X11.here hx rfl (hb hby d5_13) rfl (l' := #[.val (.ref cs), .val (.int (3 : Int32)), .val (.ref b), .val (.int (3 : Int32)), .val (.int (4 : Int32)), .val (.int (3 : Int32)), .val (.int (102 : Int32))]) rfl q) ?_
  refine own_go (T' := T11) (g' := (mkF m 17 #[.val (.ref cs), .val (.int (3 : Int32)), .val (.ref b), .val (.int (3 : Int32)), .val (.int (4 : Int32)), .val (.int (3 : Int32)), .val (.int (102 : Int32))] [(.int (102 : Int32))])) (fun t q => XS.iload X11.here hx rfl (hb hby d5_15) rfl q) ?_
  refine own_go (T' := T11) (g' := (mkF m 20 #[.val (.ref cs), .val (.int (3 : Int32)), .val (.ref b), .val (.int (3 : Int32)), .val (.int (4 : Int32)), .val (.int (3 : Int32)), .val (.int (102 : Int32))] [(.int (255 : Int32)), (.int (102 : Int32))])) (fun t q => XS.sipush X11.here hx rfl (hb hby d5_17) q) ?_
  have c14 : ¬ ((255 : Int32) < (102 : Int32)) := by decide
  refine own_go (T' := T11) (g' := (mkF m 26 #[.val (.ref cs), .val (.int (3 : Int32)), .val (.ref b), .val (.int (3 : Int32)), .val (.int (4 : Int32)), .val (.int (3 : Int32)), .val (.int (102 : Int32))] [])) (fun t q => XS.icmpYes X11.here hx rfl (pc0 := 20) (pc' := 26) rfl (hb hby d5_20) rfl (flt c14).2.2.2 (by decide) (by decide) q) ?_
  refine own_go (T' := T11) (g' := (mkF m 27 #[.val (.ref cs), .val (.int (3 : Int32)), .val (.ref b), .val (.int (3 : Int32)), .val (.int (4 : Int32)), .val (.int (3 : Int32)), .val (.int (102 : Int32))] [(.ref b)])) (fun t q => XS.aloadN X11.here hx rfl (hb hby d5_26) rfl rfl q) ?_
  refine own_go (T' := T11) (g' := (mkF m 28 #[.val (.ref cs), .val (.int (3 : Int32)), .val (.ref b), .val (.int (3 : Int32)), .val (.int (4 : Int32)), .val (.int (3 : Int32)), .val (.int (102 : Int32))] [(.int (3 : Int32)), (.ref b)])) (fun t q => XS.iloadN X11.here hx rfl (hb hby d5_27) rfl q) ?_
  refine own_go (T' := T11) (g' := (mkF m 30 #[.val (.ref cs), .val (.int (3 : Int32)), .val (.ref b), .val (.int (3 : Int32)), .val (.int (4 : Int32)), .val (.int (3 : Int32)), .val (.int (102 : Int32))] [(.int (102 : Int32)), (.int (3 : Int32)), (.ref b)])) (fun t q => XS.iload X11.here hx rfl (hb hby d5_28) rfl q) ?_
  refine own_go (T' := T11) (g' := (mkF m 31 #[.val (.ref cs), .val (.int (3 : Int32)), .val (.ref b), .val (.int (3 : Int32)), .val (.int (4 : Int32)), .val (.int (3 : Int32)), .val (.int (102 : Int32))] [(.int (102 : Int32)), (.int (3 : Int32)), (.ref b)])) (fun t q => XT.i2b X11.here hx rfl (hb hby d5_30) rfl q) ?_
  obtain ⟨T15, h15, X15, e15, W15, A15, st15⟩ := own_stB X11 hx hZ e11 f11_ (by decide) 3 (by decide) (by show 3 < 4; decide) (g := (mkF m 31 #[.val (.ref cs), .val (.int (3 : Int32)), .val (.ref b), .val (.int (3 : Int32)), .val (.int (4 : Int32)), .val (.int (3 : Int32)), .val (.int (102 : Int32))] [(.int (102 : Int32)), (.int (3 : Int32)), (.ref b)])) rfl rfl (hb hby d5_31)
  have N15 := Fr.snoc X15 N11 gb
  have f16 := f12.other W15 hne
  have P15 : Keep h0 h15 [b] := P11.wr W15 (Or.inl (List.mem_of_getElem? (i := 0) rfl))
  have f15_ : own_Ar Z h15 b .byte [(.int (108 : Int32)), (.int (105 : Int32)), (.int (110 : Int32)), (.int (102 : Int32))] := A15
  have sz15 : n0 ≤ h15.size := by rw [W15.size]; exact sz11
  refine own_go (T' := T15) (g' := (mkF m 32 #[.val (.ref cs), .val (.int (3 : Int32)), .val (.ref b), .val (.int (3 : Int32)), .val (.int (4 : Int32)), .val (.int (3 : Int32)), .val (.int (102 : Int32))] [])) (fun t q => st15 t q) ?_
  refine own_go (T' := T15) (g' := (mkF m 35 #[.val (.ref cs), .val (.int (4 : Int32)), .val (.ref b), .val (.int (3 : Int32)), .val (.int (4 : Int32)), .val (.int (3 : Int32)), .val (.int (102 : Int32))] [])) (fun t q => XS.iinc X15.here hx rfl (hb hby d5_32) rfl (l' := #[.val (.ref cs), .val (.int (4 : Int32)), .val (.ref b), .val (.int (3 : Int32)), .val (.int (4 : Int32)), .val (.int (3 : Int32)), .val (.int (102 : Int32))]) rfl q) ?_
  refine own_go (T' := T15) (g' := (mkF m 38 #[.val (.ref cs), .val (.int (4 : Int32)), .val (.ref b), .val (.int (4 : Int32)), .val (.int (4 : Int32)), .val (.int (3 : Int32)), .val (.int (102 : Int32))] [])) (fun t q => XS.iinc X15.here hx rfl (hb hby d5_35) rfl (l' := #[.val (.ref cs), .val (.int (4 : Int32)), .val (.ref b), .val (.int (4 : Int32)), .val (.int (4 : Int32)), .val (.int (3 : Int32)), .val (.int (102 : Int32))]) rfl q) ?_
  refine own_go (T' := T15) (g' := (mkF m 41 #[.val (.ref cs), .val (.int (4 : Int32)), .val (.ref b), .val (.int (4 : Int32)), .val (.int (4 : Int32)), .val (.int (4 : Int32)), .val (.int (102 : Int32))] [])) (fun t q => XS.iinc X15.here hx rfl (hb hby d5_38) rfl (l' := #[.val (.ref cs), .val (.int (4 : Int32)), .val (.ref b), .val (.int (4 : Int32)), .val (.int (4 : Int32)), .val (.int (4 : Int32)), .val (.int (102 : Int32))]) rfl q) ?_
  refine own_go (T' := T15) (g' := (mkF m 3 #[.val (.ref cs), .val (.int (4 : Int32)), .val (.ref b), .val (.int (4 : Int32)), .val (.int (4 : Int32)), .val (.int (4 : Int32)), .val (.int (102 : Int32))] [])) (fun t q => XS.goto X15.here hx rfl (pc0 := 41) (pc' := 3) rfl (hb hby d5_41) (by decide) (by decide) q) ?_
  refine own_go (T' := T15) (g' := (mkF m 5 #[.val (.ref cs), .val (.int (4 : Int32)), .val (.ref b), .val (.int (4 : Int32)), .val (.int (4 : Int32)), .val (.int (4 : Int32)), .val (.int (102 : Int32))] [(.int (4 : Int32))])) (fun t q => XS.iload X15.here hx rfl (hb hby d5_3) rfl q) ?_
  refine own_go (T' := T15) (g' := (mkF m 7 #[.val (.ref cs), .val (.int (4 : Int32)), .val (.ref b), .val (.int (4 : Int32)), .val (.int (4 : Int32)), .val (.int (4 : Int32)), .val (.int (102 : Int32))] [(.int (4 : Int32)), (.int (4 : Int32))])) (fun t q => XS.iload X15.here hx rfl (hb hby d5_5) rfl q) ?_
  have c17 : ¬ ((4 : Int32) < (4 : Int32)) := by decide
  refine own_go (T' := T15) (g' := (mkF m 44 #[.val (.ref cs), .val (.int (4 : Int32)), .val (.ref b), .val (.int (4 : Int32)), .val (.int (4 : Int32)), .val (.int (4 : Int32)), .val (.int (102 : Int32))] [])) (fun t q => XS.icmpYes X15.here hx rfl (pc0 := 7) (pc' := 44) rfl (hb hby d5_7) rfl (flt c17).2.1 (by decide) (by decide) q) ?_
  refine own_go (T' := T15) (g' := (mkF m 46 #[.val (.ref cs), .val (.int (4 : Int32)), .val (.ref b), .val (.int (4 : Int32)), .val (.int (4 : Int32)), .val (.int (4 : Int32)), .val (.int (102 : Int32))] [(.int (4 : Int32))])) (fun t q => XS.iload X15.here hx rfl (hb hby d5_44) rfl q) ?_
  refine own_outI X15 hx hlk hret (hb hby d5_46) ?_ (by decide) (by decide)
  rw [e15]
  exact ⟨rfl, N15, P15, f15_⟩
set_option maxRecDepth 65536 in
set_option maxHeartbeats 40000000 in
theorem rm_c3_C (l : Launch) (Z : State) (a0 : Array Value) (hw : ∀ d ∈ tables_1, d.before a0 Z = true) (ws : List Jvm.Cond) (n0 : Nat) (cs : Addr) (h0 : Heap) (Z0 : n0 ≤ h0.size) (A : own_Ar Z h0 cs .char [(.int (108 : Int32)), (.int (105 : Int32)), (.int (110 : Int32)), (.int (102 : Int32))]) :
    own_Met l (⟨"java/lang/StringUTF16", "compress", "([CII)[B"⟩ : MethodName) jdk_52_method_16_code 6 (some (.array .byte)) ws ({ frames := 1, cells := 1, slots := 4, locals := 18 } : Room) Z #[(.ref cs), (.int (0 : Int32)), (.int (4 : Int32))] h0 (fun v h L => ∃ b : Addr, v = some (.ref b) ∧ Fr n0 L ∧ Keep h0 h [] ∧ own_Ar Z h b .byte [(.int (108 : Int32)), (.int (105 : Int32)), (.int (110 : Int32)), (.int (102 : Int32))] ∧ n0 ≤ b ∧ h0.size ≤ b) := by
  refine MetFree.of_bodySF (plainFor_of_name (by first | (simp [plainName, overriddenIn]; done) | decide +kernel)) hisR ?_
  intro p e s m args below meth c s₁ Bd hml0 hP hK
  obtain ⟨rfl, hZ, hh⟩ := hP
  have hx := Bd.exec
  have hby := Bd.bytes
  have hml : c.maxLocals = 6 := hml0
  have hown : s.vm.findClass "java/lang/StringUTF16" = some m.cls := findClass_of_methodNamed Bd.named
  have hnm := (name_of_methodNamed Bd.named Bd.method).1
  have hlk : meth.locks = false := Bd.notSynchronized
  have hret := Bd.returns
  have X0 : Stand p l e ({ frames := 1, cells := 1, slots := 4, locals := 18 } : Room) s m #[(.ref cs), (.int (0 : Int32)), (.int (4 : Int32))] below meth c s₁ [] 0 0 := Stand.of_body Bd
  have e0 : s₁.heap = h0 := by rw [← hh, Bd.state]; rfl
  refine own_in (Q := fun v h L => ∃ b : Addr, v = some (.ref b) ∧ Fr n0 L ∧ Keep h0 h [] ∧ own_Ar Z h b .byte [(.int (108 : Int32)), (.int (105 : Int32)), (.int (110 : Int32)), (.int (102 : Int32))] ∧ n0 ≤ b ∧ h0.size ≤ b) (ef := by first | (simp [entryFrame, mkF, argsToLocals, Value.category, maxLocals]; done) | rfl) (g' := (mkF m 0 #[.val (.ref cs), .val (.int (0 : Int32)), .val (.int (4 : Int32)), .unset, .unset, .unset] [])) ?_
  refine own_go (T' := s₁) (g' := (mkF m 1 #[.val (.ref cs), .val (.int (0 : Int32)), .val (.int (4 : Int32)), .unset, .unset, .unset] [(.int (4 : Int32))])) (fun t q => XS.iloadN X0.here hx rfl (hb hby d4_0) rfl q) ?_
  obtain ⟨T1, h1, X1, e1, E1, A1, st1⟩ := own_newP X0 hx hZ (hw _ (List.mem_of_getElem? (i := 19) rfl)) e0 (g := (mkF m 1 #[.val (.ref cs), .val (.int (0 : Int32)), .val (.int (4 : Int32)), .unset, .unset, .unset] [(.int (4 : Int32))])) rfl (hb hby d4_1) rfl (by decide) 4 (by decide) (by decide) (by decide) (by decide)
  obtain ⟨a1, g1⟩ : ∃ z, z = h0.size := ⟨_, rfl⟩
  rw [← g1] at A1 st1
  have ne_cs_a1 : cs ≠ a1 := by rw [g1]; exact Nat.ne_of_lt A.lt
  have za1 : n0 ≤ a1 := by rw [g1]; exact Z0
  have f2 := A.ext E1
  have sz1 : n0 ≤ h1.size := Nat.le_trans Z0 E1.1
  have f1_ : own_Ar Z h1 a1 .byte [(.int (0 : Int32)), (.int (0 : Int32)), (.int (0 : Int32)), (.int (0 : Int32))] := A1
  have P1 : Keep h0 h1 [] := (Keep.refl _ _).ext E1
  have gh1 : h0.size ≤ a1 := by rw [g1]; exact Nat.le_refl _
  refine own_go (T' := T1) (g' := (mkF m 3 #[.val (.ref cs), .val (.int (0 : Int32)), .val (.int (4 : Int32)), .unset, .unset, .unset] [(.ref a1)])) (fun t q => st1 t q) ?_
  refine own_go (T' := T1) (g' := (mkF m 4 #[.val (.ref cs), .val (.int (0 : Int32)), .val (.int (4 : Int32)), .val (.ref a1), .unset, .unset] [])) (fun t q => XS.astoreN X1.here hx rfl (hb hby d4_3) rfl rfl (l' := #[.val (.ref cs), .val (.int (0 : Int32)), .val (.int (4 : Int32)), .val (.ref a1), .unset, .unset]) rfl q) ?_
  refine own_go (T' := T1) (g' := (mkF m 5 #[.val (.ref cs), .val (.int (0 : Int32)), .val (.int (4 : Int32)), .val (.ref a1), .unset, .unset] [(.ref cs)])) (fun t q => XS.aloadN X1.here hx rfl (hb hby d4_4) rfl rfl q) ?_
  refine own_go (T' := T1) (g' := (mkF m 6 #[.val (.ref cs), .val (.int (0 : Int32)), .val (.int (4 : Int32)), .val (.ref a1), .unset, .unset] [(.int (0 : Int32)), (.ref cs)])) (fun t q => XS.iloadN X1.here hx rfl (hb hby d4_5) rfl q) ?_
  refine own_go (T' := T1) (g' := (mkF m 7 #[.val (.ref cs), .val (.int (0 : Int32)), .val (.int (4 : Int32)), .val (.ref a1), .unset, .unset] [(.ref a1), (.int (0 : Int32)), (.ref cs)])) (fun t q => XS.aloadN X1.here hx rfl (hb hby d4_6) rfl rfl q) ?_
  refine own_go (T' := T1) (g' := (mkF m 8 #[.val (.ref cs), .val (.int (0 : Int32)), .val (.int (4 : Int32)), .val (.ref a1), .unset, .unset] [(.int (0 : Int32)), (.ref a1), (.int (0 : Int32)), (.ref cs)])) (fun t q => XS.iconst X1.here hx rfl (hb hby d4_7) q) ?_
  refine own_go (T' := T1) (g' := (mkF m 9 #[.val (.ref cs), .val (.int (0 : Int32)), .val (.int (4 : Int32)), .val (.ref a1), .unset, .unset] [(.int (4 : Int32)), (.int (0 : Int32)), (.ref a1), (.int (0 : Int32)), (.ref cs)])) (fun t q => XS.iloadN X1.here hx rfl (hb hby d4_8) rfl q) ?_
  obtain ⟨v3, T3, L3, X3, Q3, st3⟩ := own_callS X1 hx hZ (y := (⟨"java/lang/StringUTF16", "compress", "([CI[BII)I"⟩ : MethodName)) (argsL := [(.ref cs), (.int (0 : Int32)), (.ref a1), (.int (0 : Int32)), (.int (4 : Int32))]) (rest := []) hown (hw _ (List.mem_of_getElem? (i := 20) rfl)) (hw _ (List.mem_of_getElem? (i := 21) rfl)) (hw _ (List.mem_of_getElem? (i := 17) rfl)) (hw _ (List.mem_of_getElem? (i := 22) rfl)) (rm_c5_C l Z a0 hw [] n0 cs a1 h1 sz1 za1 ne_cs_a1 f2 f1_) e1 (by decide) (by decide) 0 (by decide) (by decide) (by decide) (g := (mkF m 9 #[.val (.ref cs), .val (.int (0 : Int32)), .val (.int (4 : Int32)), .val (.ref a1), .unset, .unset] [(.int (4 : Int32)), (.int (0 : Int32)), (.ref a1), (.int (0 : Int32)), (.ref cs)])) rfl (by rw [hml]; rfl) (lenOf (ps := [(.array .char), .int, (.array .byte), .int, .int]) (r := (some .int)) (by decide +kernel) rfl) rfl (by show 2 * 0 + _ ≤ _; exact Nat.le_of_eq rfl) (hb hby d4_9)
  obtain ⟨rfl, M3, K3, RR3⟩ := Q3
  have f4 := f2.keep K3 (ninS ne_cs_a1 nin0)
  have N3 := Fr.app (Fr.nil _) M3
  have sz3 : n0 ≤ T3.heap.size := Nat.le_trans sz1 K3.1
  have P3 : Keep h0 T3.heap [] := P1.trans K3 (allS (Or.inr gh1) all0)
  refine own_go (T' := T3) (g' := (mkF m 12 #[.val (.ref cs), .val (.int (0 : Int32)), .val (.int (4 : Int32)), .val (.ref a1), .unset, .unset] [(.int (4 : Int32))])) (fun t q => st3 t q) ?_
  refine own_go (T' := T3) (g' := (mkF m 14 #[.val (.ref cs), .val (.int (0 : Int32)), .val (.int (4 : Int32)), .val (.ref a1), .val (.int (4 : Int32)), .unset] [])) (fun t q => XS.istore X3.here hx rfl (hb hby d4_12) rfl (l' := #[.val (.ref cs), .val (.int (0 : Int32)), .val (.int (4 : Int32)), .val (.ref a1), .val (.int (4 : Int32)), .unset]) rfl q) ?_
  refine own_go (T' := T3) (g' := (mkF m 16 #[.val (.ref cs), .val (.int (0 : Int32)), .val (.int (4 : Int32)), .val (.ref a1), .val (.int (4 : Int32)), .unset] [(.int (4 : Int32))])) (fun t q => XS.iload X3.here hx rfl (hb hby d4_14) rfl q) ?_
  refine own_go (T' := T3) (g' := (mkF m 17 #[.val (.ref cs), .val (.int (0 : Int32)), .val (.int (4 : Int32)), .val (.ref a1), .val (.int (4 : Int32)), .unset] [(.int (4 : Int32)), (.int (4 : Int32))])) (fun t q => XS.iloadN X3.here hx rfl (hb hby d4_16) rfl q) ?_
  have c5 : (4 : Int32) = (4 : Int32) := by decide
  refine own_go (T' := T3) (g' := (mkF m 57 #[.val (.ref cs), .val (.int (0 : Int32)), .val (.int (4 : Int32)), .val (.ref a1), .val (.int (4 : Int32)), .unset] [])) (fun t q => XS.icmpYes X3.here hx rfl (pc0 := 17) (pc' := 57) rfl (hb hby d4_17) rfl (teq c5).1 (by decide) (by decide) q) ?_
  refine own_go (T' := T3) (g' := (mkF m 58 #[.val (.ref cs), .val (.int (0 : Int32)), .val (.int (4 : Int32)), .val (.ref a1), .val (.int (4 : Int32)), .unset] [(.ref a1)])) (fun t q => XS.aloadN X3.here hx rfl (hb hby d4_57) rfl rfl q) ?_
  refine own_outA X3 hx hlk hret rfl rfl (hb hby d4_58) ?_ (by decide) (by decide)
  exact ⟨_, rfl, N3, P3, RR3, za1, gh1⟩
set_option maxRecDepth 65536 in
set_option maxHeartbeats 40000000 in
theorem rm_cod_C (l : Launch) (Z : State) (a0 : Array Value) (hw : ∀ d ∈ tables_1, d.before a0 Z = true) (ws : List Jvm.Cond) (b : Addr) (h0 : Heap) (A : own_Ar Z h0 b .byte [(.int (108 : Int32)), (.int (105 : Int32)), (.int (110 : Int32)), (.int (102 : Int32))]) :
    own_Met l (⟨"java/lang/StringUTF16", "coderFromArrayLen", "([BI)B"⟩ : MethodName) jdk_52_method_15_code 2 (some .byte) ws ({ frames := 0, cells := 0, slots := 0, locals := 0 } : Room) Z #[(.ref b), (.int (4 : Int32))] h0 (fun v h L => v = some (.int (0 : Int32)) ∧ h = h0 ∧ L = []) := by
  refine MetFree.of_bodySF (plainFor_of_name (by first | (simp [plainName, overriddenIn]; done) | decide +kernel)) hisR ?_
  intro p e s m args below meth c s₁ Bd hml0 hP hK
  obtain ⟨rfl, hZ, hh⟩ := hP
  have hx := Bd.exec
  have hby := Bd.bytes
  have hml : c.maxLocals = 2 := hml0
  have hown : s.vm.findClass "java/lang/StringUTF16" = some m.cls := findClass_of_methodNamed Bd.named
  have hnm := (name_of_methodNamed Bd.named Bd.method).1
  have hlk : meth.locks = false := Bd.notSynchronized
  have hret := Bd.returns
  have X0 : Stand p l e ({ frames := 0, cells := 0, slots := 0, locals := 0 } : Room) s m #[(.ref b), (.int (4 : Int32))] below meth c s₁ [] 0 0 := Stand.of_body Bd
  have e0 : s₁.heap = h0 := by rw [← hh, Bd.state]; rfl
  refine own_in (Q := fun v h L => v = some (.int (0 : Int32)) ∧ h = h0 ∧ L = []) (ef := by first | (simp [entryFrame, mkF, argsToLocals, Value.category, maxLocals]; done) | rfl) (g' := (mkF m 0 #[.val (.ref b), .val (.int (4 : Int32))] [])) ?_
  refine own_go (T' := s₁) (g' := (mkF m 1 #[.val (.ref b), .val (.int (4 : Int32))] [(.int (4 : Int32))])) (fun t q => XS.iloadN X0.here hx rfl (hb hby d6_0) rfl q) ?_
  refine own_go (T' := s₁) (g' := (mkF m 2 #[.val (.ref b), .val (.int (4 : Int32))] [(.ref b), (.int (4 : Int32))])) (fun t q => XS.aloadN X0.here hx rfl (hb hby d6_1) rfl rfl q) ?_
  refine own_go (T' := s₁) (g' := (mkF m 3 #[.val (.ref b), .val (.int (4 : Int32))] [(.int (4 : Int32)), (.int (4 : Int32))])) (fun t q => own_len X0 hx hZ e0 A (n := (4 : Int32)) rfl (g := (mkF m 2 #[.val (.ref b), .val (.int (4 : Int32))] [(.ref b), (.int (4 : Int32))])) rfl rfl (hb hby d6_2) t q) ?_
  refine own_go (T' := s₁) (g' := (mkF m 4 #[.val (.ref b), .val (.int (4 : Int32))] [(.int (0 : Int32))])) (fun t q => XS.isub X0.here hx rfl (hb hby d6_3) rfl q) ?_
  refine own_go (T' := s₁) (g' := (mkF m 6 #[.val (.ref b), .val (.int (4 : Int32))] [(.int (31 : Int32)), (.int (0 : Int32))])) (fun t q => XS.bipush X0.here hx rfl (hb hby d6_4) q) ?_
  refine own_go (T' := s₁) (g' := (mkF m 7 #[.val (.ref b), .val (.int (4 : Int32))] [(.int (0 : Int32))])) (fun t q => XT.iushr X0.here hx rfl (hb hby d6_6) rfl q) ?_
  refine own_go (T' := s₁) (g' := (mkF m 8 #[.val (.ref b), .val (.int (4 : Int32))] [(.int (0 : Int32))])) (fun t q => XT.i2b X0.here hx rfl (hb hby d6_7) rfl q) ?_
  refine own_outN X0 hx hlk hret (t := .byte) (by simp) (hb hby d6_8) (w := (0 : Int32)) (by decide) ?_ (by decide) (by decide)
  exact ⟨rfl, e0, rfl⟩
set_option maxRecDepth 65536 in
set_option maxHeartbeats 40000000 in
theorem rm_s4_C (l : Launch) (Z : State) (a0 : Array Value) (hw : ∀ d ∈ tables_1, d.before a0 Z = true) (ws : List Jvm.Cond) (n0 : Nat) (a cs : Addr) (cp : Int32) (h0 : Heap) (Z0 : n0 ≤ h0.size) (ga : n0 ≤ a) (A0 : Exa Z h0 a "java/lang/String") (B0 : Fld Z h0 a "java/lang/String" "coder" "B" (.int (0 : Int32))) (B1 : Fld Z h0 a "java/lang/String" "value" "[B" .null) (hne : cs ≠ a) (A : own_Ar Z h0 cs .char [(.int (108 : Int32)), (.int (105 : Int32)), (.int (110 : Int32)), (.int (102 : Int32))]) (cp0 : ¬ (cp = (0 : Int32))) (S_cp : Sta Z h0 "java/lang/String" "COMPACT_STRINGS" "Z" (.int cp)) :
    own_Met l (⟨"java/lang/String", "<init>", "([CIILjava/lang/Void;)V"⟩ : MethodName) jdk_42_method_149_code 6 none ws ({ frames := 2, cells := 1, slots := 4, locals := 35 } : Room) Z #[(.ref a), (.ref cs), (.int (0 : Int32)), (.int (4 : Int32)), .null] h0 (fun v h L => v = none ∧ Fr n0 L ∧ Keep h0 h [a] ∧ Exa Z h a "java/lang/String" ∧ Fld Z h a "java/lang/String" "coder" "B" (.int (0 : Int32)) ∧ ∃ b : Addr, Fld Z h a "java/lang/String" "value" "[B" (.ref b) ∧ own_Ar Z h b .byte [(.int (108 : Int32)), (.int (105 : Int32)), (.int (110 : Int32)), (.int (102 : Int32))] ∧ n0 ≤ b ∧ h0.size ≤ b) := by
  refine MetFree.of_bodySF (plainFor_of_name (by first | (simp [plainName, overriddenIn]; done) | decide +kernel)) hisR ?_
  intro p e s m args below meth c s₁ Bd hml0 hP hK
  obtain ⟨rfl, hZ, hh⟩ := hP
  have hx := Bd.exec
  have hby := Bd.bytes
  have hml : c.maxLocals = 6 := hml0
  have hown : s.vm.findClass "java/lang/String" = some m.cls := findClass_of_methodNamed Bd.named
  have hnm := (name_of_methodNamed Bd.named Bd.method).1
  have hlk : meth.locks = false := Bd.notSynchronized
  have hret := Bd.returns
  have X0 : Stand p l e ({ frames := 2, cells := 1, slots := 4, locals := 35 } : Room) s m #[(.ref a), (.ref cs), (.int (0 : Int32)), (.int (4 : Int32)), .null] below meth c s₁ [] 0 0 := Stand.of_body Bd
  have e0 : s₁.heap = h0 := by rw [← hh, Bd.state]; rfl
  refine own_in (Q := fun v h L => v = none ∧ Fr n0 L ∧ Keep h0 h [a] ∧ Exa Z h a "java/lang/String" ∧ Fld Z h a "java/lang/String" "coder" "B" (.int (0 : Int32)) ∧ ∃ b : Addr, Fld Z h a "java/lang/String" "value" "[B" (.ref b) ∧ own_Ar Z h b .byte [(.int (108 : Int32)), (.int (105 : Int32)), (.int (110 : Int32)), (.int (102 : Int32))] ∧ n0 ≤ b ∧ h0.size ≤ b) (ef := by first | (simp [entryFrame, mkF, argsToLocals, Value.category, maxLocals]; done) | rfl) (g' := (mkF m 0 #[.val (.ref a), .val (.ref cs), .val (.int (0 : Int32)), .val (.int (4 : Int32)), .val .null, .unset] [])) ?_
  refine own_go (T' := s₁) (g' := (mkF m 1 #[.val (.ref a), .val (.ref cs), .val (.int (0 : Int32)), .val (.int (4 : Int32)), .val .null, .unset] [(.ref a)])) (fun t q => XS.aloadN X0.here hx rfl (hb hby d2_0) rfl rfl q) ?_
  obtain ⟨T1, X1, e1, st1⟩ := initO X0 hx hZ hown (hw _ (List.mem_of_getElem? (i := 11) rfl)) (hw _ (List.mem_of_getElem? (i := 12) rfl)) (hw _ (List.mem_of_getElem? (i := 13) rfl)) e0 (g := (mkF m 1 #[.val (.ref a), .val (.ref cs), .val (.int (0 : Int32)), .val (.int (4 : Int32)), .val .null, .unset] [(.ref a)])) rfl (by rw [hml]; rfl) rfl (hb hby d2_1) (by decide) (W := 0) (by show 2 * 0 + _ ≤ _; exact Nat.le_of_eq rfl) (by decide)
  refine own_go (T' := T1) (g' := (mkF m 4 #[.val (.ref a), .val (.ref cs), .val (.int (0 : Int32)), .val (.int (4 : Int32)), .val .null, .unset] [])) (fun t q => st1 t q) ?_
  refine own_go (T' := T1) (g' := (mkF m 5 #[.val (.ref a), .val (.ref cs), .val (.int (0 : Int32)), .val (.int (4 : Int32)), .val .null, .unset] [(.int (4 : Int32))])) (fun t q => XS.iloadN X1.here hx rfl (hb hby d2_4) rfl q) ?_
  have c2 : ¬ ((4 : Int32) = (0 : Int32)) := by decide
  refine own_go (T' := T1) (g' := (mkF m 27 #[.val (.ref a), .val (.ref cs), .val (.int (0 : Int32)), .val (.int (4 : Int32)), .val .null, .unset] [])) (fun t q => XS.ifYes X1.here hx rfl (pc0 := 5) (pc' := 27) rfl (hb hby d2_5) rfl ((if0 _ _).trans (feq c2).2) (by decide) (by decide) q) ?_
  obtain ⟨T3, X3, e3, st3⟩ := getS2 X1 hx hZ hown (host := "") (Or.inl (hw _ (List.mem_of_getElem? (i := 14) rfl))) Via.refl e1 S_cp (g := (mkF m 27 #[.val (.ref a), .val (.ref cs), .val (.int (0 : Int32)), .val (.int (4 : Int32)), .val .null, .unset] [])) rfl (hb hby d2_27)
  refine own_go (T' := T3) (g' := (mkF m 30 #[.val (.ref a), .val (.ref cs), .val (.int (0 : Int32)), .val (.int (4 : Int32)), .val .null, .unset] [(.int cp)])) (fun t q => st3 t q) ?_
  have c4 : ¬ (cp = (0 : Int32)) := cp0
  refine own_go (T' := T3) (g' := (mkF m 33 #[.val (.ref a), .val (.ref cs), .val (.int (0 : Int32)), .val (.int (4 : Int32)), .val .null, .unset] [])) (fun t q => XS.ifNo X3.here hx rfl (hb hby d2_30) rfl ((if0 _ _).trans (feq c4).1) q) ?_
  refine own_go (T' := T3) (g' := (mkF m 34 #[.val (.ref a), .val (.ref cs), .val (.int (0 : Int32)), .val (.int (4 : Int32)), .val .null, .unset] [(.ref cs)])) (fun t q => XS.aloadN X3.here hx rfl (hb hby d2_33) rfl rfl q) ?_
  refine own_go (T' := T3) (g' := (mkF m 35 #[.val (.ref a), .val (.ref cs), .val (.int (0 : Int32)), .val (.int (4 : Int32)), .val .null, .unset] [(.int (0 : Int32)), (.ref cs)])) (fun t q => XS.iloadN X3.here hx rfl (hb hby d2_34) rfl q) ?_
  refine own_go (T' := T3) (g' := (mkF m 36 #[.val (.ref a), .val (.ref cs), .val (.int (0 : Int32)), .val (.int (4 : Int32)), .val .null, .unset] [(.int (4 : Int32)), (.int (0 : Int32)), (.ref cs)])) (fun t q => XS.iloadN X3.here hx rfl (hb hby d2_35) rfl q) ?_
  obtain ⟨v5, T5, L5, X5, Q5, st5⟩ := own_callS X3 hx hZ (y := (⟨"java/lang/StringUTF16", "compress", "([CII)[B"⟩ : MethodName)) (argsL := [(.ref cs), (.int (0 : Int32)), (.int (4 : Int32))]) (rest := []) hown (hw _ (List.mem_of_getElem? (i := 15) rfl)) (hw _ (List.mem_of_getElem? (i := 16) rfl)) (hw _ (List.mem_of_getElem? (i := 17) rfl)) (hw _ (List.mem_of_getElem? (i := 18) rfl)) (rm_c3_C l Z a0 hw [] n0 cs h0 Z0 A) e3 (by decide) (by decide) 0 (by decide) (by decide) (by decide) (g := (mkF m 36 #[.val (.ref a), .val (.ref cs), .val (.int (0 : Int32)), .val (.int (4 : Int32)), .val .null, .unset] [(.int (4 : Int32)), (.int (0 : Int32)), (.ref cs)])) rfl (by rw [hml]; rfl) (lenOf (ps := [(.array .char), .int, .int]) (r := (some (.array .byte))) (by decide +kernel) rfl) rfl (by show 2 * 0 + _ ≤ _; exact Nat.le_of_eq rfl) (hb hby d2_36)
  obtain ⟨b5, rfl, M5, K5, RR5, gn5, gh5⟩ := Q5
  have nb5_a : a ≠ b5 := Nat.ne_of_lt (Nat.lt_of_lt_of_le A0.lt gh5)
  have nb5_cs : cs ≠ b5 := Nat.ne_of_lt (Nat.lt_of_lt_of_le A.lt gh5)
  have f6 := A0.keep K5
  have f7 := B0.keep K5 nin0
  have f8 := B1.keep K5 nin0
  have f9 := A.keep K5 nin0
  have N5 := Fr.app (Fr.nil _) M5
  have sz5 : n0 ≤ T5.heap.size := Nat.le_trans Z0 K5.1
  have P5 : Keep h0 T5.heap [a] := (Keep.refl _ _).trans K5 all0
  have gz5 : h0.size ≤ b5 := Nat.le_trans (Nat.le_refl _) gh5
  refine own_go (T' := T5) (g' := (mkF m 39 #[.val (.ref a), .val (.ref cs), .val (.int (0 : Int32)), .val (.int (4 : Int32)), .val .null, .unset] [(.ref b5)])) (fun t q => st5 t q) ?_
  refine own_go (T' := T5) (g' := (mkF m 41 #[.val (.ref a), .val (.ref cs), .val (.int (0 : Int32)), .val (.int (4 : Int32)), .val .null, .val (.ref b5)] [])) (fun t q => XS.astore X5.here hx rfl (hb hby d2_39) rfl rfl (l' := #[.val (.ref a), .val (.ref cs), .val (.int (0 : Int32)), .val (.int (4 : Int32)), .val .null, .val (.ref b5)]) rfl q) ?_
  refine own_go (T' := T5) (g' := (mkF m 42 #[.val (.ref a), .val (.ref cs), .val (.int (0 : Int32)), .val (.int (4 : Int32)), .val .null, .val (.ref b5)] [(.ref a)])) (fun t q => XS.aloadN X5.here hx rfl (hb hby d2_41) rfl rfl q) ?_
  refine own_go (T' := T5) (g' := (mkF m 44 #[.val (.ref a), .val (.ref cs), .val (.int (0 : Int32)), .val (.int (4 : Int32)), .val .null, .val (.ref b5)] [(.ref b5), (.ref a)])) (fun t q => XS.aload X5.here hx rfl (hb hby d2_42) rfl rfl q) ?_
  refine own_go (T' := T5) (g' := (mkF m 45 #[.val (.ref a), .val (.ref cs), .val (.int (0 : Int32)), .val (.int (4 : Int32)), .val .null, .val (.ref b5)] [(.int (4 : Int32)), (.ref b5), (.ref a)])) (fun t q => XS.iloadN X5.here hx rfl (hb hby d2_44) rfl q) ?_
  obtain ⟨v10, T10, L10, X10, Q10, st10⟩ := own_callS X5 hx hZ (y := (⟨"java/lang/StringUTF16", "coderFromArrayLen", "([BI)B"⟩ : MethodName)) (argsL := [(.ref b5), (.int (4 : Int32))]) (rest := [(.ref a)]) hown (hw _ (List.mem_of_getElem? (i := 23) rfl)) (hw _ (List.mem_of_getElem? (i := 24) rfl)) (hw _ (List.mem_of_getElem? (i := 17) rfl)) (hw _ (List.mem_of_getElem? (i := 25) rfl)) (rm_cod_C l Z a0 hw [] b5 T5.heap RR5) (rfl : T5.heap = T5.heap) (by decide) (by decide) 1 (by decide) (by decide) (by decide) (g := (mkF m 45 #[.val (.ref a), .val (.ref cs), .val (.int (0 : Int32)), .val (.int (4 : Int32)), .val .null, .val (.ref b5)] [(.int (4 : Int32)), (.ref b5), (.ref a)])) rfl (by rw [hml]; rfl) (lenOf (ps := [(.array .byte), .int]) (r := (some .byte)) (by decide +kernel) rfl) rfl (by show 2 * 0 + _ ≤ _; exact Nat.le_of_eq rfl) (hb hby d2_45)
  obtain ⟨rfl, e10, rfl⟩ := Q10
  refine own_go (T' := T10) (g' := (mkF m 48 #[.val (.ref a), .val (.ref cs), .val (.int (0 : Int32)), .val (.int (4 : Int32)), .val .null, .val (.ref b5)] [(.int (0 : Int32)), (.ref a)])) (fun t q => st10 t q) ?_
  obtain ⟨T11, h11, X11, e11, W11, st11⟩ := putF X10 hx hZ hown (host := "") (Or.inl (hw _ (List.mem_of_getElem? (i := 26) rfl))) Via.refl e10 f7 f6 (Or.inr ⟨(hw _ (List.mem_of_getElem? (i := 27) rfl)), rfl, hnm⟩) (hw _ (List.mem_of_getElem? (i := 2) rfl)) (ty := .byte) (by decide) rfl rfl (g := (mkF m 48 #[.val (.ref a), .val (.ref cs), .val (.int (0 : Int32)), .val (.int (4 : Int32)), .val .null, .val (.ref b5)] [(.int (0 : Int32)), (.ref a)])) rfl rfl (hb hby d2_48)
  have N11 := Fr.snoc X11 (Fr.app N5 (Fr.nil _)) ga
  have P11 : Keep h0 h11 [a] := P5.wr W11 (Or.inl (List.mem_of_getElem? (i := 0) rfl))
  have f12 := f6.wr W11
  have f13 := f8.other W11 (Or.inr (slot_ne (Or.inr (hw _ (List.mem_of_getElem? (i := 29) rfl))) (Or.inr (hw _ (List.mem_of_getElem? (i := 27) rfl))) (by decide) (t := (.array .byte)) (t' := .byte) (by decide) (by decide)))
  have f14 := f9.other W11 hne
  have f15 := RR5.other W11 (Ne.symm nb5_a)
  have f11_ : Fld Z h11 a "java/lang/String" "coder" "B" (.int (0 : Int32)) := f7.same W11
  have sz11 : n0 ≤ h11.size := by rw [W11.size]; exact sz5
  refine own_go (T' := T11) (g' := (mkF m 51 #[.val (.ref a), .val (.ref cs), .val (.int (0 : Int32)), .val (.int (4 : Int32)), .val .null, .val (.ref b5)] [])) (fun t q => st11 t q) ?_
  refine own_go (T' := T11) (g' := (mkF m 52 #[.val (.ref a), .val (.ref cs), .val (.int (0 : Int32)), .val (.int (4 : Int32)), .val .null, .val (.ref b5)] [(.ref a)])) (fun t q => XS.aloadN X11.here hx rfl (hb hby d2_51) rfl rfl q) ?_
  refine own_go (T' := T11) (g' := (mkF m 54 #[.val (.ref a), .val (.ref cs), .val (.int (0 : Int32)), .val (.int (4 : Int32)), .val .null, .val (.ref b5)] [(.ref b5), (.ref a)])) (fun t q => XS.aload X11.here hx rfl (hb hby d2_52) rfl rfl q) ?_
  obtain ⟨T16, h16, X16, e16, W16, st16⟩ := putF X11 hx hZ hown (host := "") (Or.inl (hw _ (List.mem_of_getElem? (i := 28) rfl))) Via.refl e11 f13 f12 (Or.inr ⟨(hw _ (List.mem_of_getElem? (i := 29) rfl)), rfl, hnm⟩) (hw _ (List.mem_of_getElem? (i := 2) rfl)) (ty := (.array .byte)) (by decide) rfl rfl (g := (mkF m 54 #[.val (.ref a), .val (.ref cs), .val (.int (0 : Int32)), .val (.int (4 : Int32)), .val .null, .val (.ref b5)] [(.ref b5), (.ref a)])) rfl rfl (hb hby d2_54)
  have N16 := Fr.snoc X16 N11 ga
  have P16 : Keep h0 h16 [a] := P11.wr W16 (Or.inl (List.mem_of_getElem? (i := 0) rfl))
  have f17 := f12.wr W16
  have f18 := f14.other W16 hne
  have f19 := f15.other W16 (Ne.symm nb5_a)
  have f20 := f11_.other W16 (Or.inr (slot_ne (Or.inr (hw _ (List.mem_of_getElem? (i := 27) rfl))) (Or.inr (hw _ (List.mem_of_getElem? (i := 29) rfl))) (by decide) (t := .byte) (t' := (.array .byte)) (by decide) (by decide)))
  have f16_ : Fld Z h16 a "java/lang/String" "value" "[B" (.ref b5) := f13.same W16
  have sz16 : n0 ≤ h16.size := by rw [W16.size]; exact sz11
  refine own_go (T' := T16) (g' := (mkF m 57 #[.val (.ref a), .val (.ref cs), .val (.int (0 : Int32)), .val (.int (4 : Int32)), .val .null, .val (.ref b5)] [])) (fun t q => st16 t q) ?_
  refine own_outV X16 hx hlk hret (hb hby d2_57) ?_ (by decide) (by decide)
  rw [e16]
  exact ⟨rfl, N16, P16, f17, f20, b5, f16_, f19, gn5, gz5⟩
set_option maxRecDepth 65536 in
set_option maxHeartbeats 40000000 in
theorem rm_s1_C (l : Launch) (Z : State) (a0 : Array Value) (hw : ∀ d ∈ tables_1, d.before a0 Z = true) (ws : List Jvm.Cond) (n0 : Nat) (a cs : Addr) (cp : Int32) (h0 : Heap) (Z0 : n0 ≤ h0.size) (ga : n0 ≤ a) (A0 : Exa Z h0 a "java/lang/String") (B0 : Fld Z h0 a "java/lang/String" "coder" "B" (.int (0 : Int32))) (B1 : Fld Z h0 a "java/lang/String" "value" "[B" .null) (hne : cs ≠ a) (A : own_Ar Z h0 cs .char [(.int (108 : Int32)), (.int (105 : Int32)), (.int (110 : Int32)), (.int (102 : Int32))]) (cp0 : ¬ (cp = (0 : Int32))) (S_cp : Sta Z h0 "java/lang/String" "COMPACT_STRINGS" "Z" (.int cp)) :
    own_Met l (⟨"java/lang/String", "<init>", "([C)V"⟩ : MethodName) jdk_42_method_3_code 2 none ws ({ frames := 3, cells := 1, slots := 4, locals := 52 } : Room) Z #[(.ref a), (.ref cs)] h0 (fun v h L => v = none ∧ Fr n0 L ∧ Keep h0 h [a] ∧ Exa Z h a "java/lang/String" ∧ Fld Z h a "java/lang/String" "coder" "B" (.int (0 : Int32)) ∧ ∃ b : Addr, Fld Z h a "java/lang/String" "value" "[B" (.ref b) ∧ own_Ar Z h b .byte [(.int (108 : Int32)), (.int (105 : Int32)), (.int (110 : Int32)), (.int (102 : Int32))] ∧ n0 ≤ b ∧ h0.size ≤ b) := by
  refine MetFree.of_bodySF (plainFor_of_name (by first | (simp [plainName, overriddenIn]; done) | decide +kernel)) hisR ?_
  intro p e s m args below meth c s₁ Bd hml0 hP hK
  obtain ⟨rfl, hZ, hh⟩ := hP
  have hx := Bd.exec
  have hby := Bd.bytes
  have hml : c.maxLocals = 2 := hml0
  have hown : s.vm.findClass "java/lang/String" = some m.cls := findClass_of_methodNamed Bd.named
  have hnm := (name_of_methodNamed Bd.named Bd.method).1
  have hlk : meth.locks = false := Bd.notSynchronized
  have hret := Bd.returns
  have X0 : Stand p l e ({ frames := 3, cells := 1, slots := 4, locals := 52 } : Room) s m #[(.ref a), (.ref cs)] below meth c s₁ [] 0 0 := Stand.of_body Bd
  have e0 : s₁.heap = h0 := by rw [← hh, Bd.state]; rfl
  refine own_in (Q := fun v h L => v = none ∧ Fr n0 L ∧ Keep h0 h [a] ∧ Exa Z h a "java/lang/String" ∧ Fld Z h a "java/lang/String" "coder" "B" (.int (0 : Int32)) ∧ ∃ b : Addr, Fld Z h a "java/lang/String" "value" "[B" (.ref b) ∧ own_Ar Z h b .byte [(.int (108 : Int32)), (.int (105 : Int32)), (.int (110 : Int32)), (.int (102 : Int32))] ∧ n0 ≤ b ∧ h0.size ≤ b) (ef := by first | (simp [entryFrame, mkF, argsToLocals, Value.category, maxLocals]; done) | rfl) (g' := (mkF m 0 #[.val (.ref a), .val (.ref cs)] [])) ?_
  refine own_go (T' := s₁) (g' := (mkF m 1 #[.val (.ref a), .val (.ref cs)] [(.ref a)])) (fun t q => XS.aloadN X0.here hx rfl (hb hby d1_0) rfl rfl q) ?_
  refine own_go (T' := s₁) (g' := (mkF m 2 #[.val (.ref a), .val (.ref cs)] [(.ref cs), (.ref a)])) (fun t q => XS.aloadN X0.here hx rfl (hb hby d1_1) rfl rfl q) ?_
  refine own_go (T' := s₁) (g' := (mkF m 3 #[.val (.ref a), .val (.ref cs)] [(.int (0 : Int32)), (.ref cs), (.ref a)])) (fun t q => XS.iconst X0.here hx rfl (hb hby d1_2) q) ?_
  refine own_go (T' := s₁) (g' := (mkF m 4 #[.val (.ref a), .val (.ref cs)] [(.ref cs), (.int (0 : Int32)), (.ref cs), (.ref a)])) (fun t q => XS.aloadN X0.here hx rfl (hb hby d1_3) rfl rfl q) ?_
  refine own_go (T' := s₁) (g' := (mkF m 5 #[.val (.ref a), .val (.ref cs)] [(.int (4 : Int32)), (.int (0 : Int32)), (.ref cs), (.ref a)])) (fun t q => own_len X0 hx hZ e0 A (n := (4 : Int32)) rfl (g := (mkF m 4 #[.val (.ref a), .val (.ref cs)] [(.ref cs), (.int (0 : Int32)), (.ref cs), (.ref a)])) rfl rfl (hb hby d1_4) t q) ?_
  refine own_go (T' := s₁) (g' := (mkF m 6 #[.val (.ref a), .val (.ref cs)] [.null, (.int (4 : Int32)), (.int (0 : Int32)), (.ref cs), (.ref a)])) (fun t q => XS.aconstNull X0.here hx rfl (hb hby d1_5) q) ?_
  obtain ⟨v1, T1, L1, X1, Q1, st1⟩ := own_callP X0 hx hZ (y := (⟨"java/lang/String", "<init>", "([CIILjava/lang/Void;)V"⟩ : MethodName)) (a := a) (argsL := [(.ref cs), (.int (0 : Int32)), (.int (4 : Int32)), .null]) (rest := []) hown rfl (hw _ (List.mem_of_getElem? (i := 7) rfl)) (hw _ (List.mem_of_getElem? (i := 8) rfl)) (hw _ (List.mem_of_getElem? (i := 3) rfl)) (hw _ (List.mem_of_getElem? (i := 10) rfl)) (rm_s4_C l Z a0 hw [] n0 a cs cp h0 Z0 ga A0 B0 B1 hne A cp0 S_cp) e0 (by decide) (by decide) 0 (by decide) (by decide) (by decide) (g := (mkF m 6 #[.val (.ref a), .val (.ref cs)] [.null, (.int (4 : Int32)), (.int (0 : Int32)), (.ref cs), (.ref a)])) rfl (by rw [hml]; rfl) (lenOf (ps := [(.array .char), .int, .int, (.object "java/lang/Void")]) (r := none) (by decide +kernel) rfl) rfl (by show 2 * 0 + _ ≤ _; exact Nat.le_of_eq rfl) (hb hby d1_6)
  obtain ⟨rfl, M1, K1, XA1, FC1, b1, FV1, RR1, gn1, gh1⟩ := Q1
  have nb1_a : a ≠ b1 := Nat.ne_of_lt (Nat.lt_of_lt_of_le A0.lt gh1)
  have nb1_cs : cs ≠ b1 := Nat.ne_of_lt (Nat.lt_of_lt_of_le A.lt gh1)
  have f2 := A0.keep K1
  have f3 := A.keep K1 (ninS hne nin0)
  have N1 := Fr.app (Fr.nil _) M1
  have sz1 : n0 ≤ T1.heap.size := Nat.le_trans Z0 K1.1
  have P1 : Keep h0 T1.heap [a] := (Keep.refl _ _).trans K1 (allS (Or.inl (List.mem_of_getElem? (i := 0) rfl)) all0)
  refine own_go (T' := T1) (g' := (mkF m 9 #[.val (.ref a), .val (.ref cs)] [])) (fun t q => st1 t q) ?_
  refine own_outV X1 hx hlk hret (hb hby d1_9) ?_ (by decide) (by decide)
  exact ⟨rfl, N1, P1, XA1, FC1, b1, FV1, RR1, gn1, gh1⟩
theorem d10_0 : decode jdk_43_method_13_code 0 = .ok (.aload_n 0, 1) := by decide +kernel
theorem d10_1 : decode jdk_43_method_13_code 1 = .ok (.arraylength, 1) := by decide +kernel
theorem d10_2 : decode jdk_43_method_13_code 2 = .ok (.aload_n 1, 1) := by decide +kernel
theorem d10_3 : decode jdk_43_method_13_code 3 = .ok (.arraylength, 1) := by decide +kernel
theorem d10_4 : decode jdk_43_method_13_code 4 = .ok (.if_icmp .ne 30, 3) := by decide +kernel
theorem d10_7 : decode jdk_43_method_13_code 7 = .ok (.iconst 0, 1) := by decide +kernel
theorem d10_8 : decode jdk_43_method_13_code 8 = .ok (.istore_n 2, 1) := by decide +kernel
theorem d10_9 : decode jdk_43_method_13_code 9 = .ok (.iload_n 2, 1) := by decide +kernel
theorem d10_10 : decode jdk_43_method_13_code 10 = .ok (.aload_n 0, 1) := by decide +kernel
theorem d10_11 : decode jdk_43_method_13_code 11 = .ok (.arraylength, 1) := by decide +kernel
theorem d10_12 : decode jdk_43_method_13_code 12 = .ok (.if_icmp .ge 20, 3) := by decide +kernel
theorem d10_15 : decode jdk_43_method_13_code 15 = .ok (.aload_n 0, 1) := by decide +kernel
theorem d10_16 : decode jdk_43_method_13_code 16 = .ok (.iload_n 2, 1) := by decide +kernel
theorem d10_17 : decode jdk_43_method_13_code 17 = .ok (.baload, 1) := by decide +kernel
theorem d10_18 : decode jdk_43_method_13_code 18 = .ok (.aload_n 1, 1) := by decide +kernel
theorem d10_19 : decode jdk_43_method_13_code 19 = .ok (.iload_n 2, 1) := by decide +kernel
theorem d10_20 : decode jdk_43_method_13_code 20 = .ok (.baload, 1) := by decide +kernel
theorem d10_21 : decode jdk_43_method_13_code 21 = .ok (.if_icmp .eq 5, 3) := by decide +kernel
theorem d10_26 : decode jdk_43_method_13_code 26 = .ok (.iinc 2 1, 3) := by decide +kernel
theorem d10_29 : decode jdk_43_method_13_code 29 = .ok (.goto (-20), 3) := by decide +kernel
theorem d10_32 : decode jdk_43_method_13_code 32 = .ok (.iconst 1, 1) := by decide +kernel
theorem d10_33 : decode jdk_43_method_13_code 33 = .ok (.ireturn, 1) := by decide +kernel
set_option maxRecDepth 65536 in
set_option maxHeartbeats 40000000 in
theorem rm_leq_RR (l : Launch) (Z : State) (a0 : Array Value) (hw : ∀ d ∈ tables_1, d.before a0 Z = true) (ws : List Jvm.Cond) (a b : Addr) (h0 : Heap) (A : own_Ar Z h0 a .byte [(.int (108 : Int32)), (.int (49 : Int32))]) (B : own_Ar Z h0 b .byte [(.int (108 : Int32)), (.int (49 : Int32))]) :
    own_Met l (⟨"java/lang/StringLatin1", "equals", "([B[B)Z"⟩ : MethodName) jdk_43_method_13_code 3 (some .boolean) ws ({ frames := 0, cells := 0, slots := 0, locals := 0 } : Room) Z #[(.ref a), (.ref b)] h0 (fun v h L => v = some (.int (1 : Int32)) ∧ h = h0 ∧ L = []) := by
  refine MetFree.of_bodySF (plainFor_of_name (by first | (simp [plainName, overriddenIn]; done) | decide +kernel)) hisR ?_
  intro p e s m args below meth c s₁ Bd hml0 hP hK
  obtain ⟨rfl, hZ, hh⟩ := hP
  have hx := Bd.exec
  have hby := Bd.bytes
  have hml : c.maxLocals = 3 := hml0
  have hown : s.vm.findClass "java/lang/StringLatin1" = some m.cls := findClass_of_methodNamed Bd.named
  have hnm := (name_of_methodNamed Bd.named Bd.method).1
  have hlk : meth.locks = false := Bd.notSynchronized
  have hret := Bd.returns
  have X0 : Stand p l e ({ frames := 0, cells := 0, slots := 0, locals := 0 } : Room) s m #[(.ref a), (.ref b)] below meth c s₁ [] 0 0 := Stand.of_body Bd
  have e0 : s₁.heap = h0 := by rw [← hh, Bd.state]; rfl
  refine own_in (Q := fun v h L => v = some (.int (1 : Int32)) ∧ h = h0 ∧ L = []) (ef := by first | (simp [entryFrame, mkF, argsToLocals, Value.category, maxLocals]; done) | rfl) (g' := (mkF m 0 #[.val (.ref a), .val (.ref b), .unset] [])) ?_
  refine own_go (T' := s₁) (g' := (mkF m 1 #[.val (.ref a), .val (.ref b), .unset] [(.ref a)])) (fun t q => XS.aloadN X0.here hx rfl (hb hby d10_0) rfl rfl q) ?_
  refine own_go (T' := s₁) (g' := (mkF m 2 #[.val (.ref a), .val (.ref b), .unset] [(.int (2 : Int32))])) (fun t q => own_len X0 hx hZ e0 A (n := (2 : Int32)) rfl (g := (mkF m 1 #[.val (.ref a), .val (.ref b), .unset] [(.ref a)])) rfl rfl (hb hby d10_1) t q) ?_
  refine own_go (T' := s₁) (g' := (mkF m 3 #[.val (.ref a), .val (.ref b), .unset] [(.ref b), (.int (2 : Int32))])) (fun t q => XS.aloadN X0.here hx rfl (hb hby d10_2) rfl rfl q) ?_
  refine own_go (T' := s₁) (g' := (mkF m 4 #[.val (.ref a), .val (.ref b), .unset] [(.int (2 : Int32)), (.int (2 : Int32))])) (fun t q => own_len X0 hx hZ e0 B (n := (2 : Int32)) rfl (g := (mkF m 3 #[.val (.ref a), .val (.ref b), .unset] [(.ref b), (.int (2 : Int32))])) rfl rfl (hb hby d10_3) t q) ?_
  have c1 : (2 : Int32) = (2 : Int32) := by decide
  refine own_go (T' := s₁) (g' := (mkF m 7 #[.val (.ref a), .val (.ref b), .unset] [])) (fun t q => XS.icmpNo X0.here hx rfl (hb hby d10_4) rfl (teq c1).2 q) ?_
  refine own_go (T' := s₁) (g' := (mkF m 8 #[.val (.ref a), .val (.ref b), .unset] [(.int (0 : Int32))])) (fun t q => XS.iconst X0.here hx rfl (hb hby d10_7) q) ?_
  refine own_go (T' := s₁) (g' := (mkF m 9 #[.val (.ref a), .val (.ref b), .val (.int (0 : Int32))] [])) (fun t q => XS.istoreN X0.here hx rfl (hb hby d10_8) rfl (l' := #[.val (.ref a), .val (.ref b), .val (.int (0 : Int32))]) rfl q) ?_
  refine own_go (T' := s₁) (g' := (mkF m 10 #[.val (.ref a), .val (.ref b), .val (.int (0 : Int32))] [(.int (0 : Int32))])) (fun t q => XS.iloadN X0.here hx rfl (hb hby d10_9) rfl q) ?_
  refine own_go (T' := s₁) (g' := (mkF m 11 #[.val (.ref a), .val (.ref b), .val (.int (0 : Int32))] [(.ref a), (.int (0 : Int32))])) (fun t q => XS.aloadN X0.here hx rfl (hb hby d10_10) rfl rfl q) ?_
  refine own_go (T' := s₁) (g' := (mkF m 12 #[.val (.ref a), .val (.ref b), .val (.int (0 : Int32))] [(.int (2 : Int32)), (.int (0 : Int32))])) (fun t q => own_len X0 hx hZ e0 A (n := (2 : Int32)) rfl (g := (mkF m 11 #[.val (.ref a), .val (.ref b), .val (.int (0 : Int32))] [(.ref a), (.int (0 : Int32))])) rfl rfl (hb hby d10_11) t q) ?_
  have c2 : (0 : Int32) < (2 : Int32) := by decide
  refine own_go (T' := s₁) (g' := (mkF m 15 #[.val (.ref a), .val (.ref b), .val (.int (0 : Int32))] [])) (fun t q => XS.icmpNo X0.here hx rfl (hb hby d10_12) rfl (tlt c2).2.1 q) ?_
  refine own_go (T' := s₁) (g' := (mkF m 16 #[.val (.ref a), .val (.ref b), .val (.int (0 : Int32))] [(.ref a)])) (fun t q => XS.aloadN X0.here hx rfl (hb hby d10_15) rfl rfl q) ?_
  refine own_go (T' := s₁) (g' := (mkF m 17 #[.val (.ref a), .val (.ref b), .val (.int (0 : Int32))] [(.int (0 : Int32)), (.ref a)])) (fun t q => XS.iloadN X0.here hx rfl (hb hby d10_16) rfl q) ?_
  refine own_go (T' := s₁) (g' := (mkF m 18 #[.val (.ref a), .val (.ref b), .val (.int (0 : Int32))] [(.int (108 : Int32))])) (fun t q => own_ldB X0 hx hZ e0 A (by decide) rfl (g := (mkF m 17 #[.val (.ref a), .val (.ref b), .val (.int (0 : Int32))] [(.int (0 : Int32)), (.ref a)])) rfl rfl (hb hby d10_17) t q) ?_
  refine own_go (T' := s₁) (g' := (mkF m 19 #[.val (.ref a), .val (.ref b), .val (.int (0 : Int32))] [(.ref b), (.int (108 : Int32))])) (fun t q => XS.aloadN X0.here hx rfl (hb hby d10_18) rfl rfl q) ?_
  refine own_go (T' := s₁) (g' := (mkF m 20 #[.val (.ref a), .val (.ref b), .val (.int (0 : Int32))] [(.int (0 : Int32)), (.ref b), (.int (108 : Int32))])) (fun t q => XS.iloadN X0.here hx rfl (hb hby d10_19) rfl q) ?_
  refine own_go (T' := s₁) (g' := (mkF m 21 #[.val (.ref a), .val (.ref b), .val (.int (0 : Int32))] [(.int (108 : Int32)), (.int (108 : Int32))])) (fun t q => own_ldB X0 hx hZ e0 B (by decide) rfl (g := (mkF m 20 #[.val (.ref a), .val (.ref b), .val (.int (0 : Int32))] [(.int (0 : Int32)), (.ref b), (.int (108 : Int32))])) rfl rfl (hb hby d10_20) t q) ?_
  have c3 : (108 : Int32) = (108 : Int32) := by decide
  refine own_go (T' := s₁) (g' := (mkF m 26 #[.val (.ref a), .val (.ref b), .val (.int (0 : Int32))] [])) (fun t q => XS.icmpYes X0.here hx rfl (pc0 := 21) (pc' := 26) rfl (hb hby d10_21) rfl (teq c3).1 (by decide) (by decide) q) ?_
  refine own_go (T' := s₁) (g' := (mkF m 29 #[.val (.ref a), .val (.ref b), .val (.int (1 : Int32))] [])) (fun t q => XS.iinc X0.here hx rfl (hb hby d10_26) rfl (l' := #[.val (.ref a), .val (.ref b), .val (.int (1 : Int32))]) rfl q) ?_
  refine own_go (T' := s₁) (g' := (mkF m 9 #[.val (.ref a), .val (.ref b), .val (.int (1 : Int32))] [])) (fun t q => XS.goto X0.here hx rfl (pc0 := 29) (pc' := 9) rfl (hb hby d10_29) (by decide) (by decide) q) ?_
  refine own_go (T' := s₁) (g' := (mkF m 10 #[.val (.ref a), .val (.ref b), .val (.int (1 : Int32))] [(.int (1 : Int32))])) (fun t q => XS.iloadN X0.here hx rfl (hb hby d10_9) rfl q) ?_
  refine own_go (T' := s₁) (g' := (mkF m 11 #[.val (.ref a), .val (.ref b), .val (.int (1 : Int32))] [(.ref a), (.int (1 : Int32))])) (fun t q => XS.aloadN X0.here hx rfl (hb hby d10_10) rfl rfl q) ?_
  refine own_go (T' := s₁) (g' := (mkF m 12 #[.val (.ref a), .val (.ref b), .val (.int (1 : Int32))] [(.int (2 : Int32)), (.int (1 : Int32))])) (fun t q => own_len X0 hx hZ e0 A (n := (2 : Int32)) rfl (g := (mkF m 11 #[.val (.ref a), .val (.ref b), .val (.int (1 : Int32))] [(.ref a), (.int (1 : Int32))])) rfl rfl (hb hby d10_11) t q) ?_
  have c4 : (1 : Int32) < (2 : Int32) := by decide
  refine own_go (T' := s₁) (g' := (mkF m 15 #[.val (.ref a), .val (.ref b), .val (.int (1 : Int32))] [])) (fun t q => XS.icmpNo X0.here hx rfl (hb hby d10_12) rfl (tlt c4).2.1 q) ?_
  refine own_go (T' := s₁) (g' := (mkF m 16 #[.val (.ref a), .val (.ref b), .val (.int (1 : Int32))] [(.ref a)])) (fun t q => XS.aloadN X0.here hx rfl (hb hby d10_15) rfl rfl q) ?_
  refine own_go (T' := s₁) (g' := (mkF m 17 #[.val (.ref a), .val (.ref b), .val (.int (1 : Int32))] [(.int (1 : Int32)), (.ref a)])) (fun t q => XS.iloadN X0.here hx rfl (hb hby d10_16) rfl q) ?_
  refine own_go (T' := s₁) (g' := (mkF m 18 #[.val (.ref a), .val (.ref b), .val (.int (1 : Int32))] [(.int (49 : Int32))])) (fun t q => own_ldB X0 hx hZ e0 A (by decide) rfl (g := (mkF m 17 #[.val (.ref a), .val (.ref b), .val (.int (1 : Int32))] [(.int (1 : Int32)), (.ref a)])) rfl rfl (hb hby d10_17) t q) ?_
  refine own_go (T' := s₁) (g' := (mkF m 19 #[.val (.ref a), .val (.ref b), .val (.int (1 : Int32))] [(.ref b), (.int (49 : Int32))])) (fun t q => XS.aloadN X0.here hx rfl (hb hby d10_18) rfl rfl q) ?_
  refine own_go (T' := s₁) (g' := (mkF m 20 #[.val (.ref a), .val (.ref b), .val (.int (1 : Int32))] [(.int (1 : Int32)), (.ref b), (.int (49 : Int32))])) (fun t q => XS.iloadN X0.here hx rfl (hb hby d10_19) rfl q) ?_
  refine own_go (T' := s₁) (g' := (mkF m 21 #[.val (.ref a), .val (.ref b), .val (.int (1 : Int32))] [(.int (49 : Int32)), (.int (49 : Int32))])) (fun t q => own_ldB X0 hx hZ e0 B (by decide) rfl (g := (mkF m 20 #[.val (.ref a), .val (.ref b), .val (.int (1 : Int32))] [(.int (1 : Int32)), (.ref b), (.int (49 : Int32))])) rfl rfl (hb hby d10_20) t q) ?_
  have c5 : (49 : Int32) = (49 : Int32) := by decide
  refine own_go (T' := s₁) (g' := (mkF m 26 #[.val (.ref a), .val (.ref b), .val (.int (1 : Int32))] [])) (fun t q => XS.icmpYes X0.here hx rfl (pc0 := 21) (pc' := 26) rfl (hb hby d10_21) rfl (teq c5).1 (by decide) (by decide) q) ?_
  refine own_go (T' := s₁) (g' := (mkF m 29 #[.val (.ref a), .val (.ref b), .val (.int (2 : Int32))] [])) (fun t q => XS.iinc X0.here hx rfl (hb hby d10_26) rfl (l' := #[.val (.ref a), .val (.ref b), .val (.int (2 : Int32))]) rfl q) ?_
  refine own_go (T' := s₁) (g' := (mkF m 9 #[.val (.ref a), .val (.ref b), .val (.int (2 : Int32))] [])) (fun t q => XS.goto X0.here hx rfl (pc0 := 29) (pc' := 9) rfl (hb hby d10_29) (by decide) (by decide) q) ?_
  refine own_go (T' := s₁) (g' := (mkF m 10 #[.val (.ref a), .val (.ref b), .val (.int (2 : Int32))] [(.int (2 : Int32))])) (fun t q => XS.iloadN X0.here hx rfl (hb hby d10_9) rfl q) ?_
  refine own_go (T' := s₁) (g' := (mkF m 11 #[.val (.ref a), .val (.ref b), .val (.int (2 : Int32))] [(.ref a), (.int (2 : Int32))])) (fun t q => XS.aloadN X0.here hx rfl (hb hby d10_10) rfl rfl q) ?_
  refine own_go (T' := s₁) (g' := (mkF m 12 #[.val (.ref a), .val (.ref b), .val (.int (2 : Int32))] [(.int (2 : Int32)), (.int (2 : Int32))])) (fun t q => own_len X0 hx hZ e0 A (n := (2 : Int32)) rfl (g := (mkF m 11 #[.val (.ref a), .val (.ref b), .val (.int (2 : Int32))] [(.ref a), (.int (2 : Int32))])) rfl rfl (hb hby d10_11) t q) ?_
  have c6 : ¬ ((2 : Int32) < (2 : Int32)) := by decide
  refine own_go (T' := s₁) (g' := (mkF m 32 #[.val (.ref a), .val (.ref b), .val (.int (2 : Int32))] [])) (fun t q => XS.icmpYes X0.here hx rfl (pc0 := 12) (pc' := 32) rfl (hb hby d10_12) rfl (flt c6).2.1 (by decide) (by decide) q) ?_
  refine own_go (T' := s₁) (g' := (mkF m 33 #[.val (.ref a), .val (.ref b), .val (.int (2 : Int32))] [(.int (1 : Int32))])) (fun t q => XS.iconst X0.here hx rfl (hb hby d10_32) q) ?_
  refine own_outN X0 hx hlk hret (t := .boolean) (by simp) (hb hby d10_33) (w := (1 : Int32)) (by decide) ?_ (by decide) (by decide)
  exact ⟨rfl, e0, rfl⟩
theorem d9_0 : decode jdk_42_method_66_code 0 = .ok (.aload_n 0, 1) := by decide +kernel
theorem d9_1 : decode jdk_42_method_66_code 1 = .ok (.aload_n 1, 1) := by decide +kernel
theorem d9_2 : decode jdk_42_method_66_code 2 = .ok (.if_acmp .ne 5, 3) := by decide +kernel
theorem d9_7 : decode jdk_42_method_66_code 7 = .ok (.aload_n 1, 1) := by decide +kernel
theorem d9_8 : decode jdk_42_method_66_code 8 = .ok (.instanceof 10, 3) := by decide +kernel
theorem d9_11 : decode jdk_42_method_66_code 11 = .ok (.ifCond .eq 43, 3) := by decide +kernel
theorem d9_14 : decode jdk_42_method_66_code 14 = .ok (.aload_n 1, 1) := by decide +kernel
theorem d9_15 : decode jdk_42_method_66_code 15 = .ok (.checkcast 10, 3) := by decide +kernel
theorem d9_18 : decode jdk_42_method_66_code 18 = .ok (.astore_n 2, 1) := by decide +kernel
theorem d9_19 : decode jdk_42_method_66_code 19 = .ok (.getstatic 38, 3) := by decide +kernel
theorem d9_22 : decode jdk_42_method_66_code 22 = .ok (.ifCond .eq 14, 3) := by decide +kernel
theorem d9_25 : decode jdk_42_method_66_code 25 = .ok (.aload_n 0, 1) := by decide +kernel
theorem d9_26 : decode jdk_42_method_66_code 26 = .ok (.getfield 15, 3) := by decide +kernel
theorem d9_29 : decode jdk_42_method_66_code 29 = .ok (.aload_n 2, 1) := by decide +kernel
theorem d9_30 : decode jdk_42_method_66_code 30 = .ok (.getfield 15, 3) := by decide +kernel
theorem d9_33 : decode jdk_42_method_66_code 33 = .ok (.if_icmp .ne 21, 3) := by decide +kernel
theorem d9_36 : decode jdk_42_method_66_code 36 = .ok (.aload_n 0, 1) := by decide +kernel
theorem d9_37 : decode jdk_42_method_66_code 37 = .ok (.getfield 9, 3) := by decide +kernel
theorem d9_40 : decode jdk_42_method_66_code 40 = .ok (.aload_n 2, 1) := by decide +kernel
theorem d9_41 : decode jdk_42_method_66_code 41 = .ok (.getfield 9, 3) := by decide +kernel
theorem d9_44 : decode jdk_42_method_66_code 44 = .ok (.invokestatic 541, 3) := by decide +kernel
theorem d9_47 : decode jdk_42_method_66_code 47 = .ok (.ifCond .eq 7, 3) := by decide +kernel
theorem d9_50 : decode jdk_42_method_66_code 50 = .ok (.iconst 1, 1) := by decide +kernel
theorem d9_51 : decode jdk_42_method_66_code 51 = .ok (.goto 4, 3) := by decide +kernel
theorem d9_55 : decode jdk_42_method_66_code 55 = .ok (.ireturn, 1) := by decide +kernel
set_option maxRecDepth 65536 in
set_option maxHeartbeats 40000000 in
theorem rm_eq_RR (l : Launch) (Z : State) (a0 : Array Value) (hw : ∀ d ∈ tables_1, d.before a0 Z = true) (ws : List Jvm.Cond) (a b va vb : Addr) (cp : Int32) (h0 : Heap) (hne : a ≠ b) (XB : Exa Z h0 b "java/lang/String") (C1 : Fld Z h0 a "java/lang/String" "coder" "B" (.int (0 : Int32))) (C2 : Fld Z h0 b "java/lang/String" "coder" "B" (.int (0 : Int32))) (V1 : Fld Z h0 a "java/lang/String" "value" "[B" (.ref va)) (V2 : Fld Z h0 b "java/lang/String" "value" "[B" (.ref vb)) (A : own_Ar Z h0 va .byte [(.int (108 : Int32)), (.int (49 : Int32))]) (B : own_Ar Z h0 vb .byte [(.int (108 : Int32)), (.int (49 : Int32))]) (S_cp : Sta Z h0 "java/lang/String" "COMPACT_STRINGS" "Z" (.int cp)) (cp0 : ¬ (cp = (0 : Int32))) :
    own_Met l (⟨"java/lang/String", "equals", "(Ljava/lang/Object;)Z"⟩ : MethodName) jdk_42_method_66_code 3 (some .boolean) ws ({ frames := 1, cells := 0, slots := 0, locals := 14 } : Room) Z #[(.ref a), (.ref b)] h0 (fun v h L => v = some (.int (1 : Int32)) ∧ h = h0 ∧ L = []) := by
  refine MetFree.of_bodySF (plainFor_of_name (by first | (simp [plainName, overriddenIn]; done) | decide +kernel)) hisR ?_
  intro p e s m args below meth c s₁ Bd hml0 hP hK
  obtain ⟨rfl, hZ, hh⟩ := hP
  have hx := Bd.exec
  have hby := Bd.bytes
  have hml : c.maxLocals = 3 := hml0
  have hown : s.vm.findClass "java/lang/String" = some m.cls := findClass_of_methodNamed Bd.named
  have hnm := (name_of_methodNamed Bd.named Bd.method).1
  have hlk : meth.locks = false := Bd.notSynchronized
  have hret := Bd.returns
  have X0 : Stand p l e ({ frames := 1, cells := 0, slots := 0, locals := 14 } : Room) s m #[(.ref a), (.ref b)] below meth c s₁ [] 0 0 := Stand.of_body Bd
  have e0 : s₁.heap = h0 := by rw [← hh, Bd.state]; rfl
  refine own_in (Q := fun v h L => v = some (.int (1 : Int32)) ∧ h = h0 ∧ L = []) (ef := by first | (simp [entryFrame, mkF, argsToLocals, Value.category, maxLocals]; done) | rfl) (g' := (mkF m 0 #[.val (.ref a), .val (.ref b), .unset] [])) ?_
  refine own_go (T' := s₁) (g' := (mkF m 1 #[.val (.ref a), .val (.ref b), .unset] [(.ref a)])) (fun t q => XS.aloadN X0.here hx rfl (hb hby d9_0) rfl rfl q) ?_
  refine own_go (T' := s₁) (g' := (mkF m 2 #[.val (.ref a), .val (.ref b), .unset] [(.ref b), (.ref a)])) (fun t q => XS.aloadN X0.here hx rfl (hb hby d9_1) rfl rfl q) ?_
  have c1 : ¬ ((Value.ref a) = (Value.ref b)) := fun z => hne (Value.ref.inj z)
  refine own_go (T' := s₁) (g' := (mkF m 7 #[.val (.ref a), .val (.ref b), .unset] [])) (fun t q => XT.acmpYes X0.here hx rfl (pc0 := 2) (pc' := 7) rfl (hb hby d9_2) rfl rfl rfl (own_af c1).2 (by decide) (by decide) q) ?_
  refine own_go (T' := s₁) (g' := (mkF m 8 #[.val (.ref a), .val (.ref b), .unset] [(.ref b)])) (fun t q => XS.aloadN X0.here hx rfl (hb hby d9_7) rfl rfl q) ?_
  obtain ⟨T2, X2, e2, st2⟩ := instY X0 hx hZ hown (hw _ (List.mem_of_getElem? (i := 59) rfl)) e0 (Ins.self XB) (g := (mkF m 8 #[.val (.ref a), .val (.ref b), .unset] [(.ref b)])) rfl rfl (hb hby d9_8)
  refine own_go (T' := T2) (g' := (mkF m 11 #[.val (.ref a), .val (.ref b), .unset] [(.int (1 : Int32))])) (fun t q => st2 t q) ?_
  have c3 : ¬ ((1 : Int32) = (0 : Int32)) := by decide
  refine own_go (T' := T2) (g' := (mkF m 14 #[.val (.ref a), .val (.ref b), .unset] [])) (fun t q => XS.ifNo X2.here hx rfl (hb hby d9_11) rfl ((if0 _ _).trans (feq c3).1) q) ?_
  refine own_go (T' := T2) (g' := (mkF m 15 #[.val (.ref a), .val (.ref b), .unset] [(.ref b)])) (fun t q => XS.aloadN X2.here hx rfl (hb hby d9_14) rfl rfl q) ?_
  obtain ⟨T4, X4, e4, st4⟩ := castY X2 hx hZ hown (hw _ (List.mem_of_getElem? (i := 59) rfl)) e2 (Ins.self XB) (g := (mkF m 15 #[.val (.ref a), .val (.ref b), .unset] [(.ref b)])) rfl rfl (hb hby d9_15)
  refine own_go (T' := T4) (g' := (mkF m 18 #[.val (.ref a), .val (.ref b), .unset] [(.ref b)])) (fun t q => st4 t q) ?_
  refine own_go (T' := T4) (g' := (mkF m 19 #[.val (.ref a), .val (.ref b), .val (.ref b)] [])) (fun t q => XS.astoreN X4.here hx rfl (hb hby d9_18) rfl rfl (l' := #[.val (.ref a), .val (.ref b), .val (.ref b)]) rfl q) ?_
  obtain ⟨T5, X5, e5, st5⟩ := getS2 X4 hx hZ hown (host := "") (Or.inl (hw _ (List.mem_of_getElem? (i := 14) rfl))) Via.refl e4 S_cp (g := (mkF m 19 #[.val (.ref a), .val (.ref b), .val (.ref b)] [])) rfl (hb hby d9_19)
  refine own_go (T' := T5) (g' := (mkF m 22 #[.val (.ref a), .val (.ref b), .val (.ref b)] [(.int cp)])) (fun t q => st5 t q) ?_
  have c6 : ¬ (cp = (0 : Int32)) := cp0
  refine own_go (T' := T5) (g' := (mkF m 25 #[.val (.ref a), .val (.ref b), .val (.ref b)] [])) (fun t q => XS.ifNo X5.here hx rfl (hb hby d9_22) rfl ((if0 _ _).trans (feq c6).1) q) ?_
  refine own_go (T' := T5) (g' := (mkF m 26 #[.val (.ref a), .val (.ref b), .val (.ref b)] [(.ref a)])) (fun t q => XS.aloadN X5.here hx rfl (hb hby d9_25) rfl rfl q) ?_
  obtain ⟨T7, X7, e7, st7⟩ := getF X5 hx hZ hown (host := "") (Or.inl (hw _ (List.mem_of_getElem? (i := 26) rfl))) Via.refl e5 C1 (g := (mkF m 26 #[.val (.ref a), .val (.ref b), .val (.ref b)] [(.ref a)])) rfl rfl (hb hby d9_26)
  refine own_go (T' := T7) (g' := (mkF m 29 #[.val (.ref a), .val (.ref b), .val (.ref b)] [(.int (0 : Int32))])) (fun t q => st7 t q) ?_
  refine own_go (T' := T7) (g' := (mkF m 30 #[.val (.ref a), .val (.ref b), .val (.ref b)] [(.ref b), (.int (0 : Int32))])) (fun t q => XS.aloadN X7.here hx rfl (hb hby d9_29) rfl rfl q) ?_
  obtain ⟨T8, X8, e8, st8⟩ := getF X7 hx hZ hown (host := "") (Or.inl (hw _ (List.mem_of_getElem? (i := 26) rfl))) Via.refl e7 C2 (g := (mkF m 30 #[.val (.ref a), .val (.ref b), .val (.ref b)] [(.ref b), (.int (0 : Int32))])) rfl rfl (hb hby d9_30)
  refine own_go (T' := T8) (g' := (mkF m 33 #[.val (.ref a), .val (.ref b), .val (.ref b)] [(.int (0 : Int32)), (.int (0 : Int32))])) (fun t q => st8 t q) ?_
  have c9 : (0 : Int32) = (0 : Int32) := by decide
  refine own_go (T' := T8) (g' := (mkF m 36 #[.val (.ref a), .val (.ref b), .val (.ref b)] [])) (fun t q => XS.icmpNo X8.here hx rfl (hb hby d9_33) rfl (teq c9).2 q) ?_
  refine own_go (T' := T8) (g' := (mkF m 37 #[.val (.ref a), .val (.ref b), .val (.ref b)] [(.ref a)])) (fun t q => XS.aloadN X8.here hx rfl (hb hby d9_36) rfl rfl q) ?_
  obtain ⟨T10, X10, e10, st10⟩ := getF X8 hx hZ hown (host := "") (Or.inl (hw _ (List.mem_of_getElem? (i := 28) rfl))) Via.refl e8 V1 (g := (mkF m 37 #[.val (.ref a), .val (.ref b), .val (.ref b)] [(.ref a)])) rfl rfl (hb hby d9_37)
  refine own_go (T' := T10) (g' := (mkF m 40 #[.val (.ref a), .val (.ref b), .val (.ref b)] [(.ref va)])) (fun t q => st10 t q) ?_
  refine own_go (T' := T10) (g' := (mkF m 41 #[.val (.ref a), .val (.ref b), .val (.ref b)] [(.ref b), (.ref va)])) (fun t q => XS.aloadN X10.here hx rfl (hb hby d9_40) rfl rfl q) ?_
  obtain ⟨T11, X11, e11, st11⟩ := getF X10 hx hZ hown (host := "") (Or.inl (hw _ (List.mem_of_getElem? (i := 28) rfl))) Via.refl e10 V2 (g := (mkF m 41 #[.val (.ref a), .val (.ref b), .val (.ref b)] [(.ref b), (.ref va)])) rfl rfl (hb hby d9_41)
  refine own_go (T' := T11) (g' := (mkF m 44 #[.val (.ref a), .val (.ref b), .val (.ref b)] [(.ref vb), (.ref va)])) (fun t q => st11 t q) ?_
  obtain ⟨v12, T12, L12, X12, Q12, st12⟩ := own_callS X11 hx hZ (y := (⟨"java/lang/StringLatin1", "equals", "([B[B)Z"⟩ : MethodName)) (argsL := [(.ref va), (.ref vb)]) (rest := []) hown (hw _ (List.mem_of_getElem? (i := 60) rfl)) (hw _ (List.mem_of_getElem? (i := 61) rfl)) (hw _ (List.mem_of_getElem? (i := 62) rfl)) (hw _ (List.mem_of_getElem? (i := 63) rfl)) (rm_leq_RR l Z a0 hw [] va vb h0 A B) e11 (by decide) (by decide) 0 (by decide) (by decide) (by decide) (g := (mkF m 44 #[.val (.ref a), .val (.ref b), .val (.ref b)] [(.ref vb), (.ref va)])) rfl (by rw [hml]; rfl) (lenOf (ps := [(.array .byte), (.array .byte)]) (r := (some .boolean)) (by decide +kernel) rfl) rfl (by show 2 * 0 + _ ≤ _; exact Nat.le_of_eq rfl) (hb hby d9_44)
  obtain ⟨rfl, e12, rfl⟩ := Q12
  refine own_go (T' := T12) (g' := (mkF m 47 #[.val (.ref a), .val (.ref b), .val (.ref b)] [(.int (1 : Int32))])) (fun t q => st12 t q) ?_
  have c13 : ¬ ((1 : Int32) = (0 : Int32)) := by decide
  refine own_go (T' := T12) (g' := (mkF m 50 #[.val (.ref a), .val (.ref b), .val (.ref b)] [])) (fun t q => XS.ifNo X12.here hx rfl (hb hby d9_47) rfl ((if0 _ _).trans (feq c13).1) q) ?_
  refine own_go (T' := T12) (g' := (mkF m 51 #[.val (.ref a), .val (.ref b), .val (.ref b)] [(.int (1 : Int32))])) (fun t q => XS.iconst X12.here hx rfl (hb hby d9_50) q) ?_
  refine own_go (T' := T12) (g' := (mkF m 55 #[.val (.ref a), .val (.ref b), .val (.ref b)] [(.int (1 : Int32))])) (fun t q => XS.goto X12.here hx rfl (pc0 := 51) (pc' := 55) rfl (hb hby d9_51) (by decide) (by decide) q) ?_
  refine own_outN X12 hx hlk hret (t := .boolean) (by simp) (hb hby d9_55) (w := (1 : Int32)) (by decide) ?_ (by decide) (by decide)
  exact ⟨rfl, e12, rfl⟩
set_option maxRecDepth 65536 in
set_option maxHeartbeats 40000000 in
theorem rm_leq_CC (l : Launch) (Z : State) (a0 : Array Value) (hw : ∀ d ∈ tables_1, d.before a0 Z = true) (ws : List Jvm.Cond) (a b : Addr) (h0 : Heap) (A : own_Ar Z h0 a .byte [(.int (108 : Int32)), (.int (105 : Int32)), (.int (110 : Int32)), (.int (102 : Int32))]) (B : own_Ar Z h0 b .byte [(.int (108 : Int32)), (.int (105 : Int32)), (.int (110 : Int32)), (.int (102 : Int32))]) :
    own_Met l (⟨"java/lang/StringLatin1", "equals", "([B[B)Z"⟩ : MethodName) jdk_43_method_13_code 3 (some .boolean) ws ({ frames := 0, cells := 0, slots := 0, locals := 0 } : Room) Z #[(.ref a), (.ref b)] h0 (fun v h L => v = some (.int (1 : Int32)) ∧ h = h0 ∧ L = []) := by
  refine MetFree.of_bodySF (plainFor_of_name (by first | (simp [plainName, overriddenIn]; done) | decide +kernel)) hisR ?_
  intro p e s m args below meth c s₁ Bd hml0 hP hK
  obtain ⟨rfl, hZ, hh⟩ := hP
  have hx := Bd.exec
  have hby := Bd.bytes
  have hml : c.maxLocals = 3 := hml0
  have hown : s.vm.findClass "java/lang/StringLatin1" = some m.cls := findClass_of_methodNamed Bd.named
  have hnm := (name_of_methodNamed Bd.named Bd.method).1
  have hlk : meth.locks = false := Bd.notSynchronized
  have hret := Bd.returns
  have X0 : Stand p l e ({ frames := 0, cells := 0, slots := 0, locals := 0 } : Room) s m #[(.ref a), (.ref b)] below meth c s₁ [] 0 0 := Stand.of_body Bd
  have e0 : s₁.heap = h0 := by rw [← hh, Bd.state]; rfl
  refine own_in (Q := fun v h L => v = some (.int (1 : Int32)) ∧ h = h0 ∧ L = []) (ef := by first | (simp [entryFrame, mkF, argsToLocals, Value.category, maxLocals]; done) | rfl) (g' := (mkF m 0 #[.val (.ref a), .val (.ref b), .unset] [])) ?_
  refine own_go (T' := s₁) (g' := (mkF m 1 #[.val (.ref a), .val (.ref b), .unset] [(.ref a)])) (fun t q => XS.aloadN X0.here hx rfl (hb hby d10_0) rfl rfl q) ?_
  refine own_go (T' := s₁) (g' := (mkF m 2 #[.val (.ref a), .val (.ref b), .unset] [(.int (4 : Int32))])) (fun t q => own_len X0 hx hZ e0 A (n := (4 : Int32)) rfl (g := (mkF m 1 #[.val (.ref a), .val (.ref b), .unset] [(.ref a)])) rfl rfl (hb hby d10_1) t q) ?_
  refine own_go (T' := s₁) (g' := (mkF m 3 #[.val (.ref a), .val (.ref b), .unset] [(.ref b), (.int (4 : Int32))])) (fun t q => XS.aloadN X0.here hx rfl (hb hby d10_2) rfl rfl q) ?_
  refine own_go (T' := s₁) (g' := (mkF m 4 #[.val (.ref a), .val (.ref b), .unset] [(.int (4 : Int32)), (.int (4 : Int32))])) (fun t q => own_len X0 hx hZ e0 B (n := (4 : Int32)) rfl (g := (mkF m 3 #[.val (.ref a), .val (.ref b), .unset] [(.ref b), (.int (4 : Int32))])) rfl rfl (hb hby d10_3) t q) ?_
  have c1 : (4 : Int32) = (4 : Int32) := by decide
  refine own_go (T' := s₁) (g' := (mkF m 7 #[.val (.ref a), .val (.ref b), .unset] [])) (fun t q => XS.icmpNo X0.here hx rfl (hb hby d10_4) rfl (teq c1).2 q) ?_
  refine own_go (T' := s₁) (g' := (mkF m 8 #[.val (.ref a), .val (.ref b), .unset] [(.int (0 : Int32))])) (fun t q => XS.iconst X0.here hx rfl (hb hby d10_7) q) ?_
  refine own_go (T' := s₁) (g' := (mkF m 9 #[.val (.ref a), .val (.ref b), .val (.int (0 : Int32))] [])) (fun t q => XS.istoreN X0.here hx rfl (hb hby d10_8) rfl (l' := #[.val (.ref a), .val (.ref b), .val (.int (0 : Int32))]) rfl q) ?_
  refine own_go (T' := s₁) (g' := (mkF m 10 #[.val (.ref a), .val (.ref b), .val (.int (0 : Int32))] [(.int (0 : Int32))])) (fun t q => XS.iloadN X0.here hx rfl (hb hby d10_9) rfl q) ?_
  refine own_go (T' := s₁) (g' := (mkF m 11 #[.val (.ref a), .val (.ref b), .val (.int (0 : Int32))] [(.ref a), (.int (0 : Int32))])) (fun t q => XS.aloadN X0.here hx rfl (hb hby d10_10) rfl rfl q) ?_
  refine own_go (T' := s₁) (g' := (mkF m 12 #[.val (.ref a), .val (.ref b), .val (.int (0 : Int32))] [(.int (4 : Int32)), (.int (0 : Int32))])) (fun t q => own_len X0 hx hZ e0 A (n := (4 : Int32)) rfl (g := (mkF m 11 #[.val (.ref a), .val (.ref b), .val (.int (0 : Int32))] [(.ref a), (.int (0 : Int32))])) rfl rfl (hb hby d10_11) t q) ?_
  have c2 : (0 : Int32) < (4 : Int32) := by decide
  refine own_go (T' := s₁) (g' := (mkF m 15 #[.val (.ref a), .val (.ref b), .val (.int (0 : Int32))] [])) (fun t q => XS.icmpNo X0.here hx rfl (hb hby d10_12) rfl (tlt c2).2.1 q) ?_
  refine own_go (T' := s₁) (g' := (mkF m 16 #[.val (.ref a), .val (.ref b), .val (.int (0 : Int32))] [(.ref a)])) (fun t q => XS.aloadN X0.here hx rfl (hb hby d10_15) rfl rfl q) ?_
  refine own_go (T' := s₁) (g' := (mkF m 17 #[.val (.ref a), .val (.ref b), .val (.int (0 : Int32))] [(.int (0 : Int32)), (.ref a)])) (fun t q => XS.iloadN X0.here hx rfl (hb hby d10_16) rfl q) ?_
  refine own_go (T' := s₁) (g' := (mkF m 18 #[.val (.ref a), .val (.ref b), .val (.int (0 : Int32))] [(.int (108 : Int32))])) (fun t q => own_ldB X0 hx hZ e0 A (by decide) rfl (g := (mkF m 17 #[.val (.ref a), .val (.ref b), .val (.int (0 : Int32))] [(.int (0 : Int32)), (.ref a)])) rfl rfl (hb hby d10_17) t q) ?_
  refine own_go (T' := s₁) (g' := (mkF m 19 #[.val (.ref a), .val (.ref b), .val (.int (0 : Int32))] [(.ref b), (.int (108 : Int32))])) (fun t q => XS.aloadN X0.here hx rfl (hb hby d10_18) rfl rfl q) ?_
  refine own_go (T' := s₁) (g' := (mkF m 20 #[.val (.ref a), .val (.ref b), .val (.int (0 : Int32))] [(.int (0 : Int32)), (.ref b), (.int (108 : Int32))])) (fun t q => XS.iloadN X0.here hx rfl (hb hby d10_19) rfl q) ?_
  refine own_go (T' := s₁) (g' := (mkF m 21 #[.val (.ref a), .val (.ref b), .val (.int (0 : Int32))] [(.int (108 : Int32)), (.int (108 : Int32))])) (fun t q => own_ldB X0 hx hZ e0 B (by decide) rfl (g := (mkF m 20 #[.val (.ref a), .val (.ref b), .val (.int (0 : Int32))] [(.int (0 : Int32)), (.ref b), (.int (108 : Int32))])) rfl rfl (hb hby d10_20) t q) ?_
  have c3 : (108 : Int32) = (108 : Int32) := by decide
  refine own_go (T' := s₁) (g' := (mkF m 26 #[.val (.ref a), .val (.ref b), .val (.int (0 : Int32))] [])) (fun t q => XS.icmpYes X0.here hx rfl (pc0 := 21) (pc' := 26) rfl (hb hby d10_21) rfl (teq c3).1 (by decide) (by decide) q) ?_
  refine own_go (T' := s₁) (g' := (mkF m 29 #[.val (.ref a), .val (.ref b), .val (.int (1 : Int32))] [])) (fun t q => XS.iinc X0.here hx rfl (hb hby d10_26) rfl (l' := #[.val (.ref a), .val (.ref b), .val (.int (1 : Int32))]) rfl q) ?_
  refine own_go (T' := s₁) (g' := (mkF m 9 #[.val (.ref a), .val (.ref b), .val (.int (1 : Int32))] [])) (fun t q => XS.goto X0.here hx rfl (pc0 := 29) (pc' := 9) rfl (hb hby d10_29) (by decide) (by decide) q) ?_
  refine own_go (T' := s₁) (g' := (mkF m 10 #[.val (.ref a), .val (.ref b), .val (.int (1 : Int32))] [(.int (1 : Int32))])) (fun t q => XS.iloadN X0.here hx rfl (hb hby d10_9) rfl q) ?_
  refine own_go (T' := s₁) (g' := (mkF m 11 #[.val (.ref a), .val (.ref b), .val (.int (1 : Int32))] [(.ref a), (.int (1 : Int32))])) (fun t q => XS.aloadN X0.here hx rfl (hb hby d10_10) rfl rfl q) ?_
  refine own_go (T' := s₁) (g' := (mkF m 12 #[.val (.ref a), .val (.ref b), .val (.int (1 : Int32))] [(.int (4 : Int32)), (.int (1 : Int32))])) (fun t q => own_len X0 hx hZ e0 A (n := (4 : Int32)) rfl (g := (mkF m 11 #[.val (.ref a), .val (.ref b), .val (.int (1 : Int32))] [(.ref a), (.int (1 : Int32))])) rfl rfl (hb hby d10_11) t q) ?_
  have c4 : (1 : Int32) < (4 : Int32) := by decide
  refine own_go (T' := s₁) (g' := (mkF m 15 #[.val (.ref a), .val (.ref b), .val (.int (1 : Int32))] [])) (fun t q => XS.icmpNo X0.here hx rfl (hb hby d10_12) rfl (tlt c4).2.1 q) ?_
  refine own_go (T' := s₁) (g' := (mkF m 16 #[.val (.ref a), .val (.ref b), .val (.int (1 : Int32))] [(.ref a)])) (fun t q => XS.aloadN X0.here hx rfl (hb hby d10_15) rfl rfl q) ?_
  refine own_go (T' := s₁) (g' := (mkF m 17 #[.val (.ref a), .val (.ref b), .val (.int (1 : Int32))] [(.int (1 : Int32)), (.ref a)])) (fun t q => XS.iloadN X0.here hx rfl (hb hby d10_16) rfl q) ?_
  refine own_go (T' := s₁) (g' := (mkF m 18 #[.val (.ref a), .val (.ref b), .val (.int (1 : Int32))] [(.int (105 : Int32))])) (fun t q => own_ldB X0 hx hZ e0 A (by decide) rfl (g := (mkF m 17 #[.val (.ref a), .val (.ref b), .val (.int (1 : Int32))] [(.int (1 : Int32)), (.ref a)])) rfl rfl (hb hby d10_17) t q) ?_
  refine own_go (T' := s₁) (g' := (mkF m 19 #[.val (.ref a), .val (.ref b), .val (.int (1 : Int32))] [(.ref b), (.int (105 : Int32))])) (fun t q => XS.aloadN X0.here hx rfl (hb hby d10_18) rfl rfl q) ?_
  refine own_go (T' := s₁) (g' := (mkF m 20 #[.val (.ref a), .val (.ref b), .val (.int (1 : Int32))] [(.int (1 : Int32)), (.ref b), (.int (105 : Int32))])) (fun t q => XS.iloadN X0.here hx rfl (hb hby d10_19) rfl q) ?_
  refine own_go (T' := s₁) (g' := (mkF m 21 #[.val (.ref a), .val (.ref b), .val (.int (1 : Int32))] [(.int (105 : Int32)), (.int (105 : Int32))])) (fun t q => own_ldB X0 hx hZ e0 B (by decide) rfl (g := (mkF m 20 #[.val (.ref a), .val (.ref b), .val (.int (1 : Int32))] [(.int (1 : Int32)), (.ref b), (.int (105 : Int32))])) rfl rfl (hb hby d10_20) t q) ?_
  have c5 : (105 : Int32) = (105 : Int32) := by decide
  refine own_go (T' := s₁) (g' := (mkF m 26 #[.val (.ref a), .val (.ref b), .val (.int (1 : Int32))] [])) (fun t q => XS.icmpYes X0.here hx rfl (pc0 := 21) (pc' := 26) rfl (hb hby d10_21) rfl (teq c5).1 (by decide) (by decide) q) ?_
  refine own_go (T' := s₁) (g' := (mkF m 29 #[.val (.ref a), .val (.ref b), .val (.int (2 : Int32))] [])) (fun t q => XS.iinc X0.here hx rfl (hb hby d10_26) rfl (l' := #[.val (.ref a), .val (.ref b), .val (.int (2 : Int32))]) rfl q) ?_
  refine own_go (T' := s₁) (g' := (mkF m 9 #[.val (.ref a), .val (.ref b), .val (.int (2 : Int32))] [])) (fun t q => XS.goto X0.here hx rfl (pc0 := 29) (pc' := 9) rfl (hb hby d10_29) (by decide) (by decide) q) ?_
  refine own_go (T' := s₁) (g' := (mkF m 10 #[.val (.ref a), .val (.ref b), .val (.int (2 : Int32))] [(.int (2 : Int32))])) (fun t q => XS.iloadN X0.here hx rfl (hb hby d10_9) rfl q) ?_
  refine own_go (T' := s₁) (g' := (mkF m 11 #[.val (.ref a), .val (.ref b), .val (.int (2 : Int32))] [(.ref a), (.int (2 : Int32))])) (fun t q => XS.aloadN X0.here hx rfl (hb hby d10_10) rfl rfl q) ?_
  refine own_go (T' := s₁) (g' := (mkF m 12 #[.val (.ref a), .val (.ref b), .val (.int (2 : Int32))] [(.int (4 : Int32)), (.int (2 : Int32))])) (fun t q => own_len X0 hx hZ e0 A (n := (4 : Int32)) rfl (g := (mkF m 11 #[.val (.ref a), .val (.ref b), .val (.int (2 : Int32))] [(.ref a), (.int (2 : Int32))])) rfl rfl (hb hby d10_11) t q) ?_
  have c6 : (2 : Int32) < (4 : Int32) := by decide
  refine own_go (T' := s₁) (g' := (mkF m 15 #[.val (.ref a), .val (.ref b), .val (.int (2 : Int32))] [])) (fun t q => XS.icmpNo X0.here hx rfl (hb hby d10_12) rfl (tlt c6).2.1 q) ?_
  refine own_go (T' := s₁) (g' := (mkF m 16 #[.val (.ref a), .val (.ref b), .val (.int (2 : Int32))] [(.ref a)])) (fun t q => XS.aloadN X0.here hx rfl (hb hby d10_15) rfl rfl q) ?_
  refine own_go (T' := s₁) (g' := (mkF m 17 #[.val (.ref a), .val (.ref b), .val (.int (2 : Int32))] [(.int (2 : Int32)), (.ref a)])) (fun t q => XS.iloadN X0.here hx rfl (hb hby d10_16) rfl q) ?_
  refine own_go (T' := s₁) (g' := (mkF m 18 #[.val (.ref a), .val (.ref b), .val (.int (2 : Int32))] [(.int (110 : Int32))])) (fun t q => own_ldB X0 hx hZ e0 A (by decide) rfl (g := (mkF m 17 #[.val (.ref a), .val (.ref b), .val (.int (2 : Int32))] [(.int (2 : Int32)), (.ref a)])) rfl rfl (hb hby d10_17) t q) ?_
  refine own_go (T' := s₁) (g' := (mkF m 19 #[.val (.ref a), .val (.ref b), .val (.int (2 : Int32))] [(.ref b), (.int (110 : Int32))])) (fun t q => XS.aloadN X0.here hx rfl (hb hby d10_18) rfl rfl q) ?_
  refine own_go (T' := s₁) (g' := (mkF m 20 #[.val (.ref a), .val (.ref b), .val (.int (2 : Int32))] [(.int (2 : Int32)), (.ref b), (.int (110 : Int32))])) (fun t q => XS.iloadN X0.here hx rfl (hb hby d10_19) rfl q) ?_
  refine own_go (T' := s₁) (g' := (mkF m 21 #[.val (.ref a), .val (.ref b), .val (.int (2 : Int32))] [(.int (110 : Int32)), (.int (110 : Int32))])) (fun t q => own_ldB X0 hx hZ e0 B (by decide) rfl (g := (mkF m 20 #[.val (.ref a), .val (.ref b), .val (.int (2 : Int32))] [(.int (2 : Int32)), (.ref b), (.int (110 : Int32))])) rfl rfl (hb hby d10_20) t q) ?_
  have c7 : (110 : Int32) = (110 : Int32) := by decide
  refine own_go (T' := s₁) (g' := (mkF m 26 #[.val (.ref a), .val (.ref b), .val (.int (2 : Int32))] [])) (fun t q => XS.icmpYes X0.here hx rfl (pc0 := 21) (pc' := 26) rfl (hb hby d10_21) rfl (teq c7).1 (by decide) (by decide) q) ?_
  refine own_go (T' := s₁) (g' := (mkF m 29 #[.val (.ref a), .val (.ref b), .val (.int (3 : Int32))] [])) (fun t q => XS.iinc X0.here hx rfl (hb hby d10_26) rfl (l' := #[.val (.ref a), .val (.ref b), .val (.int (3 : Int32))]) rfl q) ?_
  refine own_go (T' := s₁) (g' := (mkF m 9 #[.val (.ref a), .val (.ref b), .val (.int (3 : Int32))] [])) (fun t q => XS.goto X0.here hx rfl (pc0 := 29) (pc' := 9) rfl (hb hby d10_29) (by decide) (by decide) q) ?_
  refine own_go (T' := s₁) (g' := (mkF m 10 #[.val (.ref a), .val (.ref b), .val (.int (3 : Int32))] [(.int (3 : Int32))])) (fun t q => XS.iloadN X0.here hx rfl (hb hby d10_9) rfl q) ?_
  refine own_go (T' := s₁) (g' := (mkF m 11 #[.val (.ref a), .val (.ref b), .val (.int (3 : Int32))] [(.ref a), (.int (3 : Int32))])) (fun t q => XS.aloadN X0.here hx rfl (hb hby d10_10) rfl rfl q) ?_
  refine own_go (T' := s₁) (g' := (mkF m 12 #[.val (.ref a), .val (.ref b), .val (.int (3 : Int32))] [(.int (4 : Int32)), (.int (3 : Int32))])) (fun t q => own_len X0 hx hZ e0 A (n := (4 : Int32)) rfl (g := (mkF m 11 #[.val (.ref a), .val (.ref b), .val (.int (3 : Int32))] [(.ref a), (.int (3 : Int32))])) rfl rfl (hb hby d10_11) t q) ?_
  have c8 : (3 : Int32) < (4 : Int32) := by decide
  refine own_go (T' := s₁) (g' := (mkF m 15 #[.val (.ref a), .val (.ref b), .val (.int (3 : Int32))] [])) (fun t q => XS.icmpNo X0.here hx rfl (hb hby d10_12) rfl (tlt c8).2.1 q) ?_
  refine own_go (T' := s₁) (g' := (mkF m 16 #[.val (.ref a), .val (.ref b), .val (.int (3 : Int32))] [(.ref a)])) (fun t q => XS.aloadN X0.here hx rfl (hb hby d10_15) rfl rfl q) ?_
  refine own_go (T' := s₁) (g' := (mkF m 17 #[.val (.ref a), .val (.ref b), .val (.int (3 : Int32))] [(.int (3 : Int32)), (.ref a)])) (fun t q => XS.iloadN X0.here hx rfl (hb hby d10_16) rfl q) ?_
  refine own_go (T' := s₁) (g' := (mkF m 18 #[.val (.ref a), .val (.ref b), .val (.int (3 : Int32))] [(.int (102 : Int32))])) (fun t q => own_ldB X0 hx hZ e0 A (by decide) rfl (g := (mkF m 17 #[.val (.ref a), .val (.ref b), .val (.int (3 : Int32))] [(.int (3 : Int32)), (.ref a)])) rfl rfl (hb hby d10_17) t q) ?_
  refine own_go (T' := s₁) (g' := (mkF m 19 #[.val (.ref a), .val (.ref b), .val (.int (3 : Int32))] [(.ref b), (.int (102 : Int32))])) (fun t q => XS.aloadN X0.here hx rfl (hb hby d10_18) rfl rfl q) ?_
  refine own_go (T' := s₁) (g' := (mkF m 20 #[.val (.ref a), .val (.ref b), .val (.int (3 : Int32))] [(.int (3 : Int32)), (.ref b), (.int (102 : Int32))])) (fun t q => XS.iloadN X0.here hx rfl (hb hby d10_19) rfl q) ?_
  refine own_go (T' := s₁) (g' := (mkF m 21 #[.val (.ref a), .val (.ref b), .val (.int (3 : Int32))] [(.int (102 : Int32)), (.int (102 : Int32))])) (fun t q => own_ldB X0 hx hZ e0 B (by decide) rfl (g := (mkF m 20 #[.val (.ref a), .val (.ref b), .val (.int (3 : Int32))] [(.int (3 : Int32)), (.ref b), (.int (102 : Int32))])) rfl rfl (hb hby d10_20) t q) ?_
  have c9 : (102 : Int32) = (102 : Int32) := by decide
  refine own_go (T' := s₁) (g' := (mkF m 26 #[.val (.ref a), .val (.ref b), .val (.int (3 : Int32))] [])) (fun t q => XS.icmpYes X0.here hx rfl (pc0 := 21) (pc' := 26) rfl (hb hby d10_21) rfl (teq c9).1 (by decide) (by decide) q) ?_
  refine own_go (T' := s₁) (g' := (mkF m 29 #[.val (.ref a), .val (.ref b), .val (.int (4 : Int32))] [])) (fun t q => XS.iinc X0.here hx rfl (hb hby d10_26) rfl (l' := #[.val (.ref a), .val (.ref b), .val (.int (4 : Int32))]) rfl q) ?_
  refine own_go (T' := s₁) (g' := (mkF m 9 #[.val (.ref a), .val (.ref b), .val (.int (4 : Int32))] [])) (fun t q => XS.goto X0.here hx rfl (pc0 := 29) (pc' := 9) rfl (hb hby d10_29) (by decide) (by decide) q) ?_
  refine own_go (T' := s₁) (g' := (mkF m 10 #[.val (.ref a), .val (.ref b), .val (.int (4 : Int32))] [(.int (4 : Int32))])) (fun t q => XS.iloadN X0.here hx rfl (hb hby d10_9) rfl q) ?_
  refine own_go (T' := s₁) (g' := (mkF m 11 #[.val (.ref a), .val (.ref b), .val (.int (4 : Int32))] [(.ref a), (.int (4 : Int32))])) (fun t q => XS.aloadN X0.here hx rfl (hb hby d10_10) rfl rfl q) ?_
  refine own_go (T' := s₁) (g' := (mkF m 12 #[.val (.ref a), .val (.ref b), .val (.int (4 : Int32))] [(.int (4 : Int32)), (.int (4 : Int32))])) (fun t q => own_len X0 hx hZ e0 A (n := (4 : Int32)) rfl (g := (mkF m 11 #[.val (.ref a), .val (.ref b), .val (.int (4 : Int32))] [(.ref a), (.int (4 : Int32))])) rfl rfl (hb hby d10_11) t q) ?_
  have c10 : ¬ ((4 : Int32) < (4 : Int32)) := by decide
  refine own_go (T' := s₁) (g' := (mkF m 32 #[.val (.ref a), .val (.ref b), .val (.int (4 : Int32))] [])) (fun t q => XS.icmpYes X0.here hx rfl (pc0 := 12) (pc' := 32) rfl (hb hby d10_12) rfl (flt c10).2.1 (by decide) (by decide) q) ?_
  refine own_go (T' := s₁) (g' := (mkF m 33 #[.val (.ref a), .val (.ref b), .val (.int (4 : Int32))] [(.int (1 : Int32))])) (fun t q => XS.iconst X0.here hx rfl (hb hby d10_32) q) ?_
  refine own_outN X0 hx hlk hret (t := .boolean) (by simp) (hb hby d10_33) (w := (1 : Int32)) (by decide) ?_ (by decide) (by decide)
  exact ⟨rfl, e0, rfl⟩
set_option maxRecDepth 65536 in
set_option maxHeartbeats 40000000 in
theorem rm_eq_CC (l : Launch) (Z : State) (a0 : Array Value) (hw : ∀ d ∈ tables_1, d.before a0 Z = true) (ws : List Jvm.Cond) (a b va vb : Addr) (cp : Int32) (h0 : Heap) (hne : a ≠ b) (XB : Exa Z h0 b "java/lang/String") (C1 : Fld Z h0 a "java/lang/String" "coder" "B" (.int (0 : Int32))) (C2 : Fld Z h0 b "java/lang/String" "coder" "B" (.int (0 : Int32))) (V1 : Fld Z h0 a "java/lang/String" "value" "[B" (.ref va)) (V2 : Fld Z h0 b "java/lang/String" "value" "[B" (.ref vb)) (A : own_Ar Z h0 va .byte [(.int (108 : Int32)), (.int (105 : Int32)), (.int (110 : Int32)), (.int (102 : Int32))]) (B : own_Ar Z h0 vb .byte [(.int (108 : Int32)), (.int (105 : Int32)), (.int (110 : Int32)), (.int (102 : Int32))]) (S_cp : Sta Z h0 "java/lang/String" "COMPACT_STRINGS" "Z" (.int cp)) (cp0 : ¬ (cp = (0 : Int32))) :
    own_Met l (⟨"java/lang/String", "equals", "(Ljava/lang/Object;)Z"⟩ : MethodName) jdk_42_method_66_code 3 (some .boolean) ws ({ frames := 1, cells := 0, slots := 0, locals := 14 } : Room) Z #[(.ref a), (.ref b)] h0 (fun v h L => v = some (.int (1 : Int32)) ∧ h = h0 ∧ L = []) := by
  refine MetFree.of_bodySF (plainFor_of_name (by first | (simp [plainName, overriddenIn]; done) | decide +kernel)) hisR ?_
  intro p e s m args below meth c s₁ Bd hml0 hP hK
  obtain ⟨rfl, hZ, hh⟩ := hP
  have hx := Bd.exec
  have hby := Bd.bytes
  have hml : c.maxLocals = 3 := hml0
  have hown : s.vm.findClass "java/lang/String" = some m.cls := findClass_of_methodNamed Bd.named
  have hnm := (name_of_methodNamed Bd.named Bd.method).1
  have hlk : meth.locks = false := Bd.notSynchronized
  have hret := Bd.returns
  have X0 : Stand p l e ({ frames := 1, cells := 0, slots := 0, locals := 14 } : Room) s m #[(.ref a), (.ref b)] below meth c s₁ [] 0 0 := Stand.of_body Bd
  have e0 : s₁.heap = h0 := by rw [← hh, Bd.state]; rfl
  refine own_in (Q := fun v h L => v = some (.int (1 : Int32)) ∧ h = h0 ∧ L = []) (ef := by first | (simp [entryFrame, mkF, argsToLocals, Value.category, maxLocals]; done) | rfl) (g' := (mkF m 0 #[.val (.ref a), .val (.ref b), .unset] [])) ?_
  refine own_go (T' := s₁) (g' := (mkF m 1 #[.val (.ref a), .val (.ref b), .unset] [(.ref a)])) (fun t q => XS.aloadN X0.here hx rfl (hb hby d9_0) rfl rfl q) ?_
  refine own_go (T' := s₁) (g' := (mkF m 2 #[.val (.ref a), .val (.ref b), .unset] [(.ref b), (.ref a)])) (fun t q => XS.aloadN X0.here hx rfl (hb hby d9_1) rfl rfl q) ?_
  have c1 : ¬ ((Value.ref a) = (Value.ref b)) := fun z => hne (Value.ref.inj z)
  refine own_go (T' := s₁) (g' := (mkF m 7 #[.val (.ref a), .val (.ref b), .unset] [])) (fun t q => XT.acmpYes X0.here hx rfl (pc0 := 2) (pc' := 7) rfl (hb hby d9_2) rfl rfl rfl (own_af c1).2 (by decide) (by decide) q) ?_
  refine own_go (T' := s₁) (g' := (mkF m 8 #[.val (.ref a), .val (.ref b), .unset] [(.ref b)])) (fun t q => XS.aloadN X0.here hx rfl (hb hby d9_7) rfl rfl q) ?_
  obtain ⟨T2, X2, e2, st2⟩ := instY X0 hx hZ hown (hw _ (List.mem_of_getElem? (i := 59) rfl)) e0 (Ins.self XB) (g := (mkF m 8 #[.val (.ref a), .val (.ref b), .unset] [(.ref b)])) rfl rfl (hb hby d9_8)
  refine own_go (T' := T2) (g' := (mkF m 11 #[.val (.ref a), .val (.ref b), .unset] [(.int (1 : Int32))])) (fun t q => st2 t q) ?_
  have c3 : ¬ ((1 : Int32) = (0 : Int32)) := by decide
  refine own_go (T' := T2) (g' := (mkF m 14 #[.val (.ref a), .val (.ref b), .unset] [])) (fun t q => XS.ifNo X2.here hx rfl (hb hby d9_11) rfl ((if0 _ _).trans (feq c3).1) q) ?_
  refine own_go (T' := T2) (g' := (mkF m 15 #[.val (.ref a), .val (.ref b), .unset] [(.ref b)])) (fun t q => XS.aloadN X2.here hx rfl (hb hby d9_14) rfl rfl q) ?_
  obtain ⟨T4, X4, e4, st4⟩ := castY X2 hx hZ hown (hw _ (List.mem_of_getElem? (i := 59) rfl)) e2 (Ins.self XB) (g := (mkF m 15 #[.val (.ref a), .val (.ref b), .unset] [(.ref b)])) rfl rfl (hb hby d9_15)
  refine own_go (T' := T4) (g' := (mkF m 18 #[.val (.ref a), .val (.ref b), .unset] [(.ref b)])) (fun t q => st4 t q) ?_
  refine own_go (T' := T4) (g' := (mkF m 19 #[.val (.ref a), .val (.ref b), .val (.ref b)] [])) (fun t q => XS.astoreN X4.here hx rfl (hb hby d9_18) rfl rfl (l' := #[.val (.ref a), .val (.ref b), .val (.ref b)]) rfl q) ?_
  obtain ⟨T5, X5, e5, st5⟩ := getS2 X4 hx hZ hown (host := "") (Or.inl (hw _ (List.mem_of_getElem? (i := 14) rfl))) Via.refl e4 S_cp (g := (mkF m 19 #[.val (.ref a), .val (.ref b), .val (.ref b)] [])) rfl (hb hby d9_19)
  refine own_go (T' := T5) (g' := (mkF m 22 #[.val (.ref a), .val (.ref b), .val (.ref b)] [(.int cp)])) (fun t q => st5 t q) ?_
  have c6 : ¬ (cp = (0 : Int32)) := cp0
  refine own_go (T' := T5) (g' := (mkF m 25 #[.val (.ref a), .val (.ref b), .val (.ref b)] [])) (fun t q => XS.ifNo X5.here hx rfl (hb hby d9_22) rfl ((if0 _ _).trans (feq c6).1) q) ?_
  refine own_go (T' := T5) (g' := (mkF m 26 #[.val (.ref a), .val (.ref b), .val (.ref b)] [(.ref a)])) (fun t q => XS.aloadN X5.here hx rfl (hb hby d9_25) rfl rfl q) ?_
  obtain ⟨T7, X7, e7, st7⟩ := getF X5 hx hZ hown (host := "") (Or.inl (hw _ (List.mem_of_getElem? (i := 26) rfl))) Via.refl e5 C1 (g := (mkF m 26 #[.val (.ref a), .val (.ref b), .val (.ref b)] [(.ref a)])) rfl rfl (hb hby d9_26)
  refine own_go (T' := T7) (g' := (mkF m 29 #[.val (.ref a), .val (.ref b), .val (.ref b)] [(.int (0 : Int32))])) (fun t q => st7 t q) ?_
  refine own_go (T' := T7) (g' := (mkF m 30 #[.val (.ref a), .val (.ref b), .val (.ref b)] [(.ref b), (.int (0 : Int32))])) (fun t q => XS.aloadN X7.here hx rfl (hb hby d9_29) rfl rfl q) ?_
  obtain ⟨T8, X8, e8, st8⟩ := getF X7 hx hZ hown (host := "") (Or.inl (hw _ (List.mem_of_getElem? (i := 26) rfl))) Via.refl e7 C2 (g := (mkF m 30 #[.val (.ref a), .val (.ref b), .val (.ref b)] [(.ref b), (.int (0 : Int32))])) rfl rfl (hb hby d9_30)
  refine own_go (T' := T8) (g' := (mkF m 33 #[.val (.ref a), .val (.ref b), .val (.ref b)] [(.int (0 : Int32)), (.int (0 : Int32))])) (fun t q => st8 t q) ?_
  have c9 : (0 : Int32) = (0 : Int32) := by decide
  refine own_go (T' := T8) (g' := (mkF m 36 #[.val (.ref a), .val (.ref b), .val (.ref b)] [])) (fun t q => XS.icmpNo X8.here hx rfl (hb hby d9_33) rfl (teq c9).2 q) ?_
  refine own_go (T' := T8) (g' := (mkF m 37 #[.val (.ref a), .val (.ref b), .val (.ref b)] [(.ref a)])) (fun t q => XS.aloadN X8.here hx rfl (hb hby d9_36) rfl rfl q) ?_
  obtain ⟨T10, X10, e10, st10⟩ := getF X8 hx hZ hown (host := "") (Or.inl (hw _ (List.mem_of_getElem? (i := 28) rfl))) Via.refl e8 V1 (g := (mkF m 37 #[.val (.ref a), .val (.ref b), .val (.ref b)] [(.ref a)])) rfl rfl (hb hby d9_37)
  refine own_go (T' := T10) (g' := (mkF m 40 #[.val (.ref a), .val (.ref b), .val (.ref b)] [(.ref va)])) (fun t q => st10 t q) ?_
  refine own_go (T' := T10) (g' := (mkF m 41 #[.val (.ref a), .val (.ref b), .val (.ref b)] [(.ref b), (.ref va)])) (fun t q => XS.aloadN X10.here hx rfl (hb hby d9_40) rfl rfl q) ?_
  obtain ⟨T11, X11, e11, st11⟩ := getF X10 hx hZ hown (host := "") (Or.inl (hw _ (List.mem_of_getElem? (i := 28) rfl))) Via.refl e10 V2 (g := (mkF m 41 #[.val (.ref a), .val (.ref b), .val (.ref b)] [(.ref b), (.ref va)])) rfl rfl (hb hby d9_41)
  refine own_go (T' := T11) (g' := (mkF m 44 #[.val (.ref a), .val (.ref b), .val (.ref b)] [(.ref vb), (.ref va)])) (fun t q => st11 t q) ?_
  obtain ⟨v12, T12, L12, X12, Q12, st12⟩ := own_callS X11 hx hZ (y := (⟨"java/lang/StringLatin1", "equals", "([B[B)Z"⟩ : MethodName)) (argsL := [(.ref va), (.ref vb)]) (rest := []) hown (hw _ (List.mem_of_getElem? (i := 60) rfl)) (hw _ (List.mem_of_getElem? (i := 61) rfl)) (hw _ (List.mem_of_getElem? (i := 62) rfl)) (hw _ (List.mem_of_getElem? (i := 63) rfl)) (rm_leq_CC l Z a0 hw [] va vb h0 A B) e11 (by decide) (by decide) 0 (by decide) (by decide) (by decide) (g := (mkF m 44 #[.val (.ref a), .val (.ref b), .val (.ref b)] [(.ref vb), (.ref va)])) rfl (by rw [hml]; rfl) (lenOf (ps := [(.array .byte), (.array .byte)]) (r := (some .boolean)) (by decide +kernel) rfl) rfl (by show 2 * 0 + _ ≤ _; exact Nat.le_of_eq rfl) (hb hby d9_44)
  obtain ⟨rfl, e12, rfl⟩ := Q12
  refine own_go (T' := T12) (g' := (mkF m 47 #[.val (.ref a), .val (.ref b), .val (.ref b)] [(.int (1 : Int32))])) (fun t q => st12 t q) ?_
  have c13 : ¬ ((1 : Int32) = (0 : Int32)) := by decide
  refine own_go (T' := T12) (g' := (mkF m 50 #[.val (.ref a), .val (.ref b), .val (.ref b)] [])) (fun t q => XS.ifNo X12.here hx rfl (hb hby d9_47) rfl ((if0 _ _).trans (feq c13).1) q) ?_
  refine own_go (T' := T12) (g' := (mkF m 51 #[.val (.ref a), .val (.ref b), .val (.ref b)] [(.int (1 : Int32))])) (fun t q => XS.iconst X12.here hx rfl (hb hby d9_50) q) ?_
  refine own_go (T' := T12) (g' := (mkF m 55 #[.val (.ref a), .val (.ref b), .val (.ref b)] [(.int (1 : Int32))])) (fun t q => XS.goto X12.here hx rfl (pc0 := 51) (pc' := 55) rfl (hb hby d9_51) (by decide) (by decide) q) ?_
  refine own_outN X12 hx hlk hret (t := .boolean) (by simp) (hb hby d9_55) (w := (1 : Int32)) (by decide) ?_ (by decide) (by decide)
  exact ⟨rfl, e12, rfl⟩
theorem d10_34 : decode jdk_43_method_13_code 34 = .ok (.iconst 0, 1) := by decide +kernel
theorem d10_35 : decode jdk_43_method_13_code 35 = .ok (.ireturn, 1) := by decide +kernel
set_option maxRecDepth 65536 in
set_option maxHeartbeats 40000000 in
theorem rm_leq_RC (l : Launch) (Z : State) (a0 : Array Value) (hw : ∀ d ∈ tables_1, d.before a0 Z = true) (ws : List Jvm.Cond) (a b : Addr) (h0 : Heap) (A : own_Ar Z h0 a .byte [(.int (108 : Int32)), (.int (49 : Int32))]) (B : own_Ar Z h0 b .byte [(.int (108 : Int32)), (.int (105 : Int32)), (.int (110 : Int32)), (.int (102 : Int32))]) :
    own_Met l (⟨"java/lang/StringLatin1", "equals", "([B[B)Z"⟩ : MethodName) jdk_43_method_13_code 3 (some .boolean) ws ({ frames := 0, cells := 0, slots := 0, locals := 0 } : Room) Z #[(.ref a), (.ref b)] h0 (fun v h L => v = some (.int (0 : Int32)) ∧ h = h0 ∧ L = []) := by
  refine MetFree.of_bodySF (plainFor_of_name (by first | (simp [plainName, overriddenIn]; done) | decide +kernel)) hisR ?_
  intro p e s m args below meth c s₁ Bd hml0 hP hK
  obtain ⟨rfl, hZ, hh⟩ := hP
  have hx := Bd.exec
  have hby := Bd.bytes
  have hml : c.maxLocals = 3 := hml0
  have hown : s.vm.findClass "java/lang/StringLatin1" = some m.cls := findClass_of_methodNamed Bd.named
  have hnm := (name_of_methodNamed Bd.named Bd.method).1
  have hlk : meth.locks = false := Bd.notSynchronized
  have hret := Bd.returns
  have X0 : Stand p l e ({ frames := 0, cells := 0, slots := 0, locals := 0 } : Room) s m #[(.ref a), (.ref b)] below meth c s₁ [] 0 0 := Stand.of_body Bd
  have e0 : s₁.heap = h0 := by rw [← hh, Bd.state]; rfl
  refine own_in (Q := fun v h L => v = some (.int (0 : Int32)) ∧ h = h0 ∧ L = []) (ef := by first | (simp [entryFrame, mkF, argsToLocals, Value.category, maxLocals]; done) | rfl) (g' := (mkF m 0 #[.val (.ref a), .val (.ref b), .unset] [])) ?_
  refine own_go (T' := s₁) (g' := (mkF m 1 #[.val (.ref a), .val (.ref b), .unset] [(.ref a)])) (fun t q => XS.aloadN X0.here hx rfl (hb hby d10_0) rfl rfl q) ?_
  refine own_go (T' := s₁) (g' := (mkF m 2 #[.val (.ref a), .val (.ref b), .unset] [(.int (2 : Int32))])) (fun t q => own_len X0 hx hZ e0 A (n := (2 : Int32)) rfl (g := (mkF m 1 #[.val (.ref a), .val (.ref b), .unset] [(.ref a)])) rfl rfl (hb hby d10_1) t q) ?_
  refine own_go (T' := s₁) (g' := (mkF m 3 #[.val (.ref a), .val (.ref b), .unset] [(.ref b), (.int (2 : Int32))])) (fun t q => XS.aloadN X0.here hx rfl (hb hby d10_2) rfl rfl q) ?_
  refine own_go (T' := s₁) (g' := (mkF m 4 #[.val (.ref a), .val (.ref b), .unset] [(.int (4 : Int32)), (.int (2 : Int32))])) (fun t q => own_len X0 hx hZ e0 B (n := (4 : Int32)) rfl (g := (mkF m 3 #[.val (.ref a), .val (.ref b), .unset] [(.ref b), (.int (2 : Int32))])) rfl rfl (hb hby d10_3) t q) ?_
  have c1 : ¬ ((2 : Int32) = (4 : Int32)) := by decide
  refine own_go (T' := s₁) (g' := (mkF m 34 #[.val (.ref a), .val (.ref b), .unset] [])) (fun t q => XS.icmpYes X0.here hx rfl (pc0 := 4) (pc' := 34) rfl (hb hby d10_4) rfl (feq c1).2 (by decide) (by decide) q) ?_
  refine own_go (T' := s₁) (g' := (mkF m 35 #[.val (.ref a), .val (.ref b), .unset] [(.int (0 : Int32))])) (fun t q => XS.iconst X0.here hx rfl (hb hby d10_34) q) ?_
  refine own_outN X0 hx hlk hret (t := .boolean) (by simp) (hb hby d10_35) (w := (0 : Int32)) (by decide) ?_ (by decide) (by decide)
  exact ⟨rfl, e0, rfl⟩
theorem d9_54 : decode jdk_42_method_66_code 54 = .ok (.iconst 0, 1) := by decide +kernel
set_option maxRecDepth 65536 in
set_option maxHeartbeats 40000000 in
theorem rm_eq_RC (l : Launch) (Z : State) (a0 : Array Value) (hw : ∀ d ∈ tables_1, d.before a0 Z = true) (ws : List Jvm.Cond) (a b va vb : Addr) (cp : Int32) (h0 : Heap) (hne : a ≠ b) (XB : Exa Z h0 b "java/lang/String") (C1 : Fld Z h0 a "java/lang/String" "coder" "B" (.int (0 : Int32))) (C2 : Fld Z h0 b "java/lang/String" "coder" "B" (.int (0 : Int32))) (V1 : Fld Z h0 a "java/lang/String" "value" "[B" (.ref va)) (V2 : Fld Z h0 b "java/lang/String" "value" "[B" (.ref vb)) (A : own_Ar Z h0 va .byte [(.int (108 : Int32)), (.int (49 : Int32))]) (B : own_Ar Z h0 vb .byte [(.int (108 : Int32)), (.int (105 : Int32)), (.int (110 : Int32)), (.int (102 : Int32))]) (S_cp : Sta Z h0 "java/lang/String" "COMPACT_STRINGS" "Z" (.int cp)) (cp0 : ¬ (cp = (0 : Int32))) :
    own_Met l (⟨"java/lang/String", "equals", "(Ljava/lang/Object;)Z"⟩ : MethodName) jdk_42_method_66_code 3 (some .boolean) ws ({ frames := 1, cells := 0, slots := 0, locals := 14 } : Room) Z #[(.ref a), (.ref b)] h0 (fun v h L => v = some (.int (0 : Int32)) ∧ h = h0 ∧ L = []) := by
  refine MetFree.of_bodySF (plainFor_of_name (by first | (simp [plainName, overriddenIn]; done) | decide +kernel)) hisR ?_
  intro p e s m args below meth c s₁ Bd hml0 hP hK
  obtain ⟨rfl, hZ, hh⟩ := hP
  have hx := Bd.exec
  have hby := Bd.bytes
  have hml : c.maxLocals = 3 := hml0
  have hown : s.vm.findClass "java/lang/String" = some m.cls := findClass_of_methodNamed Bd.named
  have hnm := (name_of_methodNamed Bd.named Bd.method).1
  have hlk : meth.locks = false := Bd.notSynchronized
  have hret := Bd.returns
  have X0 : Stand p l e ({ frames := 1, cells := 0, slots := 0, locals := 14 } : Room) s m #[(.ref a), (.ref b)] below meth c s₁ [] 0 0 := Stand.of_body Bd
  have e0 : s₁.heap = h0 := by rw [← hh, Bd.state]; rfl
  refine own_in (Q := fun v h L => v = some (.int (0 : Int32)) ∧ h = h0 ∧ L = []) (ef := by first | (simp [entryFrame, mkF, argsToLocals, Value.category, maxLocals]; done) | rfl) (g' := (mkF m 0 #[.val (.ref a), .val (.ref b), .unset] [])) ?_
  refine own_go (T' := s₁) (g' := (mkF m 1 #[.val (.ref a), .val (.ref b), .unset] [(.ref a)])) (fun t q => XS.aloadN X0.here hx rfl (hb hby d9_0) rfl rfl q) ?_
  refine own_go (T' := s₁) (g' := (mkF m 2 #[.val (.ref a), .val (.ref b), .unset] [(.ref b), (.ref a)])) (fun t q => XS.aloadN X0.here hx rfl (hb hby d9_1) rfl rfl q) ?_
  have c1 : ¬ ((Value.ref a) = (Value.ref b)) := fun z => hne (Value.ref.inj z)
  refine own_go (T' := s₁) (g' := (mkF m 7 #[.val (.ref a), .val (.ref b), .unset] [])) (fun t q => XT.acmpYes X0.here hx rfl (pc0 := 2) (pc' := 7) rfl (hb hby d9_2) rfl rfl rfl (own_af c1).2 (by decide) (by decide) q) ?_
  refine own_go (T' := s₁) (g' := (mkF m 8 #[.val (.ref a), .val (.ref b), .unset] [(.ref b)])) (fun t q => XS.aloadN X0.here hx rfl (hb hby d9_7) rfl rfl q) ?_
  obtain ⟨T2, X2, e2, st2⟩ := instY X0 hx hZ hown (hw _ (List.mem_of_getElem? (i := 59) rfl)) e0 (Ins.self XB) (g := (mkF m 8 #[.val (.ref a), .val (.ref b), .unset] [(.ref b)])) rfl rfl (hb hby d9_8)
  refine own_go (T' := T2) (g' := (mkF m 11 #[.val (.ref a), .val (.ref b), .unset] [(.int (1 : Int32))])) (fun t q => st2 t q) ?_
  have c3 : ¬ ((1 : Int32) = (0 : Int32)) := by decide
  refine own_go (T' := T2) (g' := (mkF m 14 #[.val (.ref a), .val (.ref b), .unset] [])) (fun t q => XS.ifNo X2.here hx rfl (hb hby d9_11) rfl ((if0 _ _).trans (feq c3).1) q) ?_
  refine own_go (T' := T2) (g' := (mkF m 15 #[.val (.ref a), .val (.ref b), .unset] [(.ref b)])) (fun t q => XS.aloadN X2.here hx rfl (hb hby d9_14) rfl rfl q) ?_
  obtain ⟨T4, X4, e4, st4⟩ := castY X2 hx hZ hown (hw _ (List.mem_of_getElem? (i := 59) rfl)) e2 (Ins.self XB) (g := (mkF m 15 #[.val (.ref a), .val (.ref b), .unset] [(.ref b)])) rfl rfl (hb hby d9_15)
  refine own_go (T' := T4) (g' := (mkF m 18 #[.val (.ref a), .val (.ref b), .unset] [(.ref b)])) (fun t q => st4 t q) ?_
  refine own_go (T' := T4) (g' := (mkF m 19 #[.val (.ref a), .val (.ref b), .val (.ref b)] [])) (fun t q => XS.astoreN X4.here hx rfl (hb hby d9_18) rfl rfl (l' := #[.val (.ref a), .val (.ref b), .val (.ref b)]) rfl q) ?_
  obtain ⟨T5, X5, e5, st5⟩ := getS2 X4 hx hZ hown (host := "") (Or.inl (hw _ (List.mem_of_getElem? (i := 14) rfl))) Via.refl e4 S_cp (g := (mkF m 19 #[.val (.ref a), .val (.ref b), .val (.ref b)] [])) rfl (hb hby d9_19)
  refine own_go (T' := T5) (g' := (mkF m 22 #[.val (.ref a), .val (.ref b), .val (.ref b)] [(.int cp)])) (fun t q => st5 t q) ?_
  have c6 : ¬ (cp = (0 : Int32)) := cp0
  refine own_go (T' := T5) (g' := (mkF m 25 #[.val (.ref a), .val (.ref b), .val (.ref b)] [])) (fun t q => XS.ifNo X5.here hx rfl (hb hby d9_22) rfl ((if0 _ _).trans (feq c6).1) q) ?_
  refine own_go (T' := T5) (g' := (mkF m 26 #[.val (.ref a), .val (.ref b), .val (.ref b)] [(.ref a)])) (fun t q => XS.aloadN X5.here hx rfl (hb hby d9_25) rfl rfl q) ?_
  obtain ⟨T7, X7, e7, st7⟩ := getF X5 hx hZ hown (host := "") (Or.inl (hw _ (List.mem_of_getElem? (i := 26) rfl))) Via.refl e5 C1 (g := (mkF m 26 #[.val (.ref a), .val (.ref b), .val (.ref b)] [(.ref a)])) rfl rfl (hb hby d9_26)
  refine own_go (T' := T7) (g' := (mkF m 29 #[.val (.ref a), .val (.ref b), .val (.ref b)] [(.int (0 : Int32))])) (fun t q => st7 t q) ?_
  refine own_go (T' := T7) (g' := (mkF m 30 #[.val (.ref a), .val (.ref b), .val (.ref b)] [(.ref b), (.int (0 : Int32))])) (fun t q => XS.aloadN X7.here hx rfl (hb hby d9_29) rfl rfl q) ?_
  obtain ⟨T8, X8, e8, st8⟩ := getF X7 hx hZ hown (host := "") (Or.inl (hw _ (List.mem_of_getElem? (i := 26) rfl))) Via.refl e7 C2 (g := (mkF m 30 #[.val (.ref a), .val (.ref b), .val (.ref b)] [(.ref b), (.int (0 : Int32))])) rfl rfl (hb hby d9_30)
  refine own_go (T' := T8) (g' := (mkF m 33 #[.val (.ref a), .val (.ref b), .val (.ref b)] [(.int (0 : Int32)), (.int (0 : Int32))])) (fun t q => st8 t q) ?_
  have c9 : (0 : Int32) = (0 : Int32) := by decide
  refine own_go (T' := T8) (g' := (mkF m 36 #[.val (.ref a), .val (.ref b), .val (.ref b)] [])) (fun t q => XS.icmpNo X8.here hx rfl (hb hby d9_33) rfl (teq c9).2 q) ?_
  refine own_go (T' := T8) (g' := (mkF m 37 #[.val (.ref a), .val (.ref b), .val (.ref b)] [(.ref a)])) (fun t q => XS.aloadN X8.here hx rfl (hb hby d9_36) rfl rfl q) ?_
  obtain ⟨T10, X10, e10, st10⟩ := getF X8 hx hZ hown (host := "") (Or.inl (hw _ (List.mem_of_getElem? (i := 28) rfl))) Via.refl e8 V1 (g := (mkF m 37 #[.val (.ref a), .val (.ref b), .val (.ref b)] [(.ref a)])) rfl rfl (hb hby d9_37)
  refine own_go (T' := T10) (g' := (mkF m 40 #[.val (.ref a), .val (.ref b), .val (.ref b)] [(.ref va)])) (fun t q => st10 t q) ?_
  refine own_go (T' := T10) (g' := (mkF m 41 #[.val (.ref a), .val (.ref b), .val (.ref b)] [(.ref b), (.ref va)])) (fun t q => XS.aloadN X10.here hx rfl (hb hby d9_40) rfl rfl q) ?_
  obtain ⟨T11, X11, e11, st11⟩ := getF X10 hx hZ hown (host := "") (Or.inl (hw _ (List.mem_of_getElem? (i := 28) rfl))) Via.refl e10 V2 (g := (mkF m 41 #[.val (.ref a), .val (.ref b), .val (.ref b)] [(.ref b), (.ref va)])) rfl rfl (hb hby d9_41)
  refine own_go (T' := T11) (g' := (mkF m 44 #[.val (.ref a), .val (.ref b), .val (.ref b)] [(.ref vb), (.ref va)])) (fun t q => st11 t q) ?_
  obtain ⟨v12, T12, L12, X12, Q12, st12⟩ := own_callS X11 hx hZ (y := (⟨"java/lang/StringLatin1", "equals", "([B[B)Z"⟩ : MethodName)) (argsL := [(.ref va), (.ref vb)]) (rest := []) hown (hw _ (List.mem_of_getElem? (i := 60) rfl)) (hw _ (List.mem_of_getElem? (i := 61) rfl)) (hw _ (List.mem_of_getElem? (i := 62) rfl)) (hw _ (List.mem_of_getElem? (i := 63) rfl)) (rm_leq_RC l Z a0 hw [] va vb h0 A B) e11 (by decide) (by decide) 0 (by decide) (by decide) (by decide) (g := (mkF m 44 #[.val (.ref a), .val (.ref b), .val (.ref b)] [(.ref vb), (.ref va)])) rfl (by rw [hml]; rfl) (lenOf (ps := [(.array .byte), (.array .byte)]) (r := (some .boolean)) (by decide +kernel) rfl) rfl (by show 2 * 0 + _ ≤ _; exact Nat.le_of_eq rfl) (hb hby d9_44)
  obtain ⟨rfl, e12, rfl⟩ := Q12
  refine own_go (T' := T12) (g' := (mkF m 47 #[.val (.ref a), .val (.ref b), .val (.ref b)] [(.int (0 : Int32))])) (fun t q => st12 t q) ?_
  have c13 : (0 : Int32) = (0 : Int32) := by decide
  refine own_go (T' := T12) (g' := (mkF m 54 #[.val (.ref a), .val (.ref b), .val (.ref b)] [])) (fun t q => XS.ifYes X12.here hx rfl (pc0 := 47) (pc' := 54) rfl (hb hby d9_47) rfl ((if0 _ _).trans (teq c13).1) (by decide) (by decide) q) ?_
  refine own_go (T' := T12) (g' := (mkF m 55 #[.val (.ref a), .val (.ref b), .val (.ref b)] [(.int (0 : Int32))])) (fun t q => XS.iconst X12.here hx rfl (hb hby d9_54) q) ?_
  refine own_outN X12 hx hlk hret (t := .boolean) (by simp) (hb hby d9_55) (w := (0 : Int32)) (by decide) ?_ (by decide) (by decide)
  exact ⟨rfl, e12, rfl⟩
theorem d9_5 : decode jdk_42_method_66_code 5 = .ok (.iconst 1, 1) := by decide +kernel
theorem d9_6 : decode jdk_42_method_66_code 6 = .ok (.ireturn, 1) := by decide +kernel
set_option maxRecDepth 65536 in
set_option maxHeartbeats 40000000 in
theorem rm_eqs (l : Launch) (Z : State) (a0 : Array Value) (hw : ∀ d ∈ tables_1, d.before a0 Z = true) (ws : List Jvm.Cond) (a : Addr) (h0 : Heap)  :
    own_Met l (⟨"java/lang/String", "equals", "(Ljava/lang/Object;)Z"⟩ : MethodName) jdk_42_method_66_code 3 (some .boolean) ws ({ frames := 1, cells := 0, slots := 0, locals := 14 } : Room) Z #[(.ref a), (.ref a)] h0 (fun v h L => v = some (.int (1 : Int32)) ∧ h = h0 ∧ L = []) := by
  refine MetFree.of_bodySF (plainFor_of_name (by first | (simp [plainName, overriddenIn]; done) | decide +kernel)) hisR ?_
  intro p e s m args below meth c s₁ Bd hml0 hP hK
  obtain ⟨rfl, hZ, hh⟩ := hP
  have hx := Bd.exec
  have hby := Bd.bytes
  have hml : c.maxLocals = 3 := hml0
  have hown : s.vm.findClass "java/lang/String" = some m.cls := findClass_of_methodNamed Bd.named
  have hnm := (name_of_methodNamed Bd.named Bd.method).1
  have hlk : meth.locks = false := Bd.notSynchronized
  have hret := Bd.returns
  have X0 : Stand p l e ({ frames := 1, cells := 0, slots := 0, locals := 14 } : Room) s m #[(.ref a), (.ref a)] below meth c s₁ [] 0 0 := Stand.of_body Bd
  have e0 : s₁.heap = h0 := by rw [← hh, Bd.state]; rfl
  refine own_in (Q := fun v h L => v = some (.int (1 : Int32)) ∧ h = h0 ∧ L = []) (ef := by first | (simp [entryFrame, mkF, argsToLocals, Value.category, maxLocals]; done) | rfl) (g' := (mkF m 0 #[.val (.ref a), .val (.ref a), .unset] [])) ?_
  refine own_go (T' := s₁) (g' := (mkF m 1 #[.val (.ref a), .val (.ref a), .unset] [(.ref a)])) (fun t q => XS.aloadN X0.here hx rfl (hb hby d9_0) rfl rfl q) ?_
  refine own_go (T' := s₁) (g' := (mkF m 2 #[.val (.ref a), .val (.ref a), .unset] [(.ref a), (.ref a)])) (fun t q => XS.aloadN X0.here hx rfl (hb hby d9_1) rfl rfl q) ?_
  have c1 : (Value.ref a) = (Value.ref a) := rfl
  refine own_go (T' := s₁) (g' := (mkF m 5 #[.val (.ref a), .val (.ref a), .unset] [])) (fun t q => XT.acmpNo X0.here hx rfl (hb hby d9_2) rfl rfl rfl (own_at c1).2 q) ?_
  refine own_go (T' := s₁) (g' := (mkF m 6 #[.val (.ref a), .val (.ref a), .unset] [(.int (1 : Int32))])) (fun t q => XS.iconst X0.here hx rfl (hb hby d9_5) q) ?_
  refine own_outN X0 hx hlk hret (t := .boolean) (by simp) (hb hby d9_6) (w := (1 : Int32)) (by decide) ?_ (by decide) (by decide)
  exact ⟨rfl, e0, rfl⟩
theorem d8_0 : decode prog_11_method_1_code 0 = .ok (.getstatic 10, 3) := by decide +kernel
theorem d8_3 : decode prog_11_method_1_code 3 = .ok (.invokevirtual 14, 3) := by decide +kernel
theorem d8_6 : decode prog_11_method_1_code 6 = .ok (.checkcast 15, 3) := by decide +kernel
theorem d8_9 : decode prog_11_method_1_code 9 = .ok (.areturn, 1) := by decide +kernel
set_option maxRecDepth 65536 in
set_option maxHeartbeats 40000000 in
theorem rm_va (l : Launch) (Z : State) (a0 : Array Value) (hw : ∀ d ∈ tables_1, d.before a0 Z = true) (ws : List Jvm.Cond) (w_R w_C s_R s_C v_R v_C w_V : Addr) (cp : Int32) (h0 : Heap) (FX : own_F Z h0 w_R w_C s_R s_C v_R v_C w_V cp) :
    own_Met l (⟨"com/example/minsum/minsum/model/Norm", "values", "()[Lcom/example/minsum/minsum/model/Norm;"⟩ : MethodName) prog_11_method_1_code 0 (some (.array (.object "com/example/minsum/minsum/model/Norm"))) ws ({ frames := 1, cells := 1, slots := 2, locals := 14 } : Room) Z #[] h0 (fun v h L => ∃ b : Addr, v = some (.ref b) ∧ L = [] ∧ Keep h0 h [] ∧ own_Ar Z h b (.object "com/example/minsum/minsum/model/Norm") [(.ref w_R), (.ref w_C)]) := by
  refine MetFree.of_bodySF (plainFor_of_name (by first | (simp [plainName, overriddenIn]; done) | decide +kernel)) hisR ?_
  intro p e s m args below meth c s₁ Bd hml0 hP hK
  obtain ⟨rfl, hZ, hh⟩ := hP
  have hx := Bd.exec
  have hby := Bd.bytes
  have hml : c.maxLocals = 0 := hml0
  have hown : s.vm.findClass "com/example/minsum/minsum/model/Norm" = some m.cls := findClass_of_methodNamed Bd.named
  have hnm := (name_of_methodNamed Bd.named Bd.method).1
  have hlk : meth.locks = false := Bd.notSynchronized
  have hret := Bd.returns
  have X0 : Stand p l e ({ frames := 1, cells := 1, slots := 2, locals := 14 } : Room) s m #[] below meth c s₁ [] 0 0 := Stand.of_body Bd
  have e0 : s₁.heap = h0 := by rw [← hh, Bd.state]; rfl
  refine own_in (Q := fun v h L => ∃ b : Addr, v = some (.ref b) ∧ L = [] ∧ Keep h0 h [] ∧ own_Ar Z h b (.object "com/example/minsum/minsum/model/Norm") [(.ref w_R), (.ref w_C)]) (ef := by first | (simp [entryFrame, mkF, argsToLocals, Value.category, maxLocals]; done) | rfl) (g' := (mkF m 0 #[] [])) ?_
  obtain ⟨S_R, E_R, G_R, X_R, H_R, D_R, R_R, S_C, E_C, G_C, X_C, H_C, D_C, R_C, S_V, E_V, R_V, S_cp⟩ := id FX
  obtain ⟨T1, X1, e1, st1⟩ := getS2 X0 hx hZ hown (host := "") (Or.inl (hw _ (List.mem_of_getElem? (i := 39) rfl))) Via.refl e0 S_V (g := (mkF m 0 #[] [])) rfl (hb hby d8_0)
  refine own_go (T' := T1) (g' := (mkF m 3 #[] [(.ref w_V)])) (fun t q => st1 t q) ?_
  obtain ⟨T2, h2, X2, e2, E2, A2, B2, st2⟩ := own_clone X1 hx hZ hown (hw _ (List.mem_of_getElem? (i := 41) rfl)) (hw _ (List.mem_of_getElem? (i := 42) rfl)) (hw _ (List.mem_of_getElem? (i := 46) rfl)) (hw _ (List.mem_of_getElem? (i := 44) rfl)) (hw _ (List.mem_of_getElem? (i := 45) rfl)) (hw _ (List.mem_of_getElem? (i := 47) rfl)) e1 R_V (fun v hv => by simp at hv; rcases hv with rfl | rfl <;> rfl) E_V (g := (mkF m 3 #[] [(.ref w_V)])) rfl (by rw [hml]; rfl) rfl (hb hby d8_3) (by decide) 0 (by show 2 * 0 + _ ≤ _; exact Nat.le_of_eq rfl) (by decide) (by decide) 2 rfl (by decide)
  obtain ⟨a2, g2⟩ : ∃ z, z = h0.size := ⟨_, rfl⟩
  rw [← g2] at A2 B2 st2
  have ne_w_V_a2 : w_V ≠ a2 := by rw [g2]; exact Nat.ne_of_lt E_V.lt
  have za2 : h0.size ≤ a2 := by rw [g2]; exact (Nat.le_refl _)
  have f3 := E_V.ext E2
  have f4 := R_V.ext E2
  have sz2 : h0.size ≤ h2.size := Nat.le_trans (Nat.le_refl _) E2.1
  refine own_go (T' := T2) (g' := (mkF m 6 #[] [(.ref a2)])) (fun t q => st2 t q) ?_
  obtain ⟨T5, X5, e5, st5⟩ := castY X2 hx hZ hown (hw _ (List.mem_of_getElem? (i := 50) rfl)) e2 (Ins.self B2) (g := (mkF m 6 #[] [(.ref a2)])) rfl rfl (hb hby d8_6)
  refine own_go (T' := T5) (g' := (mkF m 9 #[] [(.ref a2)])) (fun t q => st5 t q) ?_
  refine own_outA X5 hx hlk hret rfl rfl (hb hby d8_9) ?_ (by decide) (by decide)
  rw [e5]
  exact ⟨_, rfl, rfl, (Keep.refl _ _).ext E2, A2⟩
theorem d11_0 : decode prog_11_method_4_code 0 = .ok (.aload_n 0, 1) := by decide +kernel
theorem d11_1 : decode prog_11_method_4_code 1 = .ok (.getfield 29, 3) := by decide +kernel
theorem d11_4 : decode prog_11_method_4_code 4 = .ok (.areturn, 1) := by decide +kernel
set_option maxRecDepth 65536 in
set_option maxHeartbeats 40000000 in
theorem rm_key_R (l : Launch) (Z : State) (a0 : Array Value) (hw : ∀ d ∈ tables_1, d.before a0 Z = true) (ws : List Jvm.Cond) (w_R w_C s_R s_C v_R v_C w_V : Addr) (cp : Int32) (h0 : Heap) (FX : own_F Z h0 w_R w_C s_R s_C v_R v_C w_V cp) :
    own_Met l (⟨"com/example/minsum/minsum/model/Norm", "key", "()Ljava/lang/String;"⟩ : MethodName) prog_11_method_4_code 1 (some (.object "java/lang/String")) ws ({ frames := 0, cells := 0, slots := 0, locals := 0 } : Room) Z #[(.ref w_R)] h0 (fun v h L => v = some (.ref s_R) ∧ h = h0 ∧ L = []) := by
  refine MetFree.of_bodySF (plainFor_of_name (by first | (simp [plainName, overriddenIn]; done) | decide +kernel)) hisR ?_
  intro p e s m args below meth c s₁ Bd hml0 hP hK
  obtain ⟨rfl, hZ, hh⟩ := hP
  have hx := Bd.exec
  have hby := Bd.bytes
  have hml : c.maxLocals = 1 := hml0
  have hown : s.vm.findClass "com/example/minsum/minsum/model/Norm" = some m.cls := findClass_of_methodNamed Bd.named
  have hnm := (name_of_methodNamed Bd.named Bd.method).1
  have hlk : meth.locks = false := Bd.notSynchronized
  have hret := Bd.returns
  have X0 : Stand p l e ({ frames := 0, cells := 0, slots := 0, locals := 0 } : Room) s m #[(.ref w_R)] below meth c s₁ [] 0 0 := Stand.of_body Bd
  have e0 : s₁.heap = h0 := by rw [← hh, Bd.state]; rfl
  refine own_in (Q := fun v h L => v = some (.ref s_R) ∧ h = h0 ∧ L = []) (ef := by first | (simp [entryFrame, mkF, argsToLocals, Value.category, maxLocals]; done) | rfl) (g' := (mkF m 0 #[.val (.ref w_R)] [])) ?_
  obtain ⟨S_R, E_R, G_R, X_R, H_R, D_R, R_R, S_C, E_C, G_C, X_C, H_C, D_C, R_C, S_V, E_V, R_V, S_cp⟩ := id FX
  refine own_go (T' := s₁) (g' := (mkF m 1 #[.val (.ref w_R)] [(.ref w_R)])) (fun t q => XS.aloadN X0.here hx rfl (hb hby d11_0) rfl rfl q) ?_
  obtain ⟨T1, X1, e1, st1⟩ := getF X0 hx hZ hown (host := "") (Or.inl (hw _ (List.mem_of_getElem? (i := 52) rfl))) Via.refl e0 G_R (g := (mkF m 1 #[.val (.ref w_R)] [(.ref w_R)])) rfl rfl (hb hby d11_1)
  refine own_go (T' := T1) (g' := (mkF m 4 #[.val (.ref w_R)] [(.ref s_R)])) (fun t q => st1 t q) ?_
  refine own_outA X1 hx hlk hret rfl rfl (hb hby d11_4) ?_ (by decide) (by decide)
  exact ⟨rfl, e1, rfl⟩
theorem d7_0 : decode prog_11_method_5_code 0 = .ok (.invokestatic 33, 3) := by decide +kernel
theorem d7_3 : decode prog_11_method_5_code 3 = .ok (.astore_n 1, 1) := by decide +kernel
theorem d7_4 : decode prog_11_method_5_code 4 = .ok (.aload_n 1, 1) := by decide +kernel
theorem d7_5 : decode prog_11_method_5_code 5 = .ok (.arraylength, 1) := by decide +kernel
theorem d7_6 : decode prog_11_method_5_code 6 = .ok (.istore_n 2, 1) := by decide +kernel
theorem d7_7 : decode prog_11_method_5_code 7 = .ok (.iconst 0, 1) := by decide +kernel
theorem d7_8 : decode prog_11_method_5_code 8 = .ok (.istore_n 3, 1) := by decide +kernel
theorem d7_9 : decode prog_11_method_5_code 9 = .ok (.iload_n 3, 1) := by decide +kernel
theorem d7_10 : decode prog_11_method_5_code 10 = .ok (.iload_n 2, 1) := by decide +kernel
theorem d7_11 : decode prog_11_method_5_code 11 = .ok (.if_icmp .ge 29, 3) := by decide +kernel
theorem d7_14 : decode prog_11_method_5_code 14 = .ok (.aload_n 1, 1) := by decide +kernel
theorem d7_15 : decode prog_11_method_5_code 15 = .ok (.iload_n 3, 1) := by decide +kernel
theorem d7_16 : decode prog_11_method_5_code 16 = .ok (.aaload, 1) := by decide +kernel
theorem d7_17 : decode prog_11_method_5_code 17 = .ok (.astore 4, 2) := by decide +kernel
theorem d7_19 : decode prog_11_method_5_code 19 = .ok (.aload 4, 2) := by decide +kernel
theorem d7_21 : decode prog_11_method_5_code 21 = .ok (.getfield 29, 3) := by decide +kernel
theorem d7_24 : decode prog_11_method_5_code 24 = .ok (.aload_n 0, 1) := by decide +kernel
theorem d7_25 : decode prog_11_method_5_code 25 = .ok (.invokevirtual 37, 3) := by decide +kernel
theorem d7_28 : decode prog_11_method_5_code 28 = .ok (.ifCond .eq 6, 3) := by decide +kernel
theorem d7_31 : decode prog_11_method_5_code 31 = .ok (.aload 4, 2) := by decide +kernel
theorem d7_33 : decode prog_11_method_5_code 33 = .ok (.areturn, 1) := by decide +kernel
set_option maxRecDepth 65536 in
set_option maxHeartbeats 40000000 in
theorem rm_fk_R_key (l : Launch) (Z : State) (a0 : Array Value) (hw : ∀ d ∈ tables_1, d.before a0 Z = true) (ws : List Jvm.Cond) (w_R w_C s_R s_C v_R v_C w_V : Addr) (cp : Int32) (h0 : Heap) (FX : own_F Z h0 w_R w_C s_R s_C v_R v_C w_V cp) (cp0 : ¬ (cp = (0 : Int32))) (ne_CR : s_C ≠ s_R) :
    own_Met l (⟨"com/example/minsum/minsum/model/Norm", "fromKey", "(Ljava/lang/String;)Lcom/example/minsum/minsum/model/Norm;"⟩ : MethodName) prog_11_method_5_code 5 (some (.object "com/example/minsum/minsum/model/Norm")) ws ({ frames := 2, cells := 1, slots := 2, locals := 28 } : Room) Z #[(.ref s_R)] h0 (fun v h L => v = some (.ref w_R) ∧ L = [] ∧ Keep h0 h []) := by
  refine MetFree.of_bodySF (plainFor_of_name (by first | (simp [plainName, overriddenIn]; done) | decide +kernel)) hisR ?_
  intro p e s m args below meth c s₁ Bd hml0 hP hK
  obtain ⟨rfl, hZ, hh⟩ := hP
  have hx := Bd.exec
  have hby := Bd.bytes
  have hml : c.maxLocals = 5 := hml0
  have hown : s.vm.findClass "com/example/minsum/minsum/model/Norm" = some m.cls := findClass_of_methodNamed Bd.named
  have hnm := (name_of_methodNamed Bd.named Bd.method).1
  have hlk : meth.locks = false := Bd.notSynchronized
  have hret := Bd.returns
  have X0 : Stand p l e ({ frames := 2, cells := 1, slots := 2, locals := 28 } : Room) s m #[(.ref s_R)] below meth c s₁ [] 0 0 := Stand.of_body Bd
  have e0 : s₁.heap = h0 := by rw [← hh, Bd.state]; rfl
  refine own_in (Q := fun v h L => v = some (.ref w_R) ∧ L = [] ∧ Keep h0 h []) (ef := by first | (simp [entryFrame, mkF, argsToLocals, Value.category, maxLocals]; done) | rfl) (g' := (mkF m 0 #[.val (.ref s_R), .unset, .unset, .unset, .unset] [])) ?_
  obtain ⟨S_R, E_R, G_R, X_R, H_R, D_R, R_R, S_C, E_C, G_C, X_C, H_C, D_C, R_C, S_V, E_V, R_V, S_cp⟩ := id FX
  obtain ⟨v1, T1, L1, X1, Q1, st1⟩ := own_callS X0 hx hZ (y := (⟨"com/example/minsum/minsum/model/Norm", "values", "()[Lcom/example/minsum/minsum/model/Norm;"⟩ : MethodName)) (argsL := []) (rest := []) hown (hw _ (List.mem_of_getElem? (i := 36) rfl)) (hw _ (List.mem_of_getElem? (i := 37) rfl)) (hw _ (List.mem_of_getElem? (i := 31) rfl)) (hw _ (List.mem_of_getElem? (i := 38) rfl)) (rm_va l Z a0 hw [] w_R w_C s_R s_C v_R v_C w_V cp h0 FX) e0 (by decide) (by decide) 0 (by decide) (by decide) (by decide) (g := (mkF m 0 #[.val (.ref s_R), .unset, .unset, .unset, .unset] [])) rfl (by rw [hml]; rfl) (lenOf (ps := []) (r := (some (.array (.object "com/example/minsum/minsum/model/Norm")))) (by decide +kernel) rfl) rfl (by show 2 * 0 + _ ≤ _; exact Nat.le_of_eq rfl) (hb hby d7_0)
  obtain ⟨b1, rfl, rfl, K1, RV1⟩ := Q1
  have O1 := own_Xk (own_Xr _) K1 all0
  have FX := own_Fx FX O1
  obtain ⟨S_R, E_R, G_R, X_R, H_R, D_R, R_R, S_C, E_C, G_C, X_C, H_C, D_C, R_C, S_V, E_V, R_V, S_cp⟩ := id FX
  refine own_go (T' := T1) (g' := (mkF m 3 #[.val (.ref s_R), .unset, .unset, .unset, .unset] [(.ref b1)])) (fun t q => st1 t q) ?_
  refine own_go (T' := T1) (g' := (mkF m 4 #[.val (.ref s_R), .val (.ref b1), .unset, .unset, .unset] [])) (fun t q => XS.astoreN X1.here hx rfl (hb hby d7_3) rfl rfl (l' := #[.val (.ref s_R), .val (.ref b1), .unset, .unset, .unset]) rfl q) ?_
  refine own_go (T' := T1) (g' := (mkF m 5 #[.val (.ref s_R), .val (.ref b1), .unset, .unset, .unset] [(.ref b1)])) (fun t q => XS.aloadN X1.here hx rfl (hb hby d7_4) rfl rfl q) ?_
  refine own_go (T' := T1) (g' := (mkF m 6 #[.val (.ref s_R), .val (.ref b1), .unset, .unset, .unset] [(.int (2 : Int32))])) (fun t q => own_len X1 hx hZ (rfl : T1.heap = T1.heap) RV1 (n := (2 : Int32)) rfl (g := (mkF m 5 #[.val (.ref s_R), .val (.ref b1), .unset, .unset, .unset] [(.ref b1)])) rfl rfl (hb hby d7_5) t q) ?_
  refine own_go (T' := T1) (g' := (mkF m 7 #[.val (.ref s_R), .val (.ref b1), .val (.int (2 : Int32)), .unset, .unset] [])) (fun t q => XS.istoreN X1.here hx rfl (hb hby d7_6) rfl (l' := #[.val (.ref s_R), .val (.ref b1), .val (.int (2 : Int32)), .unset, .unset]) rfl q) ?_
  refine own_go (T' := T1) (g' := (mkF m 8 #[.val (.ref s_R), .val (.ref b1), .val (.int (2 : Int32)), .unset, .unset] [(.int (0 : Int32))])) (fun t q => XS.iconst X1.here hx rfl (hb hby d7_7) q) ?_
  refine own_go (T' := T1) (g' := (mkF m 9 #[.val (.ref s_R), .val (.ref b1), .val (.int (2 : Int32)), .val (.int (0 : Int32)), .unset] [])) (fun t q => XS.istoreN X1.here hx rfl (hb hby d7_8) rfl (l' := #[.val (.ref s_R), .val (.ref b1), .val (.int (2 : Int32)), .val (.int (0 : Int32)), .unset]) rfl q) ?_
  refine own_go (T' := T1) (g' := (mkF m 10 #[.val (.ref s_R), .val (.ref b1), .val (.int (2 : Int32)), .val (.int (0 : Int32)), .unset] [(.int (0 : Int32))])) (fun t q => XS.iloadN X1.here hx rfl (hb hby d7_9) rfl q) ?_
  refine own_go (T' := T1) (g' := (mkF m 11 #[.val (.ref s_R), .val (.ref b1), .val (.int (2 : Int32)), .val (.int (0 : Int32)), .unset] [(.int (2 : Int32)), (.int (0 : Int32))])) (fun t q => XS.iloadN X1.here hx rfl (hb hby d7_10) rfl q) ?_
  have c2 : (0 : Int32) < (2 : Int32) := by decide
  refine own_go (T' := T1) (g' := (mkF m 14 #[.val (.ref s_R), .val (.ref b1), .val (.int (2 : Int32)), .val (.int (0 : Int32)), .unset] [])) (fun t q => XS.icmpNo X1.here hx rfl (hb hby d7_11) rfl (tlt c2).2.1 q) ?_
  refine own_go (T' := T1) (g' := (mkF m 15 #[.val (.ref s_R), .val (.ref b1), .val (.int (2 : Int32)), .val (.int (0 : Int32)), .unset] [(.ref b1)])) (fun t q => XS.aloadN X1.here hx rfl (hb hby d7_14) rfl rfl q) ?_
  refine own_go (T' := T1) (g' := (mkF m 16 #[.val (.ref s_R), .val (.ref b1), .val (.int (2 : Int32)), .val (.int (0 : Int32)), .unset] [(.int (0 : Int32)), (.ref b1)])) (fun t q => XS.iloadN X1.here hx rfl (hb hby d7_15) rfl q) ?_
  refine own_go (T' := T1) (g' := (mkF m 17 #[.val (.ref s_R), .val (.ref b1), .val (.int (2 : Int32)), .val (.int (0 : Int32)), .unset] [(.ref w_R)])) (fun t q => own_ldA X1 hx hZ (rfl : T1.heap = T1.heap) rfl RV1 (by decide) rfl (g := (mkF m 16 #[.val (.ref s_R), .val (.ref b1), .val (.int (2 : Int32)), .val (.int (0 : Int32)), .unset] [(.int (0 : Int32)), (.ref b1)])) rfl rfl (hb hby d7_16) t q) ?_
  refine own_go (T' := T1) (g' := (mkF m 19 #[.val (.ref s_R), .val (.ref b1), .val (.int (2 : Int32)), .val (.int (0 : Int32)), .val (.ref w_R)] [])) (fun t q => XS.astore X1.here hx rfl (hb hby d7_17) rfl rfl (l' := #[.val (.ref s_R), .val (.ref b1), .val (.int (2 : Int32)), .val (.int (0 : Int32)), .val (.ref w_R)]) rfl q) ?_
  refine own_go (T' := T1) (g' := (mkF m 21 #[.val (.ref s_R), .val (.ref b1), .val (.int (2 : Int32)), .val (.int (0 : Int32)), .val (.ref w_R)] [(.ref w_R)])) (fun t q => XS.aload X1.here hx rfl (hb hby d7_19) rfl rfl q) ?_
  obtain ⟨T3, X3, e3, st3⟩ := getF X1 hx hZ hown (host := "") (Or.inl (hw _ (List.mem_of_getElem? (i := 52) rfl))) Via.refl (rfl : T1.heap = T1.heap) G_R (g := (mkF m 21 #[.val (.ref s_R), .val (.ref b1), .val (.int (2 : Int32)), .val (.int (0 : Int32)), .val (.ref w_R)] [(.ref w_R)])) rfl rfl (hb hby d7_21)
  refine own_go (T' := T3) (g' := (mkF m 24 #[.val (.ref s_R), .val (.ref b1), .val (.int (2 : Int32)), .val (.int (0 : Int32)), .val (.ref w_R)] [(.ref s_R)])) (fun t q => st3 t q) ?_
  refine own_go (T' := T3) (g' := (mkF m 25 #[.val (.ref s_R), .val (.ref b1), .val (.int (2 : Int32)), .val (.int (0 : Int32)), .val (.ref w_R)] [(.ref s_R), (.ref s_R)])) (fun t q => XS.aloadN X3.here hx rfl (hb hby d7_24) rfl rfl q) ?_
  obtain ⟨v4, T4, L4, X4, Q4, st4⟩ := own_callV X3 hx hZ (y := (⟨"java/lang/String", "equals", "(Ljava/lang/Object;)Z"⟩ : MethodName)) (b := s_R) (argsL := [(.ref s_R)]) (rest := []) hown (hw _ (List.mem_of_getElem? (i := 54) rfl)) (hw _ (List.mem_of_getElem? (i := 55) rfl)) (hw _ (List.mem_of_getElem? (i := 57) rfl)) (hw _ (List.mem_of_getElem? (i := 56) rfl)) (hw _ (List.mem_of_getElem? (i := 3) rfl)) (hw _ (List.mem_of_getElem? (i := 58) rfl)) (rm_eqs l Z a0 hw [] s_R T1.heap) e3 X_R (by decide) (by decide) 0 (by decide) (by decide) (by decide) (g := (mkF m 25 #[.val (.ref s_R), .val (.ref b1), .val (.int (2 : Int32)), .val (.int (0 : Int32)), .val (.ref w_R)] [(.ref s_R), (.ref s_R)])) rfl (by rw [hml]; rfl) (lenOf (ps := [(.object "java/lang/Object")]) (r := (some .boolean)) (by decide +kernel) rfl) rfl (by show 2 * 0 + _ ≤ _; exact Nat.le_of_eq rfl) (hb hby d7_25)
  obtain ⟨rfl, e4, rfl⟩ := Q4
  refine own_go (T' := T4) (g' := (mkF m 28 #[.val (.ref s_R), .val (.ref b1), .val (.int (2 : Int32)), .val (.int (0 : Int32)), .val (.ref w_R)] [(.int (1 : Int32))])) (fun t q => st4 t q) ?_
  have c5 : ¬ ((1 : Int32) = (0 : Int32)) := by decide
  refine own_go (T' := T4) (g' := (mkF m 31 #[.val (.ref s_R), .val (.ref b1), .val (.int (2 : Int32)), .val (.int (0 : Int32)), .val (.ref w_R)] [])) (fun t q => XS.ifNo X4.here hx rfl (hb hby d7_28) rfl ((if0 _ _).trans (feq c5).1) q) ?_
  refine own_go (T' := T4) (g' := (mkF m 33 #[.val (.ref s_R), .val (.ref b1), .val (.int (2 : Int32)), .val (.int (0 : Int32)), .val (.ref w_R)] [(.ref w_R)])) (fun t q => XS.aload X4.here hx rfl (hb hby d7_31) rfl rfl q) ?_
  refine own_outA X4 hx hlk hret rfl rfl (hb hby d7_33) ?_ (by decide) (by decide)
  exact ⟨rfl, rfl, by rw [e4]; exact K1⟩
set_option maxRecDepth 65536 in
set_option maxHeartbeats 40000000 in
theorem rm_fk_R_new (l : Launch) (Z : State) (a0 : Array Value) (hw : ∀ d ∈ tables_1, d.before a0 Z = true) (ws : List Jvm.Cond) (w_R w_C s_R s_C v_R v_C w_V : Addr) (cp : Int32) (x vx : Addr) (h0 : Heap) (FX : own_F Z h0 w_R w_C s_R s_C v_R v_C w_V cp) (cp0 : ¬ (cp = (0 : Int32))) (nR : s_R ≠ x) (nC : s_C ≠ x) (XX : Exa Z h0 x "java/lang/String") (XC : Fld Z h0 x "java/lang/String" "coder" "B" (.int (0 : Int32))) (XV : Fld Z h0 x "java/lang/String" "value" "[B" (.ref vx)) (XR : own_Ar Z h0 vx .byte [(.int (108 : Int32)), (.int (49 : Int32))]) :
    own_Met l (⟨"com/example/minsum/minsum/model/Norm", "fromKey", "(Ljava/lang/String;)Lcom/example/minsum/minsum/model/Norm;"⟩ : MethodName) prog_11_method_5_code 5 (some (.object "com/example/minsum/minsum/model/Norm")) ws ({ frames := 2, cells := 1, slots := 2, locals := 28 } : Room) Z #[(.ref x)] h0 (fun v h L => v = some (.ref w_R) ∧ L = [] ∧ Keep h0 h []) := by
  refine MetFree.of_bodySF (plainFor_of_name (by first | (simp [plainName, overriddenIn]; done) | decide +kernel)) hisR ?_
  intro p e s m args below meth c s₁ Bd hml0 hP hK
  obtain ⟨rfl, hZ, hh⟩ := hP
  have hx := Bd.exec
  have hby := Bd.bytes
  have hml : c.maxLocals = 5 := hml0
  have hown : s.vm.findClass "com/example/minsum/minsum/model/Norm" = some m.cls := findClass_of_methodNamed Bd.named
  have hnm := (name_of_methodNamed Bd.named Bd.method).1
  have hlk : meth.locks = false := Bd.notSynchronized
  have hret := Bd.returns
  have X0 : Stand p l e ({ frames := 2, cells := 1, slots := 2, locals := 28 } : Room) s m #[(.ref x)] below meth c s₁ [] 0 0 := Stand.of_body Bd
  have e0 : s₁.heap = h0 := by rw [← hh, Bd.state]; rfl
  refine own_in (Q := fun v h L => v = some (.ref w_R) ∧ L = [] ∧ Keep h0 h []) (ef := by first | (simp [entryFrame, mkF, argsToLocals, Value.category, maxLocals]; done) | rfl) (g' := (mkF m 0 #[.val (.ref x), .unset, .unset, .unset, .unset] [])) ?_
  obtain ⟨S_R, E_R, G_R, X_R, H_R, D_R, R_R, S_C, E_C, G_C, X_C, H_C, D_C, R_C, S_V, E_V, R_V, S_cp⟩ := id FX
  obtain ⟨v1, T1, L1, X1, Q1, st1⟩ := own_callS X0 hx hZ (y := (⟨"com/example/minsum/minsum/model/Norm", "values", "()[Lcom/example/minsum/minsum/model/Norm;"⟩ : MethodName)) (argsL := []) (rest := []) hown (hw _ (List.mem_of_getElem? (i := 36) rfl)) (hw _ (List.mem_of_getElem? (i := 37) rfl)) (hw _ (List.mem_of_getElem? (i := 31) rfl)) (hw _ (List.mem_of_getElem? (i := 38) rfl)) (rm_va l Z a0 hw [] w_R w_C s_R s_C v_R v_C w_V cp h0 FX) e0 (by decide) (by decide) 0 (by decide) (by decide) (by decide) (g := (mkF m 0 #[.val (.ref x), .unset, .unset, .unset, .unset] [])) rfl (by rw [hml]; rfl) (lenOf (ps := []) (r := (some (.array (.object "com/example/minsum/minsum/model/Norm")))) (by decide +kernel) rfl) rfl (by show 2 * 0 + _ ≤ _; exact Nat.le_of_eq rfl) (hb hby d7_0)
  obtain ⟨b1, rfl, rfl, K1, RV1⟩ := Q1
  have O1 := own_Xk (own_Xr _) K1 all0
  have FX := own_Fx FX O1
  obtain ⟨S_R, E_R, G_R, X_R, H_R, D_R, R_R, S_C, E_C, G_C, X_C, H_C, D_C, R_C, S_V, E_V, R_V, S_cp⟩ := id FX
  have XX := XX.ext O1
  have XC := XC.ext O1
  have XV := XV.ext O1
  have XR := XR.ext O1
  refine own_go (T' := T1) (g' := (mkF m 3 #[.val (.ref x), .unset, .unset, .unset, .unset] [(.ref b1)])) (fun t q => st1 t q) ?_
  refine own_go (T' := T1) (g' := (mkF m 4 #[.val (.ref x), .val (.ref b1), .unset, .unset, .unset] [])) (fun t q => XS.astoreN X1.here hx rfl (hb hby d7_3) rfl rfl (l' := #[.val (.ref x), .val (.ref b1), .unset, .unset, .unset]) rfl q) ?_
  refine own_go (T' := T1) (g' := (mkF m 5 #[.val (.ref x), .val (.ref b1), .unset, .unset, .unset] [(.ref b1)])) (fun t q => XS.aloadN X1.here hx rfl (hb hby d7_4) rfl rfl q) ?_
  refine own_go (T' := T1) (g' := (mkF m 6 #[.val (.ref x), .val (.ref b1), .unset, .unset, .unset] [(.int (2 : Int32))])) (fun t q => own_len X1 hx hZ (rfl : T1.heap = T1.heap) RV1 (n := (2 : Int32)) rfl (g := (mkF m 5 #[.val (.ref x), .val (.ref b1), .unset, .unset, .unset] [(.ref b1)])) rfl rfl (hb hby d7_5) t q) ?_
  refine own_go (T' := T1) (g' := (mkF m 7 #[.val (.ref x), .val (.ref b1), .val (.int (2 : Int32)), .unset, .unset] [])) (fun t q => XS.istoreN X1.here hx rfl (hb hby d7_6) rfl (l' := #[.val (.ref x), .val (.ref b1), .val (.int (2 : Int32)), .unset, .unset]) rfl q) ?_
  refine own_go (T' := T1) (g' := (mkF m 8 #[.val (.ref x), .val (.ref b1), .val (.int (2 : Int32)), .unset, .unset] [(.int (0 : Int32))])) (fun t q => XS.iconst X1.here hx rfl (hb hby d7_7) q) ?_
  refine own_go (T' := T1) (g' := (mkF m 9 #[.val (.ref x), .val (.ref b1), .val (.int (2 : Int32)), .val (.int (0 : Int32)), .unset] [])) (fun t q => XS.istoreN X1.here hx rfl (hb hby d7_8) rfl (l' := #[.val (.ref x), .val (.ref b1), .val (.int (2 : Int32)), .val (.int (0 : Int32)), .unset]) rfl q) ?_
  refine own_go (T' := T1) (g' := (mkF m 10 #[.val (.ref x), .val (.ref b1), .val (.int (2 : Int32)), .val (.int (0 : Int32)), .unset] [(.int (0 : Int32))])) (fun t q => XS.iloadN X1.here hx rfl (hb hby d7_9) rfl q) ?_
  refine own_go (T' := T1) (g' := (mkF m 11 #[.val (.ref x), .val (.ref b1), .val (.int (2 : Int32)), .val (.int (0 : Int32)), .unset] [(.int (2 : Int32)), (.int (0 : Int32))])) (fun t q => XS.iloadN X1.here hx rfl (hb hby d7_10) rfl q) ?_
  have c2 : (0 : Int32) < (2 : Int32) := by decide
  refine own_go (T' := T1) (g' := (mkF m 14 #[.val (.ref x), .val (.ref b1), .val (.int (2 : Int32)), .val (.int (0 : Int32)), .unset] [])) (fun t q => XS.icmpNo X1.here hx rfl (hb hby d7_11) rfl (tlt c2).2.1 q) ?_
  refine own_go (T' := T1) (g' := (mkF m 15 #[.val (.ref x), .val (.ref b1), .val (.int (2 : Int32)), .val (.int (0 : Int32)), .unset] [(.ref b1)])) (fun t q => XS.aloadN X1.here hx rfl (hb hby d7_14) rfl rfl q) ?_
  refine own_go (T' := T1) (g' := (mkF m 16 #[.val (.ref x), .val (.ref b1), .val (.int (2 : Int32)), .val (.int (0 : Int32)), .unset] [(.int (0 : Int32)), (.ref b1)])) (fun t q => XS.iloadN X1.here hx rfl (hb hby d7_15) rfl q) ?_
  refine own_go (T' := T1) (g' := (mkF m 17 #[.val (.ref x), .val (.ref b1), .val (.int (2 : Int32)), .val (.int (0 : Int32)), .unset] [(.ref w_R)])) (fun t q => own_ldA X1 hx hZ (rfl : T1.heap = T1.heap) rfl RV1 (by decide) rfl (g := (mkF m 16 #[.val (.ref x), .val (.ref b1), .val (.int (2 : Int32)), .val (.int (0 : Int32)), .unset] [(.int (0 : Int32)), (.ref b1)])) rfl rfl (hb hby d7_16) t q) ?_
  refine own_go (T' := T1) (g' := (mkF m 19 #[.val (.ref x), .val (.ref b1), .val (.int (2 : Int32)), .val (.int (0 : Int32)), .val (.ref w_R)] [])) (fun t q => XS.astore X1.here hx rfl (hb hby d7_17) rfl rfl (l' := #[.val (.ref x), .val (.ref b1), .val (.int (2 : Int32)), .val (.int (0 : Int32)), .val (.ref w_R)]) rfl q) ?_
  refine own_go (T' := T1) (g' := (mkF m 21 #[.val (.ref x), .val (.ref b1), .val (.int (2 : Int32)), .val (.int (0 : Int32)), .val (.ref w_R)] [(.ref w_R)])) (fun t q => XS.aload X1.here hx rfl (hb hby d7_19) rfl rfl q) ?_
  obtain ⟨T3, X3, e3, st3⟩ := getF X1 hx hZ hown (host := "") (Or.inl (hw _ (List.mem_of_getElem? (i := 52) rfl))) Via.refl (rfl : T1.heap = T1.heap) G_R (g := (mkF m 21 #[.val (.ref x), .val (.ref b1), .val (.int (2 : Int32)), .val (.int (0 : Int32)), .val (.ref w_R)] [(.ref w_R)])) rfl rfl (hb hby d7_21)
  refine own_go (T' := T3) (g' := (mkF m 24 #[.val (.ref x), .val (.ref b1), .val (.int (2 : Int32)), .val (.int (0 : Int32)), .val (.ref w_R)] [(.ref s_R)])) (fun t q => st3 t q) ?_
  refine own_go (T' := T3) (g' := (mkF m 25 #[.val (.ref x), .val (.ref b1), .val (.int (2 : Int32)), .val (.int (0 : Int32)), .val (.ref w_R)] [(.ref x), (.ref s_R)])) (fun t q => XS.aloadN X3.here hx rfl (hb hby d7_24) rfl rfl q) ?_
  obtain ⟨v4, T4, L4, X4, Q4, st4⟩ := own_callV X3 hx hZ (y := (⟨"java/lang/String", "equals", "(Ljava/lang/Object;)Z"⟩ : MethodName)) (b := s_R) (argsL := [(.ref x)]) (rest := []) hown (hw _ (List.mem_of_getElem? (i := 54) rfl)) (hw _ (List.mem_of_getElem? (i := 55) rfl)) (hw _ (List.mem_of_getElem? (i := 57) rfl)) (hw _ (List.mem_of_getElem? (i := 56) rfl)) (hw _ (List.mem_of_getElem? (i := 3) rfl)) (hw _ (List.mem_of_getElem? (i := 58) rfl)) (rm_eq_RR l Z a0 hw [] s_R x v_R vx cp T1.heap nR XX D_R XC H_R XV R_R XR S_cp cp0) e3 X_R (by decide) (by decide) 0 (by decide) (by decide) (by decide) (g := (mkF m 25 #[.val (.ref x), .val (.ref b1), .val (.int (2 : Int32)), .val (.int (0 : Int32)), .val (.ref w_R)] [(.ref x), (.ref s_R)])) rfl (by rw [hml]; rfl) (lenOf (ps := [(.object "java/lang/Object")]) (r := (some .boolean)) (by decide +kernel) rfl) rfl (by show 2 * 0 + _ ≤ _; exact Nat.le_of_eq rfl) (hb hby d7_25)
  obtain ⟨rfl, e4, rfl⟩ := Q4
  refine own_go (T' := T4) (g' := (mkF m 28 #[.val (.ref x), .val (.ref b1), .val (.int (2 : Int32)), .val (.int (0 : Int32)), .val (.ref w_R)] [(.int (1 : Int32))])) (fun t q => st4 t q) ?_
  have c5 : ¬ ((1 : Int32) = (0 : Int32)) := by decide
  refine own_go (T' := T4) (g' := (mkF m 31 #[.val (.ref x), .val (.ref b1), .val (.int (2 : Int32)), .val (.int (0 : Int32)), .val (.ref w_R)] [])) (fun t q => XS.ifNo X4.here hx rfl (hb hby d7_28) rfl ((if0 _ _).trans (feq c5).1) q) ?_
  refine own_go (T' := T4) (g' := (mkF m 33 #[.val (.ref x), .val (.ref b1), .val (.int (2 : Int32)), .val (.int (0 : Int32)), .val (.ref w_R)] [(.ref w_R)])) (fun t q => XS.aload X4.here hx rfl (hb hby d7_31) rfl rfl q) ?_
  refine own_outA X4 hx hlk hret rfl rfl (hb hby d7_33) ?_ (by decide) (by decide)
  exact ⟨rfl, rfl, by rw [e4]; exact K1⟩
set_option maxRecDepth 65536 in
set_option maxHeartbeats 40000000 in
theorem rm_key_C (l : Launch) (Z : State) (a0 : Array Value) (hw : ∀ d ∈ tables_1, d.before a0 Z = true) (ws : List Jvm.Cond) (w_R w_C s_R s_C v_R v_C w_V : Addr) (cp : Int32) (h0 : Heap) (FX : own_F Z h0 w_R w_C s_R s_C v_R v_C w_V cp) :
    own_Met l (⟨"com/example/minsum/minsum/model/Norm", "key", "()Ljava/lang/String;"⟩ : MethodName) prog_11_method_4_code 1 (some (.object "java/lang/String")) ws ({ frames := 0, cells := 0, slots := 0, locals := 0 } : Room) Z #[(.ref w_C)] h0 (fun v h L => v = some (.ref s_C) ∧ h = h0 ∧ L = []) := by
  refine MetFree.of_bodySF (plainFor_of_name (by first | (simp [plainName, overriddenIn]; done) | decide +kernel)) hisR ?_
  intro p e s m args below meth c s₁ Bd hml0 hP hK
  obtain ⟨rfl, hZ, hh⟩ := hP
  have hx := Bd.exec
  have hby := Bd.bytes
  have hml : c.maxLocals = 1 := hml0
  have hown : s.vm.findClass "com/example/minsum/minsum/model/Norm" = some m.cls := findClass_of_methodNamed Bd.named
  have hnm := (name_of_methodNamed Bd.named Bd.method).1
  have hlk : meth.locks = false := Bd.notSynchronized
  have hret := Bd.returns
  have X0 : Stand p l e ({ frames := 0, cells := 0, slots := 0, locals := 0 } : Room) s m #[(.ref w_C)] below meth c s₁ [] 0 0 := Stand.of_body Bd
  have e0 : s₁.heap = h0 := by rw [← hh, Bd.state]; rfl
  refine own_in (Q := fun v h L => v = some (.ref s_C) ∧ h = h0 ∧ L = []) (ef := by first | (simp [entryFrame, mkF, argsToLocals, Value.category, maxLocals]; done) | rfl) (g' := (mkF m 0 #[.val (.ref w_C)] [])) ?_
  obtain ⟨S_R, E_R, G_R, X_R, H_R, D_R, R_R, S_C, E_C, G_C, X_C, H_C, D_C, R_C, S_V, E_V, R_V, S_cp⟩ := id FX
  refine own_go (T' := s₁) (g' := (mkF m 1 #[.val (.ref w_C)] [(.ref w_C)])) (fun t q => XS.aloadN X0.here hx rfl (hb hby d11_0) rfl rfl q) ?_
  obtain ⟨T1, X1, e1, st1⟩ := getF X0 hx hZ hown (host := "") (Or.inl (hw _ (List.mem_of_getElem? (i := 52) rfl))) Via.refl e0 G_C (g := (mkF m 1 #[.val (.ref w_C)] [(.ref w_C)])) rfl rfl (hb hby d11_1)
  refine own_go (T' := T1) (g' := (mkF m 4 #[.val (.ref w_C)] [(.ref s_C)])) (fun t q => st1 t q) ?_
  refine own_outA X1 hx hlk hret rfl rfl (hb hby d11_4) ?_ (by decide) (by decide)
  exact ⟨rfl, e1, rfl⟩
theorem d7_34 : decode prog_11_method_5_code 34 = .ok (.iinc 3 1, 3) := by decide +kernel
theorem d7_37 : decode prog_11_method_5_code 37 = .ok (.goto (-28), 3) := by decide +kernel
set_option maxRecDepth 65536 in
set_option maxHeartbeats 40000000 in
theorem rm_fk_C_key (l : Launch) (Z : State) (a0 : Array Value) (hw : ∀ d ∈ tables_1, d.before a0 Z = true) (ws : List Jvm.Cond) (w_R w_C s_R s_C v_R v_C w_V : Addr) (cp : Int32) (h0 : Heap) (FX : own_F Z h0 w_R w_C s_R s_C v_R v_C w_V cp) (cp0 : ¬ (cp = (0 : Int32))) (ne_CR : s_C ≠ s_R) :
    own_Met l (⟨"com/example/minsum/minsum/model/Norm", "fromKey", "(Ljava/lang/String;)Lcom/example/minsum/minsum/model/Norm;"⟩ : MethodName) prog_11_method_5_code 5 (some (.object "com/example/minsum/minsum/model/Norm")) ws ({ frames := 2, cells := 1, slots := 2, locals := 28 } : Room) Z #[(.ref s_C)] h0 (fun v h L => v = some (.ref w_C) ∧ L = [] ∧ Keep h0 h []) := by
  refine MetFree.of_bodySF (plainFor_of_name (by first | (simp [plainName, overriddenIn]; done) | decide +kernel)) hisR ?_
  intro p e s m args below meth c s₁ Bd hml0 hP hK
  obtain ⟨rfl, hZ, hh⟩ := hP
  have hx := Bd.exec
  have hby := Bd.bytes
  have hml : c.maxLocals = 5 := hml0
  have hown : s.vm.findClass "com/example/minsum/minsum/model/Norm" = some m.cls := findClass_of_methodNamed Bd.named
  have hnm := (name_of_methodNamed Bd.named Bd.method).1
  have hlk : meth.locks = false := Bd.notSynchronized
  have hret := Bd.returns
  have X0 : Stand p l e ({ frames := 2, cells := 1, slots := 2, locals := 28 } : Room) s m #[(.ref s_C)] below meth c s₁ [] 0 0 := Stand.of_body Bd
  have e0 : s₁.heap = h0 := by rw [← hh, Bd.state]; rfl
  refine own_in (Q := fun v h L => v = some (.ref w_C) ∧ L = [] ∧ Keep h0 h []) (ef := by first | (simp [entryFrame, mkF, argsToLocals, Value.category, maxLocals]; done) | rfl) (g' := (mkF m 0 #[.val (.ref s_C), .unset, .unset, .unset, .unset] [])) ?_
  obtain ⟨S_R, E_R, G_R, X_R, H_R, D_R, R_R, S_C, E_C, G_C, X_C, H_C, D_C, R_C, S_V, E_V, R_V, S_cp⟩ := id FX
  obtain ⟨v1, T1, L1, X1, Q1, st1⟩ := own_callS X0 hx hZ (y := (⟨"com/example/minsum/minsum/model/Norm", "values", "()[Lcom/example/minsum/minsum/model/Norm;"⟩ : MethodName)) (argsL := []) (rest := []) hown (hw _ (List.mem_of_getElem? (i := 36) rfl)) (hw _ (List.mem_of_getElem? (i := 37) rfl)) (hw _ (List.mem_of_getElem? (i := 31) rfl)) (hw _ (List.mem_of_getElem? (i := 38) rfl)) (rm_va l Z a0 hw [] w_R w_C s_R s_C v_R v_C w_V cp h0 FX) e0 (by decide) (by decide) 0 (by decide) (by decide) (by decide) (g := (mkF m 0 #[.val (.ref s_C), .unset, .unset, .unset, .unset] [])) rfl (by rw [hml]; rfl) (lenOf (ps := []) (r := (some (.array (.object "com/example/minsum/minsum/model/Norm")))) (by decide +kernel) rfl) rfl (by show 2 * 0 + _ ≤ _; exact Nat.le_of_eq rfl) (hb hby d7_0)
  obtain ⟨b1, rfl, rfl, K1, RV1⟩ := Q1
  have O1 := own_Xk (own_Xr _) K1 all0
  have FX := own_Fx FX O1
  obtain ⟨S_R, E_R, G_R, X_R, H_R, D_R, R_R, S_C, E_C, G_C, X_C, H_C, D_C, R_C, S_V, E_V, R_V, S_cp⟩ := id FX
  refine own_go (T' := T1) (g' := (mkF m 3 #[.val (.ref s_C), .unset, .unset, .unset, .unset] [(.ref b1)])) (fun t q => st1 t q) ?_
  refine own_go (T' := T1) (g' := (mkF m 4 #[.val (.ref s_C), .val (.ref b1), .unset, .unset, .unset] [])) (fun t q => XS.astoreN X1.here hx rfl (hb hby d7_3) rfl rfl (l' := #[.val (.ref s_C), .val (.ref b1), .unset, .unset, .unset]) rfl q) ?_
  refine own_go (T' := T1) (g' := (mkF m 5 #[.val (.ref s_C), .val (.ref b1), .unset, .unset, .unset] [(.ref b1)])) (fun t q => XS.aloadN X1.here hx rfl (hb hby d7_4) rfl rfl q) ?_
  refine own_go (T' := T1) (g' := (mkF m 6 #[.val (.ref s_C), .val (.ref b1), .unset, .unset, .unset] [(.int (2 : Int32))])) (fun t q => own_len X1 hx hZ (rfl : T1.heap = T1.heap) RV1 (n := (2 : Int32)) rfl (g := (mkF m 5 #[.val (.ref s_C), .val (.ref b1), .unset, .unset, .unset] [(.ref b1)])) rfl rfl (hb hby d7_5) t q) ?_
  refine own_go (T' := T1) (g' := (mkF m 7 #[.val (.ref s_C), .val (.ref b1), .val (.int (2 : Int32)), .unset, .unset] [])) (fun t q => XS.istoreN X1.here hx rfl (hb hby d7_6) rfl (l' := #[.val (.ref s_C), .val (.ref b1), .val (.int (2 : Int32)), .unset, .unset]) rfl q) ?_
  refine own_go (T' := T1) (g' := (mkF m 8 #[.val (.ref s_C), .val (.ref b1), .val (.int (2 : Int32)), .unset, .unset] [(.int (0 : Int32))])) (fun t q => XS.iconst X1.here hx rfl (hb hby d7_7) q) ?_
  refine own_go (T' := T1) (g' := (mkF m 9 #[.val (.ref s_C), .val (.ref b1), .val (.int (2 : Int32)), .val (.int (0 : Int32)), .unset] [])) (fun t q => XS.istoreN X1.here hx rfl (hb hby d7_8) rfl (l' := #[.val (.ref s_C), .val (.ref b1), .val (.int (2 : Int32)), .val (.int (0 : Int32)), .unset]) rfl q) ?_
  refine own_go (T' := T1) (g' := (mkF m 10 #[.val (.ref s_C), .val (.ref b1), .val (.int (2 : Int32)), .val (.int (0 : Int32)), .unset] [(.int (0 : Int32))])) (fun t q => XS.iloadN X1.here hx rfl (hb hby d7_9) rfl q) ?_
  refine own_go (T' := T1) (g' := (mkF m 11 #[.val (.ref s_C), .val (.ref b1), .val (.int (2 : Int32)), .val (.int (0 : Int32)), .unset] [(.int (2 : Int32)), (.int (0 : Int32))])) (fun t q => XS.iloadN X1.here hx rfl (hb hby d7_10) rfl q) ?_
  have c2 : (0 : Int32) < (2 : Int32) := by decide
  refine own_go (T' := T1) (g' := (mkF m 14 #[.val (.ref s_C), .val (.ref b1), .val (.int (2 : Int32)), .val (.int (0 : Int32)), .unset] [])) (fun t q => XS.icmpNo X1.here hx rfl (hb hby d7_11) rfl (tlt c2).2.1 q) ?_
  refine own_go (T' := T1) (g' := (mkF m 15 #[.val (.ref s_C), .val (.ref b1), .val (.int (2 : Int32)), .val (.int (0 : Int32)), .unset] [(.ref b1)])) (fun t q => XS.aloadN X1.here hx rfl (hb hby d7_14) rfl rfl q) ?_
  refine own_go (T' := T1) (g' := (mkF m 16 #[.val (.ref s_C), .val (.ref b1), .val (.int (2 : Int32)), .val (.int (0 : Int32)), .unset] [(.int (0 : Int32)), (.ref b1)])) (fun t q => XS.iloadN X1.here hx rfl (hb hby d7_15) rfl q) ?_
  refine own_go (T' := T1) (g' := (mkF m 17 #[.val (.ref s_C), .val (.ref b1), .val (.int (2 : Int32)), .val (.int (0 : Int32)), .unset] [(.ref w_R)])) (fun t q => own_ldA X1 hx hZ (rfl : T1.heap = T1.heap) rfl RV1 (by decide) rfl (g := (mkF m 16 #[.val (.ref s_C), .val (.ref b1), .val (.int (2 : Int32)), .val (.int (0 : Int32)), .unset] [(.int (0 : Int32)), (.ref b1)])) rfl rfl (hb hby d7_16) t q) ?_
  refine own_go (T' := T1) (g' := (mkF m 19 #[.val (.ref s_C), .val (.ref b1), .val (.int (2 : Int32)), .val (.int (0 : Int32)), .val (.ref w_R)] [])) (fun t q => XS.astore X1.here hx rfl (hb hby d7_17) rfl rfl (l' := #[.val (.ref s_C), .val (.ref b1), .val (.int (2 : Int32)), .val (.int (0 : Int32)), .val (.ref w_R)]) rfl q) ?_
  refine own_go (T' := T1) (g' := (mkF m 21 #[.val (.ref s_C), .val (.ref b1), .val (.int (2 : Int32)), .val (.int (0 : Int32)), .val (.ref w_R)] [(.ref w_R)])) (fun t q => XS.aload X1.here hx rfl (hb hby d7_19) rfl rfl q) ?_
  obtain ⟨T3, X3, e3, st3⟩ := getF X1 hx hZ hown (host := "") (Or.inl (hw _ (List.mem_of_getElem? (i := 52) rfl))) Via.refl (rfl : T1.heap = T1.heap) G_R (g := (mkF m 21 #[.val (.ref s_C), .val (.ref b1), .val (.int (2 : Int32)), .val (.int (0 : Int32)), .val (.ref w_R)] [(.ref w_R)])) rfl rfl (hb hby d7_21)
  refine own_go (T' := T3) (g' := (mkF m 24 #[.val (.ref s_C), .val (.ref b1), .val (.int (2 : Int32)), .val (.int (0 : Int32)), .val (.ref w_R)] [(.ref s_R)])) (fun t q => st3 t q) ?_
  refine own_go (T' := T3) (g' := (mkF m 25 #[.val (.ref s_C), .val (.ref b1), .val (.int (2 : Int32)), .val (.int (0 : Int32)), .val (.ref w_R)] [(.ref s_C), (.ref s_R)])) (fun t q => XS.aloadN X3.here hx rfl (hb hby d7_24) rfl rfl q) ?_
  obtain ⟨v4, T4, L4, X4, Q4, st4⟩ := own_callV X3 hx hZ (y := (⟨"java/lang/String", "equals", "(Ljava/lang/Object;)Z"⟩ : MethodName)) (b := s_R) (argsL := [(.ref s_C)]) (rest := []) hown (hw _ (List.mem_of_getElem? (i := 54) rfl)) (hw _ (List.mem_of_getElem? (i := 55) rfl)) (hw _ (List.mem_of_getElem? (i := 57) rfl)) (hw _ (List.mem_of_getElem? (i := 56) rfl)) (hw _ (List.mem_of_getElem? (i := 3) rfl)) (hw _ (List.mem_of_getElem? (i := 58) rfl)) (rm_eq_RC l Z a0 hw [] s_R s_C v_R v_C cp T1.heap (Ne.symm ne_CR) X_C D_R D_C H_R H_C R_R R_C S_cp cp0) e3 X_R (by decide) (by decide) 0 (by decide) (by decide) (by decide) (g := (mkF m 25 #[.val (.ref s_C), .val (.ref b1), .val (.int (2 : Int32)), .val (.int (0 : Int32)), .val (.ref w_R)] [(.ref s_C), (.ref s_R)])) rfl (by rw [hml]; rfl) (lenOf (ps := [(.object "java/lang/Object")]) (r := (some .boolean)) (by decide +kernel) rfl) rfl (by show 2 * 0 + _ ≤ _; exact Nat.le_of_eq rfl) (hb hby d7_25)
  obtain ⟨rfl, e4, rfl⟩ := Q4
  refine own_go (T' := T4) (g' := (mkF m 28 #[.val (.ref s_C), .val (.ref b1), .val (.int (2 : Int32)), .val (.int (0 : Int32)), .val (.ref w_R)] [(.int (0 : Int32))])) (fun t q => st4 t q) ?_
  have c5 : (0 : Int32) = (0 : Int32) := by decide
  refine own_go (T' := T4) (g' := (mkF m 34 #[.val (.ref s_C), .val (.ref b1), .val (.int (2 : Int32)), .val (.int (0 : Int32)), .val (.ref w_R)] [])) (fun t q => XS.ifYes X4.here hx rfl (pc0 := 28) (pc' := 34) rfl (hb hby d7_28) rfl ((if0 _ _).trans (teq c5).1) (by decide) (by decide) q) ?_
  refine own_go (T' := T4) (g' := (mkF m 37 #[.val (.ref s_C), .val (.ref b1), .val (.int (2 : Int32)), .val (.int (1 : Int32)), .val (.ref w_R)] [])) (fun t q => XS.iinc X4.here hx rfl (hb hby d7_34) rfl (l' := #[.val (.ref s_C), .val (.ref b1), .val (.int (2 : Int32)), .val (.int (1 : Int32)), .val (.ref w_R)]) rfl q) ?_
  refine own_go (T' := T4) (g' := (mkF m 9 #[.val (.ref s_C), .val (.ref b1), .val (.int (2 : Int32)), .val (.int (1 : Int32)), .val (.ref w_R)] [])) (fun t q => XS.goto X4.here hx rfl (pc0 := 37) (pc' := 9) rfl (hb hby d7_37) (by decide) (by decide) q) ?_
  refine own_go (T' := T4) (g' := (mkF m 10 #[.val (.ref s_C), .val (.ref b1), .val (.int (2 : Int32)), .val (.int (1 : Int32)), .val (.ref w_R)] [(.int (1 : Int32))])) (fun t q => XS.iloadN X4.here hx rfl (hb hby d7_9) rfl q) ?_
  refine own_go (T' := T4) (g' := (mkF m 11 #[.val (.ref s_C), .val (.ref b1), .val (.int (2 : Int32)), .val (.int (1 : Int32)), .val (.ref w_R)] [(.int (2 : Int32)), (.int (1 : Int32))])) (fun t q => XS.iloadN X4.here hx rfl (hb hby d7_10) rfl q) ?_
  have c6 : (1 : Int32) < (2 : Int32) := by decide
  refine own_go (T' := T4) (g' := (mkF m 14 #[.val (.ref s_C), .val (.ref b1), .val (.int (2 : Int32)), .val (.int (1 : Int32)), .val (.ref w_R)] [])) (fun t q => XS.icmpNo X4.here hx rfl (hb hby d7_11) rfl (tlt c6).2.1 q) ?_
  refine own_go (T' := T4) (g' := (mkF m 15 #[.val (.ref s_C), .val (.ref b1), .val (.int (2 : Int32)), .val (.int (1 : Int32)), .val (.ref w_R)] [(.ref b1)])) (fun t q => XS.aloadN X4.here hx rfl (hb hby d7_14) rfl rfl q) ?_
  refine own_go (T' := T4) (g' := (mkF m 16 #[.val (.ref s_C), .val (.ref b1), .val (.int (2 : Int32)), .val (.int (1 : Int32)), .val (.ref w_R)] [(.int (1 : Int32)), (.ref b1)])) (fun t q => XS.iloadN X4.here hx rfl (hb hby d7_15) rfl q) ?_
  refine own_go (T' := T4) (g' := (mkF m 17 #[.val (.ref s_C), .val (.ref b1), .val (.int (2 : Int32)), .val (.int (1 : Int32)), .val (.ref w_R)] [(.ref w_C)])) (fun t q => own_ldA X4 hx hZ e4 rfl RV1 (by decide) rfl (g := (mkF m 16 #[.val (.ref s_C), .val (.ref b1), .val (.int (2 : Int32)), .val (.int (1 : Int32)), .val (.ref w_R)] [(.int (1 : Int32)), (.ref b1)])) rfl rfl (hb hby d7_16) t q) ?_
  refine own_go (T' := T4) (g' := (mkF m 19 #[.val (.ref s_C), .val (.ref b1), .val (.int (2 : Int32)), .val (.int (1 : Int32)), .val (.ref w_C)] [])) (fun t q => XS.astore X4.here hx rfl (hb hby d7_17) rfl rfl (l' := #[.val (.ref s_C), .val (.ref b1), .val (.int (2 : Int32)), .val (.int (1 : Int32)), .val (.ref w_C)]) rfl q) ?_
  refine own_go (T' := T4) (g' := (mkF m 21 #[.val (.ref s_C), .val (.ref b1), .val (.int (2 : Int32)), .val (.int (1 : Int32)), .val (.ref w_C)] [(.ref w_C)])) (fun t q => XS.aload X4.here hx rfl (hb hby d7_19) rfl rfl q) ?_
  obtain ⟨T7, X7, e7, st7⟩ := getF X4 hx hZ hown (host := "") (Or.inl (hw _ (List.mem_of_getElem? (i := 52) rfl))) Via.refl e4 G_C (g := (mkF m 21 #[.val (.ref s_C), .val (.ref b1), .val (.int (2 : Int32)), .val (.int (1 : Int32)), .val (.ref w_C)] [(.ref w_C)])) rfl rfl (hb hby d7_21)
  refine own_go (T' := T7) (g' := (mkF m 24 #[.val (.ref s_C), .val (.ref b1), .val (.int (2 : Int32)), .val (.int (1 : Int32)), .val (.ref w_C)] [(.ref s_C)])) (fun t q => st7 t q) ?_
  refine own_go (T' := T7) (g' := (mkF m 25 #[.val (.ref s_C), .val (.ref b1), .val (.int (2 : Int32)), .val (.int (1 : Int32)), .val (.ref w_C)] [(.ref s_C), (.ref s_C)])) (fun t q => XS.aloadN X7.here hx rfl (hb hby d7_24) rfl rfl q) ?_
  obtain ⟨v8, T8, L8, X8, Q8, st8⟩ := own_callV X7 hx hZ (y := (⟨"java/lang/String", "equals", "(Ljava/lang/Object;)Z"⟩ : MethodName)) (b := s_C) (argsL := [(.ref s_C)]) (rest := []) hown (hw _ (List.mem_of_getElem? (i := 54) rfl)) (hw _ (List.mem_of_getElem? (i := 55) rfl)) (hw _ (List.mem_of_getElem? (i := 57) rfl)) (hw _ (List.mem_of_getElem? (i := 56) rfl)) (hw _ (List.mem_of_getElem? (i := 3) rfl)) (hw _ (List.mem_of_getElem? (i := 58) rfl)) (rm_eqs l Z a0 hw [] s_C T1.heap) e7 X_C (by decide) (by decide) 0 (by decide) (by decide) (by decide) (g := (mkF m 25 #[.val (.ref s_C), .val (.ref b1), .val (.int (2 : Int32)), .val (.int (1 : Int32)), .val (.ref w_C)] [(.ref s_C), (.ref s_C)])) rfl (by rw [hml]; rfl) (lenOf (ps := [(.object "java/lang/Object")]) (r := (some .boolean)) (by decide +kernel) rfl) rfl (by show 2 * 0 + _ ≤ _; exact Nat.le_of_eq rfl) (hb hby d7_25)
  obtain ⟨rfl, e8, rfl⟩ := Q8
  refine own_go (T' := T8) (g' := (mkF m 28 #[.val (.ref s_C), .val (.ref b1), .val (.int (2 : Int32)), .val (.int (1 : Int32)), .val (.ref w_C)] [(.int (1 : Int32))])) (fun t q => st8 t q) ?_
  have c9 : ¬ ((1 : Int32) = (0 : Int32)) := by decide
  refine own_go (T' := T8) (g' := (mkF m 31 #[.val (.ref s_C), .val (.ref b1), .val (.int (2 : Int32)), .val (.int (1 : Int32)), .val (.ref w_C)] [])) (fun t q => XS.ifNo X8.here hx rfl (hb hby d7_28) rfl ((if0 _ _).trans (feq c9).1) q) ?_
  refine own_go (T' := T8) (g' := (mkF m 33 #[.val (.ref s_C), .val (.ref b1), .val (.int (2 : Int32)), .val (.int (1 : Int32)), .val (.ref w_C)] [(.ref w_C)])) (fun t q => XS.aload X8.here hx rfl (hb hby d7_31) rfl rfl q) ?_
  refine own_outA X8 hx hlk hret rfl rfl (hb hby d7_33) ?_ (by decide) (by decide)
  exact ⟨rfl, rfl, by rw [e8]; exact K1⟩
set_option maxRecDepth 65536 in
set_option maxHeartbeats 40000000 in
theorem rm_fk_C_new (l : Launch) (Z : State) (a0 : Array Value) (hw : ∀ d ∈ tables_1, d.before a0 Z = true) (ws : List Jvm.Cond) (w_R w_C s_R s_C v_R v_C w_V : Addr) (cp : Int32) (x vx : Addr) (h0 : Heap) (FX : own_F Z h0 w_R w_C s_R s_C v_R v_C w_V cp) (cp0 : ¬ (cp = (0 : Int32))) (nR : s_R ≠ x) (nC : s_C ≠ x) (XX : Exa Z h0 x "java/lang/String") (XC : Fld Z h0 x "java/lang/String" "coder" "B" (.int (0 : Int32))) (XV : Fld Z h0 x "java/lang/String" "value" "[B" (.ref vx)) (XR : own_Ar Z h0 vx .byte [(.int (108 : Int32)), (.int (105 : Int32)), (.int (110 : Int32)), (.int (102 : Int32))]) :
    own_Met l (⟨"com/example/minsum/minsum/model/Norm", "fromKey", "(Ljava/lang/String;)Lcom/example/minsum/minsum/model/Norm;"⟩ : MethodName) prog_11_method_5_code 5 (some (.object "com/example/minsum/minsum/model/Norm")) ws ({ frames := 2, cells := 1, slots := 2, locals := 28 } : Room) Z #[(.ref x)] h0 (fun v h L => v = some (.ref w_C) ∧ L = [] ∧ Keep h0 h []) := by
  refine MetFree.of_bodySF (plainFor_of_name (by first | (simp [plainName, overriddenIn]; done) | decide +kernel)) hisR ?_
  intro p e s m args below meth c s₁ Bd hml0 hP hK
  obtain ⟨rfl, hZ, hh⟩ := hP
  have hx := Bd.exec
  have hby := Bd.bytes
  have hml : c.maxLocals = 5 := hml0
  have hown : s.vm.findClass "com/example/minsum/minsum/model/Norm" = some m.cls := findClass_of_methodNamed Bd.named
  have hnm := (name_of_methodNamed Bd.named Bd.method).1
  have hlk : meth.locks = false := Bd.notSynchronized
  have hret := Bd.returns
  have X0 : Stand p l e ({ frames := 2, cells := 1, slots := 2, locals := 28 } : Room) s m #[(.ref x)] below meth c s₁ [] 0 0 := Stand.of_body Bd
  have e0 : s₁.heap = h0 := by rw [← hh, Bd.state]; rfl
  refine own_in (Q := fun v h L => v = some (.ref w_C) ∧ L = [] ∧ Keep h0 h []) (ef := by first | (simp [entryFrame, mkF, argsToLocals, Value.category, maxLocals]; done) | rfl) (g' := (mkF m 0 #[.val (.ref x), .unset, .unset, .unset, .unset] [])) ?_
  obtain ⟨S_R, E_R, G_R, X_R, H_R, D_R, R_R, S_C, E_C, G_C, X_C, H_C, D_C, R_C, S_V, E_V, R_V, S_cp⟩ := id FX
  obtain ⟨v1, T1, L1, X1, Q1, st1⟩ := own_callS X0 hx hZ (y := (⟨"com/example/minsum/minsum/model/Norm", "values", "()[Lcom/example/minsum/minsum/model/Norm;"⟩ : MethodName)) (argsL := []) (rest := []) hown (hw _ (List.mem_of_getElem? (i := 36) rfl)) (hw _ (List.mem_of_getElem? (i := 37) rfl)) (hw _ (List.mem_of_getElem? (i := 31) rfl)) (hw _ (List.mem_of_getElem? (i := 38) rfl)) (rm_va l Z a0 hw [] w_R w_C s_R s_C v_R v_C w_V cp h0 FX) e0 (by decide) (by decide) 0 (by decide) (by decide) (by decide) (g := (mkF m 0 #[.val (.ref x), .unset, .unset, .unset, .unset] [])) rfl (by rw [hml]; rfl) (lenOf (ps := []) (r := (some (.array (.object "com/example/minsum/minsum/model/Norm")))) (by decide +kernel) rfl) rfl (by show 2 * 0 + _ ≤ _; exact Nat.le_of_eq rfl) (hb hby d7_0)
  obtain ⟨b1, rfl, rfl, K1, RV1⟩ := Q1
  have O1 := own_Xk (own_Xr _) K1 all0
  have FX := own_Fx FX O1
  obtain ⟨S_R, E_R, G_R, X_R, H_R, D_R, R_R, S_C, E_C, G_C, X_C, H_C, D_C, R_C, S_V, E_V, R_V, S_cp⟩ := id FX
  have XX := XX.ext O1
  have XC := XC.ext O1
  have XV := XV.ext O1
  have XR := XR.ext O1
  refine own_go (T' := T1) (g' := (mkF m 3 #[.val (.ref x), .unset, .unset, .unset, .unset] [(.ref b1)])) (fun t q => st1 t q) ?_
  refine own_go (T' := T1) (g' := (mkF m 4 #[.val (.ref x), .val (.ref b1), .unset, .unset, .unset] [])) (fun t q => XS.astoreN X1.here hx rfl (hb hby d7_3) rfl rfl (l' := #[.val (.ref x), .val (.ref b1), .unset, .unset, .unset]) rfl q) ?_
  refine own_go (T' := T1) (g' := (mkF m 5 #[.val (.ref x), .val (.ref b1), .unset, .unset, .unset] [(.ref b1)])) (fun t q => XS.aloadN X1.here hx rfl (hb hby d7_4) rfl rfl q) ?_
  refine own_go (T' := T1) (g' := (mkF m 6 #[.val (.ref x), .val (.ref b1), .unset, .unset, .unset] [(.int (2 : Int32))])) (fun t q => own_len X1 hx hZ (rfl : T1.heap = T1.heap) RV1 (n := (2 : Int32)) rfl (g := (mkF m 5 #[.val (.ref x), .val (.ref b1), .unset, .unset, .unset] [(.ref b1)])) rfl rfl (hb hby d7_5) t q) ?_
  refine own_go (T' := T1) (g' := (mkF m 7 #[.val (.ref x), .val (.ref b1), .val (.int (2 : Int32)), .unset, .unset] [])) (fun t q => XS.istoreN X1.here hx rfl (hb hby d7_6) rfl (l' := #[.val (.ref x), .val (.ref b1), .val (.int (2 : Int32)), .unset, .unset]) rfl q) ?_
  refine own_go (T' := T1) (g' := (mkF m 8 #[.val (.ref x), .val (.ref b1), .val (.int (2 : Int32)), .unset, .unset] [(.int (0 : Int32))])) (fun t q => XS.iconst X1.here hx rfl (hb hby d7_7) q) ?_
  refine own_go (T' := T1) (g' := (mkF m 9 #[.val (.ref x), .val (.ref b1), .val (.int (2 : Int32)), .val (.int (0 : Int32)), .unset] [])) (fun t q => XS.istoreN X1.here hx rfl (hb hby d7_8) rfl (l' := #[.val (.ref x), .val (.ref b1), .val (.int (2 : Int32)), .val (.int (0 : Int32)), .unset]) rfl q) ?_
  refine own_go (T' := T1) (g' := (mkF m 10 #[.val (.ref x), .val (.ref b1), .val (.int (2 : Int32)), .val (.int (0 : Int32)), .unset] [(.int (0 : Int32))])) (fun t q => XS.iloadN X1.here hx rfl (hb hby d7_9) rfl q) ?_
  refine own_go (T' := T1) (g' := (mkF m 11 #[.val (.ref x), .val (.ref b1), .val (.int (2 : Int32)), .val (.int (0 : Int32)), .unset] [(.int (2 : Int32)), (.int (0 : Int32))])) (fun t q => XS.iloadN X1.here hx rfl (hb hby d7_10) rfl q) ?_
  have c2 : (0 : Int32) < (2 : Int32) := by decide
  refine own_go (T' := T1) (g' := (mkF m 14 #[.val (.ref x), .val (.ref b1), .val (.int (2 : Int32)), .val (.int (0 : Int32)), .unset] [])) (fun t q => XS.icmpNo X1.here hx rfl (hb hby d7_11) rfl (tlt c2).2.1 q) ?_
  refine own_go (T' := T1) (g' := (mkF m 15 #[.val (.ref x), .val (.ref b1), .val (.int (2 : Int32)), .val (.int (0 : Int32)), .unset] [(.ref b1)])) (fun t q => XS.aloadN X1.here hx rfl (hb hby d7_14) rfl rfl q) ?_
  refine own_go (T' := T1) (g' := (mkF m 16 #[.val (.ref x), .val (.ref b1), .val (.int (2 : Int32)), .val (.int (0 : Int32)), .unset] [(.int (0 : Int32)), (.ref b1)])) (fun t q => XS.iloadN X1.here hx rfl (hb hby d7_15) rfl q) ?_
  refine own_go (T' := T1) (g' := (mkF m 17 #[.val (.ref x), .val (.ref b1), .val (.int (2 : Int32)), .val (.int (0 : Int32)), .unset] [(.ref w_R)])) (fun t q => own_ldA X1 hx hZ (rfl : T1.heap = T1.heap) rfl RV1 (by decide) rfl (g := (mkF m 16 #[.val (.ref x), .val (.ref b1), .val (.int (2 : Int32)), .val (.int (0 : Int32)), .unset] [(.int (0 : Int32)), (.ref b1)])) rfl rfl (hb hby d7_16) t q) ?_
  refine own_go (T' := T1) (g' := (mkF m 19 #[.val (.ref x), .val (.ref b1), .val (.int (2 : Int32)), .val (.int (0 : Int32)), .val (.ref w_R)] [])) (fun t q => XS.astore X1.here hx rfl (hb hby d7_17) rfl rfl (l' := #[.val (.ref x), .val (.ref b1), .val (.int (2 : Int32)), .val (.int (0 : Int32)), .val (.ref w_R)]) rfl q) ?_
  refine own_go (T' := T1) (g' := (mkF m 21 #[.val (.ref x), .val (.ref b1), .val (.int (2 : Int32)), .val (.int (0 : Int32)), .val (.ref w_R)] [(.ref w_R)])) (fun t q => XS.aload X1.here hx rfl (hb hby d7_19) rfl rfl q) ?_
  obtain ⟨T3, X3, e3, st3⟩ := getF X1 hx hZ hown (host := "") (Or.inl (hw _ (List.mem_of_getElem? (i := 52) rfl))) Via.refl (rfl : T1.heap = T1.heap) G_R (g := (mkF m 21 #[.val (.ref x), .val (.ref b1), .val (.int (2 : Int32)), .val (.int (0 : Int32)), .val (.ref w_R)] [(.ref w_R)])) rfl rfl (hb hby d7_21)
  refine own_go (T' := T3) (g' := (mkF m 24 #[.val (.ref x), .val (.ref b1), .val (.int (2 : Int32)), .val (.int (0 : Int32)), .val (.ref w_R)] [(.ref s_R)])) (fun t q => st3 t q) ?_
  refine own_go (T' := T3) (g' := (mkF m 25 #[.val (.ref x), .val (.ref b1), .val (.int (2 : Int32)), .val (.int (0 : Int32)), .val (.ref w_R)] [(.ref x), (.ref s_R)])) (fun t q => XS.aloadN X3.here hx rfl (hb hby d7_24) rfl rfl q) ?_
  obtain ⟨v4, T4, L4, X4, Q4, st4⟩ := own_callV X3 hx hZ (y := (⟨"java/lang/String", "equals", "(Ljava/lang/Object;)Z"⟩ : MethodName)) (b := s_R) (argsL := [(.ref x)]) (rest := []) hown (hw _ (List.mem_of_getElem? (i := 54) rfl)) (hw _ (List.mem_of_getElem? (i := 55) rfl)) (hw _ (List.mem_of_getElem? (i := 57) rfl)) (hw _ (List.mem_of_getElem? (i := 56) rfl)) (hw _ (List.mem_of_getElem? (i := 3) rfl)) (hw _ (List.mem_of_getElem? (i := 58) rfl)) (rm_eq_RC l Z a0 hw [] s_R x v_R vx cp T1.heap nR XX D_R XC H_R XV R_R XR S_cp cp0) e3 X_R (by decide) (by decide) 0 (by decide) (by decide) (by decide) (g := (mkF m 25 #[.val (.ref x), .val (.ref b1), .val (.int (2 : Int32)), .val (.int (0 : Int32)), .val (.ref w_R)] [(.ref x), (.ref s_R)])) rfl (by rw [hml]; rfl) (lenOf (ps := [(.object "java/lang/Object")]) (r := (some .boolean)) (by decide +kernel) rfl) rfl (by show 2 * 0 + _ ≤ _; exact Nat.le_of_eq rfl) (hb hby d7_25)
  obtain ⟨rfl, e4, rfl⟩ := Q4
  refine own_go (T' := T4) (g' := (mkF m 28 #[.val (.ref x), .val (.ref b1), .val (.int (2 : Int32)), .val (.int (0 : Int32)), .val (.ref w_R)] [(.int (0 : Int32))])) (fun t q => st4 t q) ?_
  have c5 : (0 : Int32) = (0 : Int32) := by decide
  refine own_go (T' := T4) (g' := (mkF m 34 #[.val (.ref x), .val (.ref b1), .val (.int (2 : Int32)), .val (.int (0 : Int32)), .val (.ref w_R)] [])) (fun t q => XS.ifYes X4.here hx rfl (pc0 := 28) (pc' := 34) rfl (hb hby d7_28) rfl ((if0 _ _).trans (teq c5).1) (by decide) (by decide) q) ?_
  refine own_go (T' := T4) (g' := (mkF m 37 #[.val (.ref x), .val (.ref b1), .val (.int (2 : Int32)), .val (.int (1 : Int32)), .val (.ref w_R)] [])) (fun t q => XS.iinc X4.here hx rfl (hb hby d7_34) rfl (l' := #[.val (.ref x), .val (.ref b1), .val (.int (2 : Int32)), .val (.int (1 : Int32)), .val (.ref w_R)]) rfl q) ?_
  refine own_go (T' := T4) (g' := (mkF m 9 #[.val (.ref x), .val (.ref b1), .val (.int (2 : Int32)), .val (.int (1 : Int32)), .val (.ref w_R)] [])) (fun t q => XS.goto X4.here hx rfl (pc0 := 37) (pc' := 9) rfl (hb hby d7_37) (by decide) (by decide) q) ?_
  refine own_go (T' := T4) (g' := (mkF m 10 #[.val (.ref x), .val (.ref b1), .val (.int (2 : Int32)), .val (.int (1 : Int32)), .val (.ref w_R)] [(.int (1 : Int32))])) (fun t q => XS.iloadN X4.here hx rfl (hb hby d7_9) rfl q) ?_
  refine own_go (T' := T4) (g' := (mkF m 11 #[.val (.ref x), .val (.ref b1), .val (.int (2 : Int32)), .val (.int (1 : Int32)), .val (.ref w_R)] [(.int (2 : Int32)), (.int (1 : Int32))])) (fun t q => XS.iloadN X4.here hx rfl (hb hby d7_10) rfl q) ?_
  have c6 : (1 : Int32) < (2 : Int32) := by decide
  refine own_go (T' := T4) (g' := (mkF m 14 #[.val (.ref x), .val (.ref b1), .val (.int (2 : Int32)), .val (.int (1 : Int32)), .val (.ref w_R)] [])) (fun t q => XS.icmpNo X4.here hx rfl (hb hby d7_11) rfl (tlt c6).2.1 q) ?_
  refine own_go (T' := T4) (g' := (mkF m 15 #[.val (.ref x), .val (.ref b1), .val (.int (2 : Int32)), .val (.int (1 : Int32)), .val (.ref w_R)] [(.ref b1)])) (fun t q => XS.aloadN X4.here hx rfl (hb hby d7_14) rfl rfl q) ?_
  refine own_go (T' := T4) (g' := (mkF m 16 #[.val (.ref x), .val (.ref b1), .val (.int (2 : Int32)), .val (.int (1 : Int32)), .val (.ref w_R)] [(.int (1 : Int32)), (.ref b1)])) (fun t q => XS.iloadN X4.here hx rfl (hb hby d7_15) rfl q) ?_
  refine own_go (T' := T4) (g' := (mkF m 17 #[.val (.ref x), .val (.ref b1), .val (.int (2 : Int32)), .val (.int (1 : Int32)), .val (.ref w_R)] [(.ref w_C)])) (fun t q => own_ldA X4 hx hZ e4 rfl RV1 (by decide) rfl (g := (mkF m 16 #[.val (.ref x), .val (.ref b1), .val (.int (2 : Int32)), .val (.int (1 : Int32)), .val (.ref w_R)] [(.int (1 : Int32)), (.ref b1)])) rfl rfl (hb hby d7_16) t q) ?_
  refine own_go (T' := T4) (g' := (mkF m 19 #[.val (.ref x), .val (.ref b1), .val (.int (2 : Int32)), .val (.int (1 : Int32)), .val (.ref w_C)] [])) (fun t q => XS.astore X4.here hx rfl (hb hby d7_17) rfl rfl (l' := #[.val (.ref x), .val (.ref b1), .val (.int (2 : Int32)), .val (.int (1 : Int32)), .val (.ref w_C)]) rfl q) ?_
  refine own_go (T' := T4) (g' := (mkF m 21 #[.val (.ref x), .val (.ref b1), .val (.int (2 : Int32)), .val (.int (1 : Int32)), .val (.ref w_C)] [(.ref w_C)])) (fun t q => XS.aload X4.here hx rfl (hb hby d7_19) rfl rfl q) ?_
  obtain ⟨T7, X7, e7, st7⟩ := getF X4 hx hZ hown (host := "") (Or.inl (hw _ (List.mem_of_getElem? (i := 52) rfl))) Via.refl e4 G_C (g := (mkF m 21 #[.val (.ref x), .val (.ref b1), .val (.int (2 : Int32)), .val (.int (1 : Int32)), .val (.ref w_C)] [(.ref w_C)])) rfl rfl (hb hby d7_21)
  refine own_go (T' := T7) (g' := (mkF m 24 #[.val (.ref x), .val (.ref b1), .val (.int (2 : Int32)), .val (.int (1 : Int32)), .val (.ref w_C)] [(.ref s_C)])) (fun t q => st7 t q) ?_
  refine own_go (T' := T7) (g' := (mkF m 25 #[.val (.ref x), .val (.ref b1), .val (.int (2 : Int32)), .val (.int (1 : Int32)), .val (.ref w_C)] [(.ref x), (.ref s_C)])) (fun t q => XS.aloadN X7.here hx rfl (hb hby d7_24) rfl rfl q) ?_
  obtain ⟨v8, T8, L8, X8, Q8, st8⟩ := own_callV X7 hx hZ (y := (⟨"java/lang/String", "equals", "(Ljava/lang/Object;)Z"⟩ : MethodName)) (b := s_C) (argsL := [(.ref x)]) (rest := []) hown (hw _ (List.mem_of_getElem? (i := 54) rfl)) (hw _ (List.mem_of_getElem? (i := 55) rfl)) (hw _ (List.mem_of_getElem? (i := 57) rfl)) (hw _ (List.mem_of_getElem? (i := 56) rfl)) (hw _ (List.mem_of_getElem? (i := 3) rfl)) (hw _ (List.mem_of_getElem? (i := 58) rfl)) (rm_eq_CC l Z a0 hw [] s_C x v_C vx cp T1.heap nC XX D_C XC H_C XV R_C XR S_cp cp0) e7 X_C (by decide) (by decide) 0 (by decide) (by decide) (by decide) (g := (mkF m 25 #[.val (.ref x), .val (.ref b1), .val (.int (2 : Int32)), .val (.int (1 : Int32)), .val (.ref w_C)] [(.ref x), (.ref s_C)])) rfl (by rw [hml]; rfl) (lenOf (ps := [(.object "java/lang/Object")]) (r := (some .boolean)) (by decide +kernel) rfl) rfl (by show 2 * 0 + _ ≤ _; exact Nat.le_of_eq rfl) (hb hby d7_25)
  obtain ⟨rfl, e8, rfl⟩ := Q8
  refine own_go (T' := T8) (g' := (mkF m 28 #[.val (.ref x), .val (.ref b1), .val (.int (2 : Int32)), .val (.int (1 : Int32)), .val (.ref w_C)] [(.int (1 : Int32))])) (fun t q => st8 t q) ?_
  have c9 : ¬ ((1 : Int32) = (0 : Int32)) := by decide
  refine own_go (T' := T8) (g' := (mkF m 31 #[.val (.ref x), .val (.ref b1), .val (.int (2 : Int32)), .val (.int (1 : Int32)), .val (.ref w_C)] [])) (fun t q => XS.ifNo X8.here hx rfl (hb hby d7_28) rfl ((if0 _ _).trans (feq c9).1) q) ?_
  refine own_go (T' := T8) (g' := (mkF m 33 #[.val (.ref x), .val (.ref b1), .val (.int (2 : Int32)), .val (.int (1 : Int32)), .val (.ref w_C)] [(.ref w_C)])) (fun t q => XS.aload X8.here hx rfl (hb hby d7_31) rfl rfl q) ?_
  refine own_outA X8 hx hlk hret rfl rfl (hb hby d7_33) ?_ (by decide) (by decide)
  exact ⟨rfl, rfl, by rw [e8]; exact K1⟩
set_option maxRecDepth 65536 in
set_option maxHeartbeats 40000000 in
theorem rm0 (l : Launch) (Z : State) (a0 : Array Value) (hw : ∀ d ∈ tables_1, d.before a0 Z = true) (ws : List Jvm.Cond) (p1 : Int32) (w_R w_C s_R s_C v_R v_C w_V : Addr) (cp : Int32) (h0 : Heap) (FX : own_F Z h0 w_R w_C s_R s_C v_R v_C w_V cp) (cp0 : ¬ (cp = (0 : Int32))) (ne_CR : s_C ≠ s_R) :
    own_Met l x code maxLocals ret ws room_1 Z #[(.int p1)] h0 (fun v _ L => v = some (.int (1 : Int32)) ∧ Fr h0.size L) := by
  refine MetFree.of_bodySF (plainFor_of_name (by first | (simp [plainName, overriddenIn]; done) | decide +kernel)) hisR ?_
  intro p e s m args below meth c s₁ Bd hml0 hP hK
  obtain ⟨rfl, hZ, hh⟩ := hP
  have hx := Bd.exec
  have hby := Bd.bytes
  have hml : c.maxLocals = 8 := hml0
  have hown : s.vm.findClass "com/example/minsum/minsum/model/NormFromKeyPinLaw" = some m.cls := findClass_of_methodNamed Bd.named
  have hnm := (name_of_methodNamed Bd.named Bd.method).1
  have hlk : meth.locks = false := Bd.notSynchronized
  have hret := Bd.returns
  have X0 : Stand p l e room_1 s m #[(.int p1)] below meth c s₁ [] 0 0 := Stand.of_body Bd
  have e0 : s₁.heap = h0 := by rw [← hh, Bd.state]; rfl
  refine own_in (Q := fun v _ L => v = some (.int (1 : Int32)) ∧ Fr h0.size L) (ef := by first | (simp [entryFrame, mkF, argsToLocals, Value.category, maxLocals]; done) | rfl) (g' := (mkF m 0 #[.val (.int p1), .unset, .unset, .unset, .unset, .unset, .unset, .unset] [])) ?_
  obtain ⟨S_R, E_R, G_R, X_R, H_R, D_R, R_R, S_C, E_C, G_C, X_C, H_C, D_C, R_C, S_V, E_V, R_V, S_cp⟩ := id FX
  refine own_go (T' := s₁) (g' := (mkF m 1 #[.val (.int p1), .unset, .unset, .unset, .unset, .unset, .unset, .unset] [(.int p1)])) (fun t q => XS.iloadN X0.here hx rfl (hb hby at_0) rfl q) ?_
  refine own_go (T' := s₁) (g' := (mkF m 2 #[.val (.int p1), .unset, .unset, .unset, .unset, .unset, .unset, .unset] [(.int (1 : Int32)), (.int p1)])) (fun t q => XS.iconst X0.here hx rfl (hb hby at_1) q) ?_
  refine own_go (T' := s₁) (g' := (mkF m 3 #[.val (.int p1), .unset, .unset, .unset, .unset, .unset, .unset, .unset] [(.int (p1 &&& (1 : Int32)))])) (fun t q => XS.iand X0.here hx rfl (hb hby at_2) rfl q) ?_
  obtain ⟨kk, hk0⟩ : ∃ z : Int32, z = (p1 &&& (1 : Int32)) := ⟨_, rfl⟩
  rw [← hk0]
  by_cases c1 : kk = (0 : Int32)
  · refine own_go (T' := s₁) (g' := (mkF m 10 #[.val (.int p1), .unset, .unset, .unset, .unset, .unset, .unset, .unset] [])) (fun t q => XS.ifYes X0.here hx rfl (pc0 := 3) (pc' := 10) rfl (hb hby at_3) rfl ((if0 _ _).trans (teq c1).1) (by decide) (by decide) q) ?_
    refine own_go (T' := s₁) (g' := (mkF m 11 #[.val (.int p1), .unset, .unset, .unset, .unset, .unset, .unset, .unset] [(.int (0 : Int32))])) (fun t q => XS.iconst X0.here hx rfl (hb hby at_10) q) ?_
    refine own_go (T' := s₁) (g' := (mkF m 12 #[.val (.int p1), .val (.int (0 : Int32)), .unset, .unset, .unset, .unset, .unset, .unset] [])) (fun t q => XS.istoreN X0.here hx rfl (hb hby at_11) rfl (l' := #[.val (.int p1), .val (.int (0 : Int32)), .unset, .unset, .unset, .unset, .unset, .unset]) rfl q) ?_
    refine own_go (T' := s₁) (g' := (mkF m 13 #[.val (.int p1), .val (.int (0 : Int32)), .unset, .unset, .unset, .unset, .unset, .unset] [(.int (0 : Int32))])) (fun t q => XS.iloadN X0.here hx rfl (hb hby at_12) rfl q) ?_
    have c2 : (0 : Int32) = (0 : Int32) := by decide
    refine own_go (T' := s₁) (g' := (mkF m 42 #[.val (.int p1), .val (.int (0 : Int32)), .unset, .unset, .unset, .unset, .unset, .unset] [])) (fun t q => XS.ifYes X0.here hx rfl (pc0 := 13) (pc' := 42) rfl (hb hby at_13) rfl ((if0 _ _).trans (teq c2).1) (by decide) (by decide) q) ?_
    refine own_go (T' := s₁) (g' := (mkF m 43 #[.val (.int p1), .val (.int (0 : Int32)), .unset, .unset, .unset, .unset, .unset, .unset] [(.int (2 : Int32))])) (fun t q => XS.iconst X0.here hx rfl (hb hby at_42) q) ?_
    obtain ⟨T3, h3, X3, e3, E3, A3, st3⟩ := own_newP X0 hx hZ (hw _ (List.mem_of_getElem? (i := 0) rfl)) e0 (g := (mkF m 43 #[.val (.int p1), .val (.int (0 : Int32)), .unset, .unset, .unset, .unset, .unset, .unset] [(.int (2 : Int32))])) rfl (hb hby at_43) rfl (by decide) 2 (by decide) (by decide) (by decide) (by decide)
    obtain ⟨a3, g3⟩ : ∃ z, z = h0.size := ⟨_, rfl⟩
    rw [← g3] at A3 st3
    have za3 : h0.size ≤ a3 := by rw [g3]; exact (Nat.le_refl _)
    have O3 : Ext h0 h3 := own_Xt (own_Xr _) E3
    have sz3 : h0.size ≤ h3.size := Nat.le_trans (Nat.le_refl _) E3.1
    have f3_ : own_Ar Z h3 a3 .char [(.int (0 : Int32)), (.int (0 : Int32))] := A3
    refine own_go (T' := T3) (g' := (mkF m 45 #[.val (.int p1), .val (.int (0 : Int32)), .unset, .unset, .unset, .unset, .unset, .unset] [(.ref a3)])) (fun t q => st3 t q) ?_
    refine own_go (T' := T3) (g' := (mkF m 46 #[.val (.int p1), .val (.int (0 : Int32)), .unset, .unset, .unset, .unset, .unset, .unset] [(.ref a3), (.ref a3)])) (fun t q => XS.dup X3.here hx rfl (hb hby at_45) rfl rfl q) ?_
    refine own_go (T' := T3) (g' := (mkF m 47 #[.val (.int p1), .val (.int (0 : Int32)), .unset, .unset, .unset, .unset, .unset, .unset] [(.int (0 : Int32)), (.ref a3), (.ref a3)])) (fun t q => XS.iconst X3.here hx rfl (hb hby at_46) q) ?_
    refine own_go (T' := T3) (g' := (mkF m 49 #[.val (.int p1), .val (.int (0 : Int32)), .unset, .unset, .unset, .unset, .unset, .unset] [(.int (108 : Int32)), (.int (0 : Int32)), (.ref a3), (.ref a3)])) (fun t q => XS.bipush X3.here hx rfl (hb hby at_47) q) ?_
    obtain ⟨T4, h4, X4, e4, W4, A4, st4⟩ := own_stC X3 hx hZ e3 f3_ (by decide) 0 (by decide) (by show 0 < 2; decide) (g := (mkF m 49 #[.val (.int p1), .val (.int (0 : Int32)), .unset, .unset, .unset, .unset, .unset, .unset] [(.int (108 : Int32)), (.int (0 : Int32)), (.ref a3), (.ref a3)])) rfl rfl (hb hby at_49)
    have N4 := Fr.snoc X4 (Fr.nil _) za3
    have O4 : Ext h0 h4 := own_Xw O3 W4 za3
    have f4_ : own_Ar Z h4 a3 .char [(.int (108 : Int32)), (.int (0 : Int32))] := A4
    have sz4 : h0.size ≤ h4.size := by rw [W4.size]; exact sz3
    refine own_go (T' := T4) (g' := (mkF m 50 #[.val (.int p1), .val (.int (0 : Int32)), .unset, .unset, .unset, .unset, .unset, .unset] [(.ref a3)])) (fun t q => st4 t q) ?_
    refine own_go (T' := T4) (g' := (mkF m 51 #[.val (.int p1), .val (.int (0 : Int32)), .unset, .unset, .unset, .unset, .unset, .unset] [(.ref a3), (.ref a3)])) (fun t q => XS.dup X4.here hx rfl (hb hby at_50) rfl rfl q) ?_
    refine own_go (T' := T4) (g' := (mkF m 52 #[.val (.int p1), .val (.int (0 : Int32)), .unset, .unset, .unset, .unset, .unset, .unset] [(.int (1 : Int32)), (.ref a3), (.ref a3)])) (fun t q => XS.iconst X4.here hx rfl (hb hby at_51) q) ?_
    refine own_go (T' := T4) (g' := (mkF m 54 #[.val (.int p1), .val (.int (0 : Int32)), .unset, .unset, .unset, .unset, .unset, .unset] [(.int (49 : Int32)), (.int (1 : Int32)), (.ref a3), (.ref a3)])) (fun t q => XS.bipush X4.here hx rfl (hb hby at_52) q) ?_
    obtain ⟨T5, h5, X5, e5, W5, A5, st5⟩ := own_stC X4 hx hZ e4 f4_ (by decide) 1 (by decide) (by show 1 < 2; decide) (g := (mkF m 54 #[.val (.int p1), .val (.int (0 : Int32)), .unset, .unset, .unset, .unset, .unset, .unset] [(.int (49 : Int32)), (.int (1 : Int32)), (.ref a3), (.ref a3)])) rfl rfl (hb hby at_54)
    have N5 := Fr.snoc X5 N4 za3
    have O5 : Ext h0 h5 := own_Xw O4 W5 za3
    have f5_ : own_Ar Z h5 a3 .char [(.int (108 : Int32)), (.int (49 : Int32))] := A5
    have sz5 : h0.size ≤ h5.size := by rw [W5.size]; exact sz4
    refine own_go (T' := T5) (g' := (mkF m 55 #[.val (.int p1), .val (.int (0 : Int32)), .unset, .unset, .unset, .unset, .unset, .unset] [(.ref a3)])) (fun t q => st5 t q) ?_
    refine own_go (T' := T5) (g' := (mkF m 56 #[.val (.int p1), .val (.int (0 : Int32)), .val (.ref a3), .unset, .unset, .unset, .unset, .unset] [])) (fun t q => XS.astoreN X5.here hx rfl (hb hby at_55) rfl rfl (l' := #[.val (.int p1), .val (.int (0 : Int32)), .val (.ref a3), .unset, .unset, .unset, .unset, .unset]) rfl q) ?_
    obtain ⟨T6, h6, X6, e6, E6, A6, D6, -, st6⟩ := newO X5 hx hZ hown (hw _ (List.mem_of_getElem? (i := 1) rfl)) (hw _ (List.mem_of_getElem? (i := 2) rfl)) (hw _ (List.mem_of_getElem? (i := 3) rfl)) e5 (g := (mkF m 56 #[.val (.int p1), .val (.int (0 : Int32)), .val (.ref a3), .unset, .unset, .unset, .unset, .unset] [])) rfl (hb hby at_56) (by decide) (by decide)
    obtain ⟨a6, g6⟩ : ∃ z, z = h5.size := ⟨_, rfl⟩
    rw [← g6] at A6 D6 st6
    have ne_a3_a6 : a3 ≠ a6 := by rw [g6]; exact Nat.ne_of_lt f5_.lt
    have za6 : h0.size ≤ a6 := by rw [g6]; exact sz5
    have f7 := f5_.ext E6
    have O6 : Ext h0 h6 := own_Xt O5 E6
    have sz6 : h0.size ≤ h6.size := Nat.le_trans sz5 E6.1
    have f8 : Fld Z h6 a6 "java/lang/String" "coder" "B" (.int (0 : Int32)) := D6 (Or.inr (hw _ (List.mem_of_getElem? (i := 27) rfl))) (ty := .byte) (by decide)
    have f9 : Fld Z h6 a6 "java/lang/String" "value" "[B" .null := D6 (Or.inr (hw _ (List.mem_of_getElem? (i := 29) rfl))) (ty := (.array .byte)) (by decide)
    refine own_go (T' := T6) (g' := (mkF m 59 #[.val (.int p1), .val (.int (0 : Int32)), .val (.ref a3), .unset, .unset, .unset, .unset, .unset] [(.ref a6)])) (fun t q => st6 t q) ?_
    refine own_go (T' := T6) (g' := (mkF m 60 #[.val (.int p1), .val (.int (0 : Int32)), .val (.ref a3), .unset, .unset, .unset, .unset, .unset] [(.ref a6), (.ref a6)])) (fun t q => XS.dup X6.here hx rfl (hb hby at_59) rfl rfl q) ?_
    refine own_go (T' := T6) (g' := (mkF m 61 #[.val (.int p1), .val (.int (0 : Int32)), .val (.ref a3), .unset, .unset, .unset, .unset, .unset] [(.ref a3), (.ref a6), (.ref a6)])) (fun t q => XS.aloadN X6.here hx rfl (hb hby at_60) rfl rfl q) ?_
    obtain ⟨v10, T10, L10, X10, Q10, st10⟩ := own_callP X6 hx hZ (y := (⟨"java/lang/String", "<init>", "([C)V"⟩ : MethodName)) (a := a6) (argsL := [(.ref a3)]) (rest := [(.ref a6)]) hown rfl (hw _ (List.mem_of_getElem? (i := 4) rfl)) (hw _ (List.mem_of_getElem? (i := 5) rfl)) (hw _ (List.mem_of_getElem? (i := 3) rfl)) (hw _ (List.mem_of_getElem? (i := 6) rfl)) (rm_s1_R l Z a0 hw [] h0.size a6 a3 cp h6 sz6 za6 A6 f8 f9 ne_a3_a6 f7 cp0 (Sta.ext O6 S_cp)) e6 (by decide) (by decide) 1 (by decide) (by decide) (by decide) (g := (mkF m 61 #[.val (.int p1), .val (.int (0 : Int32)), .val (.ref a3), .unset, .unset, .unset, .unset, .unset] [(.ref a3), (.ref a6), (.ref a6)])) rfl (by rw [hml]; rfl) (lenOf (ps := [(.array .char)]) (r := none) (by decide +kernel) rfl) rfl (by show 2 * 0 + _ ≤ _; exact Nat.le_of_eq rfl) (hb hby at_61)
    obtain ⟨rfl, M10, K10, XA10, FC10, b10, FV10, RR10, gn10, gh10⟩ := Q10
    have nb10_a3 : a3 ≠ b10 := Nat.ne_of_lt (Nat.lt_of_lt_of_le f7.lt gh10)
    have nb10_a6 : a6 ≠ b10 := Nat.ne_of_lt (Nat.lt_of_lt_of_le A6.lt gh10)
    have f11 := f7.keep K10 (ninS ne_a3_a6 nin0)
    have f12 := A6.keep K10
    have N10 := Fr.app N5 M10
    have sz10 : h0.size ≤ T10.heap.size := Nat.le_trans sz6 K10.1
    have O10 : Ext h0 T10.heap := own_Xk O6 K10 (allS za6 all0)
    refine own_go (T' := T10) (g' := (mkF m 64 #[.val (.int p1), .val (.int (0 : Int32)), .val (.ref a3), .unset, .unset, .unset, .unset, .unset] [(.ref a6)])) (fun t q => st10 t q) ?_
    refine own_go (T' := T10) (g' := (mkF m 65 #[.val (.int p1), .val (.int (0 : Int32)), .val (.ref a3), .val (.ref a6), .unset, .unset, .unset, .unset] [])) (fun t q => XS.astoreN X10.here hx rfl (hb hby at_64) rfl rfl (l' := #[.val (.int p1), .val (.int (0 : Int32)), .val (.ref a3), .val (.ref a6), .unset, .unset, .unset, .unset]) rfl q) ?_
    obtain ⟨T13, h13, X13, e13, E13, A13, D13, -, st13⟩ := newO X10 hx hZ hown (hw _ (List.mem_of_getElem? (i := 1) rfl)) (hw _ (List.mem_of_getElem? (i := 2) rfl)) (hw _ (List.mem_of_getElem? (i := 3) rfl)) (rfl : T10.heap = T10.heap) (g := (mkF m 65 #[.val (.int p1), .val (.int (0 : Int32)), .val (.ref a3), .val (.ref a6), .unset, .unset, .unset, .unset] [])) rfl (hb hby at_65) (by decide) (by decide)
    obtain ⟨a13, g13⟩ : ∃ z, z = T10.heap.size := ⟨_, rfl⟩
    rw [← g13] at A13 D13 st13
    have ne_a3_a13 : a3 ≠ a13 := by rw [g13]; exact Nat.ne_of_lt f11.lt
    have ne_a6_a13 : a6 ≠ a13 := by rw [g13]; exact Nat.ne_of_lt XA10.lt
    have ne_b10_a13 : b10 ≠ a13 := by rw [g13]; exact Nat.ne_of_lt RR10.lt
    have za13 : h0.size ≤ a13 := by rw [g13]; exact sz10
    have f14 := f11.ext E13
    have f15 := XA10.ext E13
    have f16 := FC10.ext E13
    have f17 := FV10.ext E13
    have f18 := RR10.ext E13
    have O13 : Ext h0 h13 := own_Xt O10 E13
    have sz13 : h0.size ≤ h13.size := Nat.le_trans sz10 E13.1
    have f19 : Fld Z h13 a13 "java/lang/String" "coder" "B" (.int (0 : Int32)) := D13 (Or.inr (hw _ (List.mem_of_getElem? (i := 27) rfl))) (ty := .byte) (by decide)
    have f20 : Fld Z h13 a13 "java/lang/String" "value" "[B" .null := D13 (Or.inr (hw _ (List.mem_of_getElem? (i := 29) rfl))) (ty := (.array .byte)) (by decide)
    refine own_go (T' := T13) (g' := (mkF m 68 #[.val (.int p1), .val (.int (0 : Int32)), .val (.ref a3), .val (.ref a6), .unset, .unset, .unset, .unset] [(.ref a13)])) (fun t q => st13 t q) ?_
    refine own_go (T' := T13) (g' := (mkF m 69 #[.val (.int p1), .val (.int (0 : Int32)), .val (.ref a3), .val (.ref a6), .unset, .unset, .unset, .unset] [(.ref a13), (.ref a13)])) (fun t q => XS.dup X13.here hx rfl (hb hby at_68) rfl rfl q) ?_
    refine own_go (T' := T13) (g' := (mkF m 70 #[.val (.int p1), .val (.int (0 : Int32)), .val (.ref a3), .val (.ref a6), .unset, .unset, .unset, .unset] [(.ref a3), (.ref a13), (.ref a13)])) (fun t q => XS.aloadN X13.here hx rfl (hb hby at_69) rfl rfl q) ?_
    obtain ⟨v21, T21, L21, X21, Q21, st21⟩ := own_callP X13 hx hZ (y := (⟨"java/lang/String", "<init>", "([C)V"⟩ : MethodName)) (a := a13) (argsL := [(.ref a3)]) (rest := [(.ref a13)]) hown rfl (hw _ (List.mem_of_getElem? (i := 4) rfl)) (hw _ (List.mem_of_getElem? (i := 5) rfl)) (hw _ (List.mem_of_getElem? (i := 3) rfl)) (hw _ (List.mem_of_getElem? (i := 6) rfl)) (rm_s1_R l Z a0 hw [] h0.size a13 a3 cp h13 sz13 za13 A13 f19 f20 ne_a3_a13 f14 cp0 (Sta.ext O13 S_cp)) e13 (by decide) (by decide) 1 (by decide) (by decide) (by decide) (g := (mkF m 70 #[.val (.int p1), .val (.int (0 : Int32)), .val (.ref a3), .val (.ref a6), .unset, .unset, .unset, .unset] [(.ref a3), (.ref a13), (.ref a13)])) rfl (by rw [hml]; rfl) (lenOf (ps := [(.array .char)]) (r := none) (by decide +kernel) rfl) rfl (by show 2 * 0 + _ ≤ _; exact Nat.le_of_eq rfl) (hb hby at_70)
    obtain ⟨rfl, M21, K21, XA21, FC21, b21, FV21, RR21, gn21, gh21⟩ := Q21
    have nb21_a3 : a3 ≠ b21 := Nat.ne_of_lt (Nat.lt_of_lt_of_le f14.lt gh21)
    have nb21_a6 : a6 ≠ b21 := Nat.ne_of_lt (Nat.lt_of_lt_of_le f15.lt gh21)
    have nb21_b10 : b10 ≠ b21 := Nat.ne_of_lt (Nat.lt_of_lt_of_le f18.lt gh21)
    have nb21_a13 : a13 ≠ b21 := Nat.ne_of_lt (Nat.lt_of_lt_of_le A13.lt gh21)
    have f22 := f14.keep K21 (ninS ne_a3_a13 nin0)
    have f23 := f15.keep K21
    have f24 := f16.keep K21 (ninS ne_a6_a13 nin0)
    have f25 := f17.keep K21 (ninS ne_a6_a13 nin0)
    have f26 := f18.keep K21 (ninS ne_b10_a13 nin0)
    have f27 := A13.keep K21
    have N21 := Fr.app N10 M21
    have sz21 : h0.size ≤ T21.heap.size := Nat.le_trans sz13 K21.1
    have O21 : Ext h0 T21.heap := own_Xk O13 K21 (allS za13 all0)
    refine own_go (T' := T21) (g' := (mkF m 73 #[.val (.int p1), .val (.int (0 : Int32)), .val (.ref a3), .val (.ref a6), .unset, .unset, .unset, .unset] [(.ref a13)])) (fun t q => st21 t q) ?_
    refine own_go (T' := T21) (g' := (mkF m 75 #[.val (.int p1), .val (.int (0 : Int32)), .val (.ref a3), .val (.ref a6), .val (.ref a13), .unset, .unset, .unset] [])) (fun t q => XS.astore X21.here hx rfl (hb hby at_73) rfl rfl (l' := #[.val (.int p1), .val (.int (0 : Int32)), .val (.ref a3), .val (.ref a6), .val (.ref a13), .unset, .unset, .unset]) rfl q) ?_
    refine own_go (T' := T21) (g' := (mkF m 76 #[.val (.int p1), .val (.int (0 : Int32)), .val (.ref a3), .val (.ref a6), .val (.ref a13), .unset, .unset, .unset] [(.int (0 : Int32))])) (fun t q => XS.iloadN X21.here hx rfl (hb hby at_75) rfl q) ?_
    have c28 : (0 : Int32) = (0 : Int32) := by decide
    refine own_go (T' := T21) (g' := (mkF m 85 #[.val (.int p1), .val (.int (0 : Int32)), .val (.ref a3), .val (.ref a6), .val (.ref a13), .unset, .unset, .unset] [])) (fun t q => XS.ifYes X21.here hx rfl (pc0 := 76) (pc' := 85) rfl (hb hby at_76) rfl ((if0 _ _).trans (teq c28).1) (by decide) (by decide) q) ?_
    obtain ⟨T29, X29, e29, st29⟩ := getS2 X21 hx hZ hown (host := "") (Or.inl (hw _ (List.mem_of_getElem? (i := 30) rfl))) Via.refl (rfl : T21.heap = T21.heap) (Sta.ext O21 S_R) (g := (mkF m 85 #[.val (.int p1), .val (.int (0 : Int32)), .val (.ref a3), .val (.ref a6), .val (.ref a13), .unset, .unset, .unset] [])) rfl (hb hby at_85)
    refine own_go (T' := T29) (g' := (mkF m 88 #[.val (.int p1), .val (.int (0 : Int32)), .val (.ref a3), .val (.ref a6), .val (.ref a13), .unset, .unset, .unset] [(.ref w_R)])) (fun t q => st29 t q) ?_
    refine own_go (T' := T29) (g' := (mkF m 90 #[.val (.int p1), .val (.int (0 : Int32)), .val (.ref a3), .val (.ref a6), .val (.ref a13), .val (.ref w_R), .unset, .unset] [])) (fun t q => XS.astore X29.here hx rfl (hb hby at_88) rfl rfl (l' := #[.val (.int p1), .val (.int (0 : Int32)), .val (.ref a3), .val (.ref a6), .val (.ref a13), .val (.ref w_R), .unset, .unset]) rfl q) ?_
    refine own_go (T' := T29) (g' := (mkF m 91 #[.val (.int p1), .val (.int (0 : Int32)), .val (.ref a3), .val (.ref a6), .val (.ref a13), .val (.ref w_R), .unset, .unset] [(.ref a6)])) (fun t q => XS.aloadN X29.here hx rfl (hb hby at_90) rfl rfl q) ?_
    obtain ⟨v30, T30, L30, X30, Q30, st30⟩ := own_callS X29 hx hZ (y := (⟨"com/example/minsum/minsum/model/Norm", "fromKey", "(Ljava/lang/String;)Lcom/example/minsum/minsum/model/Norm;"⟩ : MethodName)) (argsL := [(.ref a6)]) (rest := []) hown (hw _ (List.mem_of_getElem? (i := 33) rfl)) (hw _ (List.mem_of_getElem? (i := 34) rfl)) (hw _ (List.mem_of_getElem? (i := 31) rfl)) (hw _ (List.mem_of_getElem? (i := 35) rfl)) (rm_fk_R_new l Z a0 hw [] w_R w_C s_R s_C v_R v_C w_V cp a6 b10 T21.heap (own_Fx FX O21) cp0 (Nat.ne_of_lt (Nat.lt_of_lt_of_le X_R.lt za6)) (Nat.ne_of_lt (Nat.lt_of_lt_of_le X_C.lt za6)) f23 f24 f25 f26) e29 (by decide) (by decide) 0 (by decide) (by decide) (by decide) (g := (mkF m 91 #[.val (.int p1), .val (.int (0 : Int32)), .val (.ref a3), .val (.ref a6), .val (.ref a13), .val (.ref w_R), .unset, .unset] [(.ref a6)])) rfl (by rw [hml]; rfl) (lenOf (ps := [(.object "java/lang/String")]) (r := (some (.object "com/example/minsum/minsum/model/Norm"))) (by decide +kernel) rfl) rfl (by show 2 * 0 + _ ≤ _; exact Nat.le_of_eq rfl) (hb hby at_91)
    obtain ⟨rfl, rfl, K30⟩ := Q30
    have OO30 := own_Xk (own_Xr _) K30 all0
    have O30 : Ext h0 T30.heap := own_Xt O21 OO30
    have f31 := f22.ext OO30
    have f32 := f23.ext OO30
    have f33 := f24.ext OO30
    have f34 := f25.ext OO30
    have f35 := f26.ext OO30
    have f36 := XA21.ext OO30
    have f37 := FC21.ext OO30
    have f38 := FV21.ext OO30
    have f39 := RR21.ext OO30
    have sz30 : h0.size ≤ T30.heap.size := Nat.le_trans sz21 K30.1
    refine own_go (T' := T30) (g' := (mkF m 94 #[.val (.int p1), .val (.int (0 : Int32)), .val (.ref a3), .val (.ref a6), .val (.ref a13), .val (.ref w_R), .unset, .unset] [(.ref w_R)])) (fun t q => st30 t q) ?_
    refine own_go (T' := T30) (g' := (mkF m 96 #[.val (.int p1), .val (.int (0 : Int32)), .val (.ref a3), .val (.ref a6), .val (.ref a13), .val (.ref w_R), .val (.ref w_R), .unset] [])) (fun t q => XS.astore X30.here hx rfl (hb hby at_94) rfl rfl (l' := #[.val (.int p1), .val (.int (0 : Int32)), .val (.ref a3), .val (.ref a6), .val (.ref a13), .val (.ref w_R), .val (.ref w_R), .unset]) rfl q) ?_
    refine own_go (T' := T30) (g' := (mkF m 98 #[.val (.int p1), .val (.int (0 : Int32)), .val (.ref a3), .val (.ref a6), .val (.ref a13), .val (.ref w_R), .val (.ref w_R), .unset] [(.ref w_R)])) (fun t q => XS.aload X30.here hx rfl (hb hby at_96) rfl rfl q) ?_
    refine own_go (T' := T30) (g' := (mkF m 100 #[.val (.int p1), .val (.int (0 : Int32)), .val (.ref a3), .val (.ref a6), .val (.ref a13), .val (.ref w_R), .val (.ref w_R), .unset] [(.ref w_R), (.ref w_R)])) (fun t q => XS.aload X30.here hx rfl (hb hby at_98) rfl rfl q) ?_
    have c40 : (Value.ref w_R) = (Value.ref w_R) := rfl
    refine own_go (T' := T30) (g' := (mkF m 105 #[.val (.int p1), .val (.int (0 : Int32)), .val (.ref a3), .val (.ref a6), .val (.ref a13), .val (.ref w_R), .val (.ref w_R), .unset] [])) (fun t q => XT.acmpYes X30.here hx rfl (pc0 := 100) (pc' := 105) rfl (hb hby at_100) rfl rfl rfl (own_at c40).1 (by decide) (by decide) q) ?_
    refine own_go (T' := T30) (g' := (mkF m 107 #[.val (.int p1), .val (.int (0 : Int32)), .val (.ref a3), .val (.ref a6), .val (.ref a13), .val (.ref w_R), .val (.ref w_R), .unset] [(.ref w_R)])) (fun t q => XS.aload X30.here hx rfl (hb hby at_105) rfl rfl q) ?_
    obtain ⟨v41, T41, L41, X41, Q41, st41⟩ := own_callV X30 hx hZ (y := (⟨"com/example/minsum/minsum/model/Norm", "key", "()Ljava/lang/String;"⟩ : MethodName)) (b := w_R) (argsL := []) (rest := []) hown (hw _ (List.mem_of_getElem? (i := 64) rfl)) (hw _ (List.mem_of_getElem? (i := 65) rfl)) (hw _ (List.mem_of_getElem? (i := 67) rfl)) (hw _ (List.mem_of_getElem? (i := 66) rfl)) (hw _ (List.mem_of_getElem? (i := 31) rfl)) (hw _ (List.mem_of_getElem? (i := 68) rfl)) (rm_key_R l Z a0 hw [] w_R w_C s_R s_C v_R v_C w_V cp T30.heap (own_Fx FX O30)) (rfl : T30.heap = T30.heap) (E_R.ext O30) (by decide) (by decide) 0 (by decide) (by decide) (by decide) (g := (mkF m 107 #[.val (.int p1), .val (.int (0 : Int32)), .val (.ref a3), .val (.ref a6), .val (.ref a13), .val (.ref w_R), .val (.ref w_R), .unset] [(.ref w_R)])) rfl (by rw [hml]; rfl) (lenOf (ps := []) (r := (some (.object "java/lang/String"))) (by decide +kernel) rfl) rfl (by show 2 * 0 + _ ≤ _; exact Nat.le_of_eq rfl) (hb hby at_107)
    obtain ⟨rfl, e41, rfl⟩ := Q41
    refine own_go (T' := T41) (g' := (mkF m 110 #[.val (.int p1), .val (.int (0 : Int32)), .val (.ref a3), .val (.ref a6), .val (.ref a13), .val (.ref w_R), .val (.ref w_R), .unset] [(.ref s_R)])) (fun t q => st41 t q) ?_
    refine own_go (T' := T41) (g' := (mkF m 112 #[.val (.int p1), .val (.int (0 : Int32)), .val (.ref a3), .val (.ref a6), .val (.ref a13), .val (.ref w_R), .val (.ref w_R), .val (.ref s_R)] [])) (fun t q => XS.astore X41.here hx rfl (hb hby at_110) rfl rfl (l' := #[.val (.int p1), .val (.int (0 : Int32)), .val (.ref a3), .val (.ref a6), .val (.ref a13), .val (.ref w_R), .val (.ref w_R), .val (.ref s_R)]) rfl q) ?_
    refine own_go (T' := T41) (g' := (mkF m 114 #[.val (.int p1), .val (.int (0 : Int32)), .val (.ref a3), .val (.ref a6), .val (.ref a13), .val (.ref w_R), .val (.ref w_R), .val (.ref s_R)] [(.ref a13)])) (fun t q => XS.aload X41.here hx rfl (hb hby at_112) rfl rfl q) ?_
    refine own_go (T' := T41) (g' := (mkF m 116 #[.val (.int p1), .val (.int (0 : Int32)), .val (.ref a3), .val (.ref a6), .val (.ref a13), .val (.ref w_R), .val (.ref w_R), .val (.ref s_R)] [(.ref s_R), (.ref a13)])) (fun t q => XS.aload X41.here hx rfl (hb hby at_114) rfl rfl q) ?_
    obtain ⟨v42, T42, L42, X42, Q42, st42⟩ := own_callV X41 hx hZ (y := (⟨"java/lang/String", "equals", "(Ljava/lang/Object;)Z"⟩ : MethodName)) (b := a13) (argsL := [(.ref s_R)]) (rest := []) hown (hw _ (List.mem_of_getElem? (i := 69) rfl)) (hw _ (List.mem_of_getElem? (i := 55) rfl)) (hw _ (List.mem_of_getElem? (i := 57) rfl)) (hw _ (List.mem_of_getElem? (i := 56) rfl)) (hw _ (List.mem_of_getElem? (i := 3) rfl)) (hw _ (List.mem_of_getElem? (i := 58) rfl)) (rm_eq_RR l Z a0 hw [] a13 s_R b21 v_R cp T30.heap (Ne.symm (Nat.ne_of_lt (Nat.lt_of_lt_of_le X_R.lt za13))) (X_R.ext O30) f37 (D_R.ext O30) f38 (H_R.ext O30) f39 (R_R.ext O30) (Sta.ext O30 S_cp) cp0) e41 f36 (by decide) (by decide) 0 (by decide) (by decide) (by decide) (g := (mkF m 116 #[.val (.int p1), .val (.int (0 : Int32)), .val (.ref a3), .val (.ref a6), .val (.ref a13), .val (.ref w_R), .val (.ref w_R), .val (.ref s_R)] [(.ref s_R), (.ref a13)])) rfl (by rw [hml]; rfl) (lenOf (ps := [(.object "java/lang/Object")]) (r := (some .boolean)) (by decide +kernel) rfl) rfl (by show 2 * 0 + _ ≤ _; exact Nat.le_of_eq rfl) (hb hby at_116)
    obtain ⟨rfl, e42, rfl⟩ := Q42
    refine own_go (T' := T42) (g' := (mkF m 119 #[.val (.int p1), .val (.int (0 : Int32)), .val (.ref a3), .val (.ref a6), .val (.ref a13), .val (.ref w_R), .val (.ref w_R), .val (.ref s_R)] [(.int (1 : Int32))])) (fun t q => st42 t q) ?_
    have c43 : ¬ ((1 : Int32) = (0 : Int32)) := by decide
    refine own_go (T' := T42) (g' := (mkF m 124 #[.val (.int p1), .val (.int (0 : Int32)), .val (.ref a3), .val (.ref a6), .val (.ref a13), .val (.ref w_R), .val (.ref w_R), .val (.ref s_R)] [])) (fun t q => XS.ifYes X42.here hx rfl (pc0 := 119) (pc' := 124) rfl (hb hby at_119) rfl ((if0 _ _).trans (feq c43).2) (by decide) (by decide) q) ?_
    refine own_go (T' := T42) (g' := (mkF m 126 #[.val (.int p1), .val (.int (0 : Int32)), .val (.ref a3), .val (.ref a6), .val (.ref a13), .val (.ref w_R), .val (.ref w_R), .val (.ref s_R)] [(.ref s_R)])) (fun t q => XS.aload X42.here hx rfl (hb hby at_124) rfl rfl q) ?_
    obtain ⟨v44, T44, L44, X44, Q44, st44⟩ := own_callS X42 hx hZ (y := (⟨"com/example/minsum/minsum/model/Norm", "fromKey", "(Ljava/lang/String;)Lcom/example/minsum/minsum/model/Norm;"⟩ : MethodName)) (argsL := [(.ref s_R)]) (rest := []) hown (hw _ (List.mem_of_getElem? (i := 33) rfl)) (hw _ (List.mem_of_getElem? (i := 34) rfl)) (hw _ (List.mem_of_getElem? (i := 31) rfl)) (hw _ (List.mem_of_getElem? (i := 35) rfl)) (rm_fk_R_key l Z a0 hw [] w_R w_C s_R s_C v_R v_C w_V cp T30.heap (own_Fx FX O30) cp0 ne_CR) e42 (by decide) (by decide) 0 (by decide) (by decide) (by decide) (g := (mkF m 126 #[.val (.int p1), .val (.int (0 : Int32)), .val (.ref a3), .val (.ref a6), .val (.ref a13), .val (.ref w_R), .val (.ref w_R), .val (.ref s_R)] [(.ref s_R)])) rfl (by rw [hml]; rfl) (lenOf (ps := [(.object "java/lang/String")]) (r := (some (.object "com/example/minsum/minsum/model/Norm"))) (by decide +kernel) rfl) rfl (by show 2 * 0 + _ ≤ _; exact Nat.le_of_eq rfl) (hb hby at_126)
    obtain ⟨rfl, rfl, K44⟩ := Q44
    have OO44 := own_Xk (own_Xr _) K44 all0
    have O44 : Ext h0 T44.heap := own_Xt O30 OO44
    have f45 := f31.ext OO44
    have f46 := f32.ext OO44
    have f47 := f33.ext OO44
    have f48 := f34.ext OO44
    have f49 := f35.ext OO44
    have f50 := f36.ext OO44
    have f51 := f37.ext OO44
    have f52 := f38.ext OO44
    have f53 := f39.ext OO44
    have sz44 : h0.size ≤ T44.heap.size := Nat.le_trans sz30 K44.1
    refine own_go (T' := T44) (g' := (mkF m 129 #[.val (.int p1), .val (.int (0 : Int32)), .val (.ref a3), .val (.ref a6), .val (.ref a13), .val (.ref w_R), .val (.ref w_R), .val (.ref s_R)] [(.ref w_R)])) (fun t q => st44 t q) ?_
    refine own_go (T' := T44) (g' := (mkF m 131 #[.val (.int p1), .val (.int (0 : Int32)), .val (.ref a3), .val (.ref a6), .val (.ref a13), .val (.ref w_R), .val (.ref w_R), .val (.ref s_R)] [(.ref w_R), (.ref w_R)])) (fun t q => XS.aload X44.here hx rfl (hb hby at_129) rfl rfl q) ?_
    have c54 : (Value.ref w_R) = (Value.ref w_R) := rfl
    refine own_go (T' := T44) (g' := (mkF m 134 #[.val (.int p1), .val (.int (0 : Int32)), .val (.ref a3), .val (.ref a6), .val (.ref a13), .val (.ref w_R), .val (.ref w_R), .val (.ref s_R)] [])) (fun t q => XT.acmpNo X44.here hx rfl (hb hby at_131) rfl rfl rfl (own_at c54).2 q) ?_
    refine own_go (T' := T44) (g' := (mkF m 135 #[.val (.int p1), .val (.int (0 : Int32)), .val (.ref a3), .val (.ref a6), .val (.ref a13), .val (.ref w_R), .val (.ref w_R), .val (.ref s_R)] [(.int (1 : Int32))])) (fun t q => XS.iconst X44.here hx rfl (hb hby at_134) q) ?_
    refine own_go (T' := T44) (g' := (mkF m 139 #[.val (.int p1), .val (.int (0 : Int32)), .val (.ref a3), .val (.ref a6), .val (.ref a13), .val (.ref w_R), .val (.ref w_R), .val (.ref s_R)] [(.int (1 : Int32))])) (fun t q => XS.goto X44.here hx rfl (pc0 := 135) (pc' := 139) rfl (hb hby at_135) (by decide) (by decide) q) ?_
    refine own_outN X44 hx hlk hret (t := .boolean) (by simp) (hb hby at_139) (w := (1 : Int32)) (by decide) ?_ (by decide) (by decide)
    exact ⟨rfl, (Fr.app (Fr.app (Fr.app (Fr.app N21 (Fr.nil _)) (Fr.nil _)) (Fr.nil _)) (Fr.nil _))⟩
  · refine own_go (T' := s₁) (g' := (mkF m 6 #[.val (.int p1), .unset, .unset, .unset, .unset, .unset, .unset, .unset] [])) (fun t q => XS.ifNo X0.here hx rfl (hb hby at_3) rfl ((if0 _ _).trans (feq c1).1) q) ?_
    refine own_go (T' := s₁) (g' := (mkF m 7 #[.val (.int p1), .unset, .unset, .unset, .unset, .unset, .unset, .unset] [(.int (1 : Int32))])) (fun t q => XS.iconst X0.here hx rfl (hb hby at_6) q) ?_
    refine own_go (T' := s₁) (g' := (mkF m 11 #[.val (.int p1), .unset, .unset, .unset, .unset, .unset, .unset, .unset] [(.int (1 : Int32))])) (fun t q => XS.goto X0.here hx rfl (pc0 := 7) (pc' := 11) rfl (hb hby at_7) (by decide) (by decide) q) ?_
    refine own_go (T' := s₁) (g' := (mkF m 12 #[.val (.int p1), .val (.int (1 : Int32)), .unset, .unset, .unset, .unset, .unset, .unset] [])) (fun t q => XS.istoreN X0.here hx rfl (hb hby at_11) rfl (l' := #[.val (.int p1), .val (.int (1 : Int32)), .unset, .unset, .unset, .unset, .unset, .unset]) rfl q) ?_
    refine own_go (T' := s₁) (g' := (mkF m 13 #[.val (.int p1), .val (.int (1 : Int32)), .unset, .unset, .unset, .unset, .unset, .unset] [(.int (1 : Int32))])) (fun t q => XS.iloadN X0.here hx rfl (hb hby at_12) rfl q) ?_
    have c55 : ¬ ((1 : Int32) = (0 : Int32)) := by decide
    refine own_go (T' := s₁) (g' := (mkF m 16 #[.val (.int p1), .val (.int (1 : Int32)), .unset, .unset, .unset, .unset, .unset, .unset] [])) (fun t q => XS.ifNo X0.here hx rfl (hb hby at_13) rfl ((if0 _ _).trans (feq c55).1) q) ?_
    refine own_go (T' := s₁) (g' := (mkF m 17 #[.val (.int p1), .val (.int (1 : Int32)), .unset, .unset, .unset, .unset, .unset, .unset] [(.int (4 : Int32))])) (fun t q => XS.iconst X0.here hx rfl (hb hby at_16) q) ?_
    obtain ⟨T56, h56, X56, e56, E56, A56, st56⟩ := own_newP X0 hx hZ (hw _ (List.mem_of_getElem? (i := 0) rfl)) e0 (g := (mkF m 17 #[.val (.int p1), .val (.int (1 : Int32)), .unset, .unset, .unset, .unset, .unset, .unset] [(.int (4 : Int32))])) rfl (hb hby at_17) rfl (by decide) 4 (by decide) (by decide) (by decide) (by decide)
    obtain ⟨a56, g56⟩ : ∃ z, z = h0.size := ⟨_, rfl⟩
    rw [← g56] at A56 st56
    have za56 : h0.size ≤ a56 := by rw [g56]; exact (Nat.le_refl _)
    have O56 : Ext h0 h56 := own_Xt (own_Xr _) E56
    have sz56 : h0.size ≤ h56.size := Nat.le_trans (Nat.le_refl _) E56.1
    have f56_ : own_Ar Z h56 a56 .char [(.int (0 : Int32)), (.int (0 : Int32)), (.int (0 : Int32)), (.int (0 : Int32))] := A56
    refine own_go (T' := T56) (g' := (mkF m 19 #[.val (.int p1), .val (.int (1 : Int32)), .unset, .unset, .unset, .unset, .unset, .unset] [(.ref a56)])) (fun t q => st56 t q) ?_
    refine own_go (T' := T56) (g' := (mkF m 20 #[.val (.int p1), .val (.int (1 : Int32)), .unset, .unset, .unset, .unset, .unset, .unset] [(.ref a56), (.ref a56)])) (fun t q => XS.dup X56.here hx rfl (hb hby at_19) rfl rfl q) ?_
    refine own_go (T' := T56) (g' := (mkF m 21 #[.val (.int p1), .val (.int (1 : Int32)), .unset, .unset, .unset, .unset, .unset, .unset] [(.int (0 : Int32)), (.ref a56), (.ref a56)])) (fun t q => XS.iconst X56.here hx rfl (hb hby at_20) q) ?_
    refine own_go (T' := T56) (g' := (mkF m 23 #[.val (.int p1), .val (.int (1 : Int32)), .unset, .unset, .unset, .unset, .unset, .unset] [(.int (108 : Int32)), (.int (0 : Int32)), (.ref a56), (.ref a56)])) (fun t q => XS.bipush X56.here hx rfl (hb hby at_21) q) ?_
    obtain ⟨T57, h57, X57, e57, W57, A57, st57⟩ := own_stC X56 hx hZ e56 f56_ (by decide) 0 (by decide) (by show 0 < 4; decide) (g := (mkF m 23 #[.val (.int p1), .val (.int (1 : Int32)), .unset, .unset, .unset, .unset, .unset, .unset] [(.int (108 : Int32)), (.int (0 : Int32)), (.ref a56), (.ref a56)])) rfl rfl (hb hby at_23)
    have N57 := Fr.snoc X57 (Fr.nil _) za56
    have O57 : Ext h0 h57 := own_Xw O56 W57 za56
    have f57_ : own_Ar Z h57 a56 .char [(.int (108 : Int32)), (.int (0 : Int32)), (.int (0 : Int32)), (.int (0 : Int32))] := A57
    have sz57 : h0.size ≤ h57.size := by rw [W57.size]; exact sz56
    refine own_go (T' := T57) (g' := (mkF m 24 #[.val (.int p1), .val (.int (1 : Int32)), .unset, .unset, .unset, .unset, .unset, .unset] [(.ref a56)])) (fun t q => st57 t q) ?_
    refine own_go (T' := T57) (g' := (mkF m 25 #[.val (.int p1), .val (.int (1 : Int32)), .unset, .unset, .unset, .unset, .unset, .unset] [(.ref a56), (.ref a56)])) (fun t q => XS.dup X57.here hx rfl (hb hby at_24) rfl rfl q) ?_
    refine own_go (T' := T57) (g' := (mkF m 26 #[.val (.int p1), .val (.int (1 : Int32)), .unset, .unset, .unset, .unset, .unset, .unset] [(.int (1 : Int32)), (.ref a56), (.ref a56)])) (fun t q => XS.iconst X57.here hx rfl (hb hby at_25) q) ?_
    refine own_go (T' := T57) (g' := (mkF m 28 #[.val (.int p1), .val (.int (1 : Int32)), .unset, .unset, .unset, .unset, .unset, .unset] [(.int (105 : Int32)), (.int (1 : Int32)), (.ref a56), (.ref a56)])) (fun t q => XS.bipush X57.here hx rfl (hb hby at_26) q) ?_
    obtain ⟨T58, h58, X58, e58, W58, A58, st58⟩ := own_stC X57 hx hZ e57 f57_ (by decide) 1 (by decide) (by show 1 < 4; decide) (g := (mkF m 28 #[.val (.int p1), .val (.int (1 : Int32)), .unset, .unset, .unset, .unset, .unset, .unset] [(.int (105 : Int32)), (.int (1 : Int32)), (.ref a56), (.ref a56)])) rfl rfl (hb hby at_28)
    have N58 := Fr.snoc X58 N57 za56
    have O58 : Ext h0 h58 := own_Xw O57 W58 za56
    have f58_ : own_Ar Z h58 a56 .char [(.int (108 : Int32)), (.int (105 : Int32)), (.int (0 : Int32)), (.int (0 : Int32))] := A58
    have sz58 : h0.size ≤ h58.size := by rw [W58.size]; exact sz57
    refine own_go (T' := T58) (g' := (mkF m 29 #[.val (.int p1), .val (.int (1 : Int32)), .unset, .unset, .unset, .unset, .unset, .unset] [(.ref a56)])) (fun t q => st58 t q) ?_
    refine own_go (T' := T58) (g' := (mkF m 30 #[.val (.int p1), .val (.int (1 : Int32)), .unset, .unset, .unset, .unset, .unset, .unset] [(.ref a56), (.ref a56)])) (fun t q => XS.dup X58.here hx rfl (hb hby at_29) rfl rfl q) ?_
    refine own_go (T' := T58) (g' := (mkF m 31 #[.val (.int p1), .val (.int (1 : Int32)), .unset, .unset, .unset, .unset, .unset, .unset] [(.int (2 : Int32)), (.ref a56), (.ref a56)])) (fun t q => XS.iconst X58.here hx rfl (hb hby at_30) q) ?_
    refine own_go (T' := T58) (g' := (mkF m 33 #[.val (.int p1), .val (.int (1 : Int32)), .unset, .unset, .unset, .unset, .unset, .unset] [(.int (110 : Int32)), (.int (2 : Int32)), (.ref a56), (.ref a56)])) (fun t q => XS.bipush X58.here hx rfl (hb hby at_31) q) ?_
    obtain ⟨T59, h59, X59, e59, W59, A59, st59⟩ := own_stC X58 hx hZ e58 f58_ (by decide) 2 (by decide) (by show 2 < 4; decide) (g := (mkF m 33 #[.val (.int p1), .val (.int (1 : Int32)), .unset, .unset, .unset, .unset, .unset, .unset] [(.int (110 : Int32)), (.int (2 : Int32)), (.ref a56), (.ref a56)])) rfl rfl (hb hby at_33)
    have N59 := Fr.snoc X59 N58 za56
    have O59 : Ext h0 h59 := own_Xw O58 W59 za56
    have f59_ : own_Ar Z h59 a56 .char [(.int (108 : Int32)), (.int (105 : Int32)), (.int (110 : Int32)), (.int (0 : Int32))] := A59
    have sz59 : h0.size ≤ h59.size := by rw [W59.size]; exact sz58
    refine own_go (T' := T59) (g' := (mkF m 34 #[.val (.int p1), .val (.int (1 : Int32)), .unset, .unset, .unset, .unset, .unset, .unset] [(.ref a56)])) (fun t q => st59 t q) ?_
    refine own_go (T' := T59) (g' := (mkF m 35 #[.val (.int p1), .val (.int (1 : Int32)), .unset, .unset, .unset, .unset, .unset, .unset] [(.ref a56), (.ref a56)])) (fun t q => XS.dup X59.here hx rfl (hb hby at_34) rfl rfl q) ?_
    refine own_go (T' := T59) (g' := (mkF m 36 #[.val (.int p1), .val (.int (1 : Int32)), .unset, .unset, .unset, .unset, .unset, .unset] [(.int (3 : Int32)), (.ref a56), (.ref a56)])) (fun t q => XS.iconst X59.here hx rfl (hb hby at_35) q) ?_
    refine own_go (T' := T59) (g' := (mkF m 38 #[.val (.int p1), .val (.int (1 : Int32)), .unset, .unset, .unset, .unset, .unset, .unset] [(.int (102 : Int32)), (.int (3 : Int32)), (.ref a56), (.ref a56)])) (fun t q => XS.bipush X59.here hx rfl (hb hby at_36) q) ?_
    obtain ⟨T60, h60, X60, e60, W60, A60, st60⟩ := own_stC X59 hx hZ e59 f59_ (by decide) 3 (by decide) (by show 3 < 4; decide) (g := (mkF m 38 #[.val (.int p1), .val (.int (1 : Int32)), .unset, .unset, .unset, .unset, .unset, .unset] [(.int (102 : Int32)), (.int (3 : Int32)), (.ref a56), (.ref a56)])) rfl rfl (hb hby at_38)
    have N60 := Fr.snoc X60 N59 za56
    have O60 : Ext h0 h60 := own_Xw O59 W60 za56
    have f60_ : own_Ar Z h60 a56 .char [(.int (108 : Int32)), (.int (105 : Int32)), (.int (110 : Int32)), (.int (102 : Int32))] := A60
    have sz60 : h0.size ≤ h60.size := by rw [W60.size]; exact sz59
    refine own_go (T' := T60) (g' := (mkF m 39 #[.val (.int p1), .val (.int (1 : Int32)), .unset, .unset, .unset, .unset, .unset, .unset] [(.ref a56)])) (fun t q => st60 t q) ?_
    refine own_go (T' := T60) (g' := (mkF m 55 #[.val (.int p1), .val (.int (1 : Int32)), .unset, .unset, .unset, .unset, .unset, .unset] [(.ref a56)])) (fun t q => XS.goto X60.here hx rfl (pc0 := 39) (pc' := 55) rfl (hb hby at_39) (by decide) (by decide) q) ?_
    refine own_go (T' := T60) (g' := (mkF m 56 #[.val (.int p1), .val (.int (1 : Int32)), .val (.ref a56), .unset, .unset, .unset, .unset, .unset] [])) (fun t q => XS.astoreN X60.here hx rfl (hb hby at_55) rfl rfl (l' := #[.val (.int p1), .val (.int (1 : Int32)), .val (.ref a56), .unset, .unset, .unset, .unset, .unset]) rfl q) ?_
    obtain ⟨T61, h61, X61, e61, E61, A61, D61, -, st61⟩ := newO X60 hx hZ hown (hw _ (List.mem_of_getElem? (i := 1) rfl)) (hw _ (List.mem_of_getElem? (i := 2) rfl)) (hw _ (List.mem_of_getElem? (i := 3) rfl)) e60 (g := (mkF m 56 #[.val (.int p1), .val (.int (1 : Int32)), .val (.ref a56), .unset, .unset, .unset, .unset, .unset] [])) rfl (hb hby at_56) (by decide) (by decide)
    obtain ⟨a61, g61⟩ : ∃ z, z = h60.size := ⟨_, rfl⟩
    rw [← g61] at A61 D61 st61
    have ne_a56_a61 : a56 ≠ a61 := by rw [g61]; exact Nat.ne_of_lt f60_.lt
    have za61 : h0.size ≤ a61 := by rw [g61]; exact sz60
    have f62 := f60_.ext E61
    have O61 : Ext h0 h61 := own_Xt O60 E61
    have sz61 : h0.size ≤ h61.size := Nat.le_trans sz60 E61.1
    have f63 : Fld Z h61 a61 "java/lang/String" "coder" "B" (.int (0 : Int32)) := D61 (Or.inr (hw _ (List.mem_of_getElem? (i := 27) rfl))) (ty := .byte) (by decide)
    have f64 : Fld Z h61 a61 "java/lang/String" "value" "[B" .null := D61 (Or.inr (hw _ (List.mem_of_getElem? (i := 29) rfl))) (ty := (.array .byte)) (by decide)
    refine own_go (T' := T61) (g' := (mkF m 59 #[.val (.int p1), .val (.int (1 : Int32)), .val (.ref a56), .unset, .unset, .unset, .unset, .unset] [(.ref a61)])) (fun t q => st61 t q) ?_
    refine own_go (T' := T61) (g' := (mkF m 60 #[.val (.int p1), .val (.int (1 : Int32)), .val (.ref a56), .unset, .unset, .unset, .unset, .unset] [(.ref a61), (.ref a61)])) (fun t q => XS.dup X61.here hx rfl (hb hby at_59) rfl rfl q) ?_
    refine own_go (T' := T61) (g' := (mkF m 61 #[.val (.int p1), .val (.int (1 : Int32)), .val (.ref a56), .unset, .unset, .unset, .unset, .unset] [(.ref a56), (.ref a61), (.ref a61)])) (fun t q => XS.aloadN X61.here hx rfl (hb hby at_60) rfl rfl q) ?_
    obtain ⟨v65, T65, L65, X65, Q65, st65⟩ := own_callP X61 hx hZ (y := (⟨"java/lang/String", "<init>", "([C)V"⟩ : MethodName)) (a := a61) (argsL := [(.ref a56)]) (rest := [(.ref a61)]) hown rfl (hw _ (List.mem_of_getElem? (i := 4) rfl)) (hw _ (List.mem_of_getElem? (i := 5) rfl)) (hw _ (List.mem_of_getElem? (i := 3) rfl)) (hw _ (List.mem_of_getElem? (i := 6) rfl)) (rm_s1_C l Z a0 hw [] h0.size a61 a56 cp h61 sz61 za61 A61 f63 f64 ne_a56_a61 f62 cp0 (Sta.ext O61 S_cp)) e61 (by decide) (by decide) 1 (by decide) (by decide) (by decide) (g := (mkF m 61 #[.val (.int p1), .val (.int (1 : Int32)), .val (.ref a56), .unset, .unset, .unset, .unset, .unset] [(.ref a56), (.ref a61), (.ref a61)])) rfl (by rw [hml]; rfl) (lenOf (ps := [(.array .char)]) (r := none) (by decide +kernel) rfl) rfl (by show 2 * 0 + _ ≤ _; exact Nat.le_of_eq rfl) (hb hby at_61)
    obtain ⟨rfl, M65, K65, XA65, FC65, b65, FV65, RR65, gn65, gh65⟩ := Q65
    have nb65_a56 : a56 ≠ b65 := Nat.ne_of_lt (Nat.lt_of_lt_of_le f62.lt gh65)
    have nb65_a61 : a61 ≠ b65 := Nat.ne_of_lt (Nat.lt_of_lt_of_le A61.lt gh65)
    have f66 := f62.keep K65 (ninS ne_a56_a61 nin0)
    have f67 := A61.keep K65
    have N65 := Fr.app N60 M65
    have sz65 : h0.size ≤ T65.heap.size := Nat.le_trans sz61 K65.1
    have O65 : Ext h0 T65.heap := own_Xk O61 K65 (allS za61 all0)
    refine own_go (T' := T65) (g' := (mkF m 64 #[.val (.int p1), .val (.int (1 : Int32)), .val (.ref a56), .unset, .unset, .unset, .unset, .unset] [(.ref a61)])) (fun t q => st65 t q) ?_
    refine own_go (T' := T65) (g' := (mkF m 65 #[.val (.int p1), .val (.int (1 : Int32)), .val (.ref a56), .val (.ref a61), .unset, .unset, .unset, .unset] [])) (fun t q => XS.astoreN X65.here hx rfl (hb hby at_64) rfl rfl (l' := #[.val (.int p1), .val (.int (1 : Int32)), .val (.ref a56), .val (.ref a61), .unset, .unset, .unset, .unset]) rfl q) ?_
    obtain ⟨T68, h68, X68, e68, E68, A68, D68, -, st68⟩ := newO X65 hx hZ hown (hw _ (List.mem_of_getElem? (i := 1) rfl)) (hw _ (List.mem_of_getElem? (i := 2) rfl)) (hw _ (List.mem_of_getElem? (i := 3) rfl)) (rfl : T65.heap = T65.heap) (g := (mkF m 65 #[.val (.int p1), .val (.int (1 : Int32)), .val (.ref a56), .val (.ref a61), .unset, .unset, .unset, .unset] [])) rfl (hb hby at_65) (by decide) (by decide)
    obtain ⟨a68, g68⟩ : ∃ z, z = T65.heap.size := ⟨_, rfl⟩
    rw [← g68] at A68 D68 st68
    have ne_a56_a68 : a56 ≠ a68 := by rw [g68]; exact Nat.ne_of_lt f66.lt
    have ne_a61_a68 : a61 ≠ a68 := by rw [g68]; exact Nat.ne_of_lt XA65.lt
    have ne_b65_a68 : b65 ≠ a68 := by rw [g68]; exact Nat.ne_of_lt RR65.lt
    have za68 : h0.size ≤ a68 := by rw [g68]; exact sz65
    have f69 := f66.ext E68
    have f70 := XA65.ext E68
    have f71 := FC65.ext E68
    have f72 := FV65.ext E68
    have f73 := RR65.ext E68
    have O68 : Ext h0 h68 := own_Xt O65 E68
    have sz68 : h0.size ≤ h68.size := Nat.le_trans sz65 E68.1
    have f74 : Fld Z h68 a68 "java/lang/String" "coder" "B" (.int (0 : Int32)) := D68 (Or.inr (hw _ (List.mem_of_getElem? (i := 27) rfl))) (ty := .byte) (by decide)
    have f75 : Fld Z h68 a68 "java/lang/String" "value" "[B" .null := D68 (Or.inr (hw _ (List.mem_of_getElem? (i := 29) rfl))) (ty := (.array .byte)) (by decide)
    refine own_go (T' := T68) (g' := (mkF m 68 #[.val (.int p1), .val (.int (1 : Int32)), .val (.ref a56), .val (.ref a61), .unset, .unset, .unset, .unset] [(.ref a68)])) (fun t q => st68 t q) ?_
    refine own_go (T' := T68) (g' := (mkF m 69 #[.val (.int p1), .val (.int (1 : Int32)), .val (.ref a56), .val (.ref a61), .unset, .unset, .unset, .unset] [(.ref a68), (.ref a68)])) (fun t q => XS.dup X68.here hx rfl (hb hby at_68) rfl rfl q) ?_
    refine own_go (T' := T68) (g' := (mkF m 70 #[.val (.int p1), .val (.int (1 : Int32)), .val (.ref a56), .val (.ref a61), .unset, .unset, .unset, .unset] [(.ref a56), (.ref a68), (.ref a68)])) (fun t q => XS.aloadN X68.here hx rfl (hb hby at_69) rfl rfl q) ?_
    obtain ⟨v76, T76, L76, X76, Q76, st76⟩ := own_callP X68 hx hZ (y := (⟨"java/lang/String", "<init>", "([C)V"⟩ : MethodName)) (a := a68) (argsL := [(.ref a56)]) (rest := [(.ref a68)]) hown rfl (hw _ (List.mem_of_getElem? (i := 4) rfl)) (hw _ (List.mem_of_getElem? (i := 5) rfl)) (hw _ (List.mem_of_getElem? (i := 3) rfl)) (hw _ (List.mem_of_getElem? (i := 6) rfl)) (rm_s1_C l Z a0 hw [] h0.size a68 a56 cp h68 sz68 za68 A68 f74 f75 ne_a56_a68 f69 cp0 (Sta.ext O68 S_cp)) e68 (by decide) (by decide) 1 (by decide) (by decide) (by decide) (g := (mkF m 70 #[.val (.int p1), .val (.int (1 : Int32)), .val (.ref a56), .val (.ref a61), .unset, .unset, .unset, .unset] [(.ref a56), (.ref a68), (.ref a68)])) rfl (by rw [hml]; rfl) (lenOf (ps := [(.array .char)]) (r := none) (by decide +kernel) rfl) rfl (by show 2 * 0 + _ ≤ _; exact Nat.le_of_eq rfl) (hb hby at_70)
    obtain ⟨rfl, M76, K76, XA76, FC76, b76, FV76, RR76, gn76, gh76⟩ := Q76
    have nb76_a56 : a56 ≠ b76 := Nat.ne_of_lt (Nat.lt_of_lt_of_le f69.lt gh76)
    have nb76_a61 : a61 ≠ b76 := Nat.ne_of_lt (Nat.lt_of_lt_of_le f70.lt gh76)
    have nb76_b65 : b65 ≠ b76 := Nat.ne_of_lt (Nat.lt_of_lt_of_le f73.lt gh76)
    have nb76_a68 : a68 ≠ b76 := Nat.ne_of_lt (Nat.lt_of_lt_of_le A68.lt gh76)
    have f77 := f69.keep K76 (ninS ne_a56_a68 nin0)
    have f78 := f70.keep K76
    have f79 := f71.keep K76 (ninS ne_a61_a68 nin0)
    have f80 := f72.keep K76 (ninS ne_a61_a68 nin0)
    have f81 := f73.keep K76 (ninS ne_b65_a68 nin0)
    have f82 := A68.keep K76
    have N76 := Fr.app N65 M76
    have sz76 : h0.size ≤ T76.heap.size := Nat.le_trans sz68 K76.1
    have O76 : Ext h0 T76.heap := own_Xk O68 K76 (allS za68 all0)
    refine own_go (T' := T76) (g' := (mkF m 73 #[.val (.int p1), .val (.int (1 : Int32)), .val (.ref a56), .val (.ref a61), .unset, .unset, .unset, .unset] [(.ref a68)])) (fun t q => st76 t q) ?_
    refine own_go (T' := T76) (g' := (mkF m 75 #[.val (.int p1), .val (.int (1 : Int32)), .val (.ref a56), .val (.ref a61), .val (.ref a68), .unset, .unset, .unset] [])) (fun t q => XS.astore X76.here hx rfl (hb hby at_73) rfl rfl (l' := #[.val (.int p1), .val (.int (1 : Int32)), .val (.ref a56), .val (.ref a61), .val (.ref a68), .unset, .unset, .unset]) rfl q) ?_
    refine own_go (T' := T76) (g' := (mkF m 76 #[.val (.int p1), .val (.int (1 : Int32)), .val (.ref a56), .val (.ref a61), .val (.ref a68), .unset, .unset, .unset] [(.int (1 : Int32))])) (fun t q => XS.iloadN X76.here hx rfl (hb hby at_75) rfl q) ?_
    have c83 : ¬ ((1 : Int32) = (0 : Int32)) := by decide
    refine own_go (T' := T76) (g' := (mkF m 79 #[.val (.int p1), .val (.int (1 : Int32)), .val (.ref a56), .val (.ref a61), .val (.ref a68), .unset, .unset, .unset] [])) (fun t q => XS.ifNo X76.here hx rfl (hb hby at_76) rfl ((if0 _ _).trans (feq c83).1) q) ?_
    obtain ⟨T84, X84, e84, st84⟩ := getS2 X76 hx hZ hown (host := "") (Or.inl (hw _ (List.mem_of_getElem? (i := 70) rfl))) Via.refl (rfl : T76.heap = T76.heap) (Sta.ext O76 S_C) (g := (mkF m 79 #[.val (.int p1), .val (.int (1 : Int32)), .val (.ref a56), .val (.ref a61), .val (.ref a68), .unset, .unset, .unset] [])) rfl (hb hby at_79)
    refine own_go (T' := T84) (g' := (mkF m 82 #[.val (.int p1), .val (.int (1 : Int32)), .val (.ref a56), .val (.ref a61), .val (.ref a68), .unset, .unset, .unset] [(.ref w_C)])) (fun t q => st84 t q) ?_
    refine own_go (T' := T84) (g' := (mkF m 88 #[.val (.int p1), .val (.int (1 : Int32)), .val (.ref a56), .val (.ref a61), .val (.ref a68), .unset, .unset, .unset] [(.ref w_C)])) (fun t q => XS.goto X84.here hx rfl (pc0 := 82) (pc' := 88) rfl (hb hby at_82) (by decide) (by decide) q) ?_
    refine own_go (T' := T84) (g' := (mkF m 90 #[.val (.int p1), .val (.int (1 : Int32)), .val (.ref a56), .val (.ref a61), .val (.ref a68), .val (.ref w_C), .unset, .unset] [])) (fun t q => XS.astore X84.here hx rfl (hb hby at_88) rfl rfl (l' := #[.val (.int p1), .val (.int (1 : Int32)), .val (.ref a56), .val (.ref a61), .val (.ref a68), .val (.ref w_C), .unset, .unset]) rfl q) ?_
    refine own_go (T' := T84) (g' := (mkF m 91 #[.val (.int p1), .val (.int (1 : Int32)), .val (.ref a56), .val (.ref a61), .val (.ref a68), .val (.ref w_C), .unset, .unset] [(.ref a61)])) (fun t q => XS.aloadN X84.here hx rfl (hb hby at_90) rfl rfl q) ?_
    obtain ⟨v85, T85, L85, X85, Q85, st85⟩ := own_callS X84 hx hZ (y := (⟨"com/example/minsum/minsum/model/Norm", "fromKey", "(Ljava/lang/String;)Lcom/example/minsum/minsum/model/Norm;"⟩ : MethodName)) (argsL := [(.ref a61)]) (rest := []) hown (hw _ (List.mem_of_getElem? (i := 33) rfl)) (hw _ (List.mem_of_getElem? (i := 34) rfl)) (hw _ (List.mem_of_getElem? (i := 31) rfl)) (hw _ (List.mem_of_getElem? (i := 35) rfl)) (rm_fk_C_new l Z a0 hw [] w_R w_C s_R s_C v_R v_C w_V cp a61 b65 T76.heap (own_Fx FX O76) cp0 (Nat.ne_of_lt (Nat.lt_of_lt_of_le X_R.lt za61)) (Nat.ne_of_lt (Nat.lt_of_lt_of_le X_C.lt za61)) f78 f79 f80 f81) e84 (by decide) (by decide) 0 (by decide) (by decide) (by decide) (g := (mkF m 91 #[.val (.int p1), .val (.int (1 : Int32)), .val (.ref a56), .val (.ref a61), .val (.ref a68), .val (.ref w_C), .unset, .unset] [(.ref a61)])) rfl (by rw [hml]; rfl) (lenOf (ps := [(.object "java/lang/String")]) (r := (some (.object "com/example/minsum/minsum/model/Norm"))) (by decide +kernel) rfl) rfl (by show 2 * 0 + _ ≤ _; exact Nat.le_of_eq rfl) (hb hby at_91)
    obtain ⟨rfl, rfl, K85⟩ := Q85
    have OO85 := own_Xk (own_Xr _) K85 all0
    have O85 : Ext h0 T85.heap := own_Xt O76 OO85
    have f86 := f77.ext OO85
    have f87 := f78.ext OO85
    have f88 := f79.ext OO85
    have f89 := f80.ext OO85
    have f90 := f81.ext OO85
    have f91 := XA76.ext OO85
    have f92 := FC76.ext OO85
    have f93 := FV76.ext OO85
    have f94 := RR76.ext OO85
    have sz85 : h0.size ≤ T85.heap.size := Nat.le_trans sz76 K85.1
    refine own_go (T' := T85) (g' := (mkF m 94 #[.val (.int p1), .val (.int (1 : Int32)), .val (.ref a56), .val (.ref a61), .val (.ref a68), .val (.ref w_C), .unset, .unset] [(.ref w_C)])) (fun t q => st85 t q) ?_
    refine own_go (T' := T85) (g' := (mkF m 96 #[.val (.int p1), .val (.int (1 : Int32)), .val (.ref a56), .val (.ref a61), .val (.ref a68), .val (.ref w_C), .val (.ref w_C), .unset] [])) (fun t q => XS.astore X85.here hx rfl (hb hby at_94) rfl rfl (l' := #[.val (.int p1), .val (.int (1 : Int32)), .val (.ref a56), .val (.ref a61), .val (.ref a68), .val (.ref w_C), .val (.ref w_C), .unset]) rfl q) ?_
    refine own_go (T' := T85) (g' := (mkF m 98 #[.val (.int p1), .val (.int (1 : Int32)), .val (.ref a56), .val (.ref a61), .val (.ref a68), .val (.ref w_C), .val (.ref w_C), .unset] [(.ref w_C)])) (fun t q => XS.aload X85.here hx rfl (hb hby at_96) rfl rfl q) ?_
    refine own_go (T' := T85) (g' := (mkF m 100 #[.val (.int p1), .val (.int (1 : Int32)), .val (.ref a56), .val (.ref a61), .val (.ref a68), .val (.ref w_C), .val (.ref w_C), .unset] [(.ref w_C), (.ref w_C)])) (fun t q => XS.aload X85.here hx rfl (hb hby at_98) rfl rfl q) ?_
    have c95 : (Value.ref w_C) = (Value.ref w_C) := rfl
    refine own_go (T' := T85) (g' := (mkF m 105 #[.val (.int p1), .val (.int (1 : Int32)), .val (.ref a56), .val (.ref a61), .val (.ref a68), .val (.ref w_C), .val (.ref w_C), .unset] [])) (fun t q => XT.acmpYes X85.here hx rfl (pc0 := 100) (pc' := 105) rfl (hb hby at_100) rfl rfl rfl (own_at c95).1 (by decide) (by decide) q) ?_
    refine own_go (T' := T85) (g' := (mkF m 107 #[.val (.int p1), .val (.int (1 : Int32)), .val (.ref a56), .val (.ref a61), .val (.ref a68), .val (.ref w_C), .val (.ref w_C), .unset] [(.ref w_C)])) (fun t q => XS.aload X85.here hx rfl (hb hby at_105) rfl rfl q) ?_
    obtain ⟨v96, T96, L96, X96, Q96, st96⟩ := own_callV X85 hx hZ (y := (⟨"com/example/minsum/minsum/model/Norm", "key", "()Ljava/lang/String;"⟩ : MethodName)) (b := w_C) (argsL := []) (rest := []) hown (hw _ (List.mem_of_getElem? (i := 64) rfl)) (hw _ (List.mem_of_getElem? (i := 65) rfl)) (hw _ (List.mem_of_getElem? (i := 67) rfl)) (hw _ (List.mem_of_getElem? (i := 66) rfl)) (hw _ (List.mem_of_getElem? (i := 31) rfl)) (hw _ (List.mem_of_getElem? (i := 68) rfl)) (rm_key_C l Z a0 hw [] w_R w_C s_R s_C v_R v_C w_V cp T85.heap (own_Fx FX O85)) (rfl : T85.heap = T85.heap) (E_C.ext O85) (by decide) (by decide) 0 (by decide) (by decide) (by decide) (g := (mkF m 107 #[.val (.int p1), .val (.int (1 : Int32)), .val (.ref a56), .val (.ref a61), .val (.ref a68), .val (.ref w_C), .val (.ref w_C), .unset] [(.ref w_C)])) rfl (by rw [hml]; rfl) (lenOf (ps := []) (r := (some (.object "java/lang/String"))) (by decide +kernel) rfl) rfl (by show 2 * 0 + _ ≤ _; exact Nat.le_of_eq rfl) (hb hby at_107)
    obtain ⟨rfl, e96, rfl⟩ := Q96
    refine own_go (T' := T96) (g' := (mkF m 110 #[.val (.int p1), .val (.int (1 : Int32)), .val (.ref a56), .val (.ref a61), .val (.ref a68), .val (.ref w_C), .val (.ref w_C), .unset] [(.ref s_C)])) (fun t q => st96 t q) ?_
    refine own_go (T' := T96) (g' := (mkF m 112 #[.val (.int p1), .val (.int (1 : Int32)), .val (.ref a56), .val (.ref a61), .val (.ref a68), .val (.ref w_C), .val (.ref w_C), .val (.ref s_C)] [])) (fun t q => XS.astore X96.here hx rfl (hb hby at_110) rfl rfl (l' := #[.val (.int p1), .val (.int (1 : Int32)), .val (.ref a56), .val (.ref a61), .val (.ref a68), .val (.ref w_C), .val (.ref w_C), .val (.ref s_C)]) rfl q) ?_
    refine own_go (T' := T96) (g' := (mkF m 114 #[.val (.int p1), .val (.int (1 : Int32)), .val (.ref a56), .val (.ref a61), .val (.ref a68), .val (.ref w_C), .val (.ref w_C), .val (.ref s_C)] [(.ref a68)])) (fun t q => XS.aload X96.here hx rfl (hb hby at_112) rfl rfl q) ?_
    refine own_go (T' := T96) (g' := (mkF m 116 #[.val (.int p1), .val (.int (1 : Int32)), .val (.ref a56), .val (.ref a61), .val (.ref a68), .val (.ref w_C), .val (.ref w_C), .val (.ref s_C)] [(.ref s_C), (.ref a68)])) (fun t q => XS.aload X96.here hx rfl (hb hby at_114) rfl rfl q) ?_
    obtain ⟨v97, T97, L97, X97, Q97, st97⟩ := own_callV X96 hx hZ (y := (⟨"java/lang/String", "equals", "(Ljava/lang/Object;)Z"⟩ : MethodName)) (b := a68) (argsL := [(.ref s_C)]) (rest := []) hown (hw _ (List.mem_of_getElem? (i := 69) rfl)) (hw _ (List.mem_of_getElem? (i := 55) rfl)) (hw _ (List.mem_of_getElem? (i := 57) rfl)) (hw _ (List.mem_of_getElem? (i := 56) rfl)) (hw _ (List.mem_of_getElem? (i := 3) rfl)) (hw _ (List.mem_of_getElem? (i := 58) rfl)) (rm_eq_CC l Z a0 hw [] a68 s_C b76 v_C cp T85.heap (Ne.symm (Nat.ne_of_lt (Nat.lt_of_lt_of_le X_C.lt za68))) (X_C.ext O85) f92 (D_C.ext O85) f93 (H_C.ext O85) f94 (R_C.ext O85) (Sta.ext O85 S_cp) cp0) e96 f91 (by decide) (by decide) 0 (by decide) (by decide) (by decide) (g := (mkF m 116 #[.val (.int p1), .val (.int (1 : Int32)), .val (.ref a56), .val (.ref a61), .val (.ref a68), .val (.ref w_C), .val (.ref w_C), .val (.ref s_C)] [(.ref s_C), (.ref a68)])) rfl (by rw [hml]; rfl) (lenOf (ps := [(.object "java/lang/Object")]) (r := (some .boolean)) (by decide +kernel) rfl) rfl (by show 2 * 0 + _ ≤ _; exact Nat.le_of_eq rfl) (hb hby at_116)
    obtain ⟨rfl, e97, rfl⟩ := Q97
    refine own_go (T' := T97) (g' := (mkF m 119 #[.val (.int p1), .val (.int (1 : Int32)), .val (.ref a56), .val (.ref a61), .val (.ref a68), .val (.ref w_C), .val (.ref w_C), .val (.ref s_C)] [(.int (1 : Int32))])) (fun t q => st97 t q) ?_
    have c98 : ¬ ((1 : Int32) = (0 : Int32)) := by decide
    refine own_go (T' := T97) (g' := (mkF m 124 #[.val (.int p1), .val (.int (1 : Int32)), .val (.ref a56), .val (.ref a61), .val (.ref a68), .val (.ref w_C), .val (.ref w_C), .val (.ref s_C)] [])) (fun t q => XS.ifYes X97.here hx rfl (pc0 := 119) (pc' := 124) rfl (hb hby at_119) rfl ((if0 _ _).trans (feq c98).2) (by decide) (by decide) q) ?_
    refine own_go (T' := T97) (g' := (mkF m 126 #[.val (.int p1), .val (.int (1 : Int32)), .val (.ref a56), .val (.ref a61), .val (.ref a68), .val (.ref w_C), .val (.ref w_C), .val (.ref s_C)] [(.ref s_C)])) (fun t q => XS.aload X97.here hx rfl (hb hby at_124) rfl rfl q) ?_
    obtain ⟨v99, T99, L99, X99, Q99, st99⟩ := own_callS X97 hx hZ (y := (⟨"com/example/minsum/minsum/model/Norm", "fromKey", "(Ljava/lang/String;)Lcom/example/minsum/minsum/model/Norm;"⟩ : MethodName)) (argsL := [(.ref s_C)]) (rest := []) hown (hw _ (List.mem_of_getElem? (i := 33) rfl)) (hw _ (List.mem_of_getElem? (i := 34) rfl)) (hw _ (List.mem_of_getElem? (i := 31) rfl)) (hw _ (List.mem_of_getElem? (i := 35) rfl)) (rm_fk_C_key l Z a0 hw [] w_R w_C s_R s_C v_R v_C w_V cp T85.heap (own_Fx FX O85) cp0 ne_CR) e97 (by decide) (by decide) 0 (by decide) (by decide) (by decide) (g := (mkF m 126 #[.val (.int p1), .val (.int (1 : Int32)), .val (.ref a56), .val (.ref a61), .val (.ref a68), .val (.ref w_C), .val (.ref w_C), .val (.ref s_C)] [(.ref s_C)])) rfl (by rw [hml]; rfl) (lenOf (ps := [(.object "java/lang/String")]) (r := (some (.object "com/example/minsum/minsum/model/Norm"))) (by decide +kernel) rfl) rfl (by show 2 * 0 + _ ≤ _; exact Nat.le_of_eq rfl) (hb hby at_126)
    obtain ⟨rfl, rfl, K99⟩ := Q99
    have OO99 := own_Xk (own_Xr _) K99 all0
    have O99 : Ext h0 T99.heap := own_Xt O85 OO99
    have f100 := f86.ext OO99
    have f101 := f87.ext OO99
    have f102 := f88.ext OO99
    have f103 := f89.ext OO99
    have f104 := f90.ext OO99
    have f105 := f91.ext OO99
    have f106 := f92.ext OO99
    have f107 := f93.ext OO99
    have f108 := f94.ext OO99
    have sz99 : h0.size ≤ T99.heap.size := Nat.le_trans sz85 K99.1
    refine own_go (T' := T99) (g' := (mkF m 129 #[.val (.int p1), .val (.int (1 : Int32)), .val (.ref a56), .val (.ref a61), .val (.ref a68), .val (.ref w_C), .val (.ref w_C), .val (.ref s_C)] [(.ref w_C)])) (fun t q => st99 t q) ?_
    refine own_go (T' := T99) (g' := (mkF m 131 #[.val (.int p1), .val (.int (1 : Int32)), .val (.ref a56), .val (.ref a61), .val (.ref a68), .val (.ref w_C), .val (.ref w_C), .val (.ref s_C)] [(.ref w_C), (.ref w_C)])) (fun t q => XS.aload X99.here hx rfl (hb hby at_129) rfl rfl q) ?_
    have c109 : (Value.ref w_C) = (Value.ref w_C) := rfl
    refine own_go (T' := T99) (g' := (mkF m 134 #[.val (.int p1), .val (.int (1 : Int32)), .val (.ref a56), .val (.ref a61), .val (.ref a68), .val (.ref w_C), .val (.ref w_C), .val (.ref s_C)] [])) (fun t q => XT.acmpNo X99.here hx rfl (hb hby at_131) rfl rfl rfl (own_at c109).2 q) ?_
    refine own_go (T' := T99) (g' := (mkF m 135 #[.val (.int p1), .val (.int (1 : Int32)), .val (.ref a56), .val (.ref a61), .val (.ref a68), .val (.ref w_C), .val (.ref w_C), .val (.ref s_C)] [(.int (1 : Int32))])) (fun t q => XS.iconst X99.here hx rfl (hb hby at_134) q) ?_
    refine own_go (T' := T99) (g' := (mkF m 139 #[.val (.int p1), .val (.int (1 : Int32)), .val (.ref a56), .val (.ref a61), .val (.ref a68), .val (.ref w_C), .val (.ref w_C), .val (.ref s_C)] [(.int (1 : Int32))])) (fun t q => XS.goto X99.here hx rfl (pc0 := 135) (pc' := 139) rfl (hb hby at_135) (by decide) (by decide) q) ?_
    refine own_outN X99 hx hlk hret (t := .boolean) (by simp) (hb hby at_139) (w := (1 : Int32)) (by decide) ?_ (by decide) (by decide)
    exact ⟨rfl, (Fr.app (Fr.app (Fr.app (Fr.app N76 (Fr.nil _)) (Fr.nil _)) (Fr.nil _)) (Fr.nil _))⟩
set_option maxRecDepth 65536 in
set_option maxHeartbeats 40000000 in
theorem comes_1 {Post : Tables → Env → Array Value → State → Outcome → State → Prop} (hpost : ∀ tb e args s v u, (limb_1_1.after args s (.returned v) u = true ∧ limb_1_2.after args s (.returned v) u = true ∧ True) → FrameEnd s (.returned v) u (Jvm.fieldLocs frame_1_writes args s ++ Jvm.arrayLocs frame_1_arrays args s ++ Jvm.staticLocs frame_1_statics s) 24 128 → Post tb e args s (.returned v) u) :
    ArmFor flags0 classFile x code maxLocals ret World_1 tables_1 room_1 Calls_1 rest_1 Pre_1 Post := by
  intro l hfl _ _ p e ha hc hk s m args below hf hA hF happ hP
  obtain ⟨hcalls, hrest, hpre⟩ := hP
  obtain ⟨-, -, -, hnamed, -, -, -, hat⟩ := (Spec.applies_iff hf).mp happ
  obtain ⟨hg, hn⟩ := and_e (Cond.before_iff.mp (show (Jvm.Cond.and given_1 narrow_1).before args s = true from hpre))
  obtain ⟨h1, hg⟩ := and_e hg
  have g0 := hg
  obtain ⟨w0, rfl⟩ : ∃ w0 : Value, args = #[w0] := by
    have hs : args.size = 1 := by simpa [Cond.value, given_1] using h1
    obtain ⟨L⟩ := args
    match L, hs with
    | [w0], _ => exact ⟨w0, rfl⟩
  have hw := fun d (hd : d ∈ tables_1) => atoms_spec (ws := Jvm.Cond.code x code maxLocals ret :: tables_1) hat d (List.mem_cons_of_mem _ hd)
  have hfit : Fit s := fun {y c} hc i hi => by
    obtain ⟨ha, rfl⟩ := Array.getElem?_eq_some_iff.mp hc
    have q := List.all_eq_true.mp ((Array.all_eq_true_iff_forall_mem.mp hF) _ (Array.getElem_mem ha)) i (List.mem_range.mpr hi)
    simpa [Array.getElem?_eq_getElem hi] using q
  obtain ⟨i0, b0⟩ := is_v g0
  obtain rfl : w0 = (.int i0) := Option.some.inj b0
  obtain ⟨n0, hn⟩ := and_e hn
  obtain ⟨n1, hn⟩ := and_e hn
  obtain ⟨n2, hn⟩ := and_e hn
  obtain ⟨n3, hn⟩ := and_e hn
  obtain ⟨n4, hn⟩ := and_e hn
  obtain ⟨n5, hn⟩ := and_e hn
  obtain ⟨n6, hn⟩ := and_e hn
  obtain ⟨n7, hn⟩ := and_e hn
  obtain ⟨n8, hn⟩ := and_e hn
  obtain ⟨n9, hn⟩ := and_e hn
  obtain ⟨n10, hn⟩ := and_e hn
  obtain ⟨n11, hn⟩ := and_e hn
  obtain ⟨n12, hn⟩ := and_e hn
  obtain ⟨n13, hn⟩ := and_e hn
  obtain ⟨n14, hn⟩ := and_e hn
  obtain ⟨n15, hn⟩ := and_e hn
  obtain ⟨n16, hn⟩ := and_e hn
  obtain ⟨n17, hn⟩ := and_e hn
  obtain ⟨n18, hn⟩ := and_e hn
  obtain ⟨n19, hn⟩ := and_e hn
  obtain ⟨n20, hn⟩ := and_e hn
  have n21 := hn
  obtain ⟨w_R, ev_R⟩ := exa_v n0
  have S_R := Sta.start ev_R (Or.inr ⟨(hw _ (List.mem_of_getElem? (i := 31) rfl)), (hw _ (List.mem_of_getElem? (i := 32) rfl))⟩)
  have E_R := Exa.start ev_R n0
  obtain ⟨s_R, es_R⟩ := exa_v n7
  have G_R := own_fldR ev_R es_R
  have X_R := Exa.start es_R n7
  obtain ⟨v_R, ea_R⟩ := arr_v n9
  have H_R := own_fldR es_R ea_R
  obtain ⟨cl_R, A_R⟩ := Arr.start ea_R n9
  have l_R := own_lenS (own_eqi (Term.int_eval _) n10) ea_R A_R.1 (by decide)
  have D_R := own_fld es_R (Term.int_eval _) n8
  have R_R : own_Ar s s.heap v_R .byte [(.int (108 : Int32)), (.int (49 : Int32))] := own_ArS A_R l_R ⟨(elem_in (own_eqi (Term.int_eval _) n11) ea_R (Term.int_eval _) A_R.1).2, (elem_in (own_eqi (Term.int_eval _) n12) ea_R (Term.int_eval _) A_R.1).2, trivial⟩
  obtain ⟨w_C, ev_C⟩ := exa_v n5
  have S_C := Sta.start ev_C (Or.inr ⟨(hw _ (List.mem_of_getElem? (i := 31) rfl)), (hw _ (List.mem_of_getElem? (i := 48) rfl))⟩)
  have E_C := Exa.start ev_C n5
  obtain ⟨s_C, es_C⟩ := exa_v n13
  have G_C := own_fldR ev_C es_C
  have X_C := Exa.start es_C n13
  obtain ⟨v_C, ea_C⟩ := arr_v n15
  have H_C := own_fldR es_C ea_C
  obtain ⟨cl_C, A_C⟩ := Arr.start ea_C n15
  have l_C := own_lenS (own_eqi (Term.int_eval _) n16) ea_C A_C.1 (by decide)
  have D_C := own_fld es_C (Term.int_eval _) n14
  have R_C : own_Ar s s.heap v_C .byte [(.int (108 : Int32)), (.int (105 : Int32)), (.int (110 : Int32)), (.int (102 : Int32))] := own_ArS A_C l_C ⟨(elem_in (own_eqi (Term.int_eval _) n17) ea_C (Term.int_eval _) A_C.1).2, (elem_in (own_eqi (Term.int_eval _) n18) ea_C (Term.int_eval _) A_C.1).2, (elem_in (own_eqi (Term.int_eval _) n19) ea_C (Term.int_eval _) A_C.1).2, (elem_in (own_eqi (Term.int_eval _) n20) ea_C (Term.int_eval _) A_C.1).2, trivial⟩
  obtain ⟨w_V, ev_V⟩ := arr_v n1
  have S_V := Sta.start ev_V (Or.inl (hw _ (List.mem_of_getElem? (i := 49) rfl)))
  have E_V := Exa.start ev_V n2
  obtain ⟨cl_V, A_V⟩ := Arr.start ev_V n1
  have l_V := own_lenS (own_eqi (Term.int_eval _) n3) ev_V A_V.1 (by decide)
  have R_V : own_Ar s s.heap w_V (.object "com/example/minsum/minsum/model/Norm") [(.ref w_R), (.ref w_C)] := own_ArS A_V l_V ⟨(elem_in (own_eqr ev_R n4) ev_V (Term.int_eval _) A_V.1).2, (elem_in (own_eqr ev_C n6) ev_V (Term.int_eval _) A_V.1).2, trivial⟩
  have ne_CR : s_C ≠ s_R := fun z => gotF (eq_R es_C es_R rfl rfl) (not_v n21) (by rw [z])
  obtain ⟨hsets, hown0⟩ := atoms_of _ (rest_1_c_eq ▸ (show rest_1_c.before _ s = true from hrest))
  have nz := not_v (Cond.before_iff.mp (hsets _ (List.mem_of_getElem? (i := 2) rfl)))
  obtain ⟨cp, ecs⟩ := is_v (Cond.before_iff.mp (hsets _ (List.mem_of_getElem? (i := 1) rfl)))
  have S_cp := Sta.start ecs (Or.inl (hsets _ (List.mem_of_getElem? (i := 0) rfl)))
  have cp0 : ¬ (cp = (0 : Int32)) := gotF (Cond.eq_ints ecs (Term.int_eval (0))) nz
  have FX : own_F s s.heap w_R w_C s_R s_C v_R v_C w_V cp := ⟨S_R, E_R, G_R, X_R, H_R, D_R, R_R, S_C, E_C, G_C, X_C, H_C, D_C, R_C, S_V, E_V, R_V, S_cp⟩
  obtain ⟨n, o, h1, h2, h3, _, L, rfl, ⟨rfl, N⟩, hq⟩ := rm0 l s _ hw tables_1 i0 w_R w_C s_R s_C v_R v_C w_V cp s.heap FX cp0 ne_CR p e ha hc hk s m _ below hf ((Spec.applies_iff_loose hf).mp happ).1 ⟨rfl, State.Warmed39.refl s, rfl⟩ trivial
  refine ⟨n, _, h1, h2, h3, hpost _ _ _ _ _ _ ⟨Cond.after_iff.mpr rfl, Cond.after_iff.mpr (eq_i res_at (Term.int_eval (1)) rfl), trivial⟩ ⟨hq.1, hq.2.1, (hq.2.2.sift fun y hy => Or.inr (N y hy)).mono (by decide) (by decide)⟩⟩
theorem main_1_1 : Claimed_1_1 := comes_1 fun _ _ _ _ _ _ h hF => ⟨h.1, hF⟩
theorem main_1_2 : Claimed_1_2 := comes_1 fun _ _ _ _ _ _ h hF => ⟨h.2.1, hF⟩
end Jvm.Pilot.@@N@@
namespace Jvm.Pilot.@@N@@
open Jvm Jvm.ClassFile Sem Op Lib Jvm.Free Jvm.Stand Jvm.Pilot.@@N@@.Jvm.D
/-! MADE BY PROGRAM (witnessworld.py) out of the Statement's table words and the real class files: 22 classes; the members and pool entries that the words name. The judged class is class 1, her method 1. -/
namespace start1
open Jvm.ClassFile
def u (s : String) : CpInfo := .utf8 (stringToUtf16 s)
/-- a pool by its gaps: so many unusable entries, then the entry; so many at the end -/
def gap : Nat → List CpInfo → List CpInfo
  | 0, r => r
  | n + 1, r => .unusable :: gap n r
def poolList (es : List (Nat × CpInfo)) (last : Nat) : List CpInfo := es.foldr (fun e r => gap e.1 (e.2 :: r)) (gap last [])
def pool (es : List (Nat × CpInfo)) (last : Nat) : Array CpInfo := ⟨poolList es last⟩
def fileOf (pool : Array CpInfo) (this : Nat) (attrs : Array Attribute := #[]) (ms : Array MethodInfo := #[]) (fl : Nat := 33) (sup : Nat := 0) (ifs : Array Nat := #[]) (fds : Array FieldInfo := #[]) : ClassFile where
  minorVersion := 0
  majorVersion := 65
  constantPool := pool
  accessFlags := fl
  thisClass := this
  superClass := sup
  interfaces := ifs
  fields := fds
  methods := ms
  attributes := attrs
def plain (name : String) (sup : Option ClassId) : Class where
  name := name
  kind := .ordinary
  loader := none
  accessFlags := 33
  super := sup
  interfaces := #[]
  cf := none
  fields := #[]
  methods := #[]
  instanceTypes := #[]
  staticTypes := #[]
  resolved := #[]
  callSites := []
  init := .initialized
  statics := none
  mirror := none

def pool0 : Array CpInfo := pool [(5, u "<init>"), (0, u "()V"), (1, .class_ 10), (1, u "java/lang/Object"), (85, u "clone"), (0, u "()Ljava/lang/Object;")] 26

def k0c0 : Code := { maxStack := 0, maxLocals := 1, code := object_method_1_code, exceptionTable := #[], attributes := #[] }
def k0m0 : Method := { name := "<init>", desc := "()V", sig := { parameters := [], returnType := none }, accessFlags := 1, code := some k0c0 }
def k0m1 : Method := { name := "clone", desc := "()Ljava/lang/Object;", sig := { parameters := [], returnType := some (.object "java/lang/Object") }, accessFlags := 260, code := none }
/-- java/lang/Object -/
def k0 : Class := { plain "java/lang/Object" none with
  accessFlags := 33
  interfaces := #[]
  cf := some (fileOf pool0 8 #[] #[{ accessFlags := 1, nameIndex := 5, descriptorIndex := 6, attributes := #[] }, { accessFlags := 260, nameIndex := 96, descriptorIndex := 97, attributes := #[] }] 33 0 #[] #[])
  fields := #[]
  methods := #[k0m0, k0m1]
  instanceTypes := #[]
  staticTypes := #[]
  resolved := Array.replicate 124 none
  statics := none }

def pool1 : Array CpInfo := pool [(2, .class_ 4), (1, u "java/lang/Object"), (0, u "<init>"), (0, u "()V"), (0, .class_ 8), (0, u "java/lang/String"), (0, .methodref 7 10), (0, .nameAndType 5 11), (0, u "([C)V"), (0, .fieldref 13 14), (0, .class_ 15), (0, .nameAndType 16 17), (0, u "com/example/minsum/minsum/model/Norm"), (0, u "CHEBYSHEV"), (0, u "Lcom/example/minsum/minsum/model/Norm;"), (0, .fieldref 13 19), (0, .nameAndType 20 17), (0, u "RECTILINEAR"), (0, .methodref 13 22), (0, .nameAndType 23 24), (0, u "fromKey"), (0, u "(Ljava/lang/String;)Lcom/example/minsum/minsum/model/Norm;"), (0, .methodref 13 26), (0, .nameAndType 27 28), (0, u "key"), (0, u "()Ljava/lang/String;"), (0, .methodref 7 30), (0, .nameAndType 31 32), (0, u "equals"), (0, u "(Ljava/lang/Object;)Z"), (0, .class_ 34), (0, u "com/example/minsum/minsum/model/NormFromKeyPinLaw"), (2, u "law"), (0, u "(I)Z")] 5

def k1m0 : Method := { name := "<init>", desc := "()V", sig := { parameters := [], returnType := none }, accessFlags := 2, code := none }
def k1c1 : Code := { maxStack := 4, maxLocals := 8, code := code, exceptionTable := #[], attributes := #[] }
def k1m1 : Method := { name := "law", desc := "(I)Z", sig := { parameters := [.int], returnType := some .boolean }, accessFlags := 9, code := some k1c1 }
/-- com/example/minsum/minsum/model/NormFromKeyPinLaw -/
def k1 : Class := { plain "com/example/minsum/minsum/model/NormFromKeyPinLaw" (some 0) with
  accessFlags := 49
  interfaces := #[]
  cf := some (fileOf pool1 33 #[] #[{ accessFlags := 2, nameIndex := 5, descriptorIndex := 6, attributes := #[] }, { accessFlags := 9, nameIndex := 37, descriptorIndex := 38, attributes := #[] }] 49 2 #[] #[])
  fields := #[]
  methods := #[k1m0, k1m1]
  instanceTypes := #[]
  staticTypes := #[]
  resolved := Array.replicate 44 none
  statics := none }

def pool2 : Array CpInfo := pool [(1, .class_ 2), (0, u "java/io/Serializable"), (0, .class_ 4), (0, u "java/lang/Object")] 2

/-- java/io/Serializable -/
def k2 : Class := { plain "java/io/Serializable" (some 0) with
  accessFlags := 1537
  interfaces := #[]
  cf := some (fileOf pool2 1 #[] #[] 1537 3 #[] #[])
  fields := #[]
  methods := #[]
  instanceTypes := #[]
  staticTypes := #[]
  resolved := Array.replicate 7 none
  statics := none }

def pool3 : Array CpInfo := pool [(1, .class_ 2), (0, u "java/lang/Comparable"), (0, .class_ 4), (0, u "java/lang/Object")] 7

/-- java/lang/Comparable -/
def k3 : Class := { plain "java/lang/Comparable" (some 0) with
  accessFlags := 1537
  interfaces := #[]
  cf := some (fileOf pool3 1 #[] #[] 1537 3 #[] #[])
  fields := #[]
  methods := #[]
  instanceTypes := #[]
  staticTypes := #[]
  resolved := Array.replicate 12 none
  statics := none }

def pool4 : Array CpInfo := pool [(2, .class_ 4), (1, u "java/lang/CharSequence"), (42, .class_ 48), (0, u "java/lang/CharSequence$1CodePointIterator"), (10, .class_ 60), (0, u "java/lang/CharSequence$1CharIterator"), (5, .class_ 67), (0, u "java/lang/Object")] 63

/-- java/lang/CharSequence -/
def k4 : Class := { plain "java/lang/CharSequence" (some 0) with
  accessFlags := 1537
  interfaces := #[]
  cf := some (fileOf pool4 2 #[.nestMembers #[47, 59]] #[] 1537 66 #[] #[])
  fields := #[]
  methods := #[]
  instanceTypes := #[]
  staticTypes := #[]
  resolved := Array.replicate 131 none
  statics := none }

def pool5 : Array CpInfo := pool [(1, .class_ 2), (0, u "java/lang/constant/Constable"), (0, .class_ 4), (0, u "java/lang/Object")] 6

/-- java/lang/constant/Constable -/
def k5 : Class := { plain "java/lang/constant/Constable" (some 0) with
  accessFlags := 1537
  interfaces := #[]
  cf := some (fileOf pool5 1 #[] #[] 1537 3 #[] #[])
  fields := #[]
  methods := #[]
  instanceTypes := #[]
  staticTypes := #[]
  resolved := Array.replicate 11 none
  statics := none }

def pool6 : Array CpInfo := pool [(1, .class_ 2), (0, u "java/lang/constant/ConstantDesc"), (0, .class_ 4), (0, u "java/lang/Object")] 32

/-- java/lang/constant/ConstantDesc -/
def k6 : Class := { plain "java/lang/constant/ConstantDesc" (some 0) with
  accessFlags := 1537
  interfaces := #[]
  cf := some (fileOf pool6 1 #[] #[] 1537 3 #[] #[])
  fields := #[]
  methods := #[]
  instanceTypes := #[]
  staticTypes := #[]
  resolved := Array.replicate 37 none
  statics := none }

def pool7 : Array CpInfo := pool [(1, .methodref 2 3), (0, .class_ 4), (0, .nameAndType 5 6), (0, u "java/lang/Object"), (0, u "<init>"), (0, u "()V"), (2, .fieldref 10 11), (0, .class_ 12), (0, .nameAndType 13 14), (0, u "java/lang/String"), (0, u "value"), (0, u "[B"), (0, .fieldref 10 16), (0, .nameAndType 17 18), (0, u "coder"), (0, u "B"), (2, u "hash"), (0, u "I"), (2, u "hashIsZero"), (0, u "Z"), (0, .methodref 10 28), (0, .nameAndType 5 29), (0, u "([CIILjava/lang/Void;)V"), (8, .fieldref 10 39), (0, .nameAndType 40 26), (0, u "COMPACT_STRINGS"), (1, .class_ 44), (1, u "java/lang/StringUTF16"), (0, u "compress"), (1, .methodref 42 48), (0, .nameAndType 49 50), (0, u "coderFromArrayLen"), (0, u "([BI)B"), (56, .class_ 109), (1, u "java/lang/StringLatin1"), (67, .methodref 42 178), (0, .nameAndType 45 179), (0, u "([CII)[B"), (361, .methodref 107 542), (0, .nameAndType 543 544), (0, u "equals"), (0, u "([B[B)Z"), (28, u "(Ljava/lang/Object;)Z"), (1, .class_ 576), (0, u "java/lang/CharSequence"), (22, u "CASE_INSENSITIVE_ORDER"), (0, u "Ljava/util/Comparator;"), (409, u "([C)V"), (90, u "serialPersistentFields"), (0, u "[Ljava/io/ObjectStreamField;"), (0, .class_ 1104), (0, u "java/lang/String$CaseInsensitiveComparator"), (1, .class_ 1107), (0, u "java/io/Serializable"), (0, .class_ 1109), (0, u "java/lang/Comparable"), (0, .class_ 1111), (0, u "java/lang/constant/Constable"), (0, .class_ 1113), (0, u "java/lang/constant/ConstantDesc"), (2, u "serialVersionUID"), (0, u "J"), (3, u "REPL"), (0, u "C"), (2, u "LATIN1"), (1, u "UTF16")] 323

def k7m0 : Method := { name := "<init>", desc := "()V", sig := { parameters := [], returnType := none }, accessFlags := 1, code := none }
def k7c1 : Code := { maxStack := 5, maxLocals := 2, code := jdk_42_method_3_code, exceptionTable := #[], attributes := #[] }
def k7m1 : Method := { name := "<init>", desc := "([C)V", sig := { parameters := [(.array .char)], returnType := none }, accessFlags := 1, code := some k7c1 }
def k7c2 : Code := { maxStack := 2, maxLocals := 3, code := jdk_42_method_66_code, exceptionTable := #[], attributes := #[] }
def k7m2 : Method := { name := "equals", desc := "(Ljava/lang/Object;)Z", sig := { parameters := [(.object "java/lang/Object")], returnType := some .boolean }, accessFlags := 1, code := some k7c2 }
def k7c3 : Code := { maxStack := 4, maxLocals := 6, code := jdk_42_method_149_code, exceptionTable := #[], attributes := #[] }
def k7m3 : Method := { name := "<init>", desc := "([CIILjava/lang/Void;)V", sig := { parameters := [(.array .char), .int, .int, (.object "java/lang/Void")], returnType := none }, accessFlags := 2, code := some k7c3 }
/-- java/lang/String -/
def k7 : Class := { plain "java/lang/String" (some 0) with
  accessFlags := 49
  interfaces := #[2, 3, 4, 5, 6]
  cf := some (fileOf pool7 10 #[.nestMembers #[1103]] #[{ accessFlags := 1, nameIndex := 5, descriptorIndex := 6, attributes := #[] }, { accessFlags := 1, nameIndex := 5, descriptorIndex := 1010, attributes := #[] }, { accessFlags := 1, nameIndex := 543, descriptorIndex := 573, attributes := #[] }, { accessFlags := 2, nameIndex := 5, descriptorIndex := 29, attributes := #[] }] 49 2 #[1106, 1108, 575, 1110, 1112] #[{ accessFlags := 18, nameIndex := 13, descriptorIndex := 14, attributes := #[] }, { accessFlags := 18, nameIndex := 17, descriptorIndex := 18, attributes := #[] }, { accessFlags := 2, nameIndex := 21, descriptorIndex := 22, attributes := #[] }, { accessFlags := 2, nameIndex := 25, descriptorIndex := 26, attributes := #[] }, { accessFlags := 26, nameIndex := 1116, descriptorIndex := 1117, attributes := #[] }, { accessFlags := 24, nameIndex := 40, descriptorIndex := 26, attributes := #[] }, { accessFlags := 26, nameIndex := 1101, descriptorIndex := 1102, attributes := #[] }, { accessFlags := 26, nameIndex := 1121, descriptorIndex := 1122, attributes := #[] }, { accessFlags := 25, nameIndex := 599, descriptorIndex := 600, attributes := #[] }, { accessFlags := 24, nameIndex := 1125, descriptorIndex := 18, attributes := #[] }, { accessFlags := 24, nameIndex := 1127, descriptorIndex := 18, attributes := #[] }])
  fields := #[{ name := "value", type := (.array .byte), accessFlags := 18, slot := 0, constantValue := 0 }, { name := "coder", type := .byte, accessFlags := 18, slot := 1, constantValue := 0 }, { name := "hash", type := .int, accessFlags := 2, slot := 2, constantValue := 0 }, { name := "hashIsZero", type := .boolean, accessFlags := 2, slot := 3, constantValue := 0 }, { name := "serialVersionUID", type := .long, accessFlags := 26, slot := 0, constantValue := 0 }, { name := "COMPACT_STRINGS", type := .boolean, accessFlags := 24, slot := 1, constantValue := 0 }, { name := "serialPersistentFields", type := (.array (.object "java/io/ObjectStreamField")), accessFlags := 26, slot := 2, constantValue := 0 }, { name := "REPL", type := .char, accessFlags := 26, slot := 3, constantValue := 0 }, { name := "CASE_INSENSITIVE_ORDER", type := (.object "java/util/Comparator"), accessFlags := 25, slot := 4, constantValue := 0 }, { name := "LATIN1", type := .byte, accessFlags := 24, slot := 5, constantValue := 0 }, { name := "UTF16", type := .byte, accessFlags := 24, slot := 6, constantValue := 0 }]
  methods := #[k7m0, k7m1, k7m2, k7m3]
  instanceTypes := #[(.array .byte), .byte, .int, .boolean]
  staticTypes := #[.long, .boolean, (.array (.object "java/io/ObjectStreamField")), .char, (.object "java/util/Comparator"), .byte, .byte]
  resolved := Array.replicate 1451 none
  statics := some 0 }

def pool8 : Array CpInfo := pool [(6, .class_ 8), (1, u "java/lang/Object"), (0, u "<init>"), (0, u "()V"), (1, .class_ 14), (1, u "java/lang/StringUTF16"), (31, u "$assertionsDisabled"), (0, u "Z"), (13, u "HI_BYTE_SHIFT"), (0, u "I"), (2, u "LO_BYTE_SHIFT"), (49, .methodref 12 116), (0, .nameAndType 117 118), (0, u "compress"), (0, u "([CI[BII)I"), (3, u "([CII)[B"), (138, u "coderFromArrayLen"), (0, u "([BI)B"), (106, .class_ 371), (1, u "java/lang/StringUTF16$LinesSpliterator"), (58, u "MAX_LENGTH"), (196, .class_ 628), (0, u "java/lang/StringUTF16$CodePointsSpliterator"), (0, .class_ 630), (0, u "java/lang/StringUTF16$CharsSpliterator")] 4

def k8m0 : Method := { name := "<init>", desc := "()V", sig := { parameters := [], returnType := none }, accessFlags := 0, code := none }
def k8c1 : Code := { maxStack := 2, maxLocals := 2, code := jdk_52_method_15_code, exceptionTable := #[], attributes := #[] }
def k8m1 : Method := { name := "coderFromArrayLen", desc := "([BI)B", sig := { parameters := [(.array .byte), .int], returnType := some .byte }, accessFlags := 8, code := some k8c1 }
def k8c2 : Code := { maxStack := 5, maxLocals := 6, code := jdk_52_method_16_code, exceptionTable := #[], attributes := #[] }
def k8m2 : Method := { name := "compress", desc := "([CII)[B", sig := { parameters := [(.array .char), .int, .int], returnType := some (.array .byte) }, accessFlags := 9, code := some k8c2 }
def k8c3 : Code := { maxStack := 3, maxLocals := 7, code := jdk_52_method_21_code, exceptionTable := #[], attributes := #[] }
def k8m3 : Method := { name := "compress", desc := "([CI[BII)I", sig := { parameters := [(.array .char), .int, (.array .byte), .int, .int], returnType := some .int }, accessFlags := 9, code := some k8c3 }
/-- java/lang/StringUTF16 -/
def k8 : Class := { plain "java/lang/StringUTF16" (some 0) with
  accessFlags := 48
  interfaces := #[]
  cf := some (fileOf pool8 12 #[.nestMembers #[627, 629, 369]] #[{ accessFlags := 0, nameIndex := 9, descriptorIndex := 10, attributes := #[] }, { accessFlags := 8, nameIndex := 261, descriptorIndex := 262, attributes := #[] }, { accessFlags := 9, nameIndex := 117, descriptorIndex := 122, attributes := #[] }, { accessFlags := 9, nameIndex := 117, descriptorIndex := 118, attributes := #[] }] 48 6 #[] #[{ accessFlags := 26, nameIndex := 61, descriptorIndex := 62, attributes := #[] }, { accessFlags := 26, nameIndex := 65, descriptorIndex := 62, attributes := #[] }, { accessFlags := 24, nameIndex := 430, descriptorIndex := 62, attributes := #[] }, { accessFlags := 4120, nameIndex := 46, descriptorIndex := 47, attributes := #[] }])
  fields := #[{ name := "HI_BYTE_SHIFT", type := .int, accessFlags := 26, slot := 0, constantValue := 0 }, { name := "LO_BYTE_SHIFT", type := .int, accessFlags := 26, slot := 1, constantValue := 0 }, { name := "MAX_LENGTH", type := .int, accessFlags := 24, slot := 2, constantValue := 0 }, { name := "$assertionsDisabled", type := .boolean, accessFlags := 4120, slot := 3, constantValue := 0 }]
  methods := #[k8m0, k8m1, k8m2, k8m3]
  instanceTypes := #[]
  staticTypes := #[.int, .int, .int, .boolean]
  resolved := Array.replicate 635 none
  statics := none }

def pool9 : Array CpInfo := pool [(2, .class_ 4), (1, u "java/lang/Enum"), (0, u "name"), (0, u "Ljava/lang/String;"), (2, u "ordinal"), (0, u "I"), (1, .class_ 14), (1, u "java/lang/Object"), (4, u "hash"), (86, .class_ 108), (1, u "java/lang/Enum$EnumDesc"), (2, .class_ 112), (0, u "java/lang/constant/Constable"), (0, .class_ 114), (0, u "java/lang/Comparable"), (0, .class_ 116), (0, u "java/io/Serializable")] 87

/-- java/lang/Enum -/
def k9 : Class := { plain "java/lang/Enum" (some 0) with
  accessFlags := 1057
  interfaces := #[5, 3, 2]
  cf := some (fileOf pool9 2 #[.nestMembers #[106]] #[] 1057 12 #[111, 113, 115] #[{ accessFlags := 18, nameIndex := 5, descriptorIndex := 6, attributes := #[] }, { accessFlags := 18, nameIndex := 9, descriptorIndex := 10, attributes := #[] }, { accessFlags := 2, nameIndex := 19, descriptorIndex := 10, attributes := #[] }])
  fields := #[{ name := "name", type := (.object "java/lang/String"), accessFlags := 18, slot := 0, constantValue := 0 }, { name := "ordinal", type := .int, accessFlags := 18, slot := 1, constantValue := 0 }, { name := "hash", type := .int, accessFlags := 2, slot := 2, constantValue := 0 }]
  methods := #[]
  instanceTypes := #[(.object "java/lang/String"), .int, .int]
  staticTypes := #[]
  resolved := Array.replicate 204 none
  statics := none }

def pool10 : Array CpInfo := pool [(1, .class_ 2), (0, u "com/example/minsum/minsum/model/Norm"), (2, u "RECTILINEAR"), (0, u "Lcom/example/minsum/minsum/model/Norm;"), (2, u "CHEBYSHEV"), (0, .fieldref 1 11), (0, .nameAndType 12 13), (0, u "$VALUES"), (0, u "[Lcom/example/minsum/minsum/model/Norm;"), (0, .methodref 15 16), (0, .class_ 13), (0, .nameAndType 17 18), (0, u "clone"), (0, u "()Ljava/lang/Object;"), (1, .class_ 22), (1, u "java/lang/Enum"), (6, .fieldref 1 30), (0, .nameAndType 31 32), (0, u "key"), (0, u "Ljava/lang/String;"), (0, .methodref 1 34), (0, .nameAndType 35 36), (0, u "values"), (0, u "()[Lcom/example/minsum/minsum/model/Norm;"), (0, .methodref 38 39), (0, .class_ 40), (0, .nameAndType 41 42), (0, u "java/lang/String"), (0, u "equals"), (0, u "(Ljava/lang/Object;)Z"), (51, u "(Ljava/lang/String;)Lcom/example/minsum/minsum/model/Norm;"), (2, u "()Ljava/lang/String;"), (0, u "fromKey")] 35

def k10c0 : Code := { maxStack := 1, maxLocals := 0, code := prog_11_method_1_code, exceptionTable := #[], attributes := #[] }
def k10m0 : Method := { name := "values", desc := "()[Lcom/example/minsum/minsum/model/Norm;", sig := { parameters := [], returnType := some (.array (.object "com/example/minsum/minsum/model/Norm")) }, accessFlags := 9, code := some k10c0 }
def k10c1 : Code := { maxStack := 1, maxLocals := 1, code := prog_11_method_4_code, exceptionTable := #[], attributes := #[] }
def k10m1 : Method := { name := "key", desc := "()Ljava/lang/String;", sig := { parameters := [], returnType := some (.object "java/lang/String") }, accessFlags := 1, code := some k10c1 }
def k10c2 : Code := { maxStack := 4, maxLocals := 5, code := prog_11_method_5_code, exceptionTable := #[], attributes := #[] }
def k10m2 : Method := { name := "fromKey", desc := "(Ljava/lang/String;)Lcom/example/minsum/minsum/model/Norm;", sig := { parameters := [(.object "java/lang/String")], returnType := some (.object "com/example/minsum/minsum/model/Norm") }, accessFlags := 9, code := some k10c2 }
/-- com/example/minsum/minsum/model/Norm -/
def k10 : Class := { plain "com/example/minsum/minsum/model/Norm" (some 9) with
  accessFlags := 16433
  interfaces := #[]
  cf := some (fileOf pool10 1 #[] #[{ accessFlags := 9, nameIndex := 35, descriptorIndex := 36, attributes := #[] }, { accessFlags := 1, nameIndex := 31, descriptorIndex := 97, attributes := #[] }, { accessFlags := 9, nameIndex := 98, descriptorIndex := 94, attributes := #[] }] 16433 20 #[] #[{ accessFlags := 16409, nameIndex := 5, descriptorIndex := 6, attributes := #[] }, { accessFlags := 16409, nameIndex := 9, descriptorIndex := 6, attributes := #[] }, { accessFlags := 18, nameIndex := 31, descriptorIndex := 32, attributes := #[] }, { accessFlags := 4122, nameIndex := 12, descriptorIndex := 13, attributes := #[] }])
  fields := #[{ name := "RECTILINEAR", type := (.object "com/example/minsum/minsum/model/Norm"), accessFlags := 16409, slot := 0, constantValue := 0 }, { name := "CHEBYSHEV", type := (.object "com/example/minsum/minsum/model/Norm"), accessFlags := 16409, slot := 1, constantValue := 0 }, { name := "key", type := (.object "java/lang/String"), accessFlags := 18, slot := 3, constantValue := 0 }, { name := "$VALUES", type := (.array (.object "com/example/minsum/minsum/model/Norm")), accessFlags := 4122, slot := 2, constantValue := 0 }]
  methods := #[k10m0, k10m1, k10m2]
  instanceTypes := #[(.object "java/lang/String"), .int, .int, (.object "java/lang/String")]
  staticTypes := #[(.object "com/example/minsum/minsum/model/Norm"), (.object "com/example/minsum/minsum/model/Norm"), (.array (.object "com/example/minsum/minsum/model/Norm"))]
  resolved := Array.replicate 134 none
  statics := some 1 }

def pool11 : Array CpInfo := pool [(1, .class_ 2), (0, u "java/lang/Cloneable"), (0, .class_ 4), (0, u "java/lang/Object")] 2

/-- java/lang/Cloneable -/
def k11 : Class := { plain "java/lang/Cloneable" (some 0) with
  accessFlags := 1537
  interfaces := #[]
  cf := some (fileOf pool11 1 #[] #[] 1537 3 #[] #[])
  fields := #[]
  methods := #[]
  instanceTypes := #[]
  staticTypes := #[]
  resolved := Array.replicate 7 none
  statics := none }

def pool12 : Array CpInfo := pool [(4, .class_ 6), (1, u "java/lang/Object"), (0, u "<init>"), (0, u "()V"), (5, .class_ 16), (1, u "java/lang/StringLatin1"), (104, u "$assertionsDisabled"), (0, u "Z"), (98, .class_ 223), (1, u "java/lang/StringLatin1$LinesSpliterator"), (57, u "equals"), (0, u "([B[B)Z"), (107, .class_ 391), (0, u "java/lang/StringLatin1$CharsSpliterator")] 3

def k12m0 : Method := { name := "<init>", desc := "()V", sig := { parameters := [], returnType := none }, accessFlags := 0, code := none }
def k12c1 : Code := { maxStack := 3, maxLocals := 3, code := jdk_43_method_13_code, exceptionTable := #[], attributes := #[] }
def k12m1 : Method := { name := "equals", desc := "([B[B)Z", sig := { parameters := [(.array .byte), (.array .byte)], returnType := some .boolean }, accessFlags := 9, code := some k12c1 }
/-- java/lang/StringLatin1 -/
def k12 : Class := { plain "java/lang/StringLatin1" (some 0) with
  accessFlags := 48
  interfaces := #[]
  cf := some (fileOf pool12 14 #[.nestMembers #[390, 221]] #[{ accessFlags := 0, nameIndex := 7, descriptorIndex := 8, attributes := #[] }, { accessFlags := 9, nameIndex := 281, descriptorIndex := 282, attributes := #[] }] 48 4 #[] #[{ accessFlags := 4120, nameIndex := 121, descriptorIndex := 122, attributes := #[] }])
  fields := #[{ name := "$assertionsDisabled", type := .boolean, accessFlags := 4120, slot := 0, constantValue := 0 }]
  methods := #[k12m0, k12m1]
  instanceTypes := #[]
  staticTypes := #[.boolean]
  resolved := Array.replicate 395 none
  statics := none }

def pool13 : Array CpInfo := pool [(2, .class_ 4), (1, u "java/lang/Object"), (0, u "<init>"), (0, u "()V"), (17, .class_ 26), (1, u "jdk/internal/util/Preconditions"), (28, .class_ 56), (0, u "jdk/internal/util/Preconditions$4"), (57, .class_ 115), (0, u "jdk/internal/util/Preconditions$1"), (7, u "SIOOBE_FORMATTER"), (0, u "Ljava/util/function/BiFunction;"), (0, .class_ 126), (0, u "jdk/internal/util/Preconditions$2"), (3, u "AIOOBE_FORMATTER"), (0, .class_ 132), (0, u "jdk/internal/util/Preconditions$3"), (3, u "IOOBE_FORMATTER")] 57

def k13m0 : Method := { name := "<init>", desc := "()V", sig := { parameters := [], returnType := none }, accessFlags := 1, code := none }
/-- jdk/internal/util/Preconditions -/
def k13 : Class := { plain "jdk/internal/util/Preconditions" (some 0) with
  accessFlags := 33
  interfaces := #[]
  cf := some (fileOf pool13 24 #[.nestMembers #[55, 131, 125, 114]] #[{ accessFlags := 1, nameIndex := 5, descriptorIndex := 6, attributes := #[] }] 33 2 #[] #[{ accessFlags := 25, nameIndex := 123, descriptorIndex := 124, attributes := #[] }, { accessFlags := 25, nameIndex := 130, descriptorIndex := 124, attributes := #[] }, { accessFlags := 25, nameIndex := 136, descriptorIndex := 124, attributes := #[] }])
  fields := #[{ name := "SIOOBE_FORMATTER", type := (.object "java/util/function/BiFunction"), accessFlags := 25, slot := 0, constantValue := 0 }, { name := "AIOOBE_FORMATTER", type := (.object "java/util/function/BiFunction"), accessFlags := 25, slot := 1, constantValue := 0 }, { name := "IOOBE_FORMATTER", type := (.object "java/util/function/BiFunction"), accessFlags := 25, slot := 2, constantValue := 0 }]
  methods := #[k13m0]
  instanceTypes := #[]
  staticTypes := #[(.object "java/util/function/BiFunction"), (.object "java/util/function/BiFunction"), (.object "java/util/function/BiFunction")]
  resolved := Array.replicate 194 none
  statics := some 2 }

def pool14 : Array CpInfo := pool [(9, u "<init>"), (6, .class_ 18), (1, u "java/lang/Object"), (0, u "()V"), (1, .class_ 23), (1, u "jdk/internal/util/ArraysSupport"), (0, u "LOG2_ARRAY_LONG_INDEX_SCALE"), (0, u "I"), (2, u "U"), (0, u "Ljdk/internal/misc/Unsafe;"), (8, u "BIG_ENDIAN"), (0, u "Z"), (8, u "LOG2_BYTE_BIT_SIZE"), (4, u "LOG2_ARRAY_INT_INDEX_SCALE"), (54, u "JLA"), (0, u "Ljdk/internal/access/JavaLangAccess;"), (11, u "LOG2_ARRAY_BOOLEAN_INDEX_SCALE"), (9, u "LOG2_ARRAY_BYTE_INDEX_SCALE"), (5, u "LOG2_ARRAY_CHAR_INDEX_SCALE"), (5, u "LOG2_ARRAY_SHORT_INDEX_SCALE"), (18, u "LOG2_ARRAY_FLOAT_INDEX_SCALE"), (24, u "LOG2_ARRAY_DOUBLE_INDEX_SCALE"), (89, u "T_BOOLEAN"), (2, u "T_CHAR"), (1, u "T_FLOAT"), (1, u "T_DOUBLE"), (1, u "T_BYTE"), (1, u "T_SHORT"), (1, u "T_INT"), (1, u "T_LONG"), (1, u "SOFT_MAX_ARRAY_LENGTH")] 83

def k14m0 : Method := { name := "<init>", desc := "()V", sig := { parameters := [], returnType := none }, accessFlags := 2, code := none }
/-- jdk/internal/util/ArraysSupport -/
def k14 : Class := { plain "jdk/internal/util/ArraysSupport" (some 0) with
  accessFlags := 33
  interfaces := #[]
  cf := some (fileOf pool14 21 #[] #[{ accessFlags := 2, nameIndex := 9, descriptorIndex := 19, attributes := #[] }] 33 16 #[] #[{ accessFlags := 24, nameIndex := 28, descriptorIndex := 29, attributes := #[] }, { accessFlags := 26, nameIndex := 38, descriptorIndex := 39, attributes := #[] }, { accessFlags := 25, nameIndex := 121, descriptorIndex := 25, attributes := #[] }, { accessFlags := 25, nameIndex := 131, descriptorIndex := 25, attributes := #[] }, { accessFlags := 25, nameIndex := 137, descriptorIndex := 25, attributes := #[] }, { accessFlags := 25, nameIndex := 143, descriptorIndex := 25, attributes := #[] }, { accessFlags := 25, nameIndex := 53, descriptorIndex := 25, attributes := #[] }, { accessFlags := 25, nameIndex := 24, descriptorIndex := 25, attributes := #[] }, { accessFlags := 25, nameIndex := 162, descriptorIndex := 25, attributes := #[] }, { accessFlags := 25, nameIndex := 187, descriptorIndex := 25, attributes := #[] }, { accessFlags := 26, nameIndex := 48, descriptorIndex := 25, attributes := #[] }, { accessFlags := 25, nameIndex := 277, descriptorIndex := 25, attributes := #[] }, { accessFlags := 25, nameIndex := 280, descriptorIndex := 25, attributes := #[] }, { accessFlags := 25, nameIndex := 282, descriptorIndex := 25, attributes := #[] }, { accessFlags := 25, nameIndex := 284, descriptorIndex := 25, attributes := #[] }, { accessFlags := 25, nameIndex := 286, descriptorIndex := 25, attributes := #[] }, { accessFlags := 25, nameIndex := 288, descriptorIndex := 25, attributes := #[] }, { accessFlags := 25, nameIndex := 290, descriptorIndex := 25, attributes := #[] }, { accessFlags := 25, nameIndex := 292, descriptorIndex := 25, attributes := #[] }, { accessFlags := 26, nameIndex := 108, descriptorIndex := 109, attributes := #[] }, { accessFlags := 25, nameIndex := 294, descriptorIndex := 25, attributes := #[] }])
  fields := #[{ name := "U", type := (.object "jdk/internal/misc/Unsafe"), accessFlags := 24, slot := 0, constantValue := 0 }, { name := "BIG_ENDIAN", type := .boolean, accessFlags := 26, slot := 1, constantValue := 0 }, { name := "LOG2_ARRAY_BOOLEAN_INDEX_SCALE", type := .int, accessFlags := 25, slot := 2, constantValue := 0 }, { name := "LOG2_ARRAY_BYTE_INDEX_SCALE", type := .int, accessFlags := 25, slot := 3, constantValue := 0 }, { name := "LOG2_ARRAY_CHAR_INDEX_SCALE", type := .int, accessFlags := 25, slot := 4, constantValue := 0 }, { name := "LOG2_ARRAY_SHORT_INDEX_SCALE", type := .int, accessFlags := 25, slot := 5, constantValue := 0 }, { name := "LOG2_ARRAY_INT_INDEX_SCALE", type := .int, accessFlags := 25, slot := 6, constantValue := 0 }, { name := "LOG2_ARRAY_LONG_INDEX_SCALE", type := .int, accessFlags := 25, slot := 7, constantValue := 0 }, { name := "LOG2_ARRAY_FLOAT_INDEX_SCALE", type := .int, accessFlags := 25, slot := 8, constantValue := 0 }, { name := "LOG2_ARRAY_DOUBLE_INDEX_SCALE", type := .int, accessFlags := 25, slot := 9, constantValue := 0 }, { name := "LOG2_BYTE_BIT_SIZE", type := .int, accessFlags := 26, slot := 10, constantValue := 0 }, { name := "T_BOOLEAN", type := .int, accessFlags := 25, slot := 11, constantValue := 0 }, { name := "T_CHAR", type := .int, accessFlags := 25, slot := 12, constantValue := 0 }, { name := "T_FLOAT", type := .int, accessFlags := 25, slot := 13, constantValue := 0 }, { name := "T_DOUBLE", type := .int, accessFlags := 25, slot := 14, constantValue := 0 }, { name := "T_BYTE", type := .int, accessFlags := 25, slot := 15, constantValue := 0 }, { name := "T_SHORT", type := .int, accessFlags := 25, slot := 16, constantValue := 0 }, { name := "T_INT", type := .int, accessFlags := 25, slot := 17, constantValue := 0 }, { name := "T_LONG", type := .int, accessFlags := 25, slot := 18, constantValue := 0 }, { name := "JLA", type := (.object "jdk/internal/access/JavaLangAccess"), accessFlags := 26, slot := 19, constantValue := 0 }, { name := "SOFT_MAX_ARRAY_LENGTH", type := .int, accessFlags := 25, slot := 20, constantValue := 0 }]
  methods := #[k14m0]
  instanceTypes := #[]
  staticTypes := #[(.object "jdk/internal/misc/Unsafe"), .boolean, .int, .int, .int, .int, .int, .int, .int, .int, .int, .int, .int, .int, .int, .int, .int, .int, .int, (.object "jdk/internal/access/JavaLangAccess"), .int]
  resolved := Array.replicate 378 none
  statics := none }

/-- the primitive byte -/
def k15 : Class := { plain "byte" none with kind := .primitive 'B', accessFlags := 0x411 }
/-- [B -/
def k16 : Class := { plain "[B" (some 0) with kind := .array 15 .byte, interfaces := #[11, 2], accessFlags := 1041 }

/-- the primitive char -/
def k17 : Class := { plain "char" none with kind := .primitive 'C', accessFlags := 0x411 }
/-- [C -/
def k18 : Class := { plain "[C" (some 0) with kind := .array 17 .char, interfaces := #[11, 2], accessFlags := 1041 }

/-- the primitive int -/
def k19 : Class := { plain "int" none with kind := .primitive 'I', accessFlags := 0x411 }
/-- [I -/
def k20 : Class := { plain "[I" (some 0) with kind := .array 19 .int, interfaces := #[11, 2], accessFlags := 1041 }

/-- [Lcom/example/minsum/minsum/model/Norm; -/
def k21 : Class := { plain "[Lcom/example/minsum/minsum/model/Norm;" (some 0) with kind := .array 10 (.object "com/example/minsum/minsum/model/Norm"), interfaces := #[11, 2], accessFlags := 1041 }

def heap : Heap := #[{ cls := 7, slots := #[.long 0, .int 1, .null, .int 0, .null, .int 0, .int 0], vm := .statics 7 },
  { cls := 10, slots := #[.ref 4, .ref 5, .ref 3], vm := .statics 10 },
  { cls := 13, slots := #[.null, .null, .null], vm := .statics 13 },
  { cls := 21, slots := #[.ref 4, .ref 5], vm := .none },
  { cls := 10, slots := #[.null, .int 0, .int 0, .ref 6], vm := .none },
  { cls := 10, slots := #[.null, .int 0, .int 0, .ref 8], vm := .none },
  { cls := 7, slots := #[.ref 7, .int 0, .int 0, .int 0], vm := .none },
  { cls := 16, slots := #[.int 108, .int 49], vm := .none },
  { cls := 7, slots := #[.ref 9, .int 0, .int 0, .int 0], vm := .none },
  { cls := 16, slots := #[.int 108, .int 105, .int 110, .int 102], vm := .none }]
def classes : Array Class := #[k0, k1, k2, k3, k4, k5, k6, k7, k8, k9, k10, k11, k12, k13, k14, k15, k16, k17, k18, k19, k20, k21]
def interned : List (Array UInt16 × Addr) := []
def slotsUsed : Nat := 37
def theMethod : MethodId := ⟨1, 1⟩
def args0 : Array Value := #[.int 5]
def aboutOver (below : List Frame) : State where
  vm := { classes := classes, interned := interned.toArray }
  heap := heap
  slotsUsed := slotsUsed
  threads := #[{ frames := .invoking theMethod args0 :: below }]
def below0 : List Frame := [.native { method := ⟨0, 0⟩, args := #[] }]
def about1 : State := aboutOver below0
def p0 : Program := .bare "" "" ""
def e0 : Env := launch0.env 0 0 0
theorem w_frames : about1.frames = Frame.invoking theMethod args0 :: below0 := rfl
set_option maxRecDepth 65536 in
theorem w_args : argsFit about1.vm theMethod args0 = true := by decide +kernel
set_option maxRecDepth 65536 in
theorem w_heap : heapFits about1 = true := by decide +kernel
set_option maxRecDepth 65536 in
theorem w_runnable : about1.curStatus? = some .runnable := by decide +kernel
set_option maxRecDepth 65536 in
theorem w_alone : about1.alone = true := by decide +kernel
set_option maxRecDepth 65536 in
theorem w_named : about1.methodNamed? x = some theMethod := by decide +kernel
set_option maxRecDepth 65536 in
theorem w_hears : about1.hears theMethod below0 = true := by decide +kernel
set_option maxRecDepth 65536 in
theorem w_ripe : about1.ripe theMethod args0 below0 = true := by decide +kernel
theorem w_running : about1.status = .running := rfl
set_option maxRecDepth 65536 in
theorem w_room : about1.hasRoom e0.platform room_1 = true :=
  launch0.hasRoom_least _ room_1 (by decide +kernel) (by decide +kernel) (by decide +kernel) (by decide +kernel) (by decide +kernel) (by decide +kernel)
theorem allAtoms_all (ts : List Jvm.Cond) (a : Array Jvm.Value) (st : Jvm.State) : (allAtoms ts).before a st = ts.all (fun c => c.before a st) := by
  induction ts with
  | nil => rfl
  | cons c t ih =>
    show (Jvm.Cond.and c (allAtoms t)).before a st = _
    rw [Jvm.Cond.before_and, ih, List.all_cons]
def words1 : List Jvm.Cond := Jvm.Cond.code x code maxLocals ret :: tables_1
/-- a 'code' word, met by the world's own term for the bytes: nothing is compared byte by byte -/
theorem code_word {y : MethodName} {bytes : ByteArray} {mx : Nat} {rt : Option FieldType} {a : Array Value} {s : State} {m : MethodId} {meth : Method} {c : Code} (h1 : s.methodNamed? y = some m) (h2 : s.vm.method? m = some meth) (h3 : meth.code = some c) (h4 : c.code = bytes)
    (h5 : (c.maxLocals == mx && c.exceptionTable.isEmpty && decide (c.maxStack ≤ mostOperands) && decide (meth.sig.returnType = rt) && !meth.locks && decide (parseMethodDescriptor y.desc = some meth.sig)) = true) : (Jvm.Cond.code y bytes mx rt).before a s = true := by
  simp only [Bool.and_eq_true, beq_iff_eq, Bool.not_eq_true', decide_eq_true_eq] at h5
  obtain ⟨⟨⟨⟨⟨g1, g2⟩, g3⟩, g4⟩, g5⟩, g6⟩ := h5
  simp [Cond.before, Cond.holds, Cond.value, h1, h2, h3, h4, g1, g2, g3, g4, g5, g6]
def isCode : Jvm.Cond → Bool
  | .code _ _ _ _ => true
  | _ => false
theorem all_split {L : List Jvm.Cond} {P : Jvm.Cond → Bool} (h1 : L.all (fun c => isCode c || P c) = true) (h2 : ∀ c ∈ L.filter isCode, P c = true) : L.all P = true := by
  refine List.all_eq_true.mpr fun c hc => ?_
  have h := List.all_eq_true.mp h1 c hc
  rcases Bool.eq_false_or_eq_true (isCode c) with hi | hi
  · exact h2 c (List.mem_filter.mpr ⟨hc, hi⟩)
  · simpa [hi] using h
set_option maxRecDepth 65536 in
theorem w_c0 : (Jvm.Cond.code x code maxLocals ret).before args0 about1 = true := code_word (m := ⟨1, 1⟩) (meth := k1m1) (c := k1c1) (by decide +kernel) rfl rfl rfl (by decide +kernel)
set_option maxRecDepth 65536 in
theorem w_c1 : (Jvm.Cond.code ({ cls := "java/lang/String", name := "<init>", desc := "([C)V" } : Jvm.MethodName) jdk_42_method_3_code (2 : Nat) (Option.none : Option Jvm.ClassFile.FieldType)).before args0 about1 = true := code_word (m := ⟨7, 1⟩) (meth := k7m1) (c := k7c1) (by decide +kernel) rfl rfl rfl (by decide +kernel)
set_option maxRecDepth 65536 in
theorem w_c2 : (Jvm.Cond.code ({ cls := "java/lang/String", name := "<init>", desc := "([CIILjava/lang/Void;)V" } : Jvm.MethodName) jdk_42_method_149_code (6 : Nat) (Option.none : Option Jvm.ClassFile.FieldType)).before args0 about1 = true := code_word (m := ⟨7, 3⟩) (meth := k7m3) (c := k7c3) (by decide +kernel) rfl rfl rfl (by decide +kernel)
set_option maxRecDepth 65536 in
theorem w_c3 : (Jvm.Cond.code ({ cls := "java/lang/Object", name := "<init>", desc := "()V" } : Jvm.MethodName) object_method_1_code (1 : Nat) (Option.none : Option Jvm.ClassFile.FieldType)).before args0 about1 = true := code_word (m := ⟨0, 0⟩) (meth := k0m0) (c := k0c0) (by decide +kernel) rfl rfl rfl (by decide +kernel)
set_option maxRecDepth 65536 in
theorem w_c4 : (Jvm.Cond.code ({ cls := "java/lang/StringUTF16", name := "compress", desc := "([CII)[B" } : Jvm.MethodName) jdk_52_method_16_code (6 : Nat) (Option.some (Jvm.ClassFile.FieldType.array Jvm.ClassFile.FieldType.byte))).before args0 about1 = true := code_word (m := ⟨8, 2⟩) (meth := k8m2) (c := k8c2) (by decide +kernel) rfl rfl rfl (by decide +kernel)
set_option maxRecDepth 65536 in
theorem w_c5 : (Jvm.Cond.code ({ cls := "java/lang/StringUTF16", name := "compress", desc := "([CI[BII)I" } : Jvm.MethodName) jdk_52_method_21_code (7 : Nat) (Option.some Jvm.ClassFile.FieldType.int)).before args0 about1 = true := code_word (m := ⟨8, 3⟩) (meth := k8m3) (c := k8c3) (by decide +kernel) rfl rfl rfl (by decide +kernel)
set_option maxRecDepth 65536 in
theorem w_c6 : (Jvm.Cond.code ({ cls := "java/lang/StringUTF16", name := "coderFromArrayLen", desc := "([BI)B" } : Jvm.MethodName) jdk_52_method_15_code (2 : Nat) (Option.some Jvm.ClassFile.FieldType.byte)).before args0 about1 = true := code_word (m := ⟨8, 1⟩) (meth := k8m1) (c := k8c1) (by decide +kernel) rfl rfl rfl (by decide +kernel)
set_option maxRecDepth 65536 in
theorem w_c7 : (Jvm.Cond.code ({ cls := "com/example/minsum/minsum/model/Norm", name := "fromKey", desc := "(Ljava/lang/String;)Lcom/example/minsum/minsum/model/Norm;" } : Jvm.MethodName) prog_11_method_5_code (5 : Nat) (Option.some (Jvm.ClassFile.FieldType.object "com/example/minsum/minsum/model/Norm"))).before args0 about1 = true := code_word (m := ⟨10, 2⟩) (meth := k10m2) (c := k10c2) (by decide +kernel) rfl rfl rfl (by decide +kernel)
set_option maxRecDepth 65536 in
theorem w_c8 : (Jvm.Cond.code ({ cls := "com/example/minsum/minsum/model/Norm", name := "values", desc := "()[Lcom/example/minsum/minsum/model/Norm;" } : Jvm.MethodName) prog_11_method_1_code (0 : Nat) (Option.some (Jvm.ClassFile.FieldType.array (Jvm.ClassFile.FieldType.object "com/example/minsum/minsum/model/Norm")))).before args0 about1 = true := code_word (m := ⟨10, 0⟩) (meth := k10m0) (c := k10c0) (by decide +kernel) rfl rfl rfl (by decide +kernel)
set_option maxRecDepth 65536 in
theorem w_c9 : (Jvm.Cond.code ({ cls := "java/lang/String", name := "equals", desc := "(Ljava/lang/Object;)Z" } : Jvm.MethodName) jdk_42_method_66_code (3 : Nat) (Option.some Jvm.ClassFile.FieldType.boolean)).before args0 about1 = true := code_word (m := ⟨7, 2⟩) (meth := k7m2) (c := k7c2) (by decide +kernel) rfl rfl rfl (by decide +kernel)
set_option maxRecDepth 65536 in
theorem w_c10 : (Jvm.Cond.code ({ cls := "java/lang/StringLatin1", name := "equals", desc := "([B[B)Z" } : Jvm.MethodName) jdk_43_method_13_code (3 : Nat) (Option.some Jvm.ClassFile.FieldType.boolean)).before args0 about1 = true := code_word (m := ⟨12, 1⟩) (meth := k12m1) (c := k12c1) (by decide +kernel) rfl rfl rfl (by decide +kernel)
set_option maxRecDepth 65536 in
theorem w_c11 : (Jvm.Cond.code ({ cls := "com/example/minsum/minsum/model/Norm", name := "key", desc := "()Ljava/lang/String;" } : Jvm.MethodName) prog_11_method_4_code (1 : Nat) (Option.some (Jvm.ClassFile.FieldType.object "java/lang/String"))).before args0 about1 = true := code_word (m := ⟨10, 1⟩) (meth := k10m1) (c := k10c1) (by decide +kernel) rfl rfl rfl (by decide +kernel)
def codes1 : List Jvm.Cond := [Jvm.Cond.code x code maxLocals ret, Jvm.Cond.code ({ cls := "java/lang/String", name := "<init>", desc := "([C)V" } : Jvm.MethodName) jdk_42_method_3_code (2 : Nat) (Option.none : Option Jvm.ClassFile.FieldType), Jvm.Cond.code ({ cls := "java/lang/String", name := "<init>", desc := "([CIILjava/lang/Void;)V" } : Jvm.MethodName) jdk_42_method_149_code (6 : Nat) (Option.none : Option Jvm.ClassFile.FieldType), Jvm.Cond.code ({ cls := "java/lang/Object", name := "<init>", desc := "()V" } : Jvm.MethodName) object_method_1_code (1 : Nat) (Option.none : Option Jvm.ClassFile.FieldType), Jvm.Cond.code ({ cls := "java/lang/StringUTF16", name := "compress", desc := "([CII)[B" } : Jvm.MethodName) jdk_52_method_16_code (6 : Nat) (Option.some (Jvm.ClassFile.FieldType.array Jvm.ClassFile.FieldType.byte)), Jvm.Cond.code ({ cls := "java/lang/StringUTF16", name := "compress", desc := "([CI[BII)I" } : Jvm.MethodName) jdk_52_method_21_code (7 : Nat) (Option.some Jvm.ClassFile.FieldType.int), Jvm.Cond.code ({ cls := "java/lang/StringUTF16", name := "coderFromArrayLen", desc := "([BI)B" } : Jvm.MethodName) jdk_52_method_15_code (2 : Nat) (Option.some Jvm.ClassFile.FieldType.byte), Jvm.Cond.code ({ cls := "com/example/minsum/minsum/model/Norm", name := "fromKey", desc := "(Ljava/lang/String;)Lcom/example/minsum/minsum/model/Norm;" } : Jvm.MethodName) prog_11_method_5_code (5 : Nat) (Option.some (Jvm.ClassFile.FieldType.object "com/example/minsum/minsum/model/Norm")), Jvm.Cond.code ({ cls := "com/example/minsum/minsum/model/Norm", name := "values", desc := "()[Lcom/example/minsum/minsum/model/Norm;" } : Jvm.MethodName) prog_11_method_1_code (0 : Nat) (Option.some (Jvm.ClassFile.FieldType.array (Jvm.ClassFile.FieldType.object "com/example/minsum/minsum/model/Norm"))), Jvm.Cond.code ({ cls := "java/lang/String", name := "equals", desc := "(Ljava/lang/Object;)Z" } : Jvm.MethodName) jdk_42_method_66_code (3 : Nat) (Option.some Jvm.ClassFile.FieldType.boolean), Jvm.Cond.code ({ cls := "java/lang/StringLatin1", name := "equals", desc := "([B[B)Z" } : Jvm.MethodName) jdk_43_method_13_code (3 : Nat) (Option.some Jvm.ClassFile.FieldType.boolean), Jvm.Cond.code ({ cls := "com/example/minsum/minsum/model/Norm", name := "key", desc := "()Ljava/lang/String;" } : Jvm.MethodName) prog_11_method_4_code (1 : Nat) (Option.some (Jvm.ClassFile.FieldType.object "java/lang/String"))]
set_option maxRecDepth 65536 in
theorem codes_eq : words1.filter isCode = codes1 := rfl
theorem w_codes : ∀ c ∈ words1.filter isCode, c.before args0 about1 = true := by
  rw [codes_eq]
  intro c hc
  simp only [codes1, List.mem_cons, List.not_mem_nil, or_false] at hc
  rcases hc with rfl | rfl | rfl | rfl | rfl | rfl | rfl | rfl | rfl | rfl | rfl | rfl
  · exact w_c0
  · exact w_c1
  · exact w_c2
  · exact w_c3
  · exact w_c4
  · exact w_c5
  · exact w_c6
  · exact w_c7
  · exact w_c8
  · exact w_c9
  · exact w_c10
  · exact w_c11
set_option maxRecDepth 65536 in
theorem w_t1 : (words1.take 24).all (fun c => isCode c || c.before args0 about1) = true := by decide +kernel
set_option maxRecDepth 65536 in
theorem w_t2 : ((words1.drop 24).take 24).all (fun c => isCode c || c.before args0 about1) = true := by decide +kernel
set_option maxRecDepth 65536 in
theorem w_t3 : ((words1.drop 24).drop 24).all (fun c => isCode c || c.before args0 about1) = true := by decide +kernel
theorem w_tables : (allAtoms (Jvm.Cond.code x code maxLocals ret :: tables_1)).before args0 about1 = true := by
  rw [allAtoms_all]
  show words1.all (fun c => c.before args0 about1) = true
  refine all_split ?_ w_codes
  rw [← List.take_append_drop 24 words1, List.all_append, w_t1, ← List.take_append_drop 24 (words1.drop 24), List.all_append, w_t2, w_t3]
  rfl
set_option maxRecDepth 65536 in
theorem w_rest : rest_1_c.before args0 about1 = true := by decide +kernel
set_option maxRecDepth 65536 in
theorem w_case : (Jvm.Cond.and given_1 narrow_1).before args0 about1 = true := by decide +kernel
theorem w_applies : (headSpec (Jvm.Cond.code x code maxLocals ret :: tables_1) room_1).applies x e0.platform about1 = true :=
  (Spec.applies_iff w_frames).mpr ⟨w_running, w_runnable, w_alone, w_named, w_hears, w_ripe, w_room, w_tables⟩
theorem atStart : AtStart classFile x code maxLocals ret World_1 tables_1 room_1 Calls_1 rest_1 Pre_1 launch0 p0 e0 about1 theMethod args0 below0 :=
  ⟨lists_1, trivial, launch0.admits_env _ _ _, launch0.least_env, fairChoices_fair.cas, fairChoices_fair.clock, w_frames, w_args, w_heap, w_applies, trivial, w_rest, w_case⟩
end start1
theorem witness_1 : WitnessClaimed_1 := ⟨start1.p0, start1.e0, start1.about1, start1.theMethod, start1.args0, start1.below0, start1.atStart⟩
end Jvm.Pilot.@@N@@
