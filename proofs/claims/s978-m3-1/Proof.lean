import JvmDerived
import JvmDerived.Pilot.@@N@@Statement
import JvmDerived.Pilot.@@N@@Code
set_option linter.unusedVariables false
set_option linter.unusedSimpArgs false
namespace Jvm.RoadKit
open Sem ClassFile Op Lib Jvm.Stand Jvm.Free Jvm.LawKit
section OwnWalk
variable {p : Program} {l : Launch} {e : Env} {R : Room} {s : State} {m : MethodId} {args : Array Value} {below : List Frame} {meth : Method} {c : Code} {T : State} {locs : List Loc} {cells slots : Nat} {Z : State} {a0 : Array Value} {h : Heap}
theorem retI (X : Stand p l e R s m args below meth c T locs cells slots) (hx : p.tables.exec = Jvm.exec) {pc : Nat} {Ls : Array Slot} {z : Int32} {rest : List Value} (hret : meth.sig.returnType = some .int) (hd : decode c.code pc = .ok (.ireturn, 1)) {fs : List Frame}
    (hl : ∀ (f : JFrame) (acts : List Action), f.method = m → f.locked = none → f.entered = [] → (doReturn e (T.setTop f) acts (some (.int z))).1 = T.setFrames fs) : Steps p.tables e below (T.setTop (mkF m pc Ls (.int z :: rest))) (T.setFrames fs) := by
  have hm' : T.vm.method? m = some meth := X.method'
  have hn : narrow .int (.int z) = .int z := rfl
  show Steps p.tables e below (T.setTop { method := m, pc := pc, locals := Ls, stack := _ :: rest, locked := none }) _
  jvm_step X.here [X.here.top, hx, hd, hm', hret, hn]
  first | (intro acts; rw [hl _ acts rfl rfl rfl]) | rw [hl _ _ rfl rfl rfl]
  exact Steps.refl _
/-- a body's contract at given arguments and a given heap -/
abbrev own_Met (l : Launch) (y : MethodName) (bytes : ByteArray) (maxL : Nat) (ret : Option FieldType) (ws : List Cond) (rm : Room) (Z : State) (as' : Array Value) (h : Heap) (Q : Option Value → Heap → List Loc → Prop) : Prop :=
  MetFree l y (head1 (Cond.code y bytes maxL ret :: ws) rm) (fun a U => a = as' ∧ Z.Warmed39 U.vm ∧ U.heap = h) (fun _ _ _ _ _ => True) (fun _ U o U' => ∃ v L, o = .returned v ∧ Q v U'.heap L ∧ FrameEnd U o U' L rm.cells rm.slots)
/-- from here the walk comes to its end, and Q holds there -/
def own_Go (p : Program) (e : Env) (below : List Frame) (s T : State) (g : JFrame) (k n : Nat) (Q : Option Value → Heap → List Loc → Prop) : Prop :=
  ∃ s₂ o, Steps p.tables e below (T.setTop g) s₂ ∧ s₂.status = .running ∧ Ended s₂ below o ∧ ∃ v L, o = .returned v ∧ Q v s₂.heap L ∧ FrameEnd s o s₂ L k n
variable {k n : Nat} {Q : Option Value → Heap → List Loc → Prop}
theorem own_in {g g' : JFrame} (ef : g = g') (q : own_Go p e below s T g' k n Q) : ∃ s₂ o, Steps p.tables e below (T.setTop g) s₂ ∧ s₂.status = .running ∧ Ended s₂ below o ∧ ∃ v L, o = .returned v ∧ Q v s₂.heap L ∧ FrameEnd s o s₂ L k n := by
  subst ef; exact q
theorem own_go {T' : State} {g g' : JFrame} (f : ∀ t, Steps p.tables e below (T'.setTop g') t → Steps p.tables e below (T.setTop g) t) (q : own_Go p e below s T' g' k n Q) : own_Go p e below s T g k n Q := by
  obtain ⟨s₂, o, h1, h2⟩ := q; exact ⟨s₂, o, f _ h1, h2⟩
theorem own_outI (X : Stand p l e R s m args below meth c T locs cells slots) (hx : p.tables.exec = Jvm.exec) (hlk : meth.locks = false) (hret : meth.sig.returnType = some .int) {pc : Nat} {Ls : Array Slot} {z : Int32} {rest : List Value} (hd : decode c.code pc = .ok (.ireturn, 1))
    (q : Q (some (.int z)) T.heap locs) (hk : cells ≤ k) (hn : slots ≤ n) : own_Go p e below s T (mkF m pc Ls (.int z :: rest)) k n Q := by
  obtain ⟨fs, hr, hrun, hended, hW, hsame⟩ := X.leave (v := some (.int z)) (fun h => by rw [hret] at h; cases h) hlk
  exact ⟨_, _, retI X hx hret hd hr, hrun, hended, _, _, rfl, q, ⟨_, rfl⟩, hW, hsame.mono hk hn⟩
theorem own_outN (X : Stand p l e R s m args below meth c T locs cells slots) (hx : p.tables.exec = Jvm.exec) (hlk : meth.locks = false) {t : FieldType} (hret : meth.sig.returnType = some t) (ht : t = .boolean ∨ t = .byte ∨ t = .char ∨ t = .short) {pc : Nat} {Ls : Array Slot} {z w : Int32} {rest : List Value} (hd : decode c.code pc = .ok (.ireturn, 1))
    (hw : nar t z = w) (q : Q (some (.int w)) T.heap locs) (hk : cells ≤ k) (hn : slots ≤ n) : own_Go p e below s T (mkF m pc Ls (.int z :: rest)) k n Q := by
  subst hw
  obtain ⟨fs, hr, hrun, hended, hW, hsame⟩ := X.leave (v := some (.int (nar t z))) (fun h => by rw [hret] at h; cases h) hlk
  exact ⟨_, _, retN X hx hret ht hd hr, hrun, hended, _, _, rfl, q, ⟨_, rfl⟩, hW, hsame.mono hk hn⟩
theorem own_outJ (X : Stand p l e R s m args below meth c T locs cells slots) (hx : p.tables.exec = Jvm.exec) (hlk : meth.locks = false) (hret : meth.sig.returnType = some .long) {pc : Nat} {Ls : Array Slot} {z : Int64} {rest : List Value} (hd : decode c.code pc = .ok (.lreturn, 1))
    (q : Q (some (.long z)) T.heap locs) (hk : cells ≤ k) (hn : slots ≤ n) : own_Go p e below s T (mkF m pc Ls (.long z :: rest)) k n Q := by
  obtain ⟨fs, hr, hrun, hended, hW, hsame⟩ := X.leave (v := some (.long z)) (fun h => by rw [hret] at h; cases h) hlk
  exact ⟨_, _, retOut X hx hret rfl (Or.inr (Or.inl ⟨rfl, rfl, _, rfl⟩)) hd hr, hrun, hended, _, _, rfl, q, ⟨_, rfl⟩, hW, hsame.mono hk hn⟩
theorem own_outD (X : Stand p l e R s m args below meth c T locs cells slots) (hx : p.tables.exec = Jvm.exec) (hlk : meth.locks = false) (hret : meth.sig.returnType = some .double) {pc : Nat} {Ls : Array Slot} {z : UInt64} {rest : List Value} (hd : decode c.code pc = .ok (.dreturn, 1))
    (q : Q (some (.double z)) T.heap locs) (hk : cells ≤ k) (hn : slots ≤ n) : own_Go p e below s T (mkF m pc Ls (.double z :: rest)) k n Q := by
  obtain ⟨fs, hr, hrun, hended, hW, hsame⟩ := X.leave (v := some (.double z)) (fun h => by rw [hret] at h; cases h) hlk
  exact ⟨_, _, retOut X hx hret rfl (Or.inr (Or.inr (Or.inl ⟨rfl, rfl, _, rfl⟩))) hd hr, hrun, hended, _, _, rfl, q, ⟨_, rfl⟩, hW, hsame.mono hk hn⟩
theorem own_outA (X : Stand p l e R s m args below meth c T locs cells slots) (hx : p.tables.exec = Jvm.exec) (hlk : meth.locks = false) {t : FieldType} (hret : meth.sig.returnType = some t) (ht : t.isReference = true) {pc : Nat} {Ls : Array Slot} {w : Value} {rest : List Value} (hwr : w.isRef = true) (hd : decode c.code pc = .ok (.areturn, 1))
    (q : Q (some w) T.heap locs) (hk : cells ≤ k) (hn : slots ≤ n) : own_Go p e below s T (mkF m pc Ls (w :: rest)) k n Q := by
  obtain ⟨fs, hr, hrun, hended, hW, hsame⟩ := X.leave (v := some w) (fun h => by rw [hret] at h; cases h) hlk
  have hnw : narrow t w = w := by rcases ref_cases hwr with rfl | ⟨a, rfl⟩ <;> cases t <;> first | rfl | cases ht
  exact ⟨_, _, retOut X hx hret hnw (Or.inr (Or.inr (Or.inr (Or.inr ⟨rfl, ht, hwr⟩)))) hd hr, hrun, hended, _, _, rfl, q, ⟨_, rfl⟩, hW, hsame.mono hk hn⟩
theorem own_outV (X : Stand p l e R s m args below meth c T locs cells slots) (hx : p.tables.exec = Jvm.exec) (hlk : meth.locks = false) (hret : meth.sig.returnType = none) {pc : Nat} {Ls : Array Slot} (hd : decode c.code pc = .ok (.return_, 1))
    (q : Q none T.heap locs) (hk : cells ≤ k) (hn : slots ≤ n) : own_Go p e below s T (mkF m pc Ls []) k n Q := by
  obtain ⟨fs, hr, hrun, hended, hW, hsame⟩ := X.leave (v := none) (fun _ => rfl) hlk
  exact ⟨_, _, X.returnOut hx hret hd hr, hrun, hended, _, _, rfl, q, ⟨_, rfl⟩, hW, hsame.mono hk hn⟩
theorem own_callS (X : Stand p l e R s m args below meth c T locs cells slots) (hx : p.tables.exec = Jvm.exec) (hZ : Z.Warmed39 s.vm) {own : String} {index : Nat} {y : MethodName} {bytes : ByteArray} {maxL : Nat} {ret : Option FieldType} {rm : Room} {argsL rest : List Value}
    (hown : s.vm.findClass own = some m.cls) (w1 : (Cond.methodLink own index y).before a0 Z = true) (w2 : (Cond.static y).before a0 Z = true) (w3 : (Cond.initialized y.cls).before a0 Z = true) (w4 : (Cond.code y bytes maxL ret).before a0 Z = true)
    (hM : own_Met l y bytes maxL ret [] rm Z argsL.toArray h Q) (eT : T.heap = h) (hy : y.cls ≠ "java/lang/invoke/MethodHandle" ∧ y.cls ≠ "java/lang/invoke/VarHandle") (hf : rm.frames + 1 ≤ R.frames) (W : Nat) (hl : W + (maxL + 11) + rm.locals ≤ R.locals) (hc : cells + rm.cells ≤ R.cells) (hs : slots + rm.slots ≤ R.slots)
    {g : JFrame} (hg : g.method = m) (hsize : g.locals.size = c.maxLocals) (hlen : ∀ sig, parseMethodDescriptor y.desc = some sig → argsL.length = sig.parameters.length) (hstack : g.stack = argsL.reverse ++ rest) (hW : 2 * g.monitorRoom + (rest.map fun v => v.category).sum ≤ W) (hd : decode c.code g.pc = .ok (.invokestatic index, 3)) :
    ∃ v T' L, Stand p l e R s m args below meth c T' (locs ++ L) (cells + rm.cells) (slots + rm.slots) ∧ Q v T'.heap L ∧ ∀ t, Steps p.tables e below (T'.setTop { g with pc := g.pc + 3, stack := v.toList ++ rest }) t → Steps p.tables e below (T.setTop g) t := by
  obtain ⟨v, _, ⟨T', L', k', n'⟩, -, X', ⟨Lc, hQ, l1, l2, l3⟩, st⟩ := Jvm.LawKit.callS X hx (y := y) hown (mvT hZ w1) (mvT hZ w2) (mvT hZ w3) (mvT hZ w4) hy (backOf (W := W) hM hZ w4 w3 hf hl) hg hsize (argsL := argsL) (rest := rest) hlen hstack hW hd (fun _ _ => ⟨rfl, eT, hc, hs⟩)
  dsimp only [Pt.U, Pt.locs, Pt.cells, Pt.slots] at X' l1 l2 l3 st hQ
  subst l1 l2 l3
  exact ⟨v, T', Lc, X', hQ, st⟩
theorem own_callV (X : Stand p l e R s m args below meth c T locs cells slots) (hx : p.tables.exec = Jvm.exec) (hZ : Z.Warmed39 s.vm) {own C : String} {index : Nat} {y : MethodName} {bytes : ByteArray} {maxL : Nat} {ret : Option FieldType} {rm : Room} {b : Addr} {argsL rest : List Value}
    (hown : s.vm.findClass own = some m.cls) (w1 : (Cond.methodLink own index y).before a0 Z = true) (w2 : (Cond.declares y).before a0 Z = true) (w3 : (Cond.selects C y y).before a0 Z = true) (w4 : (Cond.instanceMethod y).before a0 Z = true) (w5 : (Cond.initialized y.cls).before a0 Z = true) (w6 : (Cond.code y bytes maxL ret).before a0 Z = true)
    (hM : own_Met l y bytes maxL ret [] rm Z (.ref b :: argsL).toArray h Q) (eT : T.heap = h) (E : Exa Z h b C) (hy : y.cls ≠ "java/lang/invoke/MethodHandle" ∧ y.cls ≠ "java/lang/invoke/VarHandle") (hf : rm.frames + 1 ≤ R.frames) (W : Nat) (hl : W + (maxL + 11) + rm.locals ≤ R.locals) (hc : cells + rm.cells ≤ R.cells) (hs : slots + rm.slots ≤ R.slots)
    {g : JFrame} (hg : g.method = m) (hsize : g.locals.size = c.maxLocals) (hlen : ∀ sig, parseMethodDescriptor y.desc = some sig → argsL.length = sig.parameters.length) (hstack : g.stack = argsL.reverse ++ .ref b :: rest) (hW : 2 * g.monitorRoom + (rest.map fun v => v.category).sum ≤ W) (hd : decode c.code g.pc = .ok (.invokevirtual index, 3)) :
    ∃ v T' L, Stand p l e R s m args below meth c T' (locs ++ L) (cells + rm.cells) (slots + rm.slots) ∧ Q v T'.heap L ∧ ∀ t, Steps p.tables e below (T'.setTop { g with pc := g.pc + 3, stack := v.toList ++ rest }) t → Steps p.tables e below (T.setTop g) t := by
  obtain ⟨cq, kq, qa, qb, qc⟩ := isOf hZ eT E
  obtain ⟨v, _, ⟨T', L', k', n'⟩, -, X', ⟨Lc, hQ, l1, l2, l3⟩, st⟩ := X.virtualBack hx (y := y) (z := y) hown (mvT hZ w1) (mvT hZ w2) (notFace_of_selects (args := #[]) (mvT hZ w3)) (mvT hZ w3) (mvT hZ w4) hy (backOf (W := W) hM hZ w6 w5 hf hl) qa qc hg hsize (Steps.refl _) (argsL := argsL) (rest := rest) hlen hstack hW hd (fun _ _ => ⟨rfl, eT, hc, hs⟩)
  dsimp only [Pt.U, Pt.locs, Pt.cells, Pt.slots] at X' l1 l2 l3 st hQ
  subst l1 l2 l3
  exact ⟨v, T', Lc, X', hQ, fun t q => st.trans q⟩
theorem own_callP (X : Stand p l e R s m args below meth c T locs cells slots) (hx : p.tables.exec = Jvm.exec) (hZ : Z.Warmed39 s.vm) {own : String} {index : Nat} {y : MethodName} {bytes : ByteArray} {maxL : Nat} {rm : Room} {a : Addr} {argsL rest : List Value}
    (hown : s.vm.findClass own = some m.cls) (hy1 : y.name = "<init>") (w1 : (Cond.methodLink own index y).before a0 Z = true) (w2 : (Cond.instanceMethod y).before a0 Z = true) (w3 : (Cond.initialized y.cls).before a0 Z = true) (w4 : (Cond.code y bytes maxL none).before a0 Z = true)
    (hM : own_Met l y bytes maxL none [] rm Z (.ref a :: argsL).toArray h Q) (eT : T.heap = h) (hy : y.cls ≠ "java/lang/invoke/MethodHandle" ∧ y.cls ≠ "java/lang/invoke/VarHandle") (hf : rm.frames + 1 ≤ R.frames) (W : Nat) (hl : W + (maxL + 11) + rm.locals ≤ R.locals) (hc : cells + rm.cells ≤ R.cells) (hs : slots + rm.slots ≤ R.slots)
    {g : JFrame} (hg : g.method = m) (hsize : g.locals.size = c.maxLocals) (hlen : ∀ sig, parseMethodDescriptor y.desc = some sig → argsL.length = sig.parameters.length) (hstack : g.stack = argsL.reverse ++ .ref a :: rest) (hW : 2 * g.monitorRoom + (rest.map fun v => v.category).sum ≤ W) (hd : decode c.code g.pc = .ok (.invokespecial index, 3)) :
    ∃ v T' L, Stand p l e R s m args below meth c T' (locs ++ L) (cells + rm.cells) (slots + rm.slots) ∧ Q v T'.heap L ∧ ∀ t, Steps p.tables e below (T'.setTop { g with pc := g.pc + 3, stack := v.toList ++ rest }) t → Steps p.tables e below (T.setTop g) t := by
  obtain ⟨v, _, ⟨T', L', k', n'⟩, -, X', ⟨Lc, hQ, l1, l2, l3⟩, st⟩ := X.specialBack hx (y := y) hy1 hown (mvT hZ w1) (mvT hZ w2) (mvT hZ w4) hy (backOf (W := W) hM hZ w4 w3 hf hl) hg hsize (Steps.refl _) (a := a) (argsL := argsL) (rest := rest) hlen hstack hW hd (fun _ _ => ⟨rfl, eT, hc, hs⟩)
  dsimp only [Pt.U, Pt.locs, Pt.cells, Pt.slots] at X' l1 l2 l3 st hQ
  subst l1 l2 l3
  exact ⟨v, T', Lc, X', hQ, fun t q => st.trans q⟩
end OwnWalk
theorem own_llt (x y : Int64) : XT.cmpL x y < 0 ↔ x < y := by
  show (if y < x then (1 : Int32) else if x = y then 0 else -1) < 0 ↔ _
  split
  · rename_i h; exact ⟨fun q => absurd q (by decide), fun q => by rw [Int64.lt_iff_toInt_lt] at h q; omega⟩
  · rename_i h; split
    · rename_i h2; subst h2; exact ⟨fun q => absurd q (by decide), fun q => absurd q h⟩
    · rename_i h2; refine ⟨fun _ => ?_, fun _ => by decide⟩
      rw [← Int64.toInt_inj] at h2; rw [Int64.lt_iff_toInt_lt] at h ⊢; omega
theorem own_lgt (x y : Int64) : 0 < XT.cmpL x y ↔ y < x := by
  show 0 < (if y < x then (1 : Int32) else if x = y then 0 else -1) ↔ _
  split
  · rename_i h; exact ⟨fun _ => h, fun _ => by decide⟩
  · rename_i h; split
    · exact ⟨fun q => absurd q (by decide), fun q => absurd q h⟩
    · exact ⟨fun q => absurd q (by decide), fun q => absurd q h⟩
theorem own_leq (x y : Int64) : XT.cmpL x y = 0 ↔ x = y := by
  show (if y < x then (1 : Int32) else if x = y then 0 else -1) = 0 ↔ _
  split
  · rename_i h; refine ⟨fun q => absurd q (by decide), fun q => ?_⟩; subst q; exact absurd h (by simp only [Int64.lt_iff_toInt_lt]; omega)
  · split
    · rename_i h; exact ⟨fun _ => h, fun _ => rfl⟩
    · rename_i h; exact ⟨fun q => absurd q (by decide), fun q => absurd q h⟩
theorem own_at {x y : Value} (h : x = y) : XT.acmp .eq x y = true ∧ XT.acmp .ne x y = false := by subst h; exact ⟨decide_eq_true rfl, decide_eq_false fun q => q rfl⟩
theorem own_af {x y : Value} (h : ¬ (x = y)) : XT.acmp .eq x y = false ∧ XT.acmp .ne x y = true := ⟨decide_eq_false h, decide_eq_true h⟩
theorem own_fld {s : State} {args : Array Value} {t u : Term} {C n d : String} {a : Addr} {v : Value} (ev : t.eval args s none [] s = some (.ref a)) (hu : u.eval args s none [] s = some v) (hq : (Cond.eq (.field t C n d) u).value args s none s [] = some true) : Fld s s.heap a C n d v := by
  refine Fld.start ?_
  obtain ⟨x, y, h1, h2, -, -⟩ := cmp_v (Or.inl hq)
  cases hu.symm.trans h2
  have h3 := h1
  rw [fld_at ev] at h3
  simp only [Cond.value, h1, h2] at hq
  rw [h3]
  cases x <;> cases v <;> simp at hq ⊢ <;> exact hq
section OwnArr
variable {p : Program} {l : Launch} {e : Env} {R : Room} {s : State} {m : MethodId} {args : Array Value} {below : List Frame} {meth : Method} {c : Code} {T : State} {locs : List Loc} {cells slots : Nat} {Z : State} {a0 : Array Value} {h h' : Heap} {a b : Addr} {ty : FieldType} {vs : List Value} {v : Value} {ws : List Addr} {sl : Nat}
/-- an array whose components are known, each -/
def own_Ar (Z : State) (h : Heap) (a : Addr) (ty : FieldType) (vs : List Value) : Prop := ∃ c : Cell, Arr Z h a c ty ∧ c.slots = vs.toArray
theorem own_Ar.ext (F : own_Ar Z h a ty vs) (E : Ext h h') : own_Ar Z h' a ty vs := by obtain ⟨c, A, q⟩ := F; exact ⟨c, A.ext E, q⟩
theorem own_Ar.other (F : own_Ar Z h b ty vs) (W : Wr h h' a sl v) (q : b ≠ a) : own_Ar Z h' b ty vs := by obtain ⟨c, A, r⟩ := F; exact ⟨c, A.other W q, r⟩
theorem own_Ar.keep (F : own_Ar Z h a ty vs) (K : Keep h h' ws) (q : a ∉ ws) : own_Ar Z h' a ty vs := by obtain ⟨c, A, r⟩ := F; exact ⟨c, ⟨K.2.1 a c A.1 q, A.2⟩, r⟩
theorem own_Ar.lt (F : own_Ar Z h a ty vs) : a < h.size := by obtain ⟨c, A, -⟩ := F; exact A.lt
theorem own_Ar.put (F : own_Ar Z h a ty vs) {j : Nat} (W : Wr h h' a j v) : own_Ar Z h' a ty (vs.set j v) := by
  obtain ⟨c, A, q⟩ := F
  refine ⟨_, A.same W, ?_⟩
  show c.slots.setIfInBounds j v = _
  rw [q, List.setIfInBounds_toArray]
theorem own_newP (X : Stand p l e R s m args below meth c T locs cells slots) (hx : p.tables.exec = Jvm.exec) (hZ : Z.Warmed39 s.vm) {aty : ArrayType} (w : (Cond.arrayClass (newarray.typeOf aty)).before a0 Z = true) (eT : T.heap = h) {g : JFrame} (hg : g.method = m) (hd : decode c.code g.pc = .ok (.newarray aty, 2)) {n : Int32} {rest : List Value} (hs : g.stack = .int n :: rest)
    (hn : ¬ n < 0) (k : Nat) (hk : n.toNatClampNeg = k) (hb : k * 8 ≤ 536870912) (hc : cells + 1 ≤ R.cells) (hl : slots + k ≤ R.slots) :
    ∃ T' h', Stand p l e R s m args below meth c T' locs (cells + 1) (slots + k) ∧ T'.heap = h' ∧ Ext h h' ∧ own_Ar Z h' h.size (newarray.typeOf aty) (List.replicate k (defaultValue (newarray.typeOf aty))) ∧
      ∀ target, Steps p.tables e below (T'.setTop { g with pc := g.pc + 2, stack := .ref h.size :: rest }) target → Steps p.tables e below (T.setTop g) target := by
  obtain ⟨T', h', cA, X', e', E, A, st⟩ := newP X hx hZ w eT hg hd hs hn (cap := k) (Nat.le_of_eq hk) hb hc hl
  refine ⟨T', h', X', e', E, ⟨_, A, ?_⟩, st⟩
  show Array.replicate n.toNatClampNeg _ = _
  rw [hk, ← List.toArray_replicate]
theorem own_in_of (F : own_Ar Z h a ty vs) {j : Int32} (hj : ¬ j < 0) (hl : j.toNatClampNeg < vs.length) : ∃ cl : Cell, Arr Z h a cl ty ∧ cl.slots = vs.toArray ∧ ¬ (j < 0 ∨ cl.slots.size ≤ j.toNatClampNeg) := by
  obtain ⟨cl, A, q⟩ := F
  refine ⟨cl, A, q, fun z => z.elim hj fun y => ?_⟩
  rw [q] at y
  exact absurd hl (Nat.not_lt.mpr (by simpa using y))
theorem own_stJ (X : Stand p l e R s m args below meth c T locs cells slots) (hx : p.tables.exec = Jvm.exec) (hZ : Z.Warmed39 s.vm) (eT : T.heap = h) (F : own_Ar Z h a .long vs) {j : Int32} {x : Int64} (hj : ¬ j < 0) (k : Nat) (hk : j.toNatClampNeg = k) (hl : k < vs.length) {g : JFrame} (hg : g.method = m) {rest : List Value} (hs : g.stack = .long x :: .int j :: .ref a :: rest) (hd : decode c.code g.pc = .ok (.lastore, 1)) :
    ∃ T' h', Stand p l e R s m args below meth c T' (locs ++ [⟨a, k⟩]) cells slots ∧ T'.heap = h' ∧ Wr h h' a k (.long x) ∧ own_Ar Z h' a .long (vs.set k (.long x)) ∧ ∀ target, Steps p.tables e below (T'.setTop { g with pc := g.pc + 1, stack := rest }) target → Steps p.tables e below (T.setTop g) target := by
  subst hk
  obtain ⟨cl, A, q, hin⟩ := own_in_of F hj hl
  obtain ⟨T', h', X', e', W, st⟩ := stJ X hx hZ eT A hin hg hs hd
  exact ⟨T', h', X', e', W, F.put W, st⟩
theorem own_stI (X : Stand p l e R s m args below meth c T locs cells slots) (hx : p.tables.exec = Jvm.exec) (hZ : Z.Warmed39 s.vm) (eT : T.heap = h) (F : own_Ar Z h a .int vs) {j x : Int32} (hj : ¬ j < 0) (k : Nat) (hk : j.toNatClampNeg = k) (hl : k < vs.length) {g : JFrame} (hg : g.method = m) {rest : List Value} (hs : g.stack = .int x :: .int j :: .ref a :: rest) (hd : decode c.code g.pc = .ok (.iastore, 1)) :
    ∃ T' h', Stand p l e R s m args below meth c T' (locs ++ [⟨a, k⟩]) cells slots ∧ T'.heap = h' ∧ Wr h h' a k (.int x) ∧ own_Ar Z h' a .int (vs.set k (.int x)) ∧ ∀ target, Steps p.tables e below (T'.setTop { g with pc := g.pc + 1, stack := rest }) target → Steps p.tables e below (T.setTop g) target := by
  subst hk
  obtain ⟨cl, A, q, hin⟩ := own_in_of F hj hl
  obtain ⟨T', h', X', e', W, st⟩ := stI X hx hZ eT A hin hg hs hd
  exact ⟨T', h', X', e', W, F.put W, st⟩
theorem own_stB (X : Stand p l e R s m args below meth c T locs cells slots) (hx : p.tables.exec = Jvm.exec) (hZ : Z.Warmed39 s.vm) (eT : T.heap = h) (F : own_Ar Z h a .byte vs) {j x : Int32} (hj : ¬ j < 0) (k : Nat) (hk : j.toNatClampNeg = k) (hl : k < vs.length) {g : JFrame} (hg : g.method = m) {rest : List Value} (hs : g.stack = .int x :: .int j :: .ref a :: rest) (hd : decode c.code g.pc = .ok (.bastore, 1)) :
    ∃ T' h', Stand p l e R s m args below meth c T' (locs ++ [⟨a, k⟩]) cells slots ∧ T'.heap = h' ∧ Wr h h' a k (.int (nar .byte x)) ∧ own_Ar Z h' a .byte (vs.set k (.int (nar .byte x))) ∧ ∀ target, Steps p.tables e below (T'.setTop { g with pc := g.pc + 1, stack := rest }) target → Steps p.tables e below (T.setTop g) target := by
  subst hk
  obtain ⟨cl, A, q, hin⟩ := own_in_of F hj hl
  obtain ⟨T', h', X', e', W, st⟩ := stB X hx hZ eT A hin hg hs hd
  exact ⟨T', h', X', e', W, F.put W, st⟩
theorem own_stC (X : Stand p l e R s m args below meth c T locs cells slots) (hx : p.tables.exec = Jvm.exec) (hZ : Z.Warmed39 s.vm) (eT : T.heap = h) (F : own_Ar Z h a .char vs) {j x : Int32} (hj : ¬ j < 0) (k : Nat) (hk : j.toNatClampNeg = k) (hl : k < vs.length) {g : JFrame} (hg : g.method = m) {rest : List Value} (hs : g.stack = .int x :: .int j :: .ref a :: rest) (hd : decode c.code g.pc = .ok (.castore, 1)) :
    ∃ T' h', Stand p l e R s m args below meth c T' (locs ++ [⟨a, k⟩]) cells slots ∧ T'.heap = h' ∧ Wr h h' a k (.int (nar .char x)) ∧ own_Ar Z h' a .char (vs.set k (.int (nar .char x))) ∧ ∀ target, Steps p.tables e below (T'.setTop { g with pc := g.pc + 1, stack := rest }) target → Steps p.tables e below (T.setTop g) target := by
  subst hk
  obtain ⟨cl, A, q, hin⟩ := own_in_of F hj hl
  obtain ⟨T', h', X', e', W, st⟩ := stC X hx hZ eT A hin hg hs hd
  exact ⟨T', h', X', e', W, F.put W, st⟩
theorem own_clone (X : Stand p l e R s m args below meth c T locs cells slots) (hx : p.tables.exec = Jvm.exec) (hZ : Z.Warmed39 s.vm) {own ad : String} {index : Nat} (hown : s.vm.findClass own = some m.cls)
    (w1 : (Cond.methodLink own index ⟨ad, "clone", "()Ljava/lang/Object;"⟩).before a0 Z = true) (w2 : (Cond.sameMethod ad "java/lang/Object" "clone" "()Ljava/lang/Object;").before a0 Z = true) (w3 : (Cond.native ⟨"java/lang/Object", "clone", "()Ljava/lang/Object;"⟩).before a0 Z = true)
    (w4 : (Cond.instanceMethod ⟨"java/lang/Object", "clone", "()Ljava/lang/Object;"⟩).before a0 Z = true) (w5 : (Cond.selects ad ⟨ad, "clone", "()Ljava/lang/Object;"⟩ ⟨"java/lang/Object", "clone", "()Ljava/lang/Object;"⟩).before a0 Z = true) (w6 : (Cond.castable ad "java/lang/Cloneable").before a0 Z = true)
    (eT : T.heap = h) (F : own_Ar Z h a ty vs) (hfit : ∀ v ∈ vs, fits ty v = true) (E : Exa Z h a ad) {g : JFrame} (hg : g.method = m) (hsize : g.locals.size = c.maxLocals) {rest : List Value} (hs : g.stack = .ref a :: rest) (hd : decode c.code g.pc = .ok (.invokevirtual index, 3))
    (hf : 1 ≤ R.frames) (W : Nat) (hW : 2 * g.monitorRoom + (rest.map fun v => v.category).sum ≤ W) (hl : W + 14 ≤ R.locals) (hc : cells + 1 ≤ R.cells) (kk : Nat) (hkk : vs.length = kk) (hsl : slots + kk ≤ R.slots) :
    ∃ T' h', Stand p l e R s m args below meth c T' locs (cells + 1) (slots + kk) ∧ T'.heap = h' ∧ Ext h h' ∧ own_Ar Z h' h.size ty vs ∧ Exa Z h' h.size ad ∧
      ∀ target, Steps p.tables e below (T'.setTop { g with pc := g.pc + 3, stack := .ref h.size :: rest }) target → Steps p.tables e below (T.setTop g) target := by
  obtain ⟨cl, A, q⟩ := F
  have FC : FitC Z cl := fitC_of A fun i hi v hv => hfit v (by rw [q, List.getElem?_toArray] at hv; exact List.mem_of_getElem? hv)
  obtain ⟨T', h', X', e', ex, A', E', st⟩ := cloneA X hx hZ hown w1 w2 w3 w4 w5 w6 eT A E FC hg hsize hs hd hf hW hl (cap := kk) (by rw [q, ← hkk]; simp) hc hsl
  exact ⟨T', h', X', e', ex, ⟨cloneOf cl, A', q⟩, E', st⟩
theorem own_StaK {C n d D : String} {w : Value} (S : Sta Z h C n d w) (E : Exa Z h a D) (K : Keep h h' [a]) : Sta Z h' C n d w := by
  obtain ⟨cf, i, k, f, st, cell, h1, h2, h3, h4, h5, h6, h7⟩ := S
  obtain ⟨c2, k2, e1, -, -, e4, -⟩ := E
  have ne : st ≠ a := fun z => by subst z; cases h5.symm.trans e1; rw [e4] at h6; cases h6
  exact ⟨cf, i, k, f, st, cell, h1, h2, h3, h4, K.2.1 st cell h5 (by simpa using ne), h6, h7⟩
theorem own_StaE {C n d : String} {w : Value} (S : Sta Z h C n d w) (K : Keep h h' []) : Sta Z h' C n d w := by
  obtain ⟨cf, i, k, f, st, cell, h1, h2, h3, h4, h5, h6, h7⟩ := S
  exact ⟨cf, i, k, f, st, cell, h1, h2, h3, h4, K.2.1 st cell h5 nin0, h6, h7⟩
theorem own_Xt {h0 : Heap} (O : Ext h0 h) (E : Ext h h') : Ext h0 h' := ⟨Nat.le_trans O.1 E.1, fun x c q => E.2 x c (O.2 x c q)⟩
theorem own_Xr (h : Heap) : Ext h h := ⟨Nat.le_refl _, fun _ _ q => q⟩
theorem own_Xk {h0 : Heap} (O : Ext h0 h) (K : Keep h h' ws) (q : ∀ x ∈ ws, h0.size ≤ x) : Ext h0 h' := ⟨Nat.le_trans O.1 K.1, fun x c r => K.2.1 x c (O.2 x c r) fun z => absurd (Array.getElem?_eq_some_iff.mp r).1 (Nat.not_lt.mpr (q x z))⟩
theorem own_Xw {h0 : Heap} (O : Ext h0 h) (W : Wr h h' a sl v) (q : h0.size ≤ a) : Ext h0 h' := own_Xk O (Keep.of_wr W) (allS q all0)
theorem own_val {cl : Cell} (q : cl.slots = vs.toArray) {j : Nat} (hv : vs[j]? = some v) : cl.slots[j]? = some v := by rw [q, List.getElem?_toArray]; exact hv
theorem own_lt {j : Nat} (hv : vs[j]? = some v) : j < vs.length := (List.getElem?_eq_some_iff.mp hv).1
theorem own_ldJ (X : Stand p l e R s m args below meth c T locs cells slots) (hx : p.tables.exec = Jvm.exec) (hZ : Z.Warmed39 s.vm) (eT : T.heap = h) (F : own_Ar Z h a .long vs) {j : Int32} (hj : ¬ j < 0) (hv : vs[j.toNatClampNeg]? = some v) {g : JFrame} (hg : g.method = m) {rest : List Value} (hs : g.stack = .int j :: .ref a :: rest) (hd : decode c.code g.pc = .ok (.laload, 1)) :
    ∀ target, Steps p.tables e below (T.setTop { g with pc := g.pc + 1, stack := v :: rest }) target → Steps p.tables e below (T.setTop g) target := by
  obtain ⟨cl, A, q, hin⟩ := own_in_of F hj (own_lt hv)
  exact fun t k => X.laload hx (by rw [eT]; exact A.1) (State.isArrayOf_alike hZ.alike A.2.1) A.2.2 hin (own_val q hv) hg hs hd t k
theorem own_ldI (X : Stand p l e R s m args below meth c T locs cells slots) (hx : p.tables.exec = Jvm.exec) (hZ : Z.Warmed39 s.vm) (eT : T.heap = h) (F : own_Ar Z h a .int vs) {j : Int32} (hj : ¬ j < 0) (hv : vs[j.toNatClampNeg]? = some v) {g : JFrame} (hg : g.method = m) {rest : List Value} (hs : g.stack = .int j :: .ref a :: rest) (hd : decode c.code g.pc = .ok (.iaload, 1)) :
    ∀ target, Steps p.tables e below (T.setTop { g with pc := g.pc + 1, stack := v :: rest }) target → Steps p.tables e below (T.setTop g) target := by
  obtain ⟨cl, A, q, hin⟩ := own_in_of F hj (own_lt hv)
  exact fun t k => X.iaload hx (by rw [eT]; exact A.1) (State.isArrayOf_alike hZ.alike A.2.1) A.2.2 hin (own_val q hv) hg hs hd t k
theorem own_ldB (X : Stand p l e R s m args below meth c T locs cells slots) (hx : p.tables.exec = Jvm.exec) (hZ : Z.Warmed39 s.vm) (eT : T.heap = h) (F : own_Ar Z h a .byte vs) {j : Int32} (hj : ¬ j < 0) (hv : vs[j.toNatClampNeg]? = some v) {g : JFrame} (hg : g.method = m) {rest : List Value} (hs : g.stack = .int j :: .ref a :: rest) (hd : decode c.code g.pc = .ok (.baload, 1)) :
    ∀ target, Steps p.tables e below (T.setTop { g with pc := g.pc + 1, stack := v :: rest }) target → Steps p.tables e below (T.setTop g) target := by
  obtain ⟨cl, A, q, hin⟩ := own_in_of F hj (own_lt hv)
  exact fun t k => X.baloadBytes hx (by rw [eT]; exact A.1) (State.isArrayOf_alike hZ.alike A.2.1) A.2.2 hin (own_val q hv) hg hs hd t k
theorem own_ldC (X : Stand p l e R s m args below meth c T locs cells slots) (hx : p.tables.exec = Jvm.exec) (hZ : Z.Warmed39 s.vm) (eT : T.heap = h) (F : own_Ar Z h a .char vs) {j : Int32} (hj : ¬ j < 0) (hv : vs[j.toNatClampNeg]? = some v) {g : JFrame} (hg : g.method = m) {rest : List Value} (hs : g.stack = .int j :: .ref a :: rest) (hd : decode c.code g.pc = .ok (.caload, 1)) :
    ∀ target, Steps p.tables e below (T.setTop { g with pc := g.pc + 1, stack := v :: rest }) target → Steps p.tables e below (T.setTop g) target := by
  obtain ⟨cl, A, q, hin⟩ := own_in_of F hj (own_lt hv)
  exact fun t k => X.caload hx (by rw [eT]; exact A.1) (State.isArrayOf_alike hZ.alike A.2.1) A.2.2 hin (own_val q hv) hg hs hd t k
theorem own_ldA (X : Stand p l e R s m args below meth c T locs cells slots) (hx : p.tables.exec = Jvm.exec) (hZ : Z.Warmed39 s.vm) (eT : T.heap = h) (hty : ty.isReference = true) (F : own_Ar Z h a ty vs) {j : Int32} (hj : ¬ j < 0) (hv : vs[j.toNatClampNeg]? = some v) {g : JFrame} (hg : g.method = m) {rest : List Value} (hs : g.stack = .int j :: .ref a :: rest) (hd : decode c.code g.pc = .ok (.aaload, 1)) :
    ∀ target, Steps p.tables e below (T.setTop { g with pc := g.pc + 1, stack := v :: rest }) target → Steps p.tables e below (T.setTop g) target := by
  obtain ⟨cl, A, q, hin⟩ := own_in_of F hj (own_lt hv)
  exact fun t k => X.aaload hx (by rw [eT]; exact A.1) (State.isArrayOf_alike hZ.alike A.2.1) hty A.2.2 hin (own_val q hv) hg hs hd t k
theorem own_len (X : Stand p l e R s m args below meth c T locs cells slots) (hx : p.tables.exec = Jvm.exec) (hZ : Z.Warmed39 s.vm) (eT : T.heap = h) (F : own_Ar Z h a ty vs) {n : Int32} (hn : vs.length.toInt32 = n) {g : JFrame} (hg : g.method = m) {rest : List Value} (hs : g.stack = .ref a :: rest) (hd : decode c.code g.pc = .ok (.arraylength, 1)) :
    ∀ target, Steps p.tables e below (T.setTop { g with pc := g.pc + 1, stack := .int n :: rest }) target → Steps p.tables e below (T.setTop g) target := by
  obtain ⟨cl, A, q⟩ := F
  intro t k
  refine X.arraylength hx (by rw [eT]; exact A.1) (State.isArrayOf_alike hZ.alike A.2.1) hg hs hd t ?_
  rw [q, List.size_toArray, hn]; exact k
end OwnArr
end Jvm.RoadKit
namespace Jvm.Pilot.@@N@@
open Jvm Jvm.ClassFile Sem Op Lib Jvm.Free Jvm.Stand Jvm.LawKit Jvm.RoadKit Bundle Jvm.Pilot.@@N@@.Jvm.D
theorem own_eqi {s : State} {args : Array Value} {a b : Term} {k : Int32} (hb : b.eval args s none [] s = some (.int k)) (hq : (Cond.eq a b).value args s none s [] = some true) : a.eval args s none [] s = some (.int k) := by
  obtain ⟨x, y, h1, h2, -, -⟩ := cmp_v (Or.inl hq)
  cases hb.symm.trans h2
  simp only [Cond.value, h1, h2] at hq
  rw [h1]
  cases x <;> simp at hq ⊢ <;> exact hq
theorem own_fldR {s : State} {args : Array Value} {t : Term} {C n d : String} {a : Addr} {v : Value} (ev : t.eval args s none [] s = some (.ref a)) (e : (Term.field t C n d).eval args s none [] s = some v) : Fld s s.heap a C n d v :=
  Fld.start ((fld_at ev).symm.trans e)
theorem own_lenS {s : State} {args : Array Value} {t : Term} {x : Addr} {cl : Cell} {k : Int32} (h : (Term.length t).eval args s none [] s = some (.int k)) (ht : t.eval args s none [] s = some (.ref x)) (hc : s.heap[x]? = some cl) (hk : ¬ k < 0) : cl.slots.size = k.toNatClampNeg := by
  simp only [Term.eval, Option.bind_eq_bind, ht, Option.bind_some] at h
  obtain ⟨cell, hcell, h⟩ := Option.bind_eq_some_iff.mp h
  have e1 : cell = cl := by
    cases hc.symm.trans (arrayAt_spec hcell).1; rfl
  subst e1
  by_cases hn : cell.slots.size < 2147483648
  · rw [if_pos hn] at h
    have h4 : cell.slots.size.toInt32 = k := by simpa using h
    rw [← h4]
    exact (Int32.toNatClampNeg_ofNat_of_lt hn).symm
  · rw [if_neg hn] at h; cases h
theorem own_ArS {Z : State} {a : Addr} {c : Cell} {ty : FieldType} {vs : List Value} (A : Arr Z Z.heap a c ty) (hs : c.slots.size = vs.length) (H : HasL c 0 vs) : own_Ar Z Z.heap a ty vs := by
  refine ⟨c, A, Array.ext_getElem? fun i => ?_⟩
  by_cases hi : i < vs.length
  · have q := HasL.at (dv := .null) vs 0 H i hi
    rw [Nat.zero_add] at q
    rw [q, List.getElem?_toArray, List.getD_eq_getElem?_getD, List.getElem?_eq_getElem hi]; rfl
  · rw [Array.getElem?_eq_none (by omega), List.getElem?_toArray, List.getElem?_eq_none (by omega)]
def own_F (Z : State) (h : Heap) (w_INVALID w_NONE w_SIGN w_SIGN_AND_ENCRYPT s_INVALID s_NONE s_SIGN s_SIGN_AND_ENCRYPT v_INVALID v_NONE v_SIGN v_SIGN_AND_ENCRYPT : Addr) (cs : Int32) (fm : Value) : Prop := Sta Z h "com/example/dvarapala/dvarapala/engine/MessageSecurityMode" "INVALID" "Lcom/example/dvarapala/dvarapala/engine/MessageSecurityMode;" (.ref w_INVALID) ∧ Exa Z h w_INVALID "com/example/dvarapala/dvarapala/engine/MessageSecurityMode" ∧ Sta Z h "com/example/dvarapala/dvarapala/engine/MessageSecurityMode" "SIGN" "Lcom/example/dvarapala/dvarapala/engine/MessageSecurityMode;" (.ref w_SIGN) ∧ Exa Z h w_SIGN "com/example/dvarapala/dvarapala/engine/MessageSecurityMode" ∧ Sta Z h "com/example/dvarapala/dvarapala/engine/MessageSecurityMode" "SIGN_AND_ENCRYPT" "Lcom/example/dvarapala/dvarapala/engine/MessageSecurityMode;" (.ref w_SIGN_AND_ENCRYPT) ∧ Exa Z h w_SIGN_AND_ENCRYPT "com/example/dvarapala/dvarapala/engine/MessageSecurityMode" ∧ Sta Z h "com/example/dvarapala/dvarapala/engine/MessageSecurityMode" "NONE" "Lcom/example/dvarapala/dvarapala/engine/MessageSecurityMode;" (.ref w_NONE) ∧ Exa Z h w_NONE "com/example/dvarapala/dvarapala/engine/MessageSecurityMode" ∧ Fld Z h w_INVALID "java/lang/Enum" "ordinal" "I" (.int (0 : Int32)) ∧ Fld Z h w_SIGN "java/lang/Enum" "ordinal" "I" (.int (2 : Int32)) ∧ Fld Z h w_SIGN_AND_ENCRYPT "java/lang/Enum" "ordinal" "I" (.int (3 : Int32)) ∧ Fld Z h w_NONE "java/lang/Enum" "ordinal" "I" (.int (1 : Int32)) ∧ w_INVALID ≠ w_SIGN ∧ w_INVALID ≠ w_SIGN_AND_ENCRYPT ∧ w_INVALID ≠ w_NONE ∧ w_SIGN ≠ w_SIGN_AND_ENCRYPT ∧ w_SIGN ≠ w_NONE ∧ w_SIGN_AND_ENCRYPT ≠ w_NONE ∧ Fld Z h w_INVALID "com/example/dvarapala/dvarapala/engine/MessageSecurityMode" "specName" "Ljava/lang/String;" (.ref s_INVALID) ∧ Exa Z h s_INVALID "java/lang/String" ∧ Fld Z h w_SIGN_AND_ENCRYPT "com/example/dvarapala/dvarapala/engine/MessageSecurityMode" "specName" "Ljava/lang/String;" (.ref s_SIGN_AND_ENCRYPT) ∧ Exa Z h s_SIGN_AND_ENCRYPT "java/lang/String" ∧ Fld Z h w_SIGN "com/example/dvarapala/dvarapala/engine/MessageSecurityMode" "specName" "Ljava/lang/String;" (.ref s_SIGN) ∧ Exa Z h s_SIGN "java/lang/String" ∧ Fld Z h w_NONE "com/example/dvarapala/dvarapala/engine/MessageSecurityMode" "specName" "Ljava/lang/String;" (.ref s_NONE) ∧ Exa Z h s_NONE "java/lang/String" ∧ Fld Z h s_INVALID "java/lang/String" "value" "[B" (.ref v_INVALID) ∧ Fld Z h s_SIGN_AND_ENCRYPT "java/lang/String" "value" "[B" (.ref v_SIGN_AND_ENCRYPT) ∧ Fld Z h s_SIGN "java/lang/String" "value" "[B" (.ref v_SIGN) ∧ Fld Z h s_NONE "java/lang/String" "value" "[B" (.ref v_NONE) ∧ Fld Z h s_INVALID "java/lang/String" "coder" "B" (.int (0 : Int32)) ∧ Fld Z h s_SIGN_AND_ENCRYPT "java/lang/String" "coder" "B" (.int (0 : Int32)) ∧ Fld Z h s_SIGN "java/lang/String" "coder" "B" (.int (0 : Int32)) ∧ Fld Z h s_NONE "java/lang/String" "coder" "B" (.int (0 : Int32)) ∧ own_Ar Z h v_INVALID .byte [(.int (73 : Int32)), (.int (110 : Int32)), (.int (118 : Int32)), (.int (97 : Int32)), (.int (108 : Int32)), (.int (105 : Int32)), (.int (100 : Int32))] ∧ own_Ar Z h v_NONE .byte [(.int (78 : Int32)), (.int (111 : Int32)), (.int (110 : Int32)), (.int (101 : Int32))] ∧ own_Ar Z h v_SIGN .byte [(.int (83 : Int32)), (.int (105 : Int32)), (.int (103 : Int32)), (.int (110 : Int32))] ∧ own_Ar Z h v_SIGN_AND_ENCRYPT .byte [(.int (83 : Int32)), (.int (105 : Int32)), (.int (103 : Int32)), (.int (110 : Int32)), (.int (65 : Int32)), (.int (110 : Int32)), (.int (100 : Int32)), (.int (69 : Int32)), (.int (110 : Int32)), (.int (99 : Int32)), (.int (114 : Int32)), (.int (121 : Int32)), (.int (112 : Int32)), (.int (116 : Int32))] ∧ Sta Z h "java/lang/String" "COMPACT_STRINGS" "Z" (.int cs) ∧ ¬ (cs = (0 : Int32)) ∧ Sta Z h "jdk/internal/util/Preconditions" "SIOOBE_FORMATTER" "Ljava/util/function/BiFunction;" fm ∧ fm.isRef = true
theorem d1_0 : decode method_2_code 0 = .ok (.iload_n 0, 1) := by decide +kernel
theorem d1_1 : decode method_2_code 1 = .ok (.ifCond .ne 7, 3) := by decide +kernel
theorem d1_4 : decode method_2_code 4 = .ok (.getstatic 7, 3) := by decide +kernel
theorem d1_7 : decode method_2_code 7 = .ok (.areturn, 1) := by decide +kernel
theorem d1_8 : decode method_2_code 8 = .ok (.iload_n 0, 1) := by decide +kernel
theorem d1_9 : decode method_2_code 9 = .ok (.iconst 1, 1) := by decide +kernel
theorem d1_10 : decode method_2_code 10 = .ok (.if_icmp .ne 7, 3) := by decide +kernel
theorem d1_13 : decode method_2_code 13 = .ok (.getstatic 13, 3) := by decide +kernel
theorem d1_16 : decode method_2_code 16 = .ok (.areturn, 1) := by decide +kernel
theorem d1_17 : decode method_2_code 17 = .ok (.iload_n 0, 1) := by decide +kernel
theorem d1_18 : decode method_2_code 18 = .ok (.iconst 2, 1) := by decide +kernel
theorem d1_19 : decode method_2_code 19 = .ok (.if_icmp .ne 7, 3) := by decide +kernel
theorem d1_22 : decode method_2_code 22 = .ok (.getstatic 16, 3) := by decide +kernel
theorem d1_25 : decode method_2_code 25 = .ok (.areturn, 1) := by decide +kernel
theorem d1_26 : decode method_2_code 26 = .ok (.getstatic 19, 3) := by decide +kernel
theorem d1_29 : decode method_2_code 29 = .ok (.areturn, 1) := by decide +kernel
set_option maxRecDepth 65536 in
set_option maxHeartbeats 40000000 in
theorem rm_pick (l : Launch) (Z : State) (a0 : Array Value) (hw : ∀ d ∈ tables_1, d.before a0 Z = true) (ws : List Jvm.Cond) (p1 : Int32) (w_INVALID w_NONE w_SIGN w_SIGN_AND_ENCRYPT s_INVALID s_NONE s_SIGN s_SIGN_AND_ENCRYPT v_INVALID v_NONE v_SIGN v_SIGN_AND_ENCRYPT : Addr) (cs : Int32) (fm : Value) (h0 : Heap) (FX : own_F Z h0 w_INVALID w_NONE w_SIGN w_SIGN_AND_ENCRYPT s_INVALID s_NONE s_SIGN s_SIGN_AND_ENCRYPT v_INVALID v_NONE v_SIGN v_SIGN_AND_ENCRYPT cs fm) :
    own_Met l (⟨"com/example/dvarapala/dvarapala/engine/MessageSecurityModeIsSignedPinLaw", "pick", "(I)Lcom/example/dvarapala/dvarapala/engine/MessageSecurityMode;"⟩ : MethodName) method_2_code 1 (some (.object "com/example/dvarapala/dvarapala/engine/MessageSecurityMode")) ws ({ frames := 0, cells := 0, slots := 0, locals := 0 } : Room) Z #[(.int p1)] h0 (fun v h L => ((p1 = 0 ∧ v = some (.ref w_INVALID)) ∨ (p1 = 1 ∧ v = some (.ref w_NONE)) ∨ (p1 = 2 ∧ v = some (.ref w_SIGN)) ∨ ((p1 ≠ 0 ∧ p1 ≠ 1 ∧ p1 ≠ 2) ∧ v = some (.ref w_SIGN_AND_ENCRYPT))) ∧ h = h0 ∧ L = []) := by
  refine MetFree.of_bodySF (plainFor_of_name (by first | (simp [plainName, overriddenIn]; done) | decide +kernel)) hisR ?_
  intro p e s m args below meth c s₁ Bd hml0 hP hK
  obtain ⟨rfl, hZ, hh⟩ := hP
  have hx := Bd.exec
  have hby := Bd.bytes
  have hml : c.maxLocals = 1 := hml0
  have hown : s.vm.findClass "com/example/dvarapala/dvarapala/engine/MessageSecurityModeIsSignedPinLaw" = some m.cls := findClass_of_methodNamed Bd.named
  have hnm := (name_of_methodNamed Bd.named Bd.method).1
  have hlk : meth.locks = false := Bd.notSynchronized
  have hret := Bd.returns
  have X0 : Stand p l e ({ frames := 0, cells := 0, slots := 0, locals := 0 } : Room) s m #[(.int p1)] below meth c s₁ [] 0 0 := Stand.of_body Bd
  have e0 : s₁.heap = h0 := by rw [← hh, Bd.state]; rfl
  refine own_in (Q := fun v h L => ((p1 = 0 ∧ v = some (.ref w_INVALID)) ∨ (p1 = 1 ∧ v = some (.ref w_NONE)) ∨ (p1 = 2 ∧ v = some (.ref w_SIGN)) ∨ ((p1 ≠ 0 ∧ p1 ≠ 1 ∧ p1 ≠ 2) ∧ v = some (.ref w_SIGN_AND_ENCRYPT))) ∧ h = h0 ∧ L = []) (ef := by first | (simp [entryFrame, mkF, argsToLocals, Value.category, maxLocals]; done) | rfl) (g' := (mkF m 0 #[.val (.int p1)] [])) ?_
  obtain ⟨S_INVALID, E_INVALID, S_SIGN, E_SIGN, S_SIGN_AND_ENCRYPT, E_SIGN_AND_ENCRYPT, S_NONE, E_NONE, F_INVALID_ordinal, F_SIGN_ordinal, F_SIGN_AND_ENCRYPT_ordinal, F_NONE_ordinal, ne_INVALID_SIGN, ne_INVALID_SIGN_AND_ENCRYPT, ne_INVALID_NONE, ne_SIGN_SIGN_AND_ENCRYPT, ne_SIGN_NONE, ne_SIGN_AND_ENCRYPT_NONE, G_INVALID, X_INVALID, G_SIGN_AND_ENCRYPT, X_SIGN_AND_ENCRYPT, G_SIGN, X_SIGN, G_NONE, X_NONE, H_INVALID, H_SIGN_AND_ENCRYPT, H_SIGN, H_NONE, D_INVALID, D_SIGN_AND_ENCRYPT, D_SIGN, D_NONE, R_INVALID, R_NONE, R_SIGN, R_SIGN_AND_ENCRYPT, S_cs, cs0, S_fm, hfm⟩ := id FX
  refine own_go (T' := s₁) (g' := (mkF m 1 #[.val (.int p1)] [(.int p1)])) (fun t q => XS.iloadN X0.here hx rfl (hb hby d1_0) rfl q) ?_
  by_cases c1 : p1 = (0 : Int32)
  · refine own_go (T' := s₁) (g' := (mkF m 4 #[.val (.int p1)] [])) (fun t q => XS.ifNo X0.here hx rfl (hb hby d1_1) rfl ((if0 _ _).trans (teq c1).2) q) ?_
    obtain ⟨T2, X2, e2, st2⟩ := getS2 X0 hx hZ hown (host := "") (Or.inl (hw _ (List.mem_of_getElem? (i := 4) rfl))) Via.refl e0 S_INVALID (g := (mkF m 4 #[.val (.int p1)] [])) rfl (hb hby d1_4)
    refine own_go (T' := T2) (g' := (mkF m 7 #[.val (.int p1)] [(.ref w_INVALID)])) (fun t q => st2 t q) ?_
    refine own_outA X2 hx hlk hret rfl rfl (hb hby d1_7) ?_ (by decide) (by decide)
    exact ⟨Or.inl ⟨c1, rfl⟩, e2, rfl⟩
  · refine own_go (T' := s₁) (g' := (mkF m 8 #[.val (.int p1)] [])) (fun t q => XS.ifYes X0.here hx rfl (pc0 := 1) (pc' := 8) rfl (hb hby d1_1) rfl ((if0 _ _).trans (feq c1).2) (by decide) (by decide) q) ?_
    refine own_go (T' := s₁) (g' := (mkF m 9 #[.val (.int p1)] [(.int p1)])) (fun t q => XS.iloadN X0.here hx rfl (hb hby d1_8) rfl q) ?_
    refine own_go (T' := s₁) (g' := (mkF m 10 #[.val (.int p1)] [(.int (1 : Int32)), (.int p1)])) (fun t q => XS.iconst X0.here hx rfl (hb hby d1_9) q) ?_
    by_cases c3 : p1 = (1 : Int32)
    · refine own_go (T' := s₁) (g' := (mkF m 13 #[.val (.int p1)] [])) (fun t q => XS.icmpNo X0.here hx rfl (hb hby d1_10) rfl (teq c3).2 q) ?_
      obtain ⟨T4, X4, e4, st4⟩ := getS2 X0 hx hZ hown (host := "") (Or.inl (hw _ (List.mem_of_getElem? (i := 63) rfl))) Via.refl e0 S_NONE (g := (mkF m 13 #[.val (.int p1)] [])) rfl (hb hby d1_13)
      refine own_go (T' := T4) (g' := (mkF m 16 #[.val (.int p1)] [(.ref w_NONE)])) (fun t q => st4 t q) ?_
      refine own_outA X4 hx hlk hret rfl rfl (hb hby d1_16) ?_ (by decide) (by decide)
      exact ⟨Or.inr (Or.inl ⟨c3, rfl⟩), e4, rfl⟩
    · refine own_go (T' := s₁) (g' := (mkF m 17 #[.val (.int p1)] [])) (fun t q => XS.icmpYes X0.here hx rfl (pc0 := 10) (pc' := 17) rfl (hb hby d1_10) rfl (feq c3).2 (by decide) (by decide) q) ?_
      refine own_go (T' := s₁) (g' := (mkF m 18 #[.val (.int p1)] [(.int p1)])) (fun t q => XS.iloadN X0.here hx rfl (hb hby d1_17) rfl q) ?_
      refine own_go (T' := s₁) (g' := (mkF m 19 #[.val (.int p1)] [(.int (2 : Int32)), (.int p1)])) (fun t q => XS.iconst X0.here hx rfl (hb hby d1_18) q) ?_
      by_cases c5 : p1 = (2 : Int32)
      · refine own_go (T' := s₁) (g' := (mkF m 22 #[.val (.int p1)] [])) (fun t q => XS.icmpNo X0.here hx rfl (hb hby d1_19) rfl (teq c5).2 q) ?_
        obtain ⟨T6, X6, e6, st6⟩ := getS2 X0 hx hZ hown (host := "") (Or.inl (hw _ (List.mem_of_getElem? (i := 62) rfl))) Via.refl e0 S_SIGN (g := (mkF m 22 #[.val (.int p1)] [])) rfl (hb hby d1_22)
        refine own_go (T' := T6) (g' := (mkF m 25 #[.val (.int p1)] [(.ref w_SIGN)])) (fun t q => st6 t q) ?_
        refine own_outA X6 hx hlk hret rfl rfl (hb hby d1_25) ?_ (by decide) (by decide)
        exact ⟨Or.inr (Or.inr (Or.inl ⟨c5, rfl⟩)), e6, rfl⟩
      · refine own_go (T' := s₁) (g' := (mkF m 26 #[.val (.int p1)] [])) (fun t q => XS.icmpYes X0.here hx rfl (pc0 := 19) (pc' := 26) rfl (hb hby d1_19) rfl (feq c5).2 (by decide) (by decide) q) ?_
        obtain ⟨T7, X7, e7, st7⟩ := getS2 X0 hx hZ hown (host := "") (Or.inl (hw _ (List.mem_of_getElem? (i := 61) rfl))) Via.refl e0 S_SIGN_AND_ENCRYPT (g := (mkF m 26 #[.val (.int p1)] [])) rfl (hb hby d1_26)
        refine own_go (T' := T7) (g' := (mkF m 29 #[.val (.int p1)] [(.ref w_SIGN_AND_ENCRYPT)])) (fun t q => st7 t q) ?_
        refine own_outA X7 hx hlk hret rfl rfl (hb hby d1_29) ?_ (by decide) (by decide)
        exact ⟨Or.inr (Or.inr (Or.inr (⟨⟨c1, c3, c5⟩, rfl⟩))), e7, rfl⟩
theorem d9_0 : decode jdk_41_method_11_code 0 = .ok (.iload_n 0, 1) := by decide +kernel
theorem d9_1 : decode jdk_41_method_11_code 1 = .ok (.ifCond .lt 8, 3) := by decide +kernel
theorem d9_4 : decode jdk_41_method_11_code 4 = .ok (.iload_n 0, 1) := by decide +kernel
theorem d9_5 : decode jdk_41_method_11_code 5 = .ok (.iload_n 1, 1) := by decide +kernel
theorem d9_6 : decode jdk_41_method_11_code 6 = .ok (.if_icmp .lt 10, 3) := by decide +kernel
theorem d9_16 : decode jdk_41_method_11_code 16 = .ok (.iload_n 0, 1) := by decide +kernel
theorem d9_17 : decode jdk_41_method_11_code 17 = .ok (.ireturn, 1) := by decide +kernel
set_option maxRecDepth 65536 in
set_option maxHeartbeats 40000000 in
theorem rm_pre (l : Launch) (Z : State) (a0 : Array Value) (hw : ∀ d ∈ tables_1, d.before a0 Z = true) (ws : List Jvm.Cond) (p1 p2 : Int32) (fm : Value) (h0 : Heap) (hfm : fm.isRef = true) (h1 : ¬ p1 < (0 : Int32)) (h2 : p1 < p2) :
    own_Met l (⟨"jdk/internal/util/Preconditions", "checkIndex", "(IILjava/util/function/BiFunction;)I"⟩ : MethodName) jdk_41_method_11_code 3 (some .int) ws ({ frames := 0, cells := 0, slots := 0, locals := 0 } : Room) Z #[(.int p1), (.int p2), fm] h0 (fun v h L => v = some (.int p1) ∧ h = h0 ∧ L = []) := by
  refine MetFree.of_bodySF (plainFor_of_name (by first | (simp [plainName, overriddenIn]; done) | decide +kernel)) hisR ?_
  intro p e s m args below meth c s₁ Bd hml0 hP hK
  obtain ⟨rfl, hZ, hh⟩ := hP
  have hx := Bd.exec
  have hby := Bd.bytes
  have hml : c.maxLocals = 3 := hml0
  have hown : s.vm.findClass "jdk/internal/util/Preconditions" = some m.cls := findClass_of_methodNamed Bd.named
  have hnm := (name_of_methodNamed Bd.named Bd.method).1
  have hlk : meth.locks = false := Bd.notSynchronized
  have hret := Bd.returns
  have X0 : Stand p l e ({ frames := 0, cells := 0, slots := 0, locals := 0 } : Room) s m #[(.int p1), (.int p2), fm] below meth c s₁ [] 0 0 := Stand.of_body Bd
  have e0 : s₁.heap = h0 := by rw [← hh, Bd.state]; rfl
  refine own_in (Q := fun v h L => v = some (.int p1) ∧ h = h0 ∧ L = []) (ef := by rcases ref_cases hfm with rfl | ⟨f, rfl⟩ <;> first | (simp [entryFrame, mkF, argsToLocals, Value.category]; done) | rfl) (g' := (mkF m 0 #[.val (.int p1), .val (.int p2), .val fm] [])) ?_
  refine own_go (T' := s₁) (g' := (mkF m 1 #[.val (.int p1), .val (.int p2), .val fm] [(.int p1)])) (fun t q => XS.iloadN X0.here hx rfl (hb hby d9_0) rfl q) ?_
  have c1 : ¬ (p1 < (0 : Int32)) := h1
  refine own_go (T' := s₁) (g' := (mkF m 4 #[.val (.int p1), .val (.int p2), .val fm] [])) (fun t q => XS.ifNo X0.here hx rfl (hb hby d9_1) rfl ((if0 _ _).trans (flt c1).1) q) ?_
  refine own_go (T' := s₁) (g' := (mkF m 5 #[.val (.int p1), .val (.int p2), .val fm] [(.int p1)])) (fun t q => XS.iloadN X0.here hx rfl (hb hby d9_4) rfl q) ?_
  refine own_go (T' := s₁) (g' := (mkF m 6 #[.val (.int p1), .val (.int p2), .val fm] [(.int p2), (.int p1)])) (fun t q => XS.iloadN X0.here hx rfl (hb hby d9_5) rfl q) ?_
  have c2 : p1 < p2 := h2
  refine own_go (T' := s₁) (g' := (mkF m 16 #[.val (.int p1), .val (.int p2), .val fm] [])) (fun t q => XS.icmpYes X0.here hx rfl (pc0 := 6) (pc' := 16) rfl (hb hby d9_6) rfl (tlt c2).1 (by decide) (by decide) q) ?_
  refine own_go (T' := s₁) (g' := (mkF m 17 #[.val (.int p1), .val (.int p2), .val fm] [(.int p1)])) (fun t q => XS.iloadN X0.here hx rfl (hb hby d9_16) rfl q) ?_
  refine own_outI X0 hx hlk hret (hb hby d9_17) ?_ (by decide) (by decide)
  exact ⟨rfl, e0, rfl⟩
theorem d8_0 : decode jdk_42_method_155_code 0 = .ok (.iload_n 0, 1) := by decide +kernel
theorem d8_1 : decode jdk_42_method_155_code 1 = .ok (.iload_n 1, 1) := by decide +kernel
theorem d8_2 : decode jdk_42_method_155_code 2 = .ok (.getstatic 1053, 3) := by decide +kernel
theorem d8_5 : decode jdk_42_method_155_code 5 = .ok (.invokestatic 1059, 3) := by decide +kernel
theorem d8_8 : decode jdk_42_method_155_code 8 = .ok (.pop, 1) := by decide +kernel
theorem d8_9 : decode jdk_42_method_155_code 9 = .ok (.return_, 1) := by decide +kernel
set_option maxRecDepth 65536 in
set_option maxHeartbeats 40000000 in
theorem rm_chk (l : Launch) (Z : State) (a0 : Array Value) (hw : ∀ d ∈ tables_1, d.before a0 Z = true) (ws : List Jvm.Cond) (p1 p2 : Int32) (w_INVALID w_NONE w_SIGN w_SIGN_AND_ENCRYPT s_INVALID s_NONE s_SIGN s_SIGN_AND_ENCRYPT v_INVALID v_NONE v_SIGN v_SIGN_AND_ENCRYPT : Addr) (cs : Int32) (fm : Value) (h0 : Heap) (FX : own_F Z h0 w_INVALID w_NONE w_SIGN w_SIGN_AND_ENCRYPT s_INVALID s_NONE s_SIGN s_SIGN_AND_ENCRYPT v_INVALID v_NONE v_SIGN v_SIGN_AND_ENCRYPT cs fm) (h1 : ¬ p1 < (0 : Int32)) (h2 : p1 < p2) :
    own_Met l (⟨"java/lang/String", "checkIndex", "(II)V"⟩ : MethodName) jdk_42_method_155_code 2 none ws ({ frames := 1, cells := 0, slots := 0, locals := 14 } : Room) Z #[(.int p1), (.int p2)] h0 (fun v h L => v = none ∧ h = h0 ∧ L = []) := by
  refine MetFree.of_bodySF (plainFor_of_name (by first | (simp [plainName, overriddenIn]; done) | decide +kernel)) hisR ?_
  intro p e s m args below meth c s₁ Bd hml0 hP hK
  obtain ⟨rfl, hZ, hh⟩ := hP
  have hx := Bd.exec
  have hby := Bd.bytes
  have hml : c.maxLocals = 2 := hml0
  have hown : s.vm.findClass "java/lang/String" = some m.cls := findClass_of_methodNamed Bd.named
  have hnm := (name_of_methodNamed Bd.named Bd.method).1
  have hlk : meth.locks = false := Bd.notSynchronized
  have hret := Bd.returns
  have X0 : Stand p l e ({ frames := 1, cells := 0, slots := 0, locals := 14 } : Room) s m #[(.int p1), (.int p2)] below meth c s₁ [] 0 0 := Stand.of_body Bd
  have e0 : s₁.heap = h0 := by rw [← hh, Bd.state]; rfl
  refine own_in (Q := fun v h L => v = none ∧ h = h0 ∧ L = []) (ef := by first | (simp [entryFrame, mkF, argsToLocals, Value.category, maxLocals]; done) | rfl) (g' := (mkF m 0 #[.val (.int p1), .val (.int p2)] [])) ?_
  obtain ⟨S_INVALID, E_INVALID, S_SIGN, E_SIGN, S_SIGN_AND_ENCRYPT, E_SIGN_AND_ENCRYPT, S_NONE, E_NONE, F_INVALID_ordinal, F_SIGN_ordinal, F_SIGN_AND_ENCRYPT_ordinal, F_NONE_ordinal, ne_INVALID_SIGN, ne_INVALID_SIGN_AND_ENCRYPT, ne_INVALID_NONE, ne_SIGN_SIGN_AND_ENCRYPT, ne_SIGN_NONE, ne_SIGN_AND_ENCRYPT_NONE, G_INVALID, X_INVALID, G_SIGN_AND_ENCRYPT, X_SIGN_AND_ENCRYPT, G_SIGN, X_SIGN, G_NONE, X_NONE, H_INVALID, H_SIGN_AND_ENCRYPT, H_SIGN, H_NONE, D_INVALID, D_SIGN_AND_ENCRYPT, D_SIGN, D_NONE, R_INVALID, R_NONE, R_SIGN, R_SIGN_AND_ENCRYPT, S_cs, cs0, S_fm, hfm⟩ := id FX
  refine own_go (T' := s₁) (g' := (mkF m 1 #[.val (.int p1), .val (.int p2)] [(.int p1)])) (fun t q => XS.iloadN X0.here hx rfl (hb hby d8_0) rfl q) ?_
  refine own_go (T' := s₁) (g' := (mkF m 2 #[.val (.int p1), .val (.int p2)] [(.int p2), (.int p1)])) (fun t q => XS.iloadN X0.here hx rfl (hb hby d8_1) rfl q) ?_
  obtain ⟨T1, X1, e1, st1⟩ := getS2 X0 hx hZ hown (host := "") (Or.inl (hw _ (List.mem_of_getElem? (i := 47) rfl))) Via.refl e0 S_fm (g := (mkF m 2 #[.val (.int p1), .val (.int p2)] [(.int p2), (.int p1)])) rfl (hb hby d8_2)
  refine own_go (T' := T1) (g' := (mkF m 5 #[.val (.int p1), .val (.int p2)] [fm, (.int p2), (.int p1)])) (fun t q => st1 t q) ?_
  obtain ⟨v2, T2, L2, X2, Q2, st2⟩ := own_callS X1 hx hZ (y := (⟨"jdk/internal/util/Preconditions", "checkIndex", "(IILjava/util/function/BiFunction;)I"⟩ : MethodName)) (argsL := [(.int p1), (.int p2), fm]) (rest := []) hown (hw _ (List.mem_of_getElem? (i := 49) rfl)) (hw _ (List.mem_of_getElem? (i := 50) rfl)) (hw _ (List.mem_of_getElem? (i := 48) rfl)) (hw _ (List.mem_of_getElem? (i := 51) rfl)) (rm_pre l Z a0 hw [] p1 p2 fm h0 hfm h1 h2) e1 (by decide) (by decide) 0 (by decide) (by decide) (by decide) (g := (mkF m 5 #[.val (.int p1), .val (.int p2)] [fm, (.int p2), (.int p1)])) rfl (by rw [hml]; rfl) (lenOf (ps := [.int, .int, (.object "java/util/function/BiFunction")]) (r := (some .int)) (by decide +kernel) rfl) rfl (by show 2 * 0 + _ ≤ _; exact Nat.le_of_eq rfl) (hb hby d8_5)
  obtain ⟨rfl, e2, rfl⟩ := Q2
  refine own_go (T' := T2) (g' := (mkF m 8 #[.val (.int p1), .val (.int p2)] [(.int p1)])) (fun t q => st2 t q) ?_
  refine own_go (T' := T2) (g' := (mkF m 9 #[.val (.int p1), .val (.int p2)] [])) (fun t q => XT.pop X2.here hx rfl (hb hby d8_8) rfl rfl q) ?_
  refine own_outV X2 hx hlk hret (hb hby d8_9) ?_ (by decide) (by decide)
  exact ⟨rfl, e2, rfl⟩
theorem d4_0 : decode jdk_42_method_152_code 0 = .ok (.getstatic 38, 3) := by decide +kernel
theorem d4_3 : decode jdk_42_method_152_code 3 = .ok (.ifCond .eq 10, 3) := by decide +kernel
theorem d4_6 : decode jdk_42_method_152_code 6 = .ok (.aload_n 0, 1) := by decide +kernel
theorem d4_7 : decode jdk_42_method_152_code 7 = .ok (.getfield 15, 3) := by decide +kernel
theorem d4_10 : decode jdk_42_method_152_code 10 = .ok (.goto 4, 3) := by decide +kernel
theorem d4_14 : decode jdk_42_method_152_code 14 = .ok (.ireturn, 1) := by decide +kernel
set_option maxRecDepth 65536 in
set_option maxHeartbeats 40000000 in
theorem rm_cod_INVALID (l : Launch) (Z : State) (a0 : Array Value) (hw : ∀ d ∈ tables_1, d.before a0 Z = true) (ws : List Jvm.Cond) (w_INVALID w_NONE w_SIGN w_SIGN_AND_ENCRYPT s_INVALID s_NONE s_SIGN s_SIGN_AND_ENCRYPT v_INVALID v_NONE v_SIGN v_SIGN_AND_ENCRYPT : Addr) (cs : Int32) (fm : Value) (h0 : Heap) (FX : own_F Z h0 w_INVALID w_NONE w_SIGN w_SIGN_AND_ENCRYPT s_INVALID s_NONE s_SIGN s_SIGN_AND_ENCRYPT v_INVALID v_NONE v_SIGN v_SIGN_AND_ENCRYPT cs fm) :
    own_Met l (⟨"java/lang/String", "coder", "()B"⟩ : MethodName) jdk_42_method_152_code 1 (some .byte) ws ({ frames := 0, cells := 0, slots := 0, locals := 0 } : Room) Z #[(.ref s_INVALID)] h0 (fun v h L => v = some (.int (0 : Int32)) ∧ h = h0 ∧ L = []) := by
  refine MetFree.of_bodySF (plainFor_of_name (by first | (simp [plainName, overriddenIn]; done) | decide +kernel)) hisR ?_
  intro p e s m args below meth c s₁ Bd hml0 hP hK
  obtain ⟨rfl, hZ, hh⟩ := hP
  have hx := Bd.exec
  have hby := Bd.bytes
  have hml : c.maxLocals = 1 := hml0
  have hown : s.vm.findClass "java/lang/String" = some m.cls := findClass_of_methodNamed Bd.named
  have hnm := (name_of_methodNamed Bd.named Bd.method).1
  have hlk : meth.locks = false := Bd.notSynchronized
  have hret := Bd.returns
  have X0 : Stand p l e ({ frames := 0, cells := 0, slots := 0, locals := 0 } : Room) s m #[(.ref s_INVALID)] below meth c s₁ [] 0 0 := Stand.of_body Bd
  have e0 : s₁.heap = h0 := by rw [← hh, Bd.state]; rfl
  refine own_in (Q := fun v h L => v = some (.int (0 : Int32)) ∧ h = h0 ∧ L = []) (ef := by first | (simp [entryFrame, mkF, argsToLocals, Value.category, maxLocals]; done) | rfl) (g' := (mkF m 0 #[.val (.ref s_INVALID)] [])) ?_
  obtain ⟨S_INVALID, E_INVALID, S_SIGN, E_SIGN, S_SIGN_AND_ENCRYPT, E_SIGN_AND_ENCRYPT, S_NONE, E_NONE, F_INVALID_ordinal, F_SIGN_ordinal, F_SIGN_AND_ENCRYPT_ordinal, F_NONE_ordinal, ne_INVALID_SIGN, ne_INVALID_SIGN_AND_ENCRYPT, ne_INVALID_NONE, ne_SIGN_SIGN_AND_ENCRYPT, ne_SIGN_NONE, ne_SIGN_AND_ENCRYPT_NONE, G_INVALID, X_INVALID, G_SIGN_AND_ENCRYPT, X_SIGN_AND_ENCRYPT, G_SIGN, X_SIGN, G_NONE, X_NONE, H_INVALID, H_SIGN_AND_ENCRYPT, H_SIGN, H_NONE, D_INVALID, D_SIGN_AND_ENCRYPT, D_SIGN, D_NONE, R_INVALID, R_NONE, R_SIGN, R_SIGN_AND_ENCRYPT, S_cs, cs0, S_fm, hfm⟩ := id FX
  obtain ⟨T1, X1, e1, st1⟩ := getS2 X0 hx hZ hown (host := "") (Or.inl (hw _ (List.mem_of_getElem? (i := 27) rfl))) Via.refl e0 S_cs (g := (mkF m 0 #[.val (.ref s_INVALID)] [])) rfl (hb hby d4_0)
  refine own_go (T' := T1) (g' := (mkF m 3 #[.val (.ref s_INVALID)] [(.int cs)])) (fun t q => st1 t q) ?_
  have c2 : ¬ (cs = (0 : Int32)) := cs0
  refine own_go (T' := T1) (g' := (mkF m 6 #[.val (.ref s_INVALID)] [])) (fun t q => XS.ifNo X1.here hx rfl (hb hby d4_3) rfl ((if0 _ _).trans (feq c2).1) q) ?_
  refine own_go (T' := T1) (g' := (mkF m 7 #[.val (.ref s_INVALID)] [(.ref s_INVALID)])) (fun t q => XS.aloadN X1.here hx rfl (hb hby d4_6) rfl rfl q) ?_
  obtain ⟨T3, X3, e3, st3⟩ := getF X1 hx hZ hown (host := "") (Or.inl (hw _ (List.mem_of_getElem? (i := 28) rfl))) Via.refl e1 D_INVALID (g := (mkF m 7 #[.val (.ref s_INVALID)] [(.ref s_INVALID)])) rfl rfl (hb hby d4_7)
  refine own_go (T' := T3) (g' := (mkF m 10 #[.val (.ref s_INVALID)] [(.int (0 : Int32))])) (fun t q => st3 t q) ?_
  refine own_go (T' := T3) (g' := (mkF m 14 #[.val (.ref s_INVALID)] [(.int (0 : Int32))])) (fun t q => XS.goto X3.here hx rfl (pc0 := 10) (pc' := 14) rfl (hb hby d4_10) (by decide) (by decide) q) ?_
  refine own_outN X3 hx hlk hret (t := .byte) (by simp) (hb hby d4_14) (w := (0 : Int32)) (by decide) ?_ (by decide) (by decide)
  exact ⟨rfl, e3, rfl⟩
theorem d6_0 : decode jdk_42_method_154_code 0 = .ok (.getstatic 38, 3) := by decide +kernel
theorem d6_3 : decode jdk_42_method_154_code 3 = .ok (.ifCond .eq 14, 3) := by decide +kernel
theorem d6_6 : decode jdk_42_method_154_code 6 = .ok (.aload_n 0, 1) := by decide +kernel
theorem d6_7 : decode jdk_42_method_154_code 7 = .ok (.getfield 15, 3) := by decide +kernel
theorem d6_10 : decode jdk_42_method_154_code 10 = .ok (.ifCond .ne 7, 3) := by decide +kernel
theorem d6_13 : decode jdk_42_method_154_code 13 = .ok (.iconst 1, 1) := by decide +kernel
theorem d6_14 : decode jdk_42_method_154_code 14 = .ok (.goto 4, 3) := by decide +kernel
theorem d6_18 : decode jdk_42_method_154_code 18 = .ok (.ireturn, 1) := by decide +kernel
set_option maxRecDepth 65536 in
set_option maxHeartbeats 40000000 in
theorem rm_isl_INVALID (l : Launch) (Z : State) (a0 : Array Value) (hw : ∀ d ∈ tables_1, d.before a0 Z = true) (ws : List Jvm.Cond) (w_INVALID w_NONE w_SIGN w_SIGN_AND_ENCRYPT s_INVALID s_NONE s_SIGN s_SIGN_AND_ENCRYPT v_INVALID v_NONE v_SIGN v_SIGN_AND_ENCRYPT : Addr) (cs : Int32) (fm : Value) (h0 : Heap) (FX : own_F Z h0 w_INVALID w_NONE w_SIGN w_SIGN_AND_ENCRYPT s_INVALID s_NONE s_SIGN s_SIGN_AND_ENCRYPT v_INVALID v_NONE v_SIGN v_SIGN_AND_ENCRYPT cs fm) :
    own_Met l (⟨"java/lang/String", "isLatin1", "()Z"⟩ : MethodName) jdk_42_method_154_code 1 (some .boolean) ws ({ frames := 0, cells := 0, slots := 0, locals := 0 } : Room) Z #[(.ref s_INVALID)] h0 (fun v h L => v = some (.int (1 : Int32)) ∧ h = h0 ∧ L = []) := by
  refine MetFree.of_bodySF (plainFor_of_name (by first | (simp [plainName, overriddenIn]; done) | decide +kernel)) hisR ?_
  intro p e s m args below meth c s₁ Bd hml0 hP hK
  obtain ⟨rfl, hZ, hh⟩ := hP
  have hx := Bd.exec
  have hby := Bd.bytes
  have hml : c.maxLocals = 1 := hml0
  have hown : s.vm.findClass "java/lang/String" = some m.cls := findClass_of_methodNamed Bd.named
  have hnm := (name_of_methodNamed Bd.named Bd.method).1
  have hlk : meth.locks = false := Bd.notSynchronized
  have hret := Bd.returns
  have X0 : Stand p l e ({ frames := 0, cells := 0, slots := 0, locals := 0 } : Room) s m #[(.ref s_INVALID)] below meth c s₁ [] 0 0 := Stand.of_body Bd
  have e0 : s₁.heap = h0 := by rw [← hh, Bd.state]; rfl
  refine own_in (Q := fun v h L => v = some (.int (1 : Int32)) ∧ h = h0 ∧ L = []) (ef := by first | (simp [entryFrame, mkF, argsToLocals, Value.category, maxLocals]; done) | rfl) (g' := (mkF m 0 #[.val (.ref s_INVALID)] [])) ?_
  obtain ⟨S_INVALID, E_INVALID, S_SIGN, E_SIGN, S_SIGN_AND_ENCRYPT, E_SIGN_AND_ENCRYPT, S_NONE, E_NONE, F_INVALID_ordinal, F_SIGN_ordinal, F_SIGN_AND_ENCRYPT_ordinal, F_NONE_ordinal, ne_INVALID_SIGN, ne_INVALID_SIGN_AND_ENCRYPT, ne_INVALID_NONE, ne_SIGN_SIGN_AND_ENCRYPT, ne_SIGN_NONE, ne_SIGN_AND_ENCRYPT_NONE, G_INVALID, X_INVALID, G_SIGN_AND_ENCRYPT, X_SIGN_AND_ENCRYPT, G_SIGN, X_SIGN, G_NONE, X_NONE, H_INVALID, H_SIGN_AND_ENCRYPT, H_SIGN, H_NONE, D_INVALID, D_SIGN_AND_ENCRYPT, D_SIGN, D_NONE, R_INVALID, R_NONE, R_SIGN, R_SIGN_AND_ENCRYPT, S_cs, cs0, S_fm, hfm⟩ := id FX
  obtain ⟨T1, X1, e1, st1⟩ := getS2 X0 hx hZ hown (host := "") (Or.inl (hw _ (List.mem_of_getElem? (i := 27) rfl))) Via.refl e0 S_cs (g := (mkF m 0 #[.val (.ref s_INVALID)] [])) rfl (hb hby d6_0)
  refine own_go (T' := T1) (g' := (mkF m 3 #[.val (.ref s_INVALID)] [(.int cs)])) (fun t q => st1 t q) ?_
  have c2 : ¬ (cs = (0 : Int32)) := cs0
  refine own_go (T' := T1) (g' := (mkF m 6 #[.val (.ref s_INVALID)] [])) (fun t q => XS.ifNo X1.here hx rfl (hb hby d6_3) rfl ((if0 _ _).trans (feq c2).1) q) ?_
  refine own_go (T' := T1) (g' := (mkF m 7 #[.val (.ref s_INVALID)] [(.ref s_INVALID)])) (fun t q => XS.aloadN X1.here hx rfl (hb hby d6_6) rfl rfl q) ?_
  obtain ⟨T3, X3, e3, st3⟩ := getF X1 hx hZ hown (host := "") (Or.inl (hw _ (List.mem_of_getElem? (i := 28) rfl))) Via.refl e1 D_INVALID (g := (mkF m 7 #[.val (.ref s_INVALID)] [(.ref s_INVALID)])) rfl rfl (hb hby d6_7)
  refine own_go (T' := T3) (g' := (mkF m 10 #[.val (.ref s_INVALID)] [(.int (0 : Int32))])) (fun t q => st3 t q) ?_
  have c4 : (0 : Int32) = (0 : Int32) := by decide
  refine own_go (T' := T3) (g' := (mkF m 13 #[.val (.ref s_INVALID)] [])) (fun t q => XS.ifNo X3.here hx rfl (hb hby d6_10) rfl ((if0 _ _).trans (teq c4).2) q) ?_
  refine own_go (T' := T3) (g' := (mkF m 14 #[.val (.ref s_INVALID)] [(.int (1 : Int32))])) (fun t q => XS.iconst X3.here hx rfl (hb hby d6_13) q) ?_
  refine own_go (T' := T3) (g' := (mkF m 18 #[.val (.ref s_INVALID)] [(.int (1 : Int32))])) (fun t q => XS.goto X3.here hx rfl (pc0 := 14) (pc' := 18) rfl (hb hby d6_14) (by decide) (by decide) q) ?_
  refine own_outN X3 hx hlk hret (t := .boolean) (by simp) (hb hby d6_18) (w := (1 : Int32)) (by decide) ?_ (by decide) (by decide)
  exact ⟨rfl, e3, rfl⟩
theorem d3_0 : decode jdk_42_method_54_code 0 = .ok (.aload_n 0, 1) := by decide +kernel
theorem d3_1 : decode jdk_42_method_54_code 1 = .ok (.getfield 9, 3) := by decide +kernel
theorem d3_4 : decode jdk_42_method_54_code 4 = .ok (.arraylength, 1) := by decide +kernel
theorem d3_5 : decode jdk_42_method_54_code 5 = .ok (.aload_n 0, 1) := by decide +kernel
theorem d3_6 : decode jdk_42_method_54_code 6 = .ok (.invokevirtual 335, 3) := by decide +kernel
theorem d3_9 : decode jdk_42_method_54_code 9 = .ok (.ishr, 1) := by decide +kernel
theorem d3_10 : decode jdk_42_method_54_code 10 = .ok (.ireturn, 1) := by decide +kernel
set_option maxRecDepth 65536 in
set_option maxHeartbeats 40000000 in
theorem rm_len_INVALID (l : Launch) (Z : State) (a0 : Array Value) (hw : ∀ d ∈ tables_1, d.before a0 Z = true) (ws : List Jvm.Cond) (w_INVALID w_NONE w_SIGN w_SIGN_AND_ENCRYPT s_INVALID s_NONE s_SIGN s_SIGN_AND_ENCRYPT v_INVALID v_NONE v_SIGN v_SIGN_AND_ENCRYPT : Addr) (cs : Int32) (fm : Value) (h0 : Heap) (FX : own_F Z h0 w_INVALID w_NONE w_SIGN w_SIGN_AND_ENCRYPT s_INVALID s_NONE s_SIGN s_SIGN_AND_ENCRYPT v_INVALID v_NONE v_SIGN v_SIGN_AND_ENCRYPT cs fm) :
    own_Met l (⟨"java/lang/String", "length", "()I"⟩ : MethodName) jdk_42_method_54_code 1 (some .int) ws ({ frames := 1, cells := 0, slots := 0, locals := 13 } : Room) Z #[(.ref s_INVALID)] h0 (fun v h L => v = some (.int (7 : Int32)) ∧ h = h0 ∧ L = []) := by
  refine MetFree.of_bodySF (plainFor_of_name (by first | (simp [plainName, overriddenIn]; done) | decide +kernel)) hisR ?_
  intro p e s m args below meth c s₁ Bd hml0 hP hK
  obtain ⟨rfl, hZ, hh⟩ := hP
  have hx := Bd.exec
  have hby := Bd.bytes
  have hml : c.maxLocals = 1 := hml0
  have hown : s.vm.findClass "java/lang/String" = some m.cls := findClass_of_methodNamed Bd.named
  have hnm := (name_of_methodNamed Bd.named Bd.method).1
  have hlk : meth.locks = false := Bd.notSynchronized
  have hret := Bd.returns
  have X0 : Stand p l e ({ frames := 1, cells := 0, slots := 0, locals := 13 } : Room) s m #[(.ref s_INVALID)] below meth c s₁ [] 0 0 := Stand.of_body Bd
  have e0 : s₁.heap = h0 := by rw [← hh, Bd.state]; rfl
  refine own_in (Q := fun v h L => v = some (.int (7 : Int32)) ∧ h = h0 ∧ L = []) (ef := by first | (simp [entryFrame, mkF, argsToLocals, Value.category, maxLocals]; done) | rfl) (g' := (mkF m 0 #[.val (.ref s_INVALID)] [])) ?_
  obtain ⟨S_INVALID, E_INVALID, S_SIGN, E_SIGN, S_SIGN_AND_ENCRYPT, E_SIGN_AND_ENCRYPT, S_NONE, E_NONE, F_INVALID_ordinal, F_SIGN_ordinal, F_SIGN_AND_ENCRYPT_ordinal, F_NONE_ordinal, ne_INVALID_SIGN, ne_INVALID_SIGN_AND_ENCRYPT, ne_INVALID_NONE, ne_SIGN_SIGN_AND_ENCRYPT, ne_SIGN_NONE, ne_SIGN_AND_ENCRYPT_NONE, G_INVALID, X_INVALID, G_SIGN_AND_ENCRYPT, X_SIGN_AND_ENCRYPT, G_SIGN, X_SIGN, G_NONE, X_NONE, H_INVALID, H_SIGN_AND_ENCRYPT, H_SIGN, H_NONE, D_INVALID, D_SIGN_AND_ENCRYPT, D_SIGN, D_NONE, R_INVALID, R_NONE, R_SIGN, R_SIGN_AND_ENCRYPT, S_cs, cs0, S_fm, hfm⟩ := id FX
  refine own_go (T' := s₁) (g' := (mkF m 1 #[.val (.ref s_INVALID)] [(.ref s_INVALID)])) (fun t q => XS.aloadN X0.here hx rfl (hb hby d3_0) rfl rfl q) ?_
  obtain ⟨T1, X1, e1, st1⟩ := getF X0 hx hZ hown (host := "") (Or.inl (hw _ (List.mem_of_getElem? (i := 20) rfl))) Via.refl e0 H_INVALID (g := (mkF m 1 #[.val (.ref s_INVALID)] [(.ref s_INVALID)])) rfl rfl (hb hby d3_1)
  refine own_go (T' := T1) (g' := (mkF m 4 #[.val (.ref s_INVALID)] [(.ref v_INVALID)])) (fun t q => st1 t q) ?_
  refine own_go (T' := T1) (g' := (mkF m 5 #[.val (.ref s_INVALID)] [(.int (7 : Int32))])) (fun t q => own_len X1 hx hZ e1 R_INVALID (n := (7 : Int32)) rfl (g := (mkF m 4 #[.val (.ref s_INVALID)] [(.ref v_INVALID)])) rfl rfl (hb hby d3_4) t q) ?_
  refine own_go (T' := T1) (g' := (mkF m 6 #[.val (.ref s_INVALID)] [(.ref s_INVALID), (.int (7 : Int32))])) (fun t q => XS.aloadN X1.here hx rfl (hb hby d3_5) rfl rfl q) ?_
  obtain ⟨v2, T2, L2, X2, Q2, st2⟩ := own_callV X1 hx hZ (y := (⟨"java/lang/String", "coder", "()B"⟩ : MethodName)) (b := s_INVALID) (argsL := []) (rest := [(.int (7 : Int32))]) hown (hw _ (List.mem_of_getElem? (i := 22) rfl)) (hw _ (List.mem_of_getElem? (i := 23) rfl)) (hw _ (List.mem_of_getElem? (i := 25) rfl)) (hw _ (List.mem_of_getElem? (i := 24) rfl)) (hw _ (List.mem_of_getElem? (i := 18) rfl)) (hw _ (List.mem_of_getElem? (i := 26) rfl)) (rm_cod_INVALID l Z a0 hw [] w_INVALID w_NONE w_SIGN w_SIGN_AND_ENCRYPT s_INVALID s_NONE s_SIGN s_SIGN_AND_ENCRYPT v_INVALID v_NONE v_SIGN v_SIGN_AND_ENCRYPT cs fm h0 FX) e1 X_INVALID (by decide) (by decide) 1 (by decide) (by decide) (by decide) (g := (mkF m 6 #[.val (.ref s_INVALID)] [(.ref s_INVALID), (.int (7 : Int32))])) rfl (by rw [hml]; rfl) (lenOf (ps := []) (r := (some .byte)) (by decide +kernel) rfl) rfl (by show 2 * 0 + _ ≤ _; exact Nat.le_of_eq rfl) (hb hby d3_6)
  obtain ⟨rfl, e2, rfl⟩ := Q2
  refine own_go (T' := T2) (g' := (mkF m 9 #[.val (.ref s_INVALID)] [(.int (0 : Int32)), (.int (7 : Int32))])) (fun t q => st2 t q) ?_
  refine own_go (T' := T2) (g' := (mkF m 10 #[.val (.ref s_INVALID)] [(.int ((7 : Int32) >>> ((0 : Int32) &&& 31)))])) (fun t q => XT.ishr X2.here hx rfl (hb hby d3_9) rfl q) ?_
  refine own_outI X2 hx hlk hret (hb hby d3_10) ?_ (by decide) (by decide)
  exact ⟨congrArg (fun z => some (Value.int z)) (by decide), e2, rfl⟩
theorem d7_0 : decode jdk_43_method_2_code 0 = .ok (.iload_n 1, 1) := by decide +kernel
theorem d7_1 : decode jdk_43_method_2_code 1 = .ok (.aload_n 0, 1) := by decide +kernel
theorem d7_2 : decode jdk_43_method_2_code 2 = .ok (.arraylength, 1) := by decide +kernel
theorem d7_3 : decode jdk_43_method_2_code 3 = .ok (.invokestatic 9, 3) := by decide +kernel
theorem d7_6 : decode jdk_43_method_2_code 6 = .ok (.aload_n 0, 1) := by decide +kernel
theorem d7_7 : decode jdk_43_method_2_code 7 = .ok (.iload_n 1, 1) := by decide +kernel
theorem d7_8 : decode jdk_43_method_2_code 8 = .ok (.baload, 1) := by decide +kernel
theorem d7_9 : decode jdk_43_method_2_code 9 = .ok (.sipush 255, 3) := by decide +kernel
theorem d7_12 : decode jdk_43_method_2_code 12 = .ok (.iand, 1) := by decide +kernel
theorem d7_13 : decode jdk_43_method_2_code 13 = .ok (.i2c, 1) := by decide +kernel
theorem d7_14 : decode jdk_43_method_2_code 14 = .ok (.ireturn, 1) := by decide +kernel
set_option maxRecDepth 65536 in
set_option maxHeartbeats 40000000 in
theorem rm_lat_INVALID_0 (l : Launch) (Z : State) (a0 : Array Value) (hw : ∀ d ∈ tables_1, d.before a0 Z = true) (ws : List Jvm.Cond) (w_INVALID w_NONE w_SIGN w_SIGN_AND_ENCRYPT s_INVALID s_NONE s_SIGN s_SIGN_AND_ENCRYPT v_INVALID v_NONE v_SIGN v_SIGN_AND_ENCRYPT : Addr) (cs : Int32) (fm : Value) (h0 : Heap) (FX : own_F Z h0 w_INVALID w_NONE w_SIGN w_SIGN_AND_ENCRYPT s_INVALID s_NONE s_SIGN s_SIGN_AND_ENCRYPT v_INVALID v_NONE v_SIGN v_SIGN_AND_ENCRYPT cs fm) :
    own_Met l (⟨"java/lang/StringLatin1", "charAt", "([BI)C"⟩ : MethodName) jdk_43_method_2_code 2 (some .char) ws ({ frames := 2, cells := 0, slots := 0, locals := 27 } : Room) Z #[(.ref v_INVALID), (.int (0 : Int32))] h0 (fun v h L => v = some (.int (73 : Int32)) ∧ h = h0 ∧ L = []) := by
  refine MetFree.of_bodySF (plainFor_of_name (by first | (simp [plainName, overriddenIn]; done) | decide +kernel)) hisR ?_
  intro p e s m args below meth c s₁ Bd hml0 hP hK
  obtain ⟨rfl, hZ, hh⟩ := hP
  have hx := Bd.exec
  have hby := Bd.bytes
  have hml : c.maxLocals = 2 := hml0
  have hown : s.vm.findClass "java/lang/StringLatin1" = some m.cls := findClass_of_methodNamed Bd.named
  have hnm := (name_of_methodNamed Bd.named Bd.method).1
  have hlk : meth.locks = false := Bd.notSynchronized
  have hret := Bd.returns
  have X0 : Stand p l e ({ frames := 2, cells := 0, slots := 0, locals := 27 } : Room) s m #[(.ref v_INVALID), (.int (0 : Int32))] below meth c s₁ [] 0 0 := Stand.of_body Bd
  have e0 : s₁.heap = h0 := by rw [← hh, Bd.state]; rfl
  refine own_in (Q := fun v h L => v = some (.int (73 : Int32)) ∧ h = h0 ∧ L = []) (ef := by first | (simp [entryFrame, mkF, argsToLocals, Value.category, maxLocals]; done) | rfl) (g' := (mkF m 0 #[.val (.ref v_INVALID), .val (.int (0 : Int32))] [])) ?_
  obtain ⟨S_INVALID, E_INVALID, S_SIGN, E_SIGN, S_SIGN_AND_ENCRYPT, E_SIGN_AND_ENCRYPT, S_NONE, E_NONE, F_INVALID_ordinal, F_SIGN_ordinal, F_SIGN_AND_ENCRYPT_ordinal, F_NONE_ordinal, ne_INVALID_SIGN, ne_INVALID_SIGN_AND_ENCRYPT, ne_INVALID_NONE, ne_SIGN_SIGN_AND_ENCRYPT, ne_SIGN_NONE, ne_SIGN_AND_ENCRYPT_NONE, G_INVALID, X_INVALID, G_SIGN_AND_ENCRYPT, X_SIGN_AND_ENCRYPT, G_SIGN, X_SIGN, G_NONE, X_NONE, H_INVALID, H_SIGN_AND_ENCRYPT, H_SIGN, H_NONE, D_INVALID, D_SIGN_AND_ENCRYPT, D_SIGN, D_NONE, R_INVALID, R_NONE, R_SIGN, R_SIGN_AND_ENCRYPT, S_cs, cs0, S_fm, hfm⟩ := id FX
  refine own_go (T' := s₁) (g' := (mkF m 1 #[.val (.ref v_INVALID), .val (.int (0 : Int32))] [(.int (0 : Int32))])) (fun t q => XS.iloadN X0.here hx rfl (hb hby d7_0) rfl q) ?_
  refine own_go (T' := s₁) (g' := (mkF m 2 #[.val (.ref v_INVALID), .val (.int (0 : Int32))] [(.ref v_INVALID), (.int (0 : Int32))])) (fun t q => XS.aloadN X0.here hx rfl (hb hby d7_1) rfl rfl q) ?_
  refine own_go (T' := s₁) (g' := (mkF m 3 #[.val (.ref v_INVALID), .val (.int (0 : Int32))] [(.int (7 : Int32)), (.int (0 : Int32))])) (fun t q => own_len X0 hx hZ e0 R_INVALID (n := (7 : Int32)) rfl (g := (mkF m 2 #[.val (.ref v_INVALID), .val (.int (0 : Int32))] [(.ref v_INVALID), (.int (0 : Int32))])) rfl rfl (hb hby d7_2) t q) ?_
  obtain ⟨v1, T1, L1, X1, Q1, st1⟩ := own_callS X0 hx hZ (y := (⟨"java/lang/String", "checkIndex", "(II)V"⟩ : MethodName)) (argsL := [(.int (0 : Int32)), (.int (7 : Int32))]) (rest := []) hown (hw _ (List.mem_of_getElem? (i := 44) rfl)) (hw _ (List.mem_of_getElem? (i := 45) rfl)) (hw _ (List.mem_of_getElem? (i := 18) rfl)) (hw _ (List.mem_of_getElem? (i := 46) rfl)) (rm_chk l Z a0 hw [] (0 : Int32) (7 : Int32) w_INVALID w_NONE w_SIGN w_SIGN_AND_ENCRYPT s_INVALID s_NONE s_SIGN s_SIGN_AND_ENCRYPT v_INVALID v_NONE v_SIGN v_SIGN_AND_ENCRYPT cs fm h0 FX (by decide) (by decide)) e0 (by decide) (by decide) 0 (by decide) (by decide) (by decide) (g := (mkF m 3 #[.val (.ref v_INVALID), .val (.int (0 : Int32))] [(.int (7 : Int32)), (.int (0 : Int32))])) rfl (by rw [hml]; rfl) (lenOf (ps := [.int, .int]) (r := none) (by decide +kernel) rfl) rfl (by show 2 * 0 + _ ≤ _; exact Nat.le_of_eq rfl) (hb hby d7_3)
  obtain ⟨rfl, e1, rfl⟩ := Q1
  refine own_go (T' := T1) (g' := (mkF m 6 #[.val (.ref v_INVALID), .val (.int (0 : Int32))] [])) (fun t q => st1 t q) ?_
  refine own_go (T' := T1) (g' := (mkF m 7 #[.val (.ref v_INVALID), .val (.int (0 : Int32))] [(.ref v_INVALID)])) (fun t q => XS.aloadN X1.here hx rfl (hb hby d7_6) rfl rfl q) ?_
  refine own_go (T' := T1) (g' := (mkF m 8 #[.val (.ref v_INVALID), .val (.int (0 : Int32))] [(.int (0 : Int32)), (.ref v_INVALID)])) (fun t q => XS.iloadN X1.here hx rfl (hb hby d7_7) rfl q) ?_
  refine own_go (T' := T1) (g' := (mkF m 9 #[.val (.ref v_INVALID), .val (.int (0 : Int32))] [(.int (73 : Int32))])) (fun t q => own_ldB X1 hx hZ e1 R_INVALID (by decide) rfl (g := (mkF m 8 #[.val (.ref v_INVALID), .val (.int (0 : Int32))] [(.int (0 : Int32)), (.ref v_INVALID)])) rfl rfl (hb hby d7_8) t q) ?_
  refine own_go (T' := T1) (g' := (mkF m 12 #[.val (.ref v_INVALID), .val (.int (0 : Int32))] [(.int (255 : Int32)), (.int (73 : Int32))])) (fun t q => XS.sipush X1.here hx rfl (hb hby d7_9) q) ?_
  refine own_go (T' := T1) (g' := (mkF m 13 #[.val (.ref v_INVALID), .val (.int (0 : Int32))] [(.int ((73 : Int32) &&& (255 : Int32)))])) (fun t q => XS.iand X1.here hx rfl (hb hby d7_12) rfl q) ?_
  refine own_go (T' := T1) (g' := (mkF m 14 #[.val (.ref v_INVALID), .val (.int (0 : Int32))] [(.int ((((73 : Int32) &&& (255 : Int32))).toUInt32.toUInt16.toUInt32.toInt32))])) (fun t q => XT.i2c X1.here hx rfl (hb hby d7_13) rfl q) ?_
  refine own_outN X1 hx hlk hret (t := .char) (by simp) (hb hby d7_14) (w := (nar .char ((((73 : Int32) &&& (255 : Int32))).toUInt32.toUInt16.toUInt32.toInt32))) rfl ?_ (by decide) (by decide)
  exact ⟨congrArg (fun z => some (Value.int z)) (by decide), e1, rfl⟩
theorem d5_0 : decode jdk_42_method_56_code 0 = .ok (.aload_n 0, 1) := by decide +kernel
theorem d5_1 : decode jdk_42_method_56_code 1 = .ok (.invokevirtual 492, 3) := by decide +kernel
theorem d5_4 : decode jdk_42_method_56_code 4 = .ok (.ifCond .eq 12, 3) := by decide +kernel
theorem d5_7 : decode jdk_42_method_56_code 7 = .ok (.aload_n 0, 1) := by decide +kernel
theorem d5_8 : decode jdk_42_method_56_code 8 = .ok (.getfield 9, 3) := by decide +kernel
theorem d5_11 : decode jdk_42_method_56_code 11 = .ok (.iload_n 1, 1) := by decide +kernel
theorem d5_12 : decode jdk_42_method_56_code 12 = .ok (.invokestatic 495, 3) := by decide +kernel
theorem d5_15 : decode jdk_42_method_56_code 15 = .ok (.ireturn, 1) := by decide +kernel
set_option maxRecDepth 65536 in
set_option maxHeartbeats 40000000 in
theorem rm_ch_INVALID_0 (l : Launch) (Z : State) (a0 : Array Value) (hw : ∀ d ∈ tables_1, d.before a0 Z = true) (ws : List Jvm.Cond) (w_INVALID w_NONE w_SIGN w_SIGN_AND_ENCRYPT s_INVALID s_NONE s_SIGN s_SIGN_AND_ENCRYPT v_INVALID v_NONE v_SIGN v_SIGN_AND_ENCRYPT : Addr) (cs : Int32) (fm : Value) (h0 : Heap) (FX : own_F Z h0 w_INVALID w_NONE w_SIGN w_SIGN_AND_ENCRYPT s_INVALID s_NONE s_SIGN s_SIGN_AND_ENCRYPT v_INVALID v_NONE v_SIGN v_SIGN_AND_ENCRYPT cs fm) :
    own_Met l (⟨"java/lang/String", "charAt", "(I)C"⟩ : MethodName) jdk_42_method_56_code 2 (some .char) ws ({ frames := 3, cells := 0, slots := 0, locals := 40 } : Room) Z #[(.ref s_INVALID), (.int (0 : Int32))] h0 (fun v h L => v = some (.int (73 : Int32)) ∧ h = h0 ∧ L = []) := by
  refine MetFree.of_bodySF (plainFor_of_name (by first | (simp [plainName, overriddenIn]; done) | decide +kernel)) hisR ?_
  intro p e s m args below meth c s₁ Bd hml0 hP hK
  obtain ⟨rfl, hZ, hh⟩ := hP
  have hx := Bd.exec
  have hby := Bd.bytes
  have hml : c.maxLocals = 2 := hml0
  have hown : s.vm.findClass "java/lang/String" = some m.cls := findClass_of_methodNamed Bd.named
  have hnm := (name_of_methodNamed Bd.named Bd.method).1
  have hlk : meth.locks = false := Bd.notSynchronized
  have hret := Bd.returns
  have X0 : Stand p l e ({ frames := 3, cells := 0, slots := 0, locals := 40 } : Room) s m #[(.ref s_INVALID), (.int (0 : Int32))] below meth c s₁ [] 0 0 := Stand.of_body Bd
  have e0 : s₁.heap = h0 := by rw [← hh, Bd.state]; rfl
  refine own_in (Q := fun v h L => v = some (.int (73 : Int32)) ∧ h = h0 ∧ L = []) (ef := by first | (simp [entryFrame, mkF, argsToLocals, Value.category, maxLocals]; done) | rfl) (g' := (mkF m 0 #[.val (.ref s_INVALID), .val (.int (0 : Int32))] [])) ?_
  obtain ⟨S_INVALID, E_INVALID, S_SIGN, E_SIGN, S_SIGN_AND_ENCRYPT, E_SIGN_AND_ENCRYPT, S_NONE, E_NONE, F_INVALID_ordinal, F_SIGN_ordinal, F_SIGN_AND_ENCRYPT_ordinal, F_NONE_ordinal, ne_INVALID_SIGN, ne_INVALID_SIGN_AND_ENCRYPT, ne_INVALID_NONE, ne_SIGN_SIGN_AND_ENCRYPT, ne_SIGN_NONE, ne_SIGN_AND_ENCRYPT_NONE, G_INVALID, X_INVALID, G_SIGN_AND_ENCRYPT, X_SIGN_AND_ENCRYPT, G_SIGN, X_SIGN, G_NONE, X_NONE, H_INVALID, H_SIGN_AND_ENCRYPT, H_SIGN, H_NONE, D_INVALID, D_SIGN_AND_ENCRYPT, D_SIGN, D_NONE, R_INVALID, R_NONE, R_SIGN, R_SIGN_AND_ENCRYPT, S_cs, cs0, S_fm, hfm⟩ := id FX
  refine own_go (T' := s₁) (g' := (mkF m 1 #[.val (.ref s_INVALID), .val (.int (0 : Int32))] [(.ref s_INVALID)])) (fun t q => XS.aloadN X0.here hx rfl (hb hby d5_0) rfl rfl q) ?_
  obtain ⟨v1, T1, L1, X1, Q1, st1⟩ := own_callV X0 hx hZ (y := (⟨"java/lang/String", "isLatin1", "()Z"⟩ : MethodName)) (b := s_INVALID) (argsL := []) (rest := []) hown (hw _ (List.mem_of_getElem? (i := 35) rfl)) (hw _ (List.mem_of_getElem? (i := 36) rfl)) (hw _ (List.mem_of_getElem? (i := 38) rfl)) (hw _ (List.mem_of_getElem? (i := 37) rfl)) (hw _ (List.mem_of_getElem? (i := 18) rfl)) (hw _ (List.mem_of_getElem? (i := 39) rfl)) (rm_isl_INVALID l Z a0 hw [] w_INVALID w_NONE w_SIGN w_SIGN_AND_ENCRYPT s_INVALID s_NONE s_SIGN s_SIGN_AND_ENCRYPT v_INVALID v_NONE v_SIGN v_SIGN_AND_ENCRYPT cs fm h0 FX) e0 X_INVALID (by decide) (by decide) 0 (by decide) (by decide) (by decide) (g := (mkF m 1 #[.val (.ref s_INVALID), .val (.int (0 : Int32))] [(.ref s_INVALID)])) rfl (by rw [hml]; rfl) (lenOf (ps := []) (r := (some .boolean)) (by decide +kernel) rfl) rfl (by show 2 * 0 + _ ≤ _; exact Nat.le_of_eq rfl) (hb hby d5_1)
  obtain ⟨rfl, e1, rfl⟩ := Q1
  refine own_go (T' := T1) (g' := (mkF m 4 #[.val (.ref s_INVALID), .val (.int (0 : Int32))] [(.int (1 : Int32))])) (fun t q => st1 t q) ?_
  have c2 : ¬ ((1 : Int32) = (0 : Int32)) := by decide
  refine own_go (T' := T1) (g' := (mkF m 7 #[.val (.ref s_INVALID), .val (.int (0 : Int32))] [])) (fun t q => XS.ifNo X1.here hx rfl (hb hby d5_4) rfl ((if0 _ _).trans (feq c2).1) q) ?_
  refine own_go (T' := T1) (g' := (mkF m 8 #[.val (.ref s_INVALID), .val (.int (0 : Int32))] [(.ref s_INVALID)])) (fun t q => XS.aloadN X1.here hx rfl (hb hby d5_7) rfl rfl q) ?_
  obtain ⟨T3, X3, e3, st3⟩ := getF X1 hx hZ hown (host := "") (Or.inl (hw _ (List.mem_of_getElem? (i := 20) rfl))) Via.refl e1 H_INVALID (g := (mkF m 8 #[.val (.ref s_INVALID), .val (.int (0 : Int32))] [(.ref s_INVALID)])) rfl rfl (hb hby d5_8)
  refine own_go (T' := T3) (g' := (mkF m 11 #[.val (.ref s_INVALID), .val (.int (0 : Int32))] [(.ref v_INVALID)])) (fun t q => st3 t q) ?_
  refine own_go (T' := T3) (g' := (mkF m 12 #[.val (.ref s_INVALID), .val (.int (0 : Int32))] [(.int (0 : Int32)), (.ref v_INVALID)])) (fun t q => XS.iloadN X3.here hx rfl (hb hby d5_11) rfl q) ?_
  obtain ⟨v4, T4, L4, X4, Q4, st4⟩ := own_callS X3 hx hZ (y := (⟨"java/lang/StringLatin1", "charAt", "([BI)C"⟩ : MethodName)) (argsL := [(.ref v_INVALID), (.int (0 : Int32))]) (rest := []) hown (hw _ (List.mem_of_getElem? (i := 40) rfl)) (hw _ (List.mem_of_getElem? (i := 41) rfl)) (hw _ (List.mem_of_getElem? (i := 42) rfl)) (hw _ (List.mem_of_getElem? (i := 43) rfl)) (rm_lat_INVALID_0 l Z a0 hw [] w_INVALID w_NONE w_SIGN w_SIGN_AND_ENCRYPT s_INVALID s_NONE s_SIGN s_SIGN_AND_ENCRYPT v_INVALID v_NONE v_SIGN v_SIGN_AND_ENCRYPT cs fm h0 FX) e3 (by decide) (by decide) 0 (by decide) (by decide) (by decide) (g := (mkF m 12 #[.val (.ref s_INVALID), .val (.int (0 : Int32))] [(.int (0 : Int32)), (.ref v_INVALID)])) rfl (by rw [hml]; rfl) (lenOf (ps := [(.array .byte), .int]) (r := (some .char)) (by decide +kernel) rfl) rfl (by show 2 * 0 + _ ≤ _; exact Nat.le_of_eq rfl) (hb hby d5_12)
  obtain ⟨rfl, e4, rfl⟩ := Q4
  refine own_go (T' := T4) (g' := (mkF m 15 #[.val (.ref s_INVALID), .val (.int (0 : Int32))] [(.int (73 : Int32))])) (fun t q => st4 t q) ?_
  refine own_outN X4 hx hlk hret (t := .char) (by simp) (hb hby d5_15) (w := (73 : Int32)) (by decide) ?_ (by decide) (by decide)
  exact ⟨rfl, e4, rfl⟩
theorem d2_0 : decode prog_10_method_4_code 0 = .ok (.aload_n 0, 1) := by decide +kernel
theorem d2_1 : decode prog_10_method_4_code 1 = .ok (.getfield 35, 3) := by decide +kernel
theorem d2_4 : decode prog_10_method_4_code 4 = .ok (.areturn, 1) := by decide +kernel
set_option maxRecDepth 65536 in
set_option maxHeartbeats 40000000 in
theorem rm_gsn_INVALID (l : Launch) (Z : State) (a0 : Array Value) (hw : ∀ d ∈ tables_1, d.before a0 Z = true) (ws : List Jvm.Cond) (w_INVALID w_NONE w_SIGN w_SIGN_AND_ENCRYPT s_INVALID s_NONE s_SIGN s_SIGN_AND_ENCRYPT v_INVALID v_NONE v_SIGN v_SIGN_AND_ENCRYPT : Addr) (cs : Int32) (fm : Value) (h0 : Heap) (FX : own_F Z h0 w_INVALID w_NONE w_SIGN w_SIGN_AND_ENCRYPT s_INVALID s_NONE s_SIGN s_SIGN_AND_ENCRYPT v_INVALID v_NONE v_SIGN v_SIGN_AND_ENCRYPT cs fm) :
    own_Met l (⟨"com/example/dvarapala/dvarapala/engine/MessageSecurityMode", "getSpecName", "()Ljava/lang/String;"⟩ : MethodName) prog_10_method_4_code 1 (some (.object "java/lang/String")) ws ({ frames := 0, cells := 0, slots := 0, locals := 0 } : Room) Z #[(.ref w_INVALID)] h0 (fun v h L => v = some (.ref s_INVALID) ∧ h = h0 ∧ L = []) := by
  refine MetFree.of_bodySF (plainFor_of_name (by first | (simp [plainName, overriddenIn]; done) | decide +kernel)) hisR ?_
  intro p e s m args below meth c s₁ Bd hml0 hP hK
  obtain ⟨rfl, hZ, hh⟩ := hP
  have hx := Bd.exec
  have hby := Bd.bytes
  have hml : c.maxLocals = 1 := hml0
  have hown : s.vm.findClass "com/example/dvarapala/dvarapala/engine/MessageSecurityMode" = some m.cls := findClass_of_methodNamed Bd.named
  have hnm := (name_of_methodNamed Bd.named Bd.method).1
  have hlk : meth.locks = false := Bd.notSynchronized
  have hret := Bd.returns
  have X0 : Stand p l e ({ frames := 0, cells := 0, slots := 0, locals := 0 } : Room) s m #[(.ref w_INVALID)] below meth c s₁ [] 0 0 := Stand.of_body Bd
  have e0 : s₁.heap = h0 := by rw [← hh, Bd.state]; rfl
  refine own_in (Q := fun v h L => v = some (.ref s_INVALID) ∧ h = h0 ∧ L = []) (ef := by first | (simp [entryFrame, mkF, argsToLocals, Value.category, maxLocals]; done) | rfl) (g' := (mkF m 0 #[.val (.ref w_INVALID)] [])) ?_
  obtain ⟨S_INVALID, E_INVALID, S_SIGN, E_SIGN, S_SIGN_AND_ENCRYPT, E_SIGN_AND_ENCRYPT, S_NONE, E_NONE, F_INVALID_ordinal, F_SIGN_ordinal, F_SIGN_AND_ENCRYPT_ordinal, F_NONE_ordinal, ne_INVALID_SIGN, ne_INVALID_SIGN_AND_ENCRYPT, ne_INVALID_NONE, ne_SIGN_SIGN_AND_ENCRYPT, ne_SIGN_NONE, ne_SIGN_AND_ENCRYPT_NONE, G_INVALID, X_INVALID, G_SIGN_AND_ENCRYPT, X_SIGN_AND_ENCRYPT, G_SIGN, X_SIGN, G_NONE, X_NONE, H_INVALID, H_SIGN_AND_ENCRYPT, H_SIGN, H_NONE, D_INVALID, D_SIGN_AND_ENCRYPT, D_SIGN, D_NONE, R_INVALID, R_NONE, R_SIGN, R_SIGN_AND_ENCRYPT, S_cs, cs0, S_fm, hfm⟩ := id FX
  refine own_go (T' := s₁) (g' := (mkF m 1 #[.val (.ref w_INVALID)] [(.ref w_INVALID)])) (fun t q => XS.aloadN X0.here hx rfl (hb hby d2_0) rfl rfl q) ?_
  obtain ⟨T1, X1, e1, st1⟩ := getF X0 hx hZ hown (host := "") (Or.inl (hw _ (List.mem_of_getElem? (i := 12) rfl))) Via.refl e0 G_INVALID (g := (mkF m 1 #[.val (.ref w_INVALID)] [(.ref w_INVALID)])) rfl rfl (hb hby d2_1)
  refine own_go (T' := T1) (g' := (mkF m 4 #[.val (.ref w_INVALID)] [(.ref s_INVALID)])) (fun t q => st1 t q) ?_
  refine own_outA X1 hx hlk hret rfl rfl (hb hby d2_4) ?_ (by decide) (by decide)
  exact ⟨rfl, e1, rfl⟩
theorem d10_0 : decode prog_10_method_5_code 0 = .ok (.aload_n 0, 1) := by decide +kernel
theorem d10_1 : decode prog_10_method_5_code 1 = .ok (.getstatic 10, 3) := by decide +kernel
theorem d10_4 : decode prog_10_method_5_code 4 = .ok (.if_acmp .eq 10, 3) := by decide +kernel
theorem d10_7 : decode prog_10_method_5_code 7 = .ok (.aload_n 0, 1) := by decide +kernel
theorem d10_8 : decode prog_10_method_5_code 8 = .ok (.getstatic 13, 3) := by decide +kernel
theorem d10_11 : decode prog_10_method_5_code 11 = .ok (.if_acmp .ne 7, 3) := by decide +kernel
theorem d10_18 : decode prog_10_method_5_code 18 = .ok (.iconst 0, 1) := by decide +kernel
theorem d10_19 : decode prog_10_method_5_code 19 = .ok (.ireturn, 1) := by decide +kernel
set_option maxRecDepth 65536 in
set_option maxHeartbeats 40000000 in
theorem rm_sig_INVALID (l : Launch) (Z : State) (a0 : Array Value) (hw : ∀ d ∈ tables_1, d.before a0 Z = true) (ws : List Jvm.Cond) (w_INVALID w_NONE w_SIGN w_SIGN_AND_ENCRYPT s_INVALID s_NONE s_SIGN s_SIGN_AND_ENCRYPT v_INVALID v_NONE v_SIGN v_SIGN_AND_ENCRYPT : Addr) (cs : Int32) (fm : Value) (h0 : Heap) (FX : own_F Z h0 w_INVALID w_NONE w_SIGN w_SIGN_AND_ENCRYPT s_INVALID s_NONE s_SIGN s_SIGN_AND_ENCRYPT v_INVALID v_NONE v_SIGN v_SIGN_AND_ENCRYPT cs fm) :
    own_Met l (⟨"com/example/dvarapala/dvarapala/engine/MessageSecurityMode", "isSigned", "()Z"⟩ : MethodName) prog_10_method_5_code 1 (some .boolean) ws ({ frames := 0, cells := 0, slots := 0, locals := 0 } : Room) Z #[(.ref w_INVALID)] h0 (fun v h L => v = some (.int (0 : Int32)) ∧ h = h0 ∧ L = []) := by
  refine MetFree.of_bodySF (plainFor_of_name (by first | (simp [plainName, overriddenIn]; done) | decide +kernel)) hisR ?_
  intro p e s m args below meth c s₁ Bd hml0 hP hK
  obtain ⟨rfl, hZ, hh⟩ := hP
  have hx := Bd.exec
  have hby := Bd.bytes
  have hml : c.maxLocals = 1 := hml0
  have hown : s.vm.findClass "com/example/dvarapala/dvarapala/engine/MessageSecurityMode" = some m.cls := findClass_of_methodNamed Bd.named
  have hnm := (name_of_methodNamed Bd.named Bd.method).1
  have hlk : meth.locks = false := Bd.notSynchronized
  have hret := Bd.returns
  have X0 : Stand p l e ({ frames := 0, cells := 0, slots := 0, locals := 0 } : Room) s m #[(.ref w_INVALID)] below meth c s₁ [] 0 0 := Stand.of_body Bd
  have e0 : s₁.heap = h0 := by rw [← hh, Bd.state]; rfl
  refine own_in (Q := fun v h L => v = some (.int (0 : Int32)) ∧ h = h0 ∧ L = []) (ef := by first | (simp [entryFrame, mkF, argsToLocals, Value.category, maxLocals]; done) | rfl) (g' := (mkF m 0 #[.val (.ref w_INVALID)] [])) ?_
  obtain ⟨S_INVALID, E_INVALID, S_SIGN, E_SIGN, S_SIGN_AND_ENCRYPT, E_SIGN_AND_ENCRYPT, S_NONE, E_NONE, F_INVALID_ordinal, F_SIGN_ordinal, F_SIGN_AND_ENCRYPT_ordinal, F_NONE_ordinal, ne_INVALID_SIGN, ne_INVALID_SIGN_AND_ENCRYPT, ne_INVALID_NONE, ne_SIGN_SIGN_AND_ENCRYPT, ne_SIGN_NONE, ne_SIGN_AND_ENCRYPT_NONE, G_INVALID, X_INVALID, G_SIGN_AND_ENCRYPT, X_SIGN_AND_ENCRYPT, G_SIGN, X_SIGN, G_NONE, X_NONE, H_INVALID, H_SIGN_AND_ENCRYPT, H_SIGN, H_NONE, D_INVALID, D_SIGN_AND_ENCRYPT, D_SIGN, D_NONE, R_INVALID, R_NONE, R_SIGN, R_SIGN_AND_ENCRYPT, S_cs, cs0, S_fm, hfm⟩ := id FX
  refine own_go (T' := s₁) (g' := (mkF m 1 #[.val (.ref w_INVALID)] [(.ref w_INVALID)])) (fun t q => XS.aloadN X0.here hx rfl (hb hby d10_0) rfl rfl q) ?_
  obtain ⟨T1, X1, e1, st1⟩ := getS2 X0 hx hZ hown (host := "") (Or.inl (hw _ (List.mem_of_getElem? (i := 57) rfl))) Via.refl e0 S_SIGN (g := (mkF m 1 #[.val (.ref w_INVALID)] [(.ref w_INVALID)])) rfl (hb hby d10_1)
  refine own_go (T' := T1) (g' := (mkF m 4 #[.val (.ref w_INVALID)] [(.ref w_SIGN), (.ref w_INVALID)])) (fun t q => st1 t q) ?_
  have c2 : ¬ ((Value.ref w_INVALID) = (Value.ref w_SIGN)) := fun z => ne_INVALID_SIGN (Value.ref.inj z)
  refine own_go (T' := T1) (g' := (mkF m 7 #[.val (.ref w_INVALID)] [])) (fun t q => XT.acmpNo X1.here hx rfl (hb hby d10_4) rfl rfl rfl (own_af c2).1 q) ?_
  refine own_go (T' := T1) (g' := (mkF m 8 #[.val (.ref w_INVALID)] [(.ref w_INVALID)])) (fun t q => XS.aloadN X1.here hx rfl (hb hby d10_7) rfl rfl q) ?_
  obtain ⟨T3, X3, e3, st3⟩ := getS2 X1 hx hZ hown (host := "") (Or.inl (hw _ (List.mem_of_getElem? (i := 59) rfl))) Via.refl e1 S_SIGN_AND_ENCRYPT (g := (mkF m 8 #[.val (.ref w_INVALID)] [(.ref w_INVALID)])) rfl (hb hby d10_8)
  refine own_go (T' := T3) (g' := (mkF m 11 #[.val (.ref w_INVALID)] [(.ref w_SIGN_AND_ENCRYPT), (.ref w_INVALID)])) (fun t q => st3 t q) ?_
  have c4 : ¬ ((Value.ref w_INVALID) = (Value.ref w_SIGN_AND_ENCRYPT)) := fun z => ne_INVALID_SIGN_AND_ENCRYPT (Value.ref.inj z)
  refine own_go (T' := T3) (g' := (mkF m 18 #[.val (.ref w_INVALID)] [])) (fun t q => XT.acmpYes X3.here hx rfl (pc0 := 11) (pc' := 18) rfl (hb hby d10_11) rfl rfl rfl (own_af c4).2 (by decide) (by decide) q) ?_
  refine own_go (T' := T3) (g' := (mkF m 19 #[.val (.ref w_INVALID)] [(.int (0 : Int32))])) (fun t q => XS.iconst X3.here hx rfl (hb hby d10_18) q) ?_
  refine own_outN X3 hx hlk hret (t := .boolean) (by simp) (hb hby d10_19) (w := (0 : Int32)) (by decide) ?_ (by decide) (by decide)
  exact ⟨rfl, e3, rfl⟩
set_option maxRecDepth 65536 in
set_option maxHeartbeats 40000000 in
theorem rm_cod_NONE (l : Launch) (Z : State) (a0 : Array Value) (hw : ∀ d ∈ tables_1, d.before a0 Z = true) (ws : List Jvm.Cond) (w_INVALID w_NONE w_SIGN w_SIGN_AND_ENCRYPT s_INVALID s_NONE s_SIGN s_SIGN_AND_ENCRYPT v_INVALID v_NONE v_SIGN v_SIGN_AND_ENCRYPT : Addr) (cs : Int32) (fm : Value) (h0 : Heap) (FX : own_F Z h0 w_INVALID w_NONE w_SIGN w_SIGN_AND_ENCRYPT s_INVALID s_NONE s_SIGN s_SIGN_AND_ENCRYPT v_INVALID v_NONE v_SIGN v_SIGN_AND_ENCRYPT cs fm) :
    own_Met l (⟨"java/lang/String", "coder", "()B"⟩ : MethodName) jdk_42_method_152_code 1 (some .byte) ws ({ frames := 0, cells := 0, slots := 0, locals := 0 } : Room) Z #[(.ref s_NONE)] h0 (fun v h L => v = some (.int (0 : Int32)) ∧ h = h0 ∧ L = []) := by
  refine MetFree.of_bodySF (plainFor_of_name (by first | (simp [plainName, overriddenIn]; done) | decide +kernel)) hisR ?_
  intro p e s m args below meth c s₁ Bd hml0 hP hK
  obtain ⟨rfl, hZ, hh⟩ := hP
  have hx := Bd.exec
  have hby := Bd.bytes
  have hml : c.maxLocals = 1 := hml0
  have hown : s.vm.findClass "java/lang/String" = some m.cls := findClass_of_methodNamed Bd.named
  have hnm := (name_of_methodNamed Bd.named Bd.method).1
  have hlk : meth.locks = false := Bd.notSynchronized
  have hret := Bd.returns
  have X0 : Stand p l e ({ frames := 0, cells := 0, slots := 0, locals := 0 } : Room) s m #[(.ref s_NONE)] below meth c s₁ [] 0 0 := Stand.of_body Bd
  have e0 : s₁.heap = h0 := by rw [← hh, Bd.state]; rfl
  refine own_in (Q := fun v h L => v = some (.int (0 : Int32)) ∧ h = h0 ∧ L = []) (ef := by first | (simp [entryFrame, mkF, argsToLocals, Value.category, maxLocals]; done) | rfl) (g' := (mkF m 0 #[.val (.ref s_NONE)] [])) ?_
  obtain ⟨S_INVALID, E_INVALID, S_SIGN, E_SIGN, S_SIGN_AND_ENCRYPT, E_SIGN_AND_ENCRYPT, S_NONE, E_NONE, F_INVALID_ordinal, F_SIGN_ordinal, F_SIGN_AND_ENCRYPT_ordinal, F_NONE_ordinal, ne_INVALID_SIGN, ne_INVALID_SIGN_AND_ENCRYPT, ne_INVALID_NONE, ne_SIGN_SIGN_AND_ENCRYPT, ne_SIGN_NONE, ne_SIGN_AND_ENCRYPT_NONE, G_INVALID, X_INVALID, G_SIGN_AND_ENCRYPT, X_SIGN_AND_ENCRYPT, G_SIGN, X_SIGN, G_NONE, X_NONE, H_INVALID, H_SIGN_AND_ENCRYPT, H_SIGN, H_NONE, D_INVALID, D_SIGN_AND_ENCRYPT, D_SIGN, D_NONE, R_INVALID, R_NONE, R_SIGN, R_SIGN_AND_ENCRYPT, S_cs, cs0, S_fm, hfm⟩ := id FX
  obtain ⟨T1, X1, e1, st1⟩ := getS2 X0 hx hZ hown (host := "") (Or.inl (hw _ (List.mem_of_getElem? (i := 27) rfl))) Via.refl e0 S_cs (g := (mkF m 0 #[.val (.ref s_NONE)] [])) rfl (hb hby d4_0)
  refine own_go (T' := T1) (g' := (mkF m 3 #[.val (.ref s_NONE)] [(.int cs)])) (fun t q => st1 t q) ?_
  have c2 : ¬ (cs = (0 : Int32)) := cs0
  refine own_go (T' := T1) (g' := (mkF m 6 #[.val (.ref s_NONE)] [])) (fun t q => XS.ifNo X1.here hx rfl (hb hby d4_3) rfl ((if0 _ _).trans (feq c2).1) q) ?_
  refine own_go (T' := T1) (g' := (mkF m 7 #[.val (.ref s_NONE)] [(.ref s_NONE)])) (fun t q => XS.aloadN X1.here hx rfl (hb hby d4_6) rfl rfl q) ?_
  obtain ⟨T3, X3, e3, st3⟩ := getF X1 hx hZ hown (host := "") (Or.inl (hw _ (List.mem_of_getElem? (i := 28) rfl))) Via.refl e1 D_NONE (g := (mkF m 7 #[.val (.ref s_NONE)] [(.ref s_NONE)])) rfl rfl (hb hby d4_7)
  refine own_go (T' := T3) (g' := (mkF m 10 #[.val (.ref s_NONE)] [(.int (0 : Int32))])) (fun t q => st3 t q) ?_
  refine own_go (T' := T3) (g' := (mkF m 14 #[.val (.ref s_NONE)] [(.int (0 : Int32))])) (fun t q => XS.goto X3.here hx rfl (pc0 := 10) (pc' := 14) rfl (hb hby d4_10) (by decide) (by decide) q) ?_
  refine own_outN X3 hx hlk hret (t := .byte) (by simp) (hb hby d4_14) (w := (0 : Int32)) (by decide) ?_ (by decide) (by decide)
  exact ⟨rfl, e3, rfl⟩
set_option maxRecDepth 65536 in
set_option maxHeartbeats 40000000 in
theorem rm_isl_NONE (l : Launch) (Z : State) (a0 : Array Value) (hw : ∀ d ∈ tables_1, d.before a0 Z = true) (ws : List Jvm.Cond) (w_INVALID w_NONE w_SIGN w_SIGN_AND_ENCRYPT s_INVALID s_NONE s_SIGN s_SIGN_AND_ENCRYPT v_INVALID v_NONE v_SIGN v_SIGN_AND_ENCRYPT : Addr) (cs : Int32) (fm : Value) (h0 : Heap) (FX : own_F Z h0 w_INVALID w_NONE w_SIGN w_SIGN_AND_ENCRYPT s_INVALID s_NONE s_SIGN s_SIGN_AND_ENCRYPT v_INVALID v_NONE v_SIGN v_SIGN_AND_ENCRYPT cs fm) :
    own_Met l (⟨"java/lang/String", "isLatin1", "()Z"⟩ : MethodName) jdk_42_method_154_code 1 (some .boolean) ws ({ frames := 0, cells := 0, slots := 0, locals := 0 } : Room) Z #[(.ref s_NONE)] h0 (fun v h L => v = some (.int (1 : Int32)) ∧ h = h0 ∧ L = []) := by
  refine MetFree.of_bodySF (plainFor_of_name (by first | (simp [plainName, overriddenIn]; done) | decide +kernel)) hisR ?_
  intro p e s m args below meth c s₁ Bd hml0 hP hK
  obtain ⟨rfl, hZ, hh⟩ := hP
  have hx := Bd.exec
  have hby := Bd.bytes
  have hml : c.maxLocals = 1 := hml0
  have hown : s.vm.findClass "java/lang/String" = some m.cls := findClass_of_methodNamed Bd.named
  have hnm := (name_of_methodNamed Bd.named Bd.method).1
  have hlk : meth.locks = false := Bd.notSynchronized
  have hret := Bd.returns
  have X0 : Stand p l e ({ frames := 0, cells := 0, slots := 0, locals := 0 } : Room) s m #[(.ref s_NONE)] below meth c s₁ [] 0 0 := Stand.of_body Bd
  have e0 : s₁.heap = h0 := by rw [← hh, Bd.state]; rfl
  refine own_in (Q := fun v h L => v = some (.int (1 : Int32)) ∧ h = h0 ∧ L = []) (ef := by first | (simp [entryFrame, mkF, argsToLocals, Value.category, maxLocals]; done) | rfl) (g' := (mkF m 0 #[.val (.ref s_NONE)] [])) ?_
  obtain ⟨S_INVALID, E_INVALID, S_SIGN, E_SIGN, S_SIGN_AND_ENCRYPT, E_SIGN_AND_ENCRYPT, S_NONE, E_NONE, F_INVALID_ordinal, F_SIGN_ordinal, F_SIGN_AND_ENCRYPT_ordinal, F_NONE_ordinal, ne_INVALID_SIGN, ne_INVALID_SIGN_AND_ENCRYPT, ne_INVALID_NONE, ne_SIGN_SIGN_AND_ENCRYPT, ne_SIGN_NONE, ne_SIGN_AND_ENCRYPT_NONE, G_INVALID, X_INVALID, G_SIGN_AND_ENCRYPT, X_SIGN_AND_ENCRYPT, G_SIGN, X_SIGN, G_NONE, X_NONE, H_INVALID, H_SIGN_AND_ENCRYPT, H_SIGN, H_NONE, D_INVALID, D_SIGN_AND_ENCRYPT, D_SIGN, D_NONE, R_INVALID, R_NONE, R_SIGN, R_SIGN_AND_ENCRYPT, S_cs, cs0, S_fm, hfm⟩ := id FX
  obtain ⟨T1, X1, e1, st1⟩ := getS2 X0 hx hZ hown (host := "") (Or.inl (hw _ (List.mem_of_getElem? (i := 27) rfl))) Via.refl e0 S_cs (g := (mkF m 0 #[.val (.ref s_NONE)] [])) rfl (hb hby d6_0)
  refine own_go (T' := T1) (g' := (mkF m 3 #[.val (.ref s_NONE)] [(.int cs)])) (fun t q => st1 t q) ?_
  have c2 : ¬ (cs = (0 : Int32)) := cs0
  refine own_go (T' := T1) (g' := (mkF m 6 #[.val (.ref s_NONE)] [])) (fun t q => XS.ifNo X1.here hx rfl (hb hby d6_3) rfl ((if0 _ _).trans (feq c2).1) q) ?_
  refine own_go (T' := T1) (g' := (mkF m 7 #[.val (.ref s_NONE)] [(.ref s_NONE)])) (fun t q => XS.aloadN X1.here hx rfl (hb hby d6_6) rfl rfl q) ?_
  obtain ⟨T3, X3, e3, st3⟩ := getF X1 hx hZ hown (host := "") (Or.inl (hw _ (List.mem_of_getElem? (i := 28) rfl))) Via.refl e1 D_NONE (g := (mkF m 7 #[.val (.ref s_NONE)] [(.ref s_NONE)])) rfl rfl (hb hby d6_7)
  refine own_go (T' := T3) (g' := (mkF m 10 #[.val (.ref s_NONE)] [(.int (0 : Int32))])) (fun t q => st3 t q) ?_
  have c4 : (0 : Int32) = (0 : Int32) := by decide
  refine own_go (T' := T3) (g' := (mkF m 13 #[.val (.ref s_NONE)] [])) (fun t q => XS.ifNo X3.here hx rfl (hb hby d6_10) rfl ((if0 _ _).trans (teq c4).2) q) ?_
  refine own_go (T' := T3) (g' := (mkF m 14 #[.val (.ref s_NONE)] [(.int (1 : Int32))])) (fun t q => XS.iconst X3.here hx rfl (hb hby d6_13) q) ?_
  refine own_go (T' := T3) (g' := (mkF m 18 #[.val (.ref s_NONE)] [(.int (1 : Int32))])) (fun t q => XS.goto X3.here hx rfl (pc0 := 14) (pc' := 18) rfl (hb hby d6_14) (by decide) (by decide) q) ?_
  refine own_outN X3 hx hlk hret (t := .boolean) (by simp) (hb hby d6_18) (w := (1 : Int32)) (by decide) ?_ (by decide) (by decide)
  exact ⟨rfl, e3, rfl⟩
set_option maxRecDepth 65536 in
set_option maxHeartbeats 40000000 in
theorem rm_len_NONE (l : Launch) (Z : State) (a0 : Array Value) (hw : ∀ d ∈ tables_1, d.before a0 Z = true) (ws : List Jvm.Cond) (w_INVALID w_NONE w_SIGN w_SIGN_AND_ENCRYPT s_INVALID s_NONE s_SIGN s_SIGN_AND_ENCRYPT v_INVALID v_NONE v_SIGN v_SIGN_AND_ENCRYPT : Addr) (cs : Int32) (fm : Value) (h0 : Heap) (FX : own_F Z h0 w_INVALID w_NONE w_SIGN w_SIGN_AND_ENCRYPT s_INVALID s_NONE s_SIGN s_SIGN_AND_ENCRYPT v_INVALID v_NONE v_SIGN v_SIGN_AND_ENCRYPT cs fm) :
    own_Met l (⟨"java/lang/String", "length", "()I"⟩ : MethodName) jdk_42_method_54_code 1 (some .int) ws ({ frames := 1, cells := 0, slots := 0, locals := 13 } : Room) Z #[(.ref s_NONE)] h0 (fun v h L => v = some (.int (4 : Int32)) ∧ h = h0 ∧ L = []) := by
  refine MetFree.of_bodySF (plainFor_of_name (by first | (simp [plainName, overriddenIn]; done) | decide +kernel)) hisR ?_
  intro p e s m args below meth c s₁ Bd hml0 hP hK
  obtain ⟨rfl, hZ, hh⟩ := hP
  have hx := Bd.exec
  have hby := Bd.bytes
  have hml : c.maxLocals = 1 := hml0
  have hown : s.vm.findClass "java/lang/String" = some m.cls := findClass_of_methodNamed Bd.named
  have hnm := (name_of_methodNamed Bd.named Bd.method).1
  have hlk : meth.locks = false := Bd.notSynchronized
  have hret := Bd.returns
  have X0 : Stand p l e ({ frames := 1, cells := 0, slots := 0, locals := 13 } : Room) s m #[(.ref s_NONE)] below meth c s₁ [] 0 0 := Stand.of_body Bd
  have e0 : s₁.heap = h0 := by rw [← hh, Bd.state]; rfl
  refine own_in (Q := fun v h L => v = some (.int (4 : Int32)) ∧ h = h0 ∧ L = []) (ef := by first | (simp [entryFrame, mkF, argsToLocals, Value.category, maxLocals]; done) | rfl) (g' := (mkF m 0 #[.val (.ref s_NONE)] [])) ?_
  obtain ⟨S_INVALID, E_INVALID, S_SIGN, E_SIGN, S_SIGN_AND_ENCRYPT, E_SIGN_AND_ENCRYPT, S_NONE, E_NONE, F_INVALID_ordinal, F_SIGN_ordinal, F_SIGN_AND_ENCRYPT_ordinal, F_NONE_ordinal, ne_INVALID_SIGN, ne_INVALID_SIGN_AND_ENCRYPT, ne_INVALID_NONE, ne_SIGN_SIGN_AND_ENCRYPT, ne_SIGN_NONE, ne_SIGN_AND_ENCRYPT_NONE, G_INVALID, X_INVALID, G_SIGN_AND_ENCRYPT, X_SIGN_AND_ENCRYPT, G_SIGN, X_SIGN, G_NONE, X_NONE, H_INVALID, H_SIGN_AND_ENCRYPT, H_SIGN, H_NONE, D_INVALID, D_SIGN_AND_ENCRYPT, D_SIGN, D_NONE, R_INVALID, R_NONE, R_SIGN, R_SIGN_AND_ENCRYPT, S_cs, cs0, S_fm, hfm⟩ := id FX
  refine own_go (T' := s₁) (g' := (mkF m 1 #[.val (.ref s_NONE)] [(.ref s_NONE)])) (fun t q => XS.aloadN X0.here hx rfl (hb hby d3_0) rfl rfl q) ?_
  obtain ⟨T1, X1, e1, st1⟩ := getF X0 hx hZ hown (host := "") (Or.inl (hw _ (List.mem_of_getElem? (i := 20) rfl))) Via.refl e0 H_NONE (g := (mkF m 1 #[.val (.ref s_NONE)] [(.ref s_NONE)])) rfl rfl (hb hby d3_1)
  refine own_go (T' := T1) (g' := (mkF m 4 #[.val (.ref s_NONE)] [(.ref v_NONE)])) (fun t q => st1 t q) ?_
  refine own_go (T' := T1) (g' := (mkF m 5 #[.val (.ref s_NONE)] [(.int (4 : Int32))])) (fun t q => own_len X1 hx hZ e1 R_NONE (n := (4 : Int32)) rfl (g := (mkF m 4 #[.val (.ref s_NONE)] [(.ref v_NONE)])) rfl rfl (hb hby d3_4) t q) ?_
  refine own_go (T' := T1) (g' := (mkF m 6 #[.val (.ref s_NONE)] [(.ref s_NONE), (.int (4 : Int32))])) (fun t q => XS.aloadN X1.here hx rfl (hb hby d3_5) rfl rfl q) ?_
  obtain ⟨v2, T2, L2, X2, Q2, st2⟩ := own_callV X1 hx hZ (y := (⟨"java/lang/String", "coder", "()B"⟩ : MethodName)) (b := s_NONE) (argsL := []) (rest := [(.int (4 : Int32))]) hown (hw _ (List.mem_of_getElem? (i := 22) rfl)) (hw _ (List.mem_of_getElem? (i := 23) rfl)) (hw _ (List.mem_of_getElem? (i := 25) rfl)) (hw _ (List.mem_of_getElem? (i := 24) rfl)) (hw _ (List.mem_of_getElem? (i := 18) rfl)) (hw _ (List.mem_of_getElem? (i := 26) rfl)) (rm_cod_NONE l Z a0 hw [] w_INVALID w_NONE w_SIGN w_SIGN_AND_ENCRYPT s_INVALID s_NONE s_SIGN s_SIGN_AND_ENCRYPT v_INVALID v_NONE v_SIGN v_SIGN_AND_ENCRYPT cs fm h0 FX) e1 X_NONE (by decide) (by decide) 1 (by decide) (by decide) (by decide) (g := (mkF m 6 #[.val (.ref s_NONE)] [(.ref s_NONE), (.int (4 : Int32))])) rfl (by rw [hml]; rfl) (lenOf (ps := []) (r := (some .byte)) (by decide +kernel) rfl) rfl (by show 2 * 0 + _ ≤ _; exact Nat.le_of_eq rfl) (hb hby d3_6)
  obtain ⟨rfl, e2, rfl⟩ := Q2
  refine own_go (T' := T2) (g' := (mkF m 9 #[.val (.ref s_NONE)] [(.int (0 : Int32)), (.int (4 : Int32))])) (fun t q => st2 t q) ?_
  refine own_go (T' := T2) (g' := (mkF m 10 #[.val (.ref s_NONE)] [(.int ((4 : Int32) >>> ((0 : Int32) &&& 31)))])) (fun t q => XT.ishr X2.here hx rfl (hb hby d3_9) rfl q) ?_
  refine own_outI X2 hx hlk hret (hb hby d3_10) ?_ (by decide) (by decide)
  exact ⟨congrArg (fun z => some (Value.int z)) (by decide), e2, rfl⟩
set_option maxRecDepth 65536 in
set_option maxHeartbeats 40000000 in
theorem rm_lat_NONE_0 (l : Launch) (Z : State) (a0 : Array Value) (hw : ∀ d ∈ tables_1, d.before a0 Z = true) (ws : List Jvm.Cond) (w_INVALID w_NONE w_SIGN w_SIGN_AND_ENCRYPT s_INVALID s_NONE s_SIGN s_SIGN_AND_ENCRYPT v_INVALID v_NONE v_SIGN v_SIGN_AND_ENCRYPT : Addr) (cs : Int32) (fm : Value) (h0 : Heap) (FX : own_F Z h0 w_INVALID w_NONE w_SIGN w_SIGN_AND_ENCRYPT s_INVALID s_NONE s_SIGN s_SIGN_AND_ENCRYPT v_INVALID v_NONE v_SIGN v_SIGN_AND_ENCRYPT cs fm) :
    own_Met l (⟨"java/lang/StringLatin1", "charAt", "([BI)C"⟩ : MethodName) jdk_43_method_2_code 2 (some .char) ws ({ frames := 2, cells := 0, slots := 0, locals := 27 } : Room) Z #[(.ref v_NONE), (.int (0 : Int32))] h0 (fun v h L => v = some (.int (78 : Int32)) ∧ h = h0 ∧ L = []) := by
  refine MetFree.of_bodySF (plainFor_of_name (by first | (simp [plainName, overriddenIn]; done) | decide +kernel)) hisR ?_
  intro p e s m args below meth c s₁ Bd hml0 hP hK
  obtain ⟨rfl, hZ, hh⟩ := hP
  have hx := Bd.exec
  have hby := Bd.bytes
  have hml : c.maxLocals = 2 := hml0
  have hown : s.vm.findClass "java/lang/StringLatin1" = some m.cls := findClass_of_methodNamed Bd.named
  have hnm := (name_of_methodNamed Bd.named Bd.method).1
  have hlk : meth.locks = false := Bd.notSynchronized
  have hret := Bd.returns
  have X0 : Stand p l e ({ frames := 2, cells := 0, slots := 0, locals := 27 } : Room) s m #[(.ref v_NONE), (.int (0 : Int32))] below meth c s₁ [] 0 0 := Stand.of_body Bd
  have e0 : s₁.heap = h0 := by rw [← hh, Bd.state]; rfl
  refine own_in (Q := fun v h L => v = some (.int (78 : Int32)) ∧ h = h0 ∧ L = []) (ef := by first | (simp [entryFrame, mkF, argsToLocals, Value.category, maxLocals]; done) | rfl) (g' := (mkF m 0 #[.val (.ref v_NONE), .val (.int (0 : Int32))] [])) ?_
  obtain ⟨S_INVALID, E_INVALID, S_SIGN, E_SIGN, S_SIGN_AND_ENCRYPT, E_SIGN_AND_ENCRYPT, S_NONE, E_NONE, F_INVALID_ordinal, F_SIGN_ordinal, F_SIGN_AND_ENCRYPT_ordinal, F_NONE_ordinal, ne_INVALID_SIGN, ne_INVALID_SIGN_AND_ENCRYPT, ne_INVALID_NONE, ne_SIGN_SIGN_AND_ENCRYPT, ne_SIGN_NONE, ne_SIGN_AND_ENCRYPT_NONE, G_INVALID, X_INVALID, G_SIGN_AND_ENCRYPT, X_SIGN_AND_ENCRYPT, G_SIGN, X_SIGN, G_NONE, X_NONE, H_INVALID, H_SIGN_AND_ENCRYPT, H_SIGN, H_NONE, D_INVALID, D_SIGN_AND_ENCRYPT, D_SIGN, D_NONE, R_INVALID, R_NONE, R_SIGN, R_SIGN_AND_ENCRYPT, S_cs, cs0, S_fm, hfm⟩ := id FX
  refine own_go (T' := s₁) (g' := (mkF m 1 #[.val (.ref v_NONE), .val (.int (0 : Int32))] [(.int (0 : Int32))])) (fun t q => XS.iloadN X0.here hx rfl (hb hby d7_0) rfl q) ?_
  refine own_go (T' := s₁) (g' := (mkF m 2 #[.val (.ref v_NONE), .val (.int (0 : Int32))] [(.ref v_NONE), (.int (0 : Int32))])) (fun t q => XS.aloadN X0.here hx rfl (hb hby d7_1) rfl rfl q) ?_
  refine own_go (T' := s₁) (g' := (mkF m 3 #[.val (.ref v_NONE), .val (.int (0 : Int32))] [(.int (4 : Int32)), (.int (0 : Int32))])) (fun t q => own_len X0 hx hZ e0 R_NONE (n := (4 : Int32)) rfl (g := (mkF m 2 #[.val (.ref v_NONE), .val (.int (0 : Int32))] [(.ref v_NONE), (.int (0 : Int32))])) rfl rfl (hb hby d7_2) t q) ?_
  obtain ⟨v1, T1, L1, X1, Q1, st1⟩ := own_callS X0 hx hZ (y := (⟨"java/lang/String", "checkIndex", "(II)V"⟩ : MethodName)) (argsL := [(.int (0 : Int32)), (.int (4 : Int32))]) (rest := []) hown (hw _ (List.mem_of_getElem? (i := 44) rfl)) (hw _ (List.mem_of_getElem? (i := 45) rfl)) (hw _ (List.mem_of_getElem? (i := 18) rfl)) (hw _ (List.mem_of_getElem? (i := 46) rfl)) (rm_chk l Z a0 hw [] (0 : Int32) (4 : Int32) w_INVALID w_NONE w_SIGN w_SIGN_AND_ENCRYPT s_INVALID s_NONE s_SIGN s_SIGN_AND_ENCRYPT v_INVALID v_NONE v_SIGN v_SIGN_AND_ENCRYPT cs fm h0 FX (by decide) (by decide)) e0 (by decide) (by decide) 0 (by decide) (by decide) (by decide) (g := (mkF m 3 #[.val (.ref v_NONE), .val (.int (0 : Int32))] [(.int (4 : Int32)), (.int (0 : Int32))])) rfl (by rw [hml]; rfl) (lenOf (ps := [.int, .int]) (r := none) (by decide +kernel) rfl) rfl (by show 2 * 0 + _ ≤ _; exact Nat.le_of_eq rfl) (hb hby d7_3)
  obtain ⟨rfl, e1, rfl⟩ := Q1
  refine own_go (T' := T1) (g' := (mkF m 6 #[.val (.ref v_NONE), .val (.int (0 : Int32))] [])) (fun t q => st1 t q) ?_
  refine own_go (T' := T1) (g' := (mkF m 7 #[.val (.ref v_NONE), .val (.int (0 : Int32))] [(.ref v_NONE)])) (fun t q => XS.aloadN X1.here hx rfl (hb hby d7_6) rfl rfl q) ?_
  refine own_go (T' := T1) (g' := (mkF m 8 #[.val (.ref v_NONE), .val (.int (0 : Int32))] [(.int (0 : Int32)), (.ref v_NONE)])) (fun t q => XS.iloadN X1.here hx rfl (hb hby d7_7) rfl q) ?_
  refine own_go (T' := T1) (g' := (mkF m 9 #[.val (.ref v_NONE), .val (.int (0 : Int32))] [(.int (78 : Int32))])) (fun t q => own_ldB X1 hx hZ e1 R_NONE (by decide) rfl (g := (mkF m 8 #[.val (.ref v_NONE), .val (.int (0 : Int32))] [(.int (0 : Int32)), (.ref v_NONE)])) rfl rfl (hb hby d7_8) t q) ?_
  refine own_go (T' := T1) (g' := (mkF m 12 #[.val (.ref v_NONE), .val (.int (0 : Int32))] [(.int (255 : Int32)), (.int (78 : Int32))])) (fun t q => XS.sipush X1.here hx rfl (hb hby d7_9) q) ?_
  refine own_go (T' := T1) (g' := (mkF m 13 #[.val (.ref v_NONE), .val (.int (0 : Int32))] [(.int ((78 : Int32) &&& (255 : Int32)))])) (fun t q => XS.iand X1.here hx rfl (hb hby d7_12) rfl q) ?_
  refine own_go (T' := T1) (g' := (mkF m 14 #[.val (.ref v_NONE), .val (.int (0 : Int32))] [(.int ((((78 : Int32) &&& (255 : Int32))).toUInt32.toUInt16.toUInt32.toInt32))])) (fun t q => XT.i2c X1.here hx rfl (hb hby d7_13) rfl q) ?_
  refine own_outN X1 hx hlk hret (t := .char) (by simp) (hb hby d7_14) (w := (nar .char ((((78 : Int32) &&& (255 : Int32))).toUInt32.toUInt16.toUInt32.toInt32))) rfl ?_ (by decide) (by decide)
  exact ⟨congrArg (fun z => some (Value.int z)) (by decide), e1, rfl⟩
set_option maxRecDepth 65536 in
set_option maxHeartbeats 40000000 in
theorem rm_ch_NONE_0 (l : Launch) (Z : State) (a0 : Array Value) (hw : ∀ d ∈ tables_1, d.before a0 Z = true) (ws : List Jvm.Cond) (w_INVALID w_NONE w_SIGN w_SIGN_AND_ENCRYPT s_INVALID s_NONE s_SIGN s_SIGN_AND_ENCRYPT v_INVALID v_NONE v_SIGN v_SIGN_AND_ENCRYPT : Addr) (cs : Int32) (fm : Value) (h0 : Heap) (FX : own_F Z h0 w_INVALID w_NONE w_SIGN w_SIGN_AND_ENCRYPT s_INVALID s_NONE s_SIGN s_SIGN_AND_ENCRYPT v_INVALID v_NONE v_SIGN v_SIGN_AND_ENCRYPT cs fm) :
    own_Met l (⟨"java/lang/String", "charAt", "(I)C"⟩ : MethodName) jdk_42_method_56_code 2 (some .char) ws ({ frames := 3, cells := 0, slots := 0, locals := 40 } : Room) Z #[(.ref s_NONE), (.int (0 : Int32))] h0 (fun v h L => v = some (.int (78 : Int32)) ∧ h = h0 ∧ L = []) := by
  refine MetFree.of_bodySF (plainFor_of_name (by first | (simp [plainName, overriddenIn]; done) | decide +kernel)) hisR ?_
  intro p e s m args below meth c s₁ Bd hml0 hP hK
  obtain ⟨rfl, hZ, hh⟩ := hP
  have hx := Bd.exec
  have hby := Bd.bytes
  have hml : c.maxLocals = 2 := hml0
  have hown : s.vm.findClass "java/lang/String" = some m.cls := findClass_of_methodNamed Bd.named
  have hnm := (name_of_methodNamed Bd.named Bd.method).1
  have hlk : meth.locks = false := Bd.notSynchronized
  have hret := Bd.returns
  have X0 : Stand p l e ({ frames := 3, cells := 0, slots := 0, locals := 40 } : Room) s m #[(.ref s_NONE), (.int (0 : Int32))] below meth c s₁ [] 0 0 := Stand.of_body Bd
  have e0 : s₁.heap = h0 := by rw [← hh, Bd.state]; rfl
  refine own_in (Q := fun v h L => v = some (.int (78 : Int32)) ∧ h = h0 ∧ L = []) (ef := by first | (simp [entryFrame, mkF, argsToLocals, Value.category, maxLocals]; done) | rfl) (g' := (mkF m 0 #[.val (.ref s_NONE), .val (.int (0 : Int32))] [])) ?_
  obtain ⟨S_INVALID, E_INVALID, S_SIGN, E_SIGN, S_SIGN_AND_ENCRYPT, E_SIGN_AND_ENCRYPT, S_NONE, E_NONE, F_INVALID_ordinal, F_SIGN_ordinal, F_SIGN_AND_ENCRYPT_ordinal, F_NONE_ordinal, ne_INVALID_SIGN, ne_INVALID_SIGN_AND_ENCRYPT, ne_INVALID_NONE, ne_SIGN_SIGN_AND_ENCRYPT, ne_SIGN_NONE, ne_SIGN_AND_ENCRYPT_NONE, G_INVALID, X_INVALID, G_SIGN_AND_ENCRYPT, X_SIGN_AND_ENCRYPT, G_SIGN, X_SIGN, G_NONE, X_NONE, H_INVALID, H_SIGN_AND_ENCRYPT, H_SIGN, H_NONE, D_INVALID, D_SIGN_AND_ENCRYPT, D_SIGN, D_NONE, R_INVALID, R_NONE, R_SIGN, R_SIGN_AND_ENCRYPT, S_cs, cs0, S_fm, hfm⟩ := id FX
  refine own_go (T' := s₁) (g' := (mkF m 1 #[.val (.ref s_NONE), .val (.int (0 : Int32))] [(.ref s_NONE)])) (fun t q => XS.aloadN X0.here hx rfl (hb hby d5_0) rfl rfl q) ?_
  obtain ⟨v1, T1, L1, X1, Q1, st1⟩ := own_callV X0 hx hZ (y := (⟨"java/lang/String", "isLatin1", "()Z"⟩ : MethodName)) (b := s_NONE) (argsL := []) (rest := []) hown (hw _ (List.mem_of_getElem? (i := 35) rfl)) (hw _ (List.mem_of_getElem? (i := 36) rfl)) (hw _ (List.mem_of_getElem? (i := 38) rfl)) (hw _ (List.mem_of_getElem? (i := 37) rfl)) (hw _ (List.mem_of_getElem? (i := 18) rfl)) (hw _ (List.mem_of_getElem? (i := 39) rfl)) (rm_isl_NONE l Z a0 hw [] w_INVALID w_NONE w_SIGN w_SIGN_AND_ENCRYPT s_INVALID s_NONE s_SIGN s_SIGN_AND_ENCRYPT v_INVALID v_NONE v_SIGN v_SIGN_AND_ENCRYPT cs fm h0 FX) e0 X_NONE (by decide) (by decide) 0 (by decide) (by decide) (by decide) (g := (mkF m 1 #[.val (.ref s_NONE), .val (.int (0 : Int32))] [(.ref s_NONE)])) rfl (by rw [hml]; rfl) (lenOf (ps := []) (r := (some .boolean)) (by decide +kernel) rfl) rfl (by show 2 * 0 + _ ≤ _; exact Nat.le_of_eq rfl) (hb hby d5_1)
  obtain ⟨rfl, e1, rfl⟩ := Q1
  refine own_go (T' := T1) (g' := (mkF m 4 #[.val (.ref s_NONE), .val (.int (0 : Int32))] [(.int (1 : Int32))])) (fun t q => st1 t q) ?_
  have c2 : ¬ ((1 : Int32) = (0 : Int32)) := by decide
  refine own_go (T' := T1) (g' := (mkF m 7 #[.val (.ref s_NONE), .val (.int (0 : Int32))] [])) (fun t q => XS.ifNo X1.here hx rfl (hb hby d5_4) rfl ((if0 _ _).trans (feq c2).1) q) ?_
  refine own_go (T' := T1) (g' := (mkF m 8 #[.val (.ref s_NONE), .val (.int (0 : Int32))] [(.ref s_NONE)])) (fun t q => XS.aloadN X1.here hx rfl (hb hby d5_7) rfl rfl q) ?_
  obtain ⟨T3, X3, e3, st3⟩ := getF X1 hx hZ hown (host := "") (Or.inl (hw _ (List.mem_of_getElem? (i := 20) rfl))) Via.refl e1 H_NONE (g := (mkF m 8 #[.val (.ref s_NONE), .val (.int (0 : Int32))] [(.ref s_NONE)])) rfl rfl (hb hby d5_8)
  refine own_go (T' := T3) (g' := (mkF m 11 #[.val (.ref s_NONE), .val (.int (0 : Int32))] [(.ref v_NONE)])) (fun t q => st3 t q) ?_
  refine own_go (T' := T3) (g' := (mkF m 12 #[.val (.ref s_NONE), .val (.int (0 : Int32))] [(.int (0 : Int32)), (.ref v_NONE)])) (fun t q => XS.iloadN X3.here hx rfl (hb hby d5_11) rfl q) ?_
  obtain ⟨v4, T4, L4, X4, Q4, st4⟩ := own_callS X3 hx hZ (y := (⟨"java/lang/StringLatin1", "charAt", "([BI)C"⟩ : MethodName)) (argsL := [(.ref v_NONE), (.int (0 : Int32))]) (rest := []) hown (hw _ (List.mem_of_getElem? (i := 40) rfl)) (hw _ (List.mem_of_getElem? (i := 41) rfl)) (hw _ (List.mem_of_getElem? (i := 42) rfl)) (hw _ (List.mem_of_getElem? (i := 43) rfl)) (rm_lat_NONE_0 l Z a0 hw [] w_INVALID w_NONE w_SIGN w_SIGN_AND_ENCRYPT s_INVALID s_NONE s_SIGN s_SIGN_AND_ENCRYPT v_INVALID v_NONE v_SIGN v_SIGN_AND_ENCRYPT cs fm h0 FX) e3 (by decide) (by decide) 0 (by decide) (by decide) (by decide) (g := (mkF m 12 #[.val (.ref s_NONE), .val (.int (0 : Int32))] [(.int (0 : Int32)), (.ref v_NONE)])) rfl (by rw [hml]; rfl) (lenOf (ps := [(.array .byte), .int]) (r := (some .char)) (by decide +kernel) rfl) rfl (by show 2 * 0 + _ ≤ _; exact Nat.le_of_eq rfl) (hb hby d5_12)
  obtain ⟨rfl, e4, rfl⟩ := Q4
  refine own_go (T' := T4) (g' := (mkF m 15 #[.val (.ref s_NONE), .val (.int (0 : Int32))] [(.int (78 : Int32))])) (fun t q => st4 t q) ?_
  refine own_outN X4 hx hlk hret (t := .char) (by simp) (hb hby d5_15) (w := (78 : Int32)) (by decide) ?_ (by decide) (by decide)
  exact ⟨rfl, e4, rfl⟩
set_option maxRecDepth 65536 in
set_option maxHeartbeats 40000000 in
theorem rm_gsn_NONE (l : Launch) (Z : State) (a0 : Array Value) (hw : ∀ d ∈ tables_1, d.before a0 Z = true) (ws : List Jvm.Cond) (w_INVALID w_NONE w_SIGN w_SIGN_AND_ENCRYPT s_INVALID s_NONE s_SIGN s_SIGN_AND_ENCRYPT v_INVALID v_NONE v_SIGN v_SIGN_AND_ENCRYPT : Addr) (cs : Int32) (fm : Value) (h0 : Heap) (FX : own_F Z h0 w_INVALID w_NONE w_SIGN w_SIGN_AND_ENCRYPT s_INVALID s_NONE s_SIGN s_SIGN_AND_ENCRYPT v_INVALID v_NONE v_SIGN v_SIGN_AND_ENCRYPT cs fm) :
    own_Met l (⟨"com/example/dvarapala/dvarapala/engine/MessageSecurityMode", "getSpecName", "()Ljava/lang/String;"⟩ : MethodName) prog_10_method_4_code 1 (some (.object "java/lang/String")) ws ({ frames := 0, cells := 0, slots := 0, locals := 0 } : Room) Z #[(.ref w_NONE)] h0 (fun v h L => v = some (.ref s_NONE) ∧ h = h0 ∧ L = []) := by
  refine MetFree.of_bodySF (plainFor_of_name (by first | (simp [plainName, overriddenIn]; done) | decide +kernel)) hisR ?_
  intro p e s m args below meth c s₁ Bd hml0 hP hK
  obtain ⟨rfl, hZ, hh⟩ := hP
  have hx := Bd.exec
  have hby := Bd.bytes
  have hml : c.maxLocals = 1 := hml0
  have hown : s.vm.findClass "com/example/dvarapala/dvarapala/engine/MessageSecurityMode" = some m.cls := findClass_of_methodNamed Bd.named
  have hnm := (name_of_methodNamed Bd.named Bd.method).1
  have hlk : meth.locks = false := Bd.notSynchronized
  have hret := Bd.returns
  have X0 : Stand p l e ({ frames := 0, cells := 0, slots := 0, locals := 0 } : Room) s m #[(.ref w_NONE)] below meth c s₁ [] 0 0 := Stand.of_body Bd
  have e0 : s₁.heap = h0 := by rw [← hh, Bd.state]; rfl
  refine own_in (Q := fun v h L => v = some (.ref s_NONE) ∧ h = h0 ∧ L = []) (ef := by first | (simp [entryFrame, mkF, argsToLocals, Value.category, maxLocals]; done) | rfl) (g' := (mkF m 0 #[.val (.ref w_NONE)] [])) ?_
  obtain ⟨S_INVALID, E_INVALID, S_SIGN, E_SIGN, S_SIGN_AND_ENCRYPT, E_SIGN_AND_ENCRYPT, S_NONE, E_NONE, F_INVALID_ordinal, F_SIGN_ordinal, F_SIGN_AND_ENCRYPT_ordinal, F_NONE_ordinal, ne_INVALID_SIGN, ne_INVALID_SIGN_AND_ENCRYPT, ne_INVALID_NONE, ne_SIGN_SIGN_AND_ENCRYPT, ne_SIGN_NONE, ne_SIGN_AND_ENCRYPT_NONE, G_INVALID, X_INVALID, G_SIGN_AND_ENCRYPT, X_SIGN_AND_ENCRYPT, G_SIGN, X_SIGN, G_NONE, X_NONE, H_INVALID, H_SIGN_AND_ENCRYPT, H_SIGN, H_NONE, D_INVALID, D_SIGN_AND_ENCRYPT, D_SIGN, D_NONE, R_INVALID, R_NONE, R_SIGN, R_SIGN_AND_ENCRYPT, S_cs, cs0, S_fm, hfm⟩ := id FX
  refine own_go (T' := s₁) (g' := (mkF m 1 #[.val (.ref w_NONE)] [(.ref w_NONE)])) (fun t q => XS.aloadN X0.here hx rfl (hb hby d2_0) rfl rfl q) ?_
  obtain ⟨T1, X1, e1, st1⟩ := getF X0 hx hZ hown (host := "") (Or.inl (hw _ (List.mem_of_getElem? (i := 12) rfl))) Via.refl e0 G_NONE (g := (mkF m 1 #[.val (.ref w_NONE)] [(.ref w_NONE)])) rfl rfl (hb hby d2_1)
  refine own_go (T' := T1) (g' := (mkF m 4 #[.val (.ref w_NONE)] [(.ref s_NONE)])) (fun t q => st1 t q) ?_
  refine own_outA X1 hx hlk hret rfl rfl (hb hby d2_4) ?_ (by decide) (by decide)
  exact ⟨rfl, e1, rfl⟩
set_option maxRecDepth 65536 in
set_option maxHeartbeats 40000000 in
theorem rm_sig_NONE (l : Launch) (Z : State) (a0 : Array Value) (hw : ∀ d ∈ tables_1, d.before a0 Z = true) (ws : List Jvm.Cond) (w_INVALID w_NONE w_SIGN w_SIGN_AND_ENCRYPT s_INVALID s_NONE s_SIGN s_SIGN_AND_ENCRYPT v_INVALID v_NONE v_SIGN v_SIGN_AND_ENCRYPT : Addr) (cs : Int32) (fm : Value) (h0 : Heap) (FX : own_F Z h0 w_INVALID w_NONE w_SIGN w_SIGN_AND_ENCRYPT s_INVALID s_NONE s_SIGN s_SIGN_AND_ENCRYPT v_INVALID v_NONE v_SIGN v_SIGN_AND_ENCRYPT cs fm) :
    own_Met l (⟨"com/example/dvarapala/dvarapala/engine/MessageSecurityMode", "isSigned", "()Z"⟩ : MethodName) prog_10_method_5_code 1 (some .boolean) ws ({ frames := 0, cells := 0, slots := 0, locals := 0 } : Room) Z #[(.ref w_NONE)] h0 (fun v h L => v = some (.int (0 : Int32)) ∧ h = h0 ∧ L = []) := by
  refine MetFree.of_bodySF (plainFor_of_name (by first | (simp [plainName, overriddenIn]; done) | decide +kernel)) hisR ?_
  intro p e s m args below meth c s₁ Bd hml0 hP hK
  obtain ⟨rfl, hZ, hh⟩ := hP
  have hx := Bd.exec
  have hby := Bd.bytes
  have hml : c.maxLocals = 1 := hml0
  have hown : s.vm.findClass "com/example/dvarapala/dvarapala/engine/MessageSecurityMode" = some m.cls := findClass_of_methodNamed Bd.named
  have hnm := (name_of_methodNamed Bd.named Bd.method).1
  have hlk : meth.locks = false := Bd.notSynchronized
  have hret := Bd.returns
  have X0 : Stand p l e ({ frames := 0, cells := 0, slots := 0, locals := 0 } : Room) s m #[(.ref w_NONE)] below meth c s₁ [] 0 0 := Stand.of_body Bd
  have e0 : s₁.heap = h0 := by rw [← hh, Bd.state]; rfl
  refine own_in (Q := fun v h L => v = some (.int (0 : Int32)) ∧ h = h0 ∧ L = []) (ef := by first | (simp [entryFrame, mkF, argsToLocals, Value.category, maxLocals]; done) | rfl) (g' := (mkF m 0 #[.val (.ref w_NONE)] [])) ?_
  obtain ⟨S_INVALID, E_INVALID, S_SIGN, E_SIGN, S_SIGN_AND_ENCRYPT, E_SIGN_AND_ENCRYPT, S_NONE, E_NONE, F_INVALID_ordinal, F_SIGN_ordinal, F_SIGN_AND_ENCRYPT_ordinal, F_NONE_ordinal, ne_INVALID_SIGN, ne_INVALID_SIGN_AND_ENCRYPT, ne_INVALID_NONE, ne_SIGN_SIGN_AND_ENCRYPT, ne_SIGN_NONE, ne_SIGN_AND_ENCRYPT_NONE, G_INVALID, X_INVALID, G_SIGN_AND_ENCRYPT, X_SIGN_AND_ENCRYPT, G_SIGN, X_SIGN, G_NONE, X_NONE, H_INVALID, H_SIGN_AND_ENCRYPT, H_SIGN, H_NONE, D_INVALID, D_SIGN_AND_ENCRYPT, D_SIGN, D_NONE, R_INVALID, R_NONE, R_SIGN, R_SIGN_AND_ENCRYPT, S_cs, cs0, S_fm, hfm⟩ := id FX
  refine own_go (T' := s₁) (g' := (mkF m 1 #[.val (.ref w_NONE)] [(.ref w_NONE)])) (fun t q => XS.aloadN X0.here hx rfl (hb hby d10_0) rfl rfl q) ?_
  obtain ⟨T1, X1, e1, st1⟩ := getS2 X0 hx hZ hown (host := "") (Or.inl (hw _ (List.mem_of_getElem? (i := 57) rfl))) Via.refl e0 S_SIGN (g := (mkF m 1 #[.val (.ref w_NONE)] [(.ref w_NONE)])) rfl (hb hby d10_1)
  refine own_go (T' := T1) (g' := (mkF m 4 #[.val (.ref w_NONE)] [(.ref w_SIGN), (.ref w_NONE)])) (fun t q => st1 t q) ?_
  have c2 : ¬ ((Value.ref w_NONE) = (Value.ref w_SIGN)) := fun z => ne_SIGN_NONE (Value.ref.inj z).symm
  refine own_go (T' := T1) (g' := (mkF m 7 #[.val (.ref w_NONE)] [])) (fun t q => XT.acmpNo X1.here hx rfl (hb hby d10_4) rfl rfl rfl (own_af c2).1 q) ?_
  refine own_go (T' := T1) (g' := (mkF m 8 #[.val (.ref w_NONE)] [(.ref w_NONE)])) (fun t q => XS.aloadN X1.here hx rfl (hb hby d10_7) rfl rfl q) ?_
  obtain ⟨T3, X3, e3, st3⟩ := getS2 X1 hx hZ hown (host := "") (Or.inl (hw _ (List.mem_of_getElem? (i := 59) rfl))) Via.refl e1 S_SIGN_AND_ENCRYPT (g := (mkF m 8 #[.val (.ref w_NONE)] [(.ref w_NONE)])) rfl (hb hby d10_8)
  refine own_go (T' := T3) (g' := (mkF m 11 #[.val (.ref w_NONE)] [(.ref w_SIGN_AND_ENCRYPT), (.ref w_NONE)])) (fun t q => st3 t q) ?_
  have c4 : ¬ ((Value.ref w_NONE) = (Value.ref w_SIGN_AND_ENCRYPT)) := fun z => ne_SIGN_AND_ENCRYPT_NONE (Value.ref.inj z).symm
  refine own_go (T' := T3) (g' := (mkF m 18 #[.val (.ref w_NONE)] [])) (fun t q => XT.acmpYes X3.here hx rfl (pc0 := 11) (pc' := 18) rfl (hb hby d10_11) rfl rfl rfl (own_af c4).2 (by decide) (by decide) q) ?_
  refine own_go (T' := T3) (g' := (mkF m 19 #[.val (.ref w_NONE)] [(.int (0 : Int32))])) (fun t q => XS.iconst X3.here hx rfl (hb hby d10_18) q) ?_
  refine own_outN X3 hx hlk hret (t := .boolean) (by simp) (hb hby d10_19) (w := (0 : Int32)) (by decide) ?_ (by decide) (by decide)
  exact ⟨rfl, e3, rfl⟩
set_option maxRecDepth 65536 in
set_option maxHeartbeats 40000000 in
theorem rm_cod_SIGN (l : Launch) (Z : State) (a0 : Array Value) (hw : ∀ d ∈ tables_1, d.before a0 Z = true) (ws : List Jvm.Cond) (w_INVALID w_NONE w_SIGN w_SIGN_AND_ENCRYPT s_INVALID s_NONE s_SIGN s_SIGN_AND_ENCRYPT v_INVALID v_NONE v_SIGN v_SIGN_AND_ENCRYPT : Addr) (cs : Int32) (fm : Value) (h0 : Heap) (FX : own_F Z h0 w_INVALID w_NONE w_SIGN w_SIGN_AND_ENCRYPT s_INVALID s_NONE s_SIGN s_SIGN_AND_ENCRYPT v_INVALID v_NONE v_SIGN v_SIGN_AND_ENCRYPT cs fm) :
    own_Met l (⟨"java/lang/String", "coder", "()B"⟩ : MethodName) jdk_42_method_152_code 1 (some .byte) ws ({ frames := 0, cells := 0, slots := 0, locals := 0 } : Room) Z #[(.ref s_SIGN)] h0 (fun v h L => v = some (.int (0 : Int32)) ∧ h = h0 ∧ L = []) := by
  refine MetFree.of_bodySF (plainFor_of_name (by first | (simp [plainName, overriddenIn]; done) | decide +kernel)) hisR ?_
  intro p e s m args below meth c s₁ Bd hml0 hP hK
  obtain ⟨rfl, hZ, hh⟩ := hP
  have hx := Bd.exec
  have hby := Bd.bytes
  have hml : c.maxLocals = 1 := hml0
  have hown : s.vm.findClass "java/lang/String" = some m.cls := findClass_of_methodNamed Bd.named
  have hnm := (name_of_methodNamed Bd.named Bd.method).1
  have hlk : meth.locks = false := Bd.notSynchronized
  have hret := Bd.returns
  have X0 : Stand p l e ({ frames := 0, cells := 0, slots := 0, locals := 0 } : Room) s m #[(.ref s_SIGN)] below meth c s₁ [] 0 0 := Stand.of_body Bd
  have e0 : s₁.heap = h0 := by rw [← hh, Bd.state]; rfl
  refine own_in (Q := fun v h L => v = some (.int (0 : Int32)) ∧ h = h0 ∧ L = []) (ef := by first | (simp [entryFrame, mkF, argsToLocals, Value.category, maxLocals]; done) | rfl) (g' := (mkF m 0 #[.val (.ref s_SIGN)] [])) ?_
  obtain ⟨S_INVALID, E_INVALID, S_SIGN, E_SIGN, S_SIGN_AND_ENCRYPT, E_SIGN_AND_ENCRYPT, S_NONE, E_NONE, F_INVALID_ordinal, F_SIGN_ordinal, F_SIGN_AND_ENCRYPT_ordinal, F_NONE_ordinal, ne_INVALID_SIGN, ne_INVALID_SIGN_AND_ENCRYPT, ne_INVALID_NONE, ne_SIGN_SIGN_AND_ENCRYPT, ne_SIGN_NONE, ne_SIGN_AND_ENCRYPT_NONE, G_INVALID, X_INVALID, G_SIGN_AND_ENCRYPT, X_SIGN_AND_ENCRYPT, G_SIGN, X_SIGN, G_NONE, X_NONE, H_INVALID, H_SIGN_AND_ENCRYPT, H_SIGN, H_NONE, D_INVALID, D_SIGN_AND_ENCRYPT, D_SIGN, D_NONE, R_INVALID, R_NONE, R_SIGN, R_SIGN_AND_ENCRYPT, S_cs, cs0, S_fm, hfm⟩ := id FX
  obtain ⟨T1, X1, e1, st1⟩ := getS2 X0 hx hZ hown (host := "") (Or.inl (hw _ (List.mem_of_getElem? (i := 27) rfl))) Via.refl e0 S_cs (g := (mkF m 0 #[.val (.ref s_SIGN)] [])) rfl (hb hby d4_0)
  refine own_go (T' := T1) (g' := (mkF m 3 #[.val (.ref s_SIGN)] [(.int cs)])) (fun t q => st1 t q) ?_
  have c2 : ¬ (cs = (0 : Int32)) := cs0
  refine own_go (T' := T1) (g' := (mkF m 6 #[.val (.ref s_SIGN)] [])) (fun t q => XS.ifNo X1.here hx rfl (hb hby d4_3) rfl ((if0 _ _).trans (feq c2).1) q) ?_
  refine own_go (T' := T1) (g' := (mkF m 7 #[.val (.ref s_SIGN)] [(.ref s_SIGN)])) (fun t q => XS.aloadN X1.here hx rfl (hb hby d4_6) rfl rfl q) ?_
  obtain ⟨T3, X3, e3, st3⟩ := getF X1 hx hZ hown (host := "") (Or.inl (hw _ (List.mem_of_getElem? (i := 28) rfl))) Via.refl e1 D_SIGN (g := (mkF m 7 #[.val (.ref s_SIGN)] [(.ref s_SIGN)])) rfl rfl (hb hby d4_7)
  refine own_go (T' := T3) (g' := (mkF m 10 #[.val (.ref s_SIGN)] [(.int (0 : Int32))])) (fun t q => st3 t q) ?_
  refine own_go (T' := T3) (g' := (mkF m 14 #[.val (.ref s_SIGN)] [(.int (0 : Int32))])) (fun t q => XS.goto X3.here hx rfl (pc0 := 10) (pc' := 14) rfl (hb hby d4_10) (by decide) (by decide) q) ?_
  refine own_outN X3 hx hlk hret (t := .byte) (by simp) (hb hby d4_14) (w := (0 : Int32)) (by decide) ?_ (by decide) (by decide)
  exact ⟨rfl, e3, rfl⟩
set_option maxRecDepth 65536 in
set_option maxHeartbeats 40000000 in
theorem rm_isl_SIGN (l : Launch) (Z : State) (a0 : Array Value) (hw : ∀ d ∈ tables_1, d.before a0 Z = true) (ws : List Jvm.Cond) (w_INVALID w_NONE w_SIGN w_SIGN_AND_ENCRYPT s_INVALID s_NONE s_SIGN s_SIGN_AND_ENCRYPT v_INVALID v_NONE v_SIGN v_SIGN_AND_ENCRYPT : Addr) (cs : Int32) (fm : Value) (h0 : Heap) (FX : own_F Z h0 w_INVALID w_NONE w_SIGN w_SIGN_AND_ENCRYPT s_INVALID s_NONE s_SIGN s_SIGN_AND_ENCRYPT v_INVALID v_NONE v_SIGN v_SIGN_AND_ENCRYPT cs fm) :
    own_Met l (⟨"java/lang/String", "isLatin1", "()Z"⟩ : MethodName) jdk_42_method_154_code 1 (some .boolean) ws ({ frames := 0, cells := 0, slots := 0, locals := 0 } : Room) Z #[(.ref s_SIGN)] h0 (fun v h L => v = some (.int (1 : Int32)) ∧ h = h0 ∧ L = []) := by
  refine MetFree.of_bodySF (plainFor_of_name (by first | (simp [plainName, overriddenIn]; done) | decide +kernel)) hisR ?_
  intro p e s m args below meth c s₁ Bd hml0 hP hK
  obtain ⟨rfl, hZ, hh⟩ := hP
  have hx := Bd.exec
  have hby := Bd.bytes
  have hml : c.maxLocals = 1 := hml0
  have hown : s.vm.findClass "java/lang/String" = some m.cls := findClass_of_methodNamed Bd.named
  have hnm := (name_of_methodNamed Bd.named Bd.method).1
  have hlk : meth.locks = false := Bd.notSynchronized
  have hret := Bd.returns
  have X0 : Stand p l e ({ frames := 0, cells := 0, slots := 0, locals := 0 } : Room) s m #[(.ref s_SIGN)] below meth c s₁ [] 0 0 := Stand.of_body Bd
  have e0 : s₁.heap = h0 := by rw [← hh, Bd.state]; rfl
  refine own_in (Q := fun v h L => v = some (.int (1 : Int32)) ∧ h = h0 ∧ L = []) (ef := by first | (simp [entryFrame, mkF, argsToLocals, Value.category, maxLocals]; done) | rfl) (g' := (mkF m 0 #[.val (.ref s_SIGN)] [])) ?_
  obtain ⟨S_INVALID, E_INVALID, S_SIGN, E_SIGN, S_SIGN_AND_ENCRYPT, E_SIGN_AND_ENCRYPT, S_NONE, E_NONE, F_INVALID_ordinal, F_SIGN_ordinal, F_SIGN_AND_ENCRYPT_ordinal, F_NONE_ordinal, ne_INVALID_SIGN, ne_INVALID_SIGN_AND_ENCRYPT, ne_INVALID_NONE, ne_SIGN_SIGN_AND_ENCRYPT, ne_SIGN_NONE, ne_SIGN_AND_ENCRYPT_NONE, G_INVALID, X_INVALID, G_SIGN_AND_ENCRYPT, X_SIGN_AND_ENCRYPT, G_SIGN, X_SIGN, G_NONE, X_NONE, H_INVALID, H_SIGN_AND_ENCRYPT, H_SIGN, H_NONE, D_INVALID, D_SIGN_AND_ENCRYPT, D_SIGN, D_NONE, R_INVALID, R_NONE, R_SIGN, R_SIGN_AND_ENCRYPT, S_cs, cs0, S_fm, hfm⟩ := id FX
  obtain ⟨T1, X1, e1, st1⟩ := getS2 X0 hx hZ hown (host := "") (Or.inl (hw _ (List.mem_of_getElem? (i := 27) rfl))) Via.refl e0 S_cs (g := (mkF m 0 #[.val (.ref s_SIGN)] [])) rfl (hb hby d6_0)
  refine own_go (T' := T1) (g' := (mkF m 3 #[.val (.ref s_SIGN)] [(.int cs)])) (fun t q => st1 t q) ?_
  have c2 : ¬ (cs = (0 : Int32)) := cs0
  refine own_go (T' := T1) (g' := (mkF m 6 #[.val (.ref s_SIGN)] [])) (fun t q => XS.ifNo X1.here hx rfl (hb hby d6_3) rfl ((if0 _ _).trans (feq c2).1) q) ?_
  refine own_go (T' := T1) (g' := (mkF m 7 #[.val (.ref s_SIGN)] [(.ref s_SIGN)])) (fun t q => XS.aloadN X1.here hx rfl (hb hby d6_6) rfl rfl q) ?_
  obtain ⟨T3, X3, e3, st3⟩ := getF X1 hx hZ hown (host := "") (Or.inl (hw _ (List.mem_of_getElem? (i := 28) rfl))) Via.refl e1 D_SIGN (g := (mkF m 7 #[.val (.ref s_SIGN)] [(.ref s_SIGN)])) rfl rfl (hb hby d6_7)
  refine own_go (T' := T3) (g' := (mkF m 10 #[.val (.ref s_SIGN)] [(.int (0 : Int32))])) (fun t q => st3 t q) ?_
  have c4 : (0 : Int32) = (0 : Int32) := by decide
  refine own_go (T' := T3) (g' := (mkF m 13 #[.val (.ref s_SIGN)] [])) (fun t q => XS.ifNo X3.here hx rfl (hb hby d6_10) rfl ((if0 _ _).trans (teq c4).2) q) ?_
  refine own_go (T' := T3) (g' := (mkF m 14 #[.val (.ref s_SIGN)] [(.int (1 : Int32))])) (fun t q => XS.iconst X3.here hx rfl (hb hby d6_13) q) ?_
  refine own_go (T' := T3) (g' := (mkF m 18 #[.val (.ref s_SIGN)] [(.int (1 : Int32))])) (fun t q => XS.goto X3.here hx rfl (pc0 := 14) (pc' := 18) rfl (hb hby d6_14) (by decide) (by decide) q) ?_
  refine own_outN X3 hx hlk hret (t := .boolean) (by simp) (hb hby d6_18) (w := (1 : Int32)) (by decide) ?_ (by decide) (by decide)
  exact ⟨rfl, e3, rfl⟩
set_option maxRecDepth 65536 in
set_option maxHeartbeats 40000000 in
theorem rm_len_SIGN (l : Launch) (Z : State) (a0 : Array Value) (hw : ∀ d ∈ tables_1, d.before a0 Z = true) (ws : List Jvm.Cond) (w_INVALID w_NONE w_SIGN w_SIGN_AND_ENCRYPT s_INVALID s_NONE s_SIGN s_SIGN_AND_ENCRYPT v_INVALID v_NONE v_SIGN v_SIGN_AND_ENCRYPT : Addr) (cs : Int32) (fm : Value) (h0 : Heap) (FX : own_F Z h0 w_INVALID w_NONE w_SIGN w_SIGN_AND_ENCRYPT s_INVALID s_NONE s_SIGN s_SIGN_AND_ENCRYPT v_INVALID v_NONE v_SIGN v_SIGN_AND_ENCRYPT cs fm) :
    own_Met l (⟨"java/lang/String", "length", "()I"⟩ : MethodName) jdk_42_method_54_code 1 (some .int) ws ({ frames := 1, cells := 0, slots := 0, locals := 13 } : Room) Z #[(.ref s_SIGN)] h0 (fun v h L => v = some (.int (4 : Int32)) ∧ h = h0 ∧ L = []) := by
  refine MetFree.of_bodySF (plainFor_of_name (by first | (simp [plainName, overriddenIn]; done) | decide +kernel)) hisR ?_
  intro p e s m args below meth c s₁ Bd hml0 hP hK
  obtain ⟨rfl, hZ, hh⟩ := hP
  have hx := Bd.exec
  have hby := Bd.bytes
  have hml : c.maxLocals = 1 := hml0
  have hown : s.vm.findClass "java/lang/String" = some m.cls := findClass_of_methodNamed Bd.named
  have hnm := (name_of_methodNamed Bd.named Bd.method).1
  have hlk : meth.locks = false := Bd.notSynchronized
  have hret := Bd.returns
  have X0 : Stand p l e ({ frames := 1, cells := 0, slots := 0, locals := 13 } : Room) s m #[(.ref s_SIGN)] below meth c s₁ [] 0 0 := Stand.of_body Bd
  have e0 : s₁.heap = h0 := by rw [← hh, Bd.state]; rfl
  refine own_in (Q := fun v h L => v = some (.int (4 : Int32)) ∧ h = h0 ∧ L = []) (ef := by first | (simp [entryFrame, mkF, argsToLocals, Value.category, maxLocals]; done) | rfl) (g' := (mkF m 0 #[.val (.ref s_SIGN)] [])) ?_
  obtain ⟨S_INVALID, E_INVALID, S_SIGN, E_SIGN, S_SIGN_AND_ENCRYPT, E_SIGN_AND_ENCRYPT, S_NONE, E_NONE, F_INVALID_ordinal, F_SIGN_ordinal, F_SIGN_AND_ENCRYPT_ordinal, F_NONE_ordinal, ne_INVALID_SIGN, ne_INVALID_SIGN_AND_ENCRYPT, ne_INVALID_NONE, ne_SIGN_SIGN_AND_ENCRYPT, ne_SIGN_NONE, ne_SIGN_AND_ENCRYPT_NONE, G_INVALID, X_INVALID, G_SIGN_AND_ENCRYPT, X_SIGN_AND_ENCRYPT, G_SIGN, X_SIGN, G_NONE, X_NONE, H_INVALID, H_SIGN_AND_ENCRYPT, H_SIGN, H_NONE, D_INVALID, D_SIGN_AND_ENCRYPT, D_SIGN, D_NONE, R_INVALID, R_NONE, R_SIGN, R_SIGN_AND_ENCRYPT, S_cs, cs0, S_fm, hfm⟩ := id FX
  refine own_go (T' := s₁) (g' := (mkF m 1 #[.val (.ref s_SIGN)] [(.ref s_SIGN)])) (fun t q => XS.aloadN X0.here hx rfl (hb hby d3_0) rfl rfl q) ?_
  obtain ⟨T1, X1, e1, st1⟩ := getF X0 hx hZ hown (host := "") (Or.inl (hw _ (List.mem_of_getElem? (i := 20) rfl))) Via.refl e0 H_SIGN (g := (mkF m 1 #[.val (.ref s_SIGN)] [(.ref s_SIGN)])) rfl rfl (hb hby d3_1)
  refine own_go (T' := T1) (g' := (mkF m 4 #[.val (.ref s_SIGN)] [(.ref v_SIGN)])) (fun t q => st1 t q) ?_
  refine own_go (T' := T1) (g' := (mkF m 5 #[.val (.ref s_SIGN)] [(.int (4 : Int32))])) (fun t q => own_len X1 hx hZ e1 R_SIGN (n := (4 : Int32)) rfl (g := (mkF m 4 #[.val (.ref s_SIGN)] [(.ref v_SIGN)])) rfl rfl (hb hby d3_4) t q) ?_
  refine own_go (T' := T1) (g' := (mkF m 6 #[.val (.ref s_SIGN)] [(.ref s_SIGN), (.int (4 : Int32))])) (fun t q => XS.aloadN X1.here hx rfl (hb hby d3_5) rfl rfl q) ?_
  obtain ⟨v2, T2, L2, X2, Q2, st2⟩ := own_callV X1 hx hZ (y := (⟨"java/lang/String", "coder", "()B"⟩ : MethodName)) (b := s_SIGN) (argsL := []) (rest := [(.int (4 : Int32))]) hown (hw _ (List.mem_of_getElem? (i := 22) rfl)) (hw _ (List.mem_of_getElem? (i := 23) rfl)) (hw _ (List.mem_of_getElem? (i := 25) rfl)) (hw _ (List.mem_of_getElem? (i := 24) rfl)) (hw _ (List.mem_of_getElem? (i := 18) rfl)) (hw _ (List.mem_of_getElem? (i := 26) rfl)) (rm_cod_SIGN l Z a0 hw [] w_INVALID w_NONE w_SIGN w_SIGN_AND_ENCRYPT s_INVALID s_NONE s_SIGN s_SIGN_AND_ENCRYPT v_INVALID v_NONE v_SIGN v_SIGN_AND_ENCRYPT cs fm h0 FX) e1 X_SIGN (by decide) (by decide) 1 (by decide) (by decide) (by decide) (g := (mkF m 6 #[.val (.ref s_SIGN)] [(.ref s_SIGN), (.int (4 : Int32))])) rfl (by rw [hml]; rfl) (lenOf (ps := []) (r := (some .byte)) (by decide +kernel) rfl) rfl (by show 2 * 0 + _ ≤ _; exact Nat.le_of_eq rfl) (hb hby d3_6)
  obtain ⟨rfl, e2, rfl⟩ := Q2
  refine own_go (T' := T2) (g' := (mkF m 9 #[.val (.ref s_SIGN)] [(.int (0 : Int32)), (.int (4 : Int32))])) (fun t q => st2 t q) ?_
  refine own_go (T' := T2) (g' := (mkF m 10 #[.val (.ref s_SIGN)] [(.int ((4 : Int32) >>> ((0 : Int32) &&& 31)))])) (fun t q => XT.ishr X2.here hx rfl (hb hby d3_9) rfl q) ?_
  refine own_outI X2 hx hlk hret (hb hby d3_10) ?_ (by decide) (by decide)
  exact ⟨congrArg (fun z => some (Value.int z)) (by decide), e2, rfl⟩
set_option maxRecDepth 65536 in
set_option maxHeartbeats 40000000 in
theorem rm_lat_SIGN_0 (l : Launch) (Z : State) (a0 : Array Value) (hw : ∀ d ∈ tables_1, d.before a0 Z = true) (ws : List Jvm.Cond) (w_INVALID w_NONE w_SIGN w_SIGN_AND_ENCRYPT s_INVALID s_NONE s_SIGN s_SIGN_AND_ENCRYPT v_INVALID v_NONE v_SIGN v_SIGN_AND_ENCRYPT : Addr) (cs : Int32) (fm : Value) (h0 : Heap) (FX : own_F Z h0 w_INVALID w_NONE w_SIGN w_SIGN_AND_ENCRYPT s_INVALID s_NONE s_SIGN s_SIGN_AND_ENCRYPT v_INVALID v_NONE v_SIGN v_SIGN_AND_ENCRYPT cs fm) :
    own_Met l (⟨"java/lang/StringLatin1", "charAt", "([BI)C"⟩ : MethodName) jdk_43_method_2_code 2 (some .char) ws ({ frames := 2, cells := 0, slots := 0, locals := 27 } : Room) Z #[(.ref v_SIGN), (.int (0 : Int32))] h0 (fun v h L => v = some (.int (83 : Int32)) ∧ h = h0 ∧ L = []) := by
  refine MetFree.of_bodySF (plainFor_of_name (by first | (simp [plainName, overriddenIn]; done) | decide +kernel)) hisR ?_
  intro p e s m args below meth c s₁ Bd hml0 hP hK
  obtain ⟨rfl, hZ, hh⟩ := hP
  have hx := Bd.exec
  have hby := Bd.bytes
  have hml : c.maxLocals = 2 := hml0
  have hown : s.vm.findClass "java/lang/StringLatin1" = some m.cls := findClass_of_methodNamed Bd.named
  have hnm := (name_of_methodNamed Bd.named Bd.method).1
  have hlk : meth.locks = false := Bd.notSynchronized
  have hret := Bd.returns
  have X0 : Stand p l e ({ frames := 2, cells := 0, slots := 0, locals := 27 } : Room) s m #[(.ref v_SIGN), (.int (0 : Int32))] below meth c s₁ [] 0 0 := Stand.of_body Bd
  have e0 : s₁.heap = h0 := by rw [← hh, Bd.state]; rfl
  refine own_in (Q := fun v h L => v = some (.int (83 : Int32)) ∧ h = h0 ∧ L = []) (ef := by first | (simp [entryFrame, mkF, argsToLocals, Value.category, maxLocals]; done) | rfl) (g' := (mkF m 0 #[.val (.ref v_SIGN), .val (.int (0 : Int32))] [])) ?_
  obtain ⟨S_INVALID, E_INVALID, S_SIGN, E_SIGN, S_SIGN_AND_ENCRYPT, E_SIGN_AND_ENCRYPT, S_NONE, E_NONE, F_INVALID_ordinal, F_SIGN_ordinal, F_SIGN_AND_ENCRYPT_ordinal, F_NONE_ordinal, ne_INVALID_SIGN, ne_INVALID_SIGN_AND_ENCRYPT, ne_INVALID_NONE, ne_SIGN_SIGN_AND_ENCRYPT, ne_SIGN_NONE, ne_SIGN_AND_ENCRYPT_NONE, G_INVALID, X_INVALID, G_SIGN_AND_ENCRYPT, X_SIGN_AND_ENCRYPT, G_SIGN, X_SIGN, G_NONE, X_NONE, H_INVALID, H_SIGN_AND_ENCRYPT, H_SIGN, H_NONE, D_INVALID, D_SIGN_AND_ENCRYPT, D_SIGN, D_NONE, R_INVALID, R_NONE, R_SIGN, R_SIGN_AND_ENCRYPT, S_cs, cs0, S_fm, hfm⟩ := id FX
  refine own_go (T' := s₁) (g' := (mkF m 1 #[.val (.ref v_SIGN), .val (.int (0 : Int32))] [(.int (0 : Int32))])) (fun t q => XS.iloadN X0.here hx rfl (hb hby d7_0) rfl q) ?_
  refine own_go (T' := s₁) (g' := (mkF m 2 #[.val (.ref v_SIGN), .val (.int (0 : Int32))] [(.ref v_SIGN), (.int (0 : Int32))])) (fun t q => XS.aloadN X0.here hx rfl (hb hby d7_1) rfl rfl q) ?_
  refine own_go (T' := s₁) (g' := (mkF m 3 #[.val (.ref v_SIGN), .val (.int (0 : Int32))] [(.int (4 : Int32)), (.int (0 : Int32))])) (fun t q => own_len X0 hx hZ e0 R_SIGN (n := (4 : Int32)) rfl (g := (mkF m 2 #[.val (.ref v_SIGN), .val (.int (0 : Int32))] [(.ref v_SIGN), (.int (0 : Int32))])) rfl rfl (hb hby d7_2) t q) ?_
  obtain ⟨v1, T1, L1, X1, Q1, st1⟩ := own_callS X0 hx hZ (y := (⟨"java/lang/String", "checkIndex", "(II)V"⟩ : MethodName)) (argsL := [(.int (0 : Int32)), (.int (4 : Int32))]) (rest := []) hown (hw _ (List.mem_of_getElem? (i := 44) rfl)) (hw _ (List.mem_of_getElem? (i := 45) rfl)) (hw _ (List.mem_of_getElem? (i := 18) rfl)) (hw _ (List.mem_of_getElem? (i := 46) rfl)) (rm_chk l Z a0 hw [] (0 : Int32) (4 : Int32) w_INVALID w_NONE w_SIGN w_SIGN_AND_ENCRYPT s_INVALID s_NONE s_SIGN s_SIGN_AND_ENCRYPT v_INVALID v_NONE v_SIGN v_SIGN_AND_ENCRYPT cs fm h0 FX (by decide) (by decide)) e0 (by decide) (by decide) 0 (by decide) (by decide) (by decide) (g := (mkF m 3 #[.val (.ref v_SIGN), .val (.int (0 : Int32))] [(.int (4 : Int32)), (.int (0 : Int32))])) rfl (by rw [hml]; rfl) (lenOf (ps := [.int, .int]) (r := none) (by decide +kernel) rfl) rfl (by show 2 * 0 + _ ≤ _; exact Nat.le_of_eq rfl) (hb hby d7_3)
  obtain ⟨rfl, e1, rfl⟩ := Q1
  refine own_go (T' := T1) (g' := (mkF m 6 #[.val (.ref v_SIGN), .val (.int (0 : Int32))] [])) (fun t q => st1 t q) ?_
  refine own_go (T' := T1) (g' := (mkF m 7 #[.val (.ref v_SIGN), .val (.int (0 : Int32))] [(.ref v_SIGN)])) (fun t q => XS.aloadN X1.here hx rfl (hb hby d7_6) rfl rfl q) ?_
  refine own_go (T' := T1) (g' := (mkF m 8 #[.val (.ref v_SIGN), .val (.int (0 : Int32))] [(.int (0 : Int32)), (.ref v_SIGN)])) (fun t q => XS.iloadN X1.here hx rfl (hb hby d7_7) rfl q) ?_
  refine own_go (T' := T1) (g' := (mkF m 9 #[.val (.ref v_SIGN), .val (.int (0 : Int32))] [(.int (83 : Int32))])) (fun t q => own_ldB X1 hx hZ e1 R_SIGN (by decide) rfl (g := (mkF m 8 #[.val (.ref v_SIGN), .val (.int (0 : Int32))] [(.int (0 : Int32)), (.ref v_SIGN)])) rfl rfl (hb hby d7_8) t q) ?_
  refine own_go (T' := T1) (g' := (mkF m 12 #[.val (.ref v_SIGN), .val (.int (0 : Int32))] [(.int (255 : Int32)), (.int (83 : Int32))])) (fun t q => XS.sipush X1.here hx rfl (hb hby d7_9) q) ?_
  refine own_go (T' := T1) (g' := (mkF m 13 #[.val (.ref v_SIGN), .val (.int (0 : Int32))] [(.int ((83 : Int32) &&& (255 : Int32)))])) (fun t q => XS.iand X1.here hx rfl (hb hby d7_12) rfl q) ?_
  refine own_go (T' := T1) (g' := (mkF m 14 #[.val (.ref v_SIGN), .val (.int (0 : Int32))] [(.int ((((83 : Int32) &&& (255 : Int32))).toUInt32.toUInt16.toUInt32.toInt32))])) (fun t q => XT.i2c X1.here hx rfl (hb hby d7_13) rfl q) ?_
  refine own_outN X1 hx hlk hret (t := .char) (by simp) (hb hby d7_14) (w := (nar .char ((((83 : Int32) &&& (255 : Int32))).toUInt32.toUInt16.toUInt32.toInt32))) rfl ?_ (by decide) (by decide)
  exact ⟨congrArg (fun z => some (Value.int z)) (by decide), e1, rfl⟩
set_option maxRecDepth 65536 in
set_option maxHeartbeats 40000000 in
theorem rm_ch_SIGN_0 (l : Launch) (Z : State) (a0 : Array Value) (hw : ∀ d ∈ tables_1, d.before a0 Z = true) (ws : List Jvm.Cond) (w_INVALID w_NONE w_SIGN w_SIGN_AND_ENCRYPT s_INVALID s_NONE s_SIGN s_SIGN_AND_ENCRYPT v_INVALID v_NONE v_SIGN v_SIGN_AND_ENCRYPT : Addr) (cs : Int32) (fm : Value) (h0 : Heap) (FX : own_F Z h0 w_INVALID w_NONE w_SIGN w_SIGN_AND_ENCRYPT s_INVALID s_NONE s_SIGN s_SIGN_AND_ENCRYPT v_INVALID v_NONE v_SIGN v_SIGN_AND_ENCRYPT cs fm) :
    own_Met l (⟨"java/lang/String", "charAt", "(I)C"⟩ : MethodName) jdk_42_method_56_code 2 (some .char) ws ({ frames := 3, cells := 0, slots := 0, locals := 40 } : Room) Z #[(.ref s_SIGN), (.int (0 : Int32))] h0 (fun v h L => v = some (.int (83 : Int32)) ∧ h = h0 ∧ L = []) := by
  refine MetFree.of_bodySF (plainFor_of_name (by first | (simp [plainName, overriddenIn]; done) | decide +kernel)) hisR ?_
  intro p e s m args below meth c s₁ Bd hml0 hP hK
  obtain ⟨rfl, hZ, hh⟩ := hP
  have hx := Bd.exec
  have hby := Bd.bytes
  have hml : c.maxLocals = 2 := hml0
  have hown : s.vm.findClass "java/lang/String" = some m.cls := findClass_of_methodNamed Bd.named
  have hnm := (name_of_methodNamed Bd.named Bd.method).1
  have hlk : meth.locks = false := Bd.notSynchronized
  have hret := Bd.returns
  have X0 : Stand p l e ({ frames := 3, cells := 0, slots := 0, locals := 40 } : Room) s m #[(.ref s_SIGN), (.int (0 : Int32))] below meth c s₁ [] 0 0 := Stand.of_body Bd
  have e0 : s₁.heap = h0 := by rw [← hh, Bd.state]; rfl
  refine own_in (Q := fun v h L => v = some (.int (83 : Int32)) ∧ h = h0 ∧ L = []) (ef := by first | (simp [entryFrame, mkF, argsToLocals, Value.category, maxLocals]; done) | rfl) (g' := (mkF m 0 #[.val (.ref s_SIGN), .val (.int (0 : Int32))] [])) ?_
  obtain ⟨S_INVALID, E_INVALID, S_SIGN, E_SIGN, S_SIGN_AND_ENCRYPT, E_SIGN_AND_ENCRYPT, S_NONE, E_NONE, F_INVALID_ordinal, F_SIGN_ordinal, F_SIGN_AND_ENCRYPT_ordinal, F_NONE_ordinal, ne_INVALID_SIGN, ne_INVALID_SIGN_AND_ENCRYPT, ne_INVALID_NONE, ne_SIGN_SIGN_AND_ENCRYPT, ne_SIGN_NONE, ne_SIGN_AND_ENCRYPT_NONE, G_INVALID, X_INVALID, G_SIGN_AND_ENCRYPT, X_SIGN_AND_ENCRYPT, G_SIGN, X_SIGN, G_NONE, X_NONE, H_INVALID, H_SIGN_AND_ENCRYPT, H_SIGN, H_NONE, D_INVALID, D_SIGN_AND_ENCRYPT, D_SIGN, D_NONE, R_INVALID, R_NONE, R_SIGN, R_SIGN_AND_ENCRYPT, S_cs, cs0, S_fm, hfm⟩ := id FX
  refine own_go (T' := s₁) (g' := (mkF m 1 #[.val (.ref s_SIGN), .val (.int (0 : Int32))] [(.ref s_SIGN)])) (fun t q => XS.aloadN X0.here hx rfl (hb hby d5_0) rfl rfl q) ?_
  obtain ⟨v1, T1, L1, X1, Q1, st1⟩ := own_callV X0 hx hZ (y := (⟨"java/lang/String", "isLatin1", "()Z"⟩ : MethodName)) (b := s_SIGN) (argsL := []) (rest := []) hown (hw _ (List.mem_of_getElem? (i := 35) rfl)) (hw _ (List.mem_of_getElem? (i := 36) rfl)) (hw _ (List.mem_of_getElem? (i := 38) rfl)) (hw _ (List.mem_of_getElem? (i := 37) rfl)) (hw _ (List.mem_of_getElem? (i := 18) rfl)) (hw _ (List.mem_of_getElem? (i := 39) rfl)) (rm_isl_SIGN l Z a0 hw [] w_INVALID w_NONE w_SIGN w_SIGN_AND_ENCRYPT s_INVALID s_NONE s_SIGN s_SIGN_AND_ENCRYPT v_INVALID v_NONE v_SIGN v_SIGN_AND_ENCRYPT cs fm h0 FX) e0 X_SIGN (by decide) (by decide) 0 (by decide) (by decide) (by decide) (g := (mkF m 1 #[.val (.ref s_SIGN), .val (.int (0 : Int32))] [(.ref s_SIGN)])) rfl (by rw [hml]; rfl) (lenOf (ps := []) (r := (some .boolean)) (by decide +kernel) rfl) rfl (by show 2 * 0 + _ ≤ _; exact Nat.le_of_eq rfl) (hb hby d5_1)
  obtain ⟨rfl, e1, rfl⟩ := Q1
  refine own_go (T' := T1) (g' := (mkF m 4 #[.val (.ref s_SIGN), .val (.int (0 : Int32))] [(.int (1 : Int32))])) (fun t q => st1 t q) ?_
  have c2 : ¬ ((1 : Int32) = (0 : Int32)) := by decide
  refine own_go (T' := T1) (g' := (mkF m 7 #[.val (.ref s_SIGN), .val (.int (0 : Int32))] [])) (fun t q => XS.ifNo X1.here hx rfl (hb hby d5_4) rfl ((if0 _ _).trans (feq c2).1) q) ?_
  refine own_go (T' := T1) (g' := (mkF m 8 #[.val (.ref s_SIGN), .val (.int (0 : Int32))] [(.ref s_SIGN)])) (fun t q => XS.aloadN X1.here hx rfl (hb hby d5_7) rfl rfl q) ?_
  obtain ⟨T3, X3, e3, st3⟩ := getF X1 hx hZ hown (host := "") (Or.inl (hw _ (List.mem_of_getElem? (i := 20) rfl))) Via.refl e1 H_SIGN (g := (mkF m 8 #[.val (.ref s_SIGN), .val (.int (0 : Int32))] [(.ref s_SIGN)])) rfl rfl (hb hby d5_8)
  refine own_go (T' := T3) (g' := (mkF m 11 #[.val (.ref s_SIGN), .val (.int (0 : Int32))] [(.ref v_SIGN)])) (fun t q => st3 t q) ?_
  refine own_go (T' := T3) (g' := (mkF m 12 #[.val (.ref s_SIGN), .val (.int (0 : Int32))] [(.int (0 : Int32)), (.ref v_SIGN)])) (fun t q => XS.iloadN X3.here hx rfl (hb hby d5_11) rfl q) ?_
  obtain ⟨v4, T4, L4, X4, Q4, st4⟩ := own_callS X3 hx hZ (y := (⟨"java/lang/StringLatin1", "charAt", "([BI)C"⟩ : MethodName)) (argsL := [(.ref v_SIGN), (.int (0 : Int32))]) (rest := []) hown (hw _ (List.mem_of_getElem? (i := 40) rfl)) (hw _ (List.mem_of_getElem? (i := 41) rfl)) (hw _ (List.mem_of_getElem? (i := 42) rfl)) (hw _ (List.mem_of_getElem? (i := 43) rfl)) (rm_lat_SIGN_0 l Z a0 hw [] w_INVALID w_NONE w_SIGN w_SIGN_AND_ENCRYPT s_INVALID s_NONE s_SIGN s_SIGN_AND_ENCRYPT v_INVALID v_NONE v_SIGN v_SIGN_AND_ENCRYPT cs fm h0 FX) e3 (by decide) (by decide) 0 (by decide) (by decide) (by decide) (g := (mkF m 12 #[.val (.ref s_SIGN), .val (.int (0 : Int32))] [(.int (0 : Int32)), (.ref v_SIGN)])) rfl (by rw [hml]; rfl) (lenOf (ps := [(.array .byte), .int]) (r := (some .char)) (by decide +kernel) rfl) rfl (by show 2 * 0 + _ ≤ _; exact Nat.le_of_eq rfl) (hb hby d5_12)
  obtain ⟨rfl, e4, rfl⟩ := Q4
  refine own_go (T' := T4) (g' := (mkF m 15 #[.val (.ref s_SIGN), .val (.int (0 : Int32))] [(.int (83 : Int32))])) (fun t q => st4 t q) ?_
  refine own_outN X4 hx hlk hret (t := .char) (by simp) (hb hby d5_15) (w := (83 : Int32)) (by decide) ?_ (by decide) (by decide)
  exact ⟨rfl, e4, rfl⟩
set_option maxRecDepth 65536 in
set_option maxHeartbeats 40000000 in
theorem rm_lat_SIGN_1 (l : Launch) (Z : State) (a0 : Array Value) (hw : ∀ d ∈ tables_1, d.before a0 Z = true) (ws : List Jvm.Cond) (w_INVALID w_NONE w_SIGN w_SIGN_AND_ENCRYPT s_INVALID s_NONE s_SIGN s_SIGN_AND_ENCRYPT v_INVALID v_NONE v_SIGN v_SIGN_AND_ENCRYPT : Addr) (cs : Int32) (fm : Value) (h0 : Heap) (FX : own_F Z h0 w_INVALID w_NONE w_SIGN w_SIGN_AND_ENCRYPT s_INVALID s_NONE s_SIGN s_SIGN_AND_ENCRYPT v_INVALID v_NONE v_SIGN v_SIGN_AND_ENCRYPT cs fm) :
    own_Met l (⟨"java/lang/StringLatin1", "charAt", "([BI)C"⟩ : MethodName) jdk_43_method_2_code 2 (some .char) ws ({ frames := 2, cells := 0, slots := 0, locals := 27 } : Room) Z #[(.ref v_SIGN), (.int (1 : Int32))] h0 (fun v h L => v = some (.int (105 : Int32)) ∧ h = h0 ∧ L = []) := by
  refine MetFree.of_bodySF (plainFor_of_name (by first | (simp [plainName, overriddenIn]; done) | decide +kernel)) hisR ?_
  intro p e s m args below meth c s₁ Bd hml0 hP hK
  obtain ⟨rfl, hZ, hh⟩ := hP
  have hx := Bd.exec
  have hby := Bd.bytes
  have hml : c.maxLocals = 2 := hml0
  have hown : s.vm.findClass "java/lang/StringLatin1" = some m.cls := findClass_of_methodNamed Bd.named
  have hnm := (name_of_methodNamed Bd.named Bd.method).1
  have hlk : meth.locks = false := Bd.notSynchronized
  have hret := Bd.returns
  have X0 : Stand p l e ({ frames := 2, cells := 0, slots := 0, locals := 27 } : Room) s m #[(.ref v_SIGN), (.int (1 : Int32))] below meth c s₁ [] 0 0 := Stand.of_body Bd
  have e0 : s₁.heap = h0 := by rw [← hh, Bd.state]; rfl
  refine own_in (Q := fun v h L => v = some (.int (105 : Int32)) ∧ h = h0 ∧ L = []) (ef := by first | (simp [entryFrame, mkF, argsToLocals, Value.category, maxLocals]; done) | rfl) (g' := (mkF m 0 #[.val (.ref v_SIGN), .val (.int (1 : Int32))] [])) ?_
  obtain ⟨S_INVALID, E_INVALID, S_SIGN, E_SIGN, S_SIGN_AND_ENCRYPT, E_SIGN_AND_ENCRYPT, S_NONE, E_NONE, F_INVALID_ordinal, F_SIGN_ordinal, F_SIGN_AND_ENCRYPT_ordinal, F_NONE_ordinal, ne_INVALID_SIGN, ne_INVALID_SIGN_AND_ENCRYPT, ne_INVALID_NONE, ne_SIGN_SIGN_AND_ENCRYPT, ne_SIGN_NONE, ne_SIGN_AND_ENCRYPT_NONE, G_INVALID, X_INVALID, G_SIGN_AND_ENCRYPT, X_SIGN_AND_ENCRYPT, G_SIGN, X_SIGN, G_NONE, X_NONE, H_INVALID, H_SIGN_AND_ENCRYPT, H_SIGN, H_NONE, D_INVALID, D_SIGN_AND_ENCRYPT, D_SIGN, D_NONE, R_INVALID, R_NONE, R_SIGN, R_SIGN_AND_ENCRYPT, S_cs, cs0, S_fm, hfm⟩ := id FX
  refine own_go (T' := s₁) (g' := (mkF m 1 #[.val (.ref v_SIGN), .val (.int (1 : Int32))] [(.int (1 : Int32))])) (fun t q => XS.iloadN X0.here hx rfl (hb hby d7_0) rfl q) ?_
  refine own_go (T' := s₁) (g' := (mkF m 2 #[.val (.ref v_SIGN), .val (.int (1 : Int32))] [(.ref v_SIGN), (.int (1 : Int32))])) (fun t q => XS.aloadN X0.here hx rfl (hb hby d7_1) rfl rfl q) ?_
  refine own_go (T' := s₁) (g' := (mkF m 3 #[.val (.ref v_SIGN), .val (.int (1 : Int32))] [(.int (4 : Int32)), (.int (1 : Int32))])) (fun t q => own_len X0 hx hZ e0 R_SIGN (n := (4 : Int32)) rfl (g := (mkF m 2 #[.val (.ref v_SIGN), .val (.int (1 : Int32))] [(.ref v_SIGN), (.int (1 : Int32))])) rfl rfl (hb hby d7_2) t q) ?_
  obtain ⟨v1, T1, L1, X1, Q1, st1⟩ := own_callS X0 hx hZ (y := (⟨"java/lang/String", "checkIndex", "(II)V"⟩ : MethodName)) (argsL := [(.int (1 : Int32)), (.int (4 : Int32))]) (rest := []) hown (hw _ (List.mem_of_getElem? (i := 44) rfl)) (hw _ (List.mem_of_getElem? (i := 45) rfl)) (hw _ (List.mem_of_getElem? (i := 18) rfl)) (hw _ (List.mem_of_getElem? (i := 46) rfl)) (rm_chk l Z a0 hw [] (1 : Int32) (4 : Int32) w_INVALID w_NONE w_SIGN w_SIGN_AND_ENCRYPT s_INVALID s_NONE s_SIGN s_SIGN_AND_ENCRYPT v_INVALID v_NONE v_SIGN v_SIGN_AND_ENCRYPT cs fm h0 FX (by decide) (by decide)) e0 (by decide) (by decide) 0 (by decide) (by decide) (by decide) (g := (mkF m 3 #[.val (.ref v_SIGN), .val (.int (1 : Int32))] [(.int (4 : Int32)), (.int (1 : Int32))])) rfl (by rw [hml]; rfl) (lenOf (ps := [.int, .int]) (r := none) (by decide +kernel) rfl) rfl (by show 2 * 0 + _ ≤ _; exact Nat.le_of_eq rfl) (hb hby d7_3)
  obtain ⟨rfl, e1, rfl⟩ := Q1
  refine own_go (T' := T1) (g' := (mkF m 6 #[.val (.ref v_SIGN), .val (.int (1 : Int32))] [])) (fun t q => st1 t q) ?_
  refine own_go (T' := T1) (g' := (mkF m 7 #[.val (.ref v_SIGN), .val (.int (1 : Int32))] [(.ref v_SIGN)])) (fun t q => XS.aloadN X1.here hx rfl (hb hby d7_6) rfl rfl q) ?_
  refine own_go (T' := T1) (g' := (mkF m 8 #[.val (.ref v_SIGN), .val (.int (1 : Int32))] [(.int (1 : Int32)), (.ref v_SIGN)])) (fun t q => XS.iloadN X1.here hx rfl (hb hby d7_7) rfl q) ?_
  refine own_go (T' := T1) (g' := (mkF m 9 #[.val (.ref v_SIGN), .val (.int (1 : Int32))] [(.int (105 : Int32))])) (fun t q => own_ldB X1 hx hZ e1 R_SIGN (by decide) rfl (g := (mkF m 8 #[.val (.ref v_SIGN), .val (.int (1 : Int32))] [(.int (1 : Int32)), (.ref v_SIGN)])) rfl rfl (hb hby d7_8) t q) ?_
  refine own_go (T' := T1) (g' := (mkF m 12 #[.val (.ref v_SIGN), .val (.int (1 : Int32))] [(.int (255 : Int32)), (.int (105 : Int32))])) (fun t q => XS.sipush X1.here hx rfl (hb hby d7_9) q) ?_
  refine own_go (T' := T1) (g' := (mkF m 13 #[.val (.ref v_SIGN), .val (.int (1 : Int32))] [(.int ((105 : Int32) &&& (255 : Int32)))])) (fun t q => XS.iand X1.here hx rfl (hb hby d7_12) rfl q) ?_
  refine own_go (T' := T1) (g' := (mkF m 14 #[.val (.ref v_SIGN), .val (.int (1 : Int32))] [(.int ((((105 : Int32) &&& (255 : Int32))).toUInt32.toUInt16.toUInt32.toInt32))])) (fun t q => XT.i2c X1.here hx rfl (hb hby d7_13) rfl q) ?_
  refine own_outN X1 hx hlk hret (t := .char) (by simp) (hb hby d7_14) (w := (nar .char ((((105 : Int32) &&& (255 : Int32))).toUInt32.toUInt16.toUInt32.toInt32))) rfl ?_ (by decide) (by decide)
  exact ⟨congrArg (fun z => some (Value.int z)) (by decide), e1, rfl⟩
set_option maxRecDepth 65536 in
set_option maxHeartbeats 40000000 in
theorem rm_ch_SIGN_1 (l : Launch) (Z : State) (a0 : Array Value) (hw : ∀ d ∈ tables_1, d.before a0 Z = true) (ws : List Jvm.Cond) (w_INVALID w_NONE w_SIGN w_SIGN_AND_ENCRYPT s_INVALID s_NONE s_SIGN s_SIGN_AND_ENCRYPT v_INVALID v_NONE v_SIGN v_SIGN_AND_ENCRYPT : Addr) (cs : Int32) (fm : Value) (h0 : Heap) (FX : own_F Z h0 w_INVALID w_NONE w_SIGN w_SIGN_AND_ENCRYPT s_INVALID s_NONE s_SIGN s_SIGN_AND_ENCRYPT v_INVALID v_NONE v_SIGN v_SIGN_AND_ENCRYPT cs fm) :
    own_Met l (⟨"java/lang/String", "charAt", "(I)C"⟩ : MethodName) jdk_42_method_56_code 2 (some .char) ws ({ frames := 3, cells := 0, slots := 0, locals := 40 } : Room) Z #[(.ref s_SIGN), (.int (1 : Int32))] h0 (fun v h L => v = some (.int (105 : Int32)) ∧ h = h0 ∧ L = []) := by
  refine MetFree.of_bodySF (plainFor_of_name (by first | (simp [plainName, overriddenIn]; done) | decide +kernel)) hisR ?_
  intro p e s m args below meth c s₁ Bd hml0 hP hK
  obtain ⟨rfl, hZ, hh⟩ := hP
  have hx := Bd.exec
  have hby := Bd.bytes
  have hml : c.maxLocals = 2 := hml0
  have hown : s.vm.findClass "java/lang/String" = some m.cls := findClass_of_methodNamed Bd.named
  have hnm := (name_of_methodNamed Bd.named Bd.method).1
  have hlk : meth.locks = false := Bd.notSynchronized
  have hret := Bd.returns
  have X0 : Stand p l e ({ frames := 3, cells := 0, slots := 0, locals := 40 } : Room) s m #[(.ref s_SIGN), (.int (1 : Int32))] below meth c s₁ [] 0 0 := Stand.of_body Bd
  have e0 : s₁.heap = h0 := by rw [← hh, Bd.state]; rfl
  refine own_in (Q := fun v h L => v = some (.int (105 : Int32)) ∧ h = h0 ∧ L = []) (ef := by first | (simp [entryFrame, mkF, argsToLocals, Value.category, maxLocals]; done) | rfl) (g' := (mkF m 0 #[.val (.ref s_SIGN), .val (.int (1 : Int32))] [])) ?_
  obtain ⟨S_INVALID, E_INVALID, S_SIGN, E_SIGN, S_SIGN_AND_ENCRYPT, E_SIGN_AND_ENCRYPT, S_NONE, E_NONE, F_INVALID_ordinal, F_SIGN_ordinal, F_SIGN_AND_ENCRYPT_ordinal, F_NONE_ordinal, ne_INVALID_SIGN, ne_INVALID_SIGN_AND_ENCRYPT, ne_INVALID_NONE, ne_SIGN_SIGN_AND_ENCRYPT, ne_SIGN_NONE, ne_SIGN_AND_ENCRYPT_NONE, G_INVALID, X_INVALID, G_SIGN_AND_ENCRYPT, X_SIGN_AND_ENCRYPT, G_SIGN, X_SIGN, G_NONE, X_NONE, H_INVALID, H_SIGN_AND_ENCRYPT, H_SIGN, H_NONE, D_INVALID, D_SIGN_AND_ENCRYPT, D_SIGN, D_NONE, R_INVALID, R_NONE, R_SIGN, R_SIGN_AND_ENCRYPT, S_cs, cs0, S_fm, hfm⟩ := id FX
  refine own_go (T' := s₁) (g' := (mkF m 1 #[.val (.ref s_SIGN), .val (.int (1 : Int32))] [(.ref s_SIGN)])) (fun t q => XS.aloadN X0.here hx rfl (hb hby d5_0) rfl rfl q) ?_
  obtain ⟨v1, T1, L1, X1, Q1, st1⟩ := own_callV X0 hx hZ (y := (⟨"java/lang/String", "isLatin1", "()Z"⟩ : MethodName)) (b := s_SIGN) (argsL := []) (rest := []) hown (hw _ (List.mem_of_getElem? (i := 35) rfl)) (hw _ (List.mem_of_getElem? (i := 36) rfl)) (hw _ (List.mem_of_getElem? (i := 38) rfl)) (hw _ (List.mem_of_getElem? (i := 37) rfl)) (hw _ (List.mem_of_getElem? (i := 18) rfl)) (hw _ (List.mem_of_getElem? (i := 39) rfl)) (rm_isl_SIGN l Z a0 hw [] w_INVALID w_NONE w_SIGN w_SIGN_AND_ENCRYPT s_INVALID s_NONE s_SIGN s_SIGN_AND_ENCRYPT v_INVALID v_NONE v_SIGN v_SIGN_AND_ENCRYPT cs fm h0 FX) e0 X_SIGN (by decide) (by decide) 0 (by decide) (by decide) (by decide) (g := (mkF m 1 #[.val (.ref s_SIGN), .val (.int (1 : Int32))] [(.ref s_SIGN)])) rfl (by rw [hml]; rfl) (lenOf (ps := []) (r := (some .boolean)) (by decide +kernel) rfl) rfl (by show 2 * 0 + _ ≤ _; exact Nat.le_of_eq rfl) (hb hby d5_1)
  obtain ⟨rfl, e1, rfl⟩ := Q1
  refine own_go (T' := T1) (g' := (mkF m 4 #[.val (.ref s_SIGN), .val (.int (1 : Int32))] [(.int (1 : Int32))])) (fun t q => st1 t q) ?_
  have c2 : ¬ ((1 : Int32) = (0 : Int32)) := by decide
  refine own_go (T' := T1) (g' := (mkF m 7 #[.val (.ref s_SIGN), .val (.int (1 : Int32))] [])) (fun t q => XS.ifNo X1.here hx rfl (hb hby d5_4) rfl ((if0 _ _).trans (feq c2).1) q) ?_
  refine own_go (T' := T1) (g' := (mkF m 8 #[.val (.ref s_SIGN), .val (.int (1 : Int32))] [(.ref s_SIGN)])) (fun t q => XS.aloadN X1.here hx rfl (hb hby d5_7) rfl rfl q) ?_
  obtain ⟨T3, X3, e3, st3⟩ := getF X1 hx hZ hown (host := "") (Or.inl (hw _ (List.mem_of_getElem? (i := 20) rfl))) Via.refl e1 H_SIGN (g := (mkF m 8 #[.val (.ref s_SIGN), .val (.int (1 : Int32))] [(.ref s_SIGN)])) rfl rfl (hb hby d5_8)
  refine own_go (T' := T3) (g' := (mkF m 11 #[.val (.ref s_SIGN), .val (.int (1 : Int32))] [(.ref v_SIGN)])) (fun t q => st3 t q) ?_
  refine own_go (T' := T3) (g' := (mkF m 12 #[.val (.ref s_SIGN), .val (.int (1 : Int32))] [(.int (1 : Int32)), (.ref v_SIGN)])) (fun t q => XS.iloadN X3.here hx rfl (hb hby d5_11) rfl q) ?_
  obtain ⟨v4, T4, L4, X4, Q4, st4⟩ := own_callS X3 hx hZ (y := (⟨"java/lang/StringLatin1", "charAt", "([BI)C"⟩ : MethodName)) (argsL := [(.ref v_SIGN), (.int (1 : Int32))]) (rest := []) hown (hw _ (List.mem_of_getElem? (i := 40) rfl)) (hw _ (List.mem_of_getElem? (i := 41) rfl)) (hw _ (List.mem_of_getElem? (i := 42) rfl)) (hw _ (List.mem_of_getElem? (i := 43) rfl)) (rm_lat_SIGN_1 l Z a0 hw [] w_INVALID w_NONE w_SIGN w_SIGN_AND_ENCRYPT s_INVALID s_NONE s_SIGN s_SIGN_AND_ENCRYPT v_INVALID v_NONE v_SIGN v_SIGN_AND_ENCRYPT cs fm h0 FX) e3 (by decide) (by decide) 0 (by decide) (by decide) (by decide) (g := (mkF m 12 #[.val (.ref s_SIGN), .val (.int (1 : Int32))] [(.int (1 : Int32)), (.ref v_SIGN)])) rfl (by rw [hml]; rfl) (lenOf (ps := [(.array .byte), .int]) (r := (some .char)) (by decide +kernel) rfl) rfl (by show 2 * 0 + _ ≤ _; exact Nat.le_of_eq rfl) (hb hby d5_12)
  obtain ⟨rfl, e4, rfl⟩ := Q4
  refine own_go (T' := T4) (g' := (mkF m 15 #[.val (.ref s_SIGN), .val (.int (1 : Int32))] [(.int (105 : Int32))])) (fun t q => st4 t q) ?_
  refine own_outN X4 hx hlk hret (t := .char) (by simp) (hb hby d5_15) (w := (105 : Int32)) (by decide) ?_ (by decide) (by decide)
  exact ⟨rfl, e4, rfl⟩
set_option maxRecDepth 65536 in
set_option maxHeartbeats 40000000 in
theorem rm_lat_SIGN_2 (l : Launch) (Z : State) (a0 : Array Value) (hw : ∀ d ∈ tables_1, d.before a0 Z = true) (ws : List Jvm.Cond) (w_INVALID w_NONE w_SIGN w_SIGN_AND_ENCRYPT s_INVALID s_NONE s_SIGN s_SIGN_AND_ENCRYPT v_INVALID v_NONE v_SIGN v_SIGN_AND_ENCRYPT : Addr) (cs : Int32) (fm : Value) (h0 : Heap) (FX : own_F Z h0 w_INVALID w_NONE w_SIGN w_SIGN_AND_ENCRYPT s_INVALID s_NONE s_SIGN s_SIGN_AND_ENCRYPT v_INVALID v_NONE v_SIGN v_SIGN_AND_ENCRYPT cs fm) :
    own_Met l (⟨"java/lang/StringLatin1", "charAt", "([BI)C"⟩ : MethodName) jdk_43_method_2_code 2 (some .char) ws ({ frames := 2, cells := 0, slots := 0, locals := 27 } : Room) Z #[(.ref v_SIGN), (.int (2 : Int32))] h0 (fun v h L => v = some (.int (103 : Int32)) ∧ h = h0 ∧ L = []) := by
  refine MetFree.of_bodySF (plainFor_of_name (by first | (simp [plainName, overriddenIn]; done) | decide +kernel)) hisR ?_
  intro p e s m args below meth c s₁ Bd hml0 hP hK
  obtain ⟨rfl, hZ, hh⟩ := hP
  have hx := Bd.exec
  have hby := Bd.bytes
  have hml : c.maxLocals = 2 := hml0
  have hown : s.vm.findClass "java/lang/StringLatin1" = some m.cls := findClass_of_methodNamed Bd.named
  have hnm := (name_of_methodNamed Bd.named Bd.method).1
  have hlk : meth.locks = false := Bd.notSynchronized
  have hret := Bd.returns
  have X0 : Stand p l e ({ frames := 2, cells := 0, slots := 0, locals := 27 } : Room) s m #[(.ref v_SIGN), (.int (2 : Int32))] below meth c s₁ [] 0 0 := Stand.of_body Bd
  have e0 : s₁.heap = h0 := by rw [← hh, Bd.state]; rfl
  refine own_in (Q := fun v h L => v = some (.int (103 : Int32)) ∧ h = h0 ∧ L = []) (ef := by first | (simp [entryFrame, mkF, argsToLocals, Value.category, maxLocals]; done) | rfl) (g' := (mkF m 0 #[.val (.ref v_SIGN), .val (.int (2 : Int32))] [])) ?_
  obtain ⟨S_INVALID, E_INVALID, S_SIGN, E_SIGN, S_SIGN_AND_ENCRYPT, E_SIGN_AND_ENCRYPT, S_NONE, E_NONE, F_INVALID_ordinal, F_SIGN_ordinal, F_SIGN_AND_ENCRYPT_ordinal, F_NONE_ordinal, ne_INVALID_SIGN, ne_INVALID_SIGN_AND_ENCRYPT, ne_INVALID_NONE, ne_SIGN_SIGN_AND_ENCRYPT, ne_SIGN_NONE, ne_SIGN_AND_ENCRYPT_NONE, G_INVALID, X_INVALID, G_SIGN_AND_ENCRYPT, X_SIGN_AND_ENCRYPT, G_SIGN, X_SIGN, G_NONE, X_NONE, H_INVALID, H_SIGN_AND_ENCRYPT, H_SIGN, H_NONE, D_INVALID, D_SIGN_AND_ENCRYPT, D_SIGN, D_NONE, R_INVALID, R_NONE, R_SIGN, R_SIGN_AND_ENCRYPT, S_cs, cs0, S_fm, hfm⟩ := id FX
  refine own_go (T' := s₁) (g' := (mkF m 1 #[.val (.ref v_SIGN), .val (.int (2 : Int32))] [(.int (2 : Int32))])) (fun t q => XS.iloadN X0.here hx rfl (hb hby d7_0) rfl q) ?_
  refine own_go (T' := s₁) (g' := (mkF m 2 #[.val (.ref v_SIGN), .val (.int (2 : Int32))] [(.ref v_SIGN), (.int (2 : Int32))])) (fun t q => XS.aloadN X0.here hx rfl (hb hby d7_1) rfl rfl q) ?_
  refine own_go (T' := s₁) (g' := (mkF m 3 #[.val (.ref v_SIGN), .val (.int (2 : Int32))] [(.int (4 : Int32)), (.int (2 : Int32))])) (fun t q => own_len X0 hx hZ e0 R_SIGN (n := (4 : Int32)) rfl (g := (mkF m 2 #[.val (.ref v_SIGN), .val (.int (2 : Int32))] [(.ref v_SIGN), (.int (2 : Int32))])) rfl rfl (hb hby d7_2) t q) ?_
  obtain ⟨v1, T1, L1, X1, Q1, st1⟩ := own_callS X0 hx hZ (y := (⟨"java/lang/String", "checkIndex", "(II)V"⟩ : MethodName)) (argsL := [(.int (2 : Int32)), (.int (4 : Int32))]) (rest := []) hown (hw _ (List.mem_of_getElem? (i := 44) rfl)) (hw _ (List.mem_of_getElem? (i := 45) rfl)) (hw _ (List.mem_of_getElem? (i := 18) rfl)) (hw _ (List.mem_of_getElem? (i := 46) rfl)) (rm_chk l Z a0 hw [] (2 : Int32) (4 : Int32) w_INVALID w_NONE w_SIGN w_SIGN_AND_ENCRYPT s_INVALID s_NONE s_SIGN s_SIGN_AND_ENCRYPT v_INVALID v_NONE v_SIGN v_SIGN_AND_ENCRYPT cs fm h0 FX (by decide) (by decide)) e0 (by decide) (by decide) 0 (by decide) (by decide) (by decide) (g := (mkF m 3 #[.val (.ref v_SIGN), .val (.int (2 : Int32))] [(.int (4 : Int32)), (.int (2 : Int32))])) rfl (by rw [hml]; rfl) (lenOf (ps := [.int, .int]) (r := none) (by decide +kernel) rfl) rfl (by show 2 * 0 + _ ≤ _; exact Nat.le_of_eq rfl) (hb hby d7_3)
  obtain ⟨rfl, e1, rfl⟩ := Q1
  refine own_go (T' := T1) (g' := (mkF m 6 #[.val (.ref v_SIGN), .val (.int (2 : Int32))] [])) (fun t q => st1 t q) ?_
  refine own_go (T' := T1) (g' := (mkF m 7 #[.val (.ref v_SIGN), .val (.int (2 : Int32))] [(.ref v_SIGN)])) (fun t q => XS.aloadN X1.here hx rfl (hb hby d7_6) rfl rfl q) ?_
  refine own_go (T' := T1) (g' := (mkF m 8 #[.val (.ref v_SIGN), .val (.int (2 : Int32))] [(.int (2 : Int32)), (.ref v_SIGN)])) (fun t q => XS.iloadN X1.here hx rfl (hb hby d7_7) rfl q) ?_
  refine own_go (T' := T1) (g' := (mkF m 9 #[.val (.ref v_SIGN), .val (.int (2 : Int32))] [(.int (103 : Int32))])) (fun t q => own_ldB X1 hx hZ e1 R_SIGN (by decide) rfl (g := (mkF m 8 #[.val (.ref v_SIGN), .val (.int (2 : Int32))] [(.int (2 : Int32)), (.ref v_SIGN)])) rfl rfl (hb hby d7_8) t q) ?_
  refine own_go (T' := T1) (g' := (mkF m 12 #[.val (.ref v_SIGN), .val (.int (2 : Int32))] [(.int (255 : Int32)), (.int (103 : Int32))])) (fun t q => XS.sipush X1.here hx rfl (hb hby d7_9) q) ?_
  refine own_go (T' := T1) (g' := (mkF m 13 #[.val (.ref v_SIGN), .val (.int (2 : Int32))] [(.int ((103 : Int32) &&& (255 : Int32)))])) (fun t q => XS.iand X1.here hx rfl (hb hby d7_12) rfl q) ?_
  refine own_go (T' := T1) (g' := (mkF m 14 #[.val (.ref v_SIGN), .val (.int (2 : Int32))] [(.int ((((103 : Int32) &&& (255 : Int32))).toUInt32.toUInt16.toUInt32.toInt32))])) (fun t q => XT.i2c X1.here hx rfl (hb hby d7_13) rfl q) ?_
  refine own_outN X1 hx hlk hret (t := .char) (by simp) (hb hby d7_14) (w := (nar .char ((((103 : Int32) &&& (255 : Int32))).toUInt32.toUInt16.toUInt32.toInt32))) rfl ?_ (by decide) (by decide)
  exact ⟨congrArg (fun z => some (Value.int z)) (by decide), e1, rfl⟩
set_option maxRecDepth 65536 in
set_option maxHeartbeats 40000000 in
theorem rm_ch_SIGN_2 (l : Launch) (Z : State) (a0 : Array Value) (hw : ∀ d ∈ tables_1, d.before a0 Z = true) (ws : List Jvm.Cond) (w_INVALID w_NONE w_SIGN w_SIGN_AND_ENCRYPT s_INVALID s_NONE s_SIGN s_SIGN_AND_ENCRYPT v_INVALID v_NONE v_SIGN v_SIGN_AND_ENCRYPT : Addr) (cs : Int32) (fm : Value) (h0 : Heap) (FX : own_F Z h0 w_INVALID w_NONE w_SIGN w_SIGN_AND_ENCRYPT s_INVALID s_NONE s_SIGN s_SIGN_AND_ENCRYPT v_INVALID v_NONE v_SIGN v_SIGN_AND_ENCRYPT cs fm) :
    own_Met l (⟨"java/lang/String", "charAt", "(I)C"⟩ : MethodName) jdk_42_method_56_code 2 (some .char) ws ({ frames := 3, cells := 0, slots := 0, locals := 40 } : Room) Z #[(.ref s_SIGN), (.int (2 : Int32))] h0 (fun v h L => v = some (.int (103 : Int32)) ∧ h = h0 ∧ L = []) := by
  refine MetFree.of_bodySF (plainFor_of_name (by first | (simp [plainName, overriddenIn]; done) | decide +kernel)) hisR ?_
  intro p e s m args below meth c s₁ Bd hml0 hP hK
  obtain ⟨rfl, hZ, hh⟩ := hP
  have hx := Bd.exec
  have hby := Bd.bytes
  have hml : c.maxLocals = 2 := hml0
  have hown : s.vm.findClass "java/lang/String" = some m.cls := findClass_of_methodNamed Bd.named
  have hnm := (name_of_methodNamed Bd.named Bd.method).1
  have hlk : meth.locks = false := Bd.notSynchronized
  have hret := Bd.returns
  have X0 : Stand p l e ({ frames := 3, cells := 0, slots := 0, locals := 40 } : Room) s m #[(.ref s_SIGN), (.int (2 : Int32))] below meth c s₁ [] 0 0 := Stand.of_body Bd
  have e0 : s₁.heap = h0 := by rw [← hh, Bd.state]; rfl
  refine own_in (Q := fun v h L => v = some (.int (103 : Int32)) ∧ h = h0 ∧ L = []) (ef := by first | (simp [entryFrame, mkF, argsToLocals, Value.category, maxLocals]; done) | rfl) (g' := (mkF m 0 #[.val (.ref s_SIGN), .val (.int (2 : Int32))] [])) ?_
  obtain ⟨S_INVALID, E_INVALID, S_SIGN, E_SIGN, S_SIGN_AND_ENCRYPT, E_SIGN_AND_ENCRYPT, S_NONE, E_NONE, F_INVALID_ordinal, F_SIGN_ordinal, F_SIGN_AND_ENCRYPT_ordinal, F_NONE_ordinal, ne_INVALID_SIGN, ne_INVALID_SIGN_AND_ENCRYPT, ne_INVALID_NONE, ne_SIGN_SIGN_AND_ENCRYPT, ne_SIGN_NONE, ne_SIGN_AND_ENCRYPT_NONE, G_INVALID, X_INVALID, G_SIGN_AND_ENCRYPT, X_SIGN_AND_ENCRYPT, G_SIGN, X_SIGN, G_NONE, X_NONE, H_INVALID, H_SIGN_AND_ENCRYPT, H_SIGN, H_NONE, D_INVALID, D_SIGN_AND_ENCRYPT, D_SIGN, D_NONE, R_INVALID, R_NONE, R_SIGN, R_SIGN_AND_ENCRYPT, S_cs, cs0, S_fm, hfm⟩ := id FX
  refine own_go (T' := s₁) (g' := (mkF m 1 #[.val (.ref s_SIGN), .val (.int (2 : Int32))] [(.ref s_SIGN)])) (fun t q => XS.aloadN X0.here hx rfl (hb hby d5_0) rfl rfl q) ?_
  obtain ⟨v1, T1, L1, X1, Q1, st1⟩ := own_callV X0 hx hZ (y := (⟨"java/lang/String", "isLatin1", "()Z"⟩ : MethodName)) (b := s_SIGN) (argsL := []) (rest := []) hown (hw _ (List.mem_of_getElem? (i := 35) rfl)) (hw _ (List.mem_of_getElem? (i := 36) rfl)) (hw _ (List.mem_of_getElem? (i := 38) rfl)) (hw _ (List.mem_of_getElem? (i := 37) rfl)) (hw _ (List.mem_of_getElem? (i := 18) rfl)) (hw _ (List.mem_of_getElem? (i := 39) rfl)) (rm_isl_SIGN l Z a0 hw [] w_INVALID w_NONE w_SIGN w_SIGN_AND_ENCRYPT s_INVALID s_NONE s_SIGN s_SIGN_AND_ENCRYPT v_INVALID v_NONE v_SIGN v_SIGN_AND_ENCRYPT cs fm h0 FX) e0 X_SIGN (by decide) (by decide) 0 (by decide) (by decide) (by decide) (g := (mkF m 1 #[.val (.ref s_SIGN), .val (.int (2 : Int32))] [(.ref s_SIGN)])) rfl (by rw [hml]; rfl) (lenOf (ps := []) (r := (some .boolean)) (by decide +kernel) rfl) rfl (by show 2 * 0 + _ ≤ _; exact Nat.le_of_eq rfl) (hb hby d5_1)
  obtain ⟨rfl, e1, rfl⟩ := Q1
  refine own_go (T' := T1) (g' := (mkF m 4 #[.val (.ref s_SIGN), .val (.int (2 : Int32))] [(.int (1 : Int32))])) (fun t q => st1 t q) ?_
  have c2 : ¬ ((1 : Int32) = (0 : Int32)) := by decide
  refine own_go (T' := T1) (g' := (mkF m 7 #[.val (.ref s_SIGN), .val (.int (2 : Int32))] [])) (fun t q => XS.ifNo X1.here hx rfl (hb hby d5_4) rfl ((if0 _ _).trans (feq c2).1) q) ?_
  refine own_go (T' := T1) (g' := (mkF m 8 #[.val (.ref s_SIGN), .val (.int (2 : Int32))] [(.ref s_SIGN)])) (fun t q => XS.aloadN X1.here hx rfl (hb hby d5_7) rfl rfl q) ?_
  obtain ⟨T3, X3, e3, st3⟩ := getF X1 hx hZ hown (host := "") (Or.inl (hw _ (List.mem_of_getElem? (i := 20) rfl))) Via.refl e1 H_SIGN (g := (mkF m 8 #[.val (.ref s_SIGN), .val (.int (2 : Int32))] [(.ref s_SIGN)])) rfl rfl (hb hby d5_8)
  refine own_go (T' := T3) (g' := (mkF m 11 #[.val (.ref s_SIGN), .val (.int (2 : Int32))] [(.ref v_SIGN)])) (fun t q => st3 t q) ?_
  refine own_go (T' := T3) (g' := (mkF m 12 #[.val (.ref s_SIGN), .val (.int (2 : Int32))] [(.int (2 : Int32)), (.ref v_SIGN)])) (fun t q => XS.iloadN X3.here hx rfl (hb hby d5_11) rfl q) ?_
  obtain ⟨v4, T4, L4, X4, Q4, st4⟩ := own_callS X3 hx hZ (y := (⟨"java/lang/StringLatin1", "charAt", "([BI)C"⟩ : MethodName)) (argsL := [(.ref v_SIGN), (.int (2 : Int32))]) (rest := []) hown (hw _ (List.mem_of_getElem? (i := 40) rfl)) (hw _ (List.mem_of_getElem? (i := 41) rfl)) (hw _ (List.mem_of_getElem? (i := 42) rfl)) (hw _ (List.mem_of_getElem? (i := 43) rfl)) (rm_lat_SIGN_2 l Z a0 hw [] w_INVALID w_NONE w_SIGN w_SIGN_AND_ENCRYPT s_INVALID s_NONE s_SIGN s_SIGN_AND_ENCRYPT v_INVALID v_NONE v_SIGN v_SIGN_AND_ENCRYPT cs fm h0 FX) e3 (by decide) (by decide) 0 (by decide) (by decide) (by decide) (g := (mkF m 12 #[.val (.ref s_SIGN), .val (.int (2 : Int32))] [(.int (2 : Int32)), (.ref v_SIGN)])) rfl (by rw [hml]; rfl) (lenOf (ps := [(.array .byte), .int]) (r := (some .char)) (by decide +kernel) rfl) rfl (by show 2 * 0 + _ ≤ _; exact Nat.le_of_eq rfl) (hb hby d5_12)
  obtain ⟨rfl, e4, rfl⟩ := Q4
  refine own_go (T' := T4) (g' := (mkF m 15 #[.val (.ref s_SIGN), .val (.int (2 : Int32))] [(.int (103 : Int32))])) (fun t q => st4 t q) ?_
  refine own_outN X4 hx hlk hret (t := .char) (by simp) (hb hby d5_15) (w := (103 : Int32)) (by decide) ?_ (by decide) (by decide)
  exact ⟨rfl, e4, rfl⟩
set_option maxRecDepth 65536 in
set_option maxHeartbeats 40000000 in
theorem rm_lat_SIGN_3 (l : Launch) (Z : State) (a0 : Array Value) (hw : ∀ d ∈ tables_1, d.before a0 Z = true) (ws : List Jvm.Cond) (w_INVALID w_NONE w_SIGN w_SIGN_AND_ENCRYPT s_INVALID s_NONE s_SIGN s_SIGN_AND_ENCRYPT v_INVALID v_NONE v_SIGN v_SIGN_AND_ENCRYPT : Addr) (cs : Int32) (fm : Value) (h0 : Heap) (FX : own_F Z h0 w_INVALID w_NONE w_SIGN w_SIGN_AND_ENCRYPT s_INVALID s_NONE s_SIGN s_SIGN_AND_ENCRYPT v_INVALID v_NONE v_SIGN v_SIGN_AND_ENCRYPT cs fm) :
    own_Met l (⟨"java/lang/StringLatin1", "charAt", "([BI)C"⟩ : MethodName) jdk_43_method_2_code 2 (some .char) ws ({ frames := 2, cells := 0, slots := 0, locals := 27 } : Room) Z #[(.ref v_SIGN), (.int (3 : Int32))] h0 (fun v h L => v = some (.int (110 : Int32)) ∧ h = h0 ∧ L = []) := by
  refine MetFree.of_bodySF (plainFor_of_name (by first | (simp [plainName, overriddenIn]; done) | decide +kernel)) hisR ?_
  intro p e s m args below meth c s₁ Bd hml0 hP hK
  obtain ⟨rfl, hZ, hh⟩ := hP
  have hx := Bd.exec
  have hby := Bd.bytes
  have hml : c.maxLocals = 2 := hml0
  have hown : s.vm.findClass "java/lang/StringLatin1" = some m.cls := findClass_of_methodNamed Bd.named
  have hnm := (name_of_methodNamed Bd.named Bd.method).1
  have hlk : meth.locks = false := Bd.notSynchronized
  have hret := Bd.returns
  have X0 : Stand p l e ({ frames := 2, cells := 0, slots := 0, locals := 27 } : Room) s m #[(.ref v_SIGN), (.int (3 : Int32))] below meth c s₁ [] 0 0 := Stand.of_body Bd
  have e0 : s₁.heap = h0 := by rw [← hh, Bd.state]; rfl
  refine own_in (Q := fun v h L => v = some (.int (110 : Int32)) ∧ h = h0 ∧ L = []) (ef := by first | (simp [entryFrame, mkF, argsToLocals, Value.category, maxLocals]; done) | rfl) (g' := (mkF m 0 #[.val (.ref v_SIGN), .val (.int (3 : Int32))] [])) ?_
  obtain ⟨S_INVALID, E_INVALID, S_SIGN, E_SIGN, S_SIGN_AND_ENCRYPT, E_SIGN_AND_ENCRYPT, S_NONE, E_NONE, F_INVALID_ordinal, F_SIGN_ordinal, F_SIGN_AND_ENCRYPT_ordinal, F_NONE_ordinal, ne_INVALID_SIGN, ne_INVALID_SIGN_AND_ENCRYPT, ne_INVALID_NONE, ne_SIGN_SIGN_AND_ENCRYPT, ne_SIGN_NONE, ne_SIGN_AND_ENCRYPT_NONE, G_INVALID, X_INVALID, G_SIGN_AND_ENCRYPT, X_SIGN_AND_ENCRYPT, G_SIGN, X_SIGN, G_NONE, X_NONE, H_INVALID, H_SIGN_AND_ENCRYPT, H_SIGN, H_NONE, D_INVALID, D_SIGN_AND_ENCRYPT, D_SIGN, D_NONE, R_INVALID, R_NONE, R_SIGN, R_SIGN_AND_ENCRYPT, S_cs, cs0, S_fm, hfm⟩ := id FX
  refine own_go (T' := s₁) (g' := (mkF m 1 #[.val (.ref v_SIGN), .val (.int (3 : Int32))] [(.int (3 : Int32))])) (fun t q => XS.iloadN X0.here hx rfl (hb hby d7_0) rfl q) ?_
  refine own_go (T' := s₁) (g' := (mkF m 2 #[.val (.ref v_SIGN), .val (.int (3 : Int32))] [(.ref v_SIGN), (.int (3 : Int32))])) (fun t q => XS.aloadN X0.here hx rfl (hb hby d7_1) rfl rfl q) ?_
  refine own_go (T' := s₁) (g' := (mkF m 3 #[.val (.ref v_SIGN), .val (.int (3 : Int32))] [(.int (4 : Int32)), (.int (3 : Int32))])) (fun t q => own_len X0 hx hZ e0 R_SIGN (n := (4 : Int32)) rfl (g := (mkF m 2 #[.val (.ref v_SIGN), .val (.int (3 : Int32))] [(.ref v_SIGN), (.int (3 : Int32))])) rfl rfl (hb hby d7_2) t q) ?_
  obtain ⟨v1, T1, L1, X1, Q1, st1⟩ := own_callS X0 hx hZ (y := (⟨"java/lang/String", "checkIndex", "(II)V"⟩ : MethodName)) (argsL := [(.int (3 : Int32)), (.int (4 : Int32))]) (rest := []) hown (hw _ (List.mem_of_getElem? (i := 44) rfl)) (hw _ (List.mem_of_getElem? (i := 45) rfl)) (hw _ (List.mem_of_getElem? (i := 18) rfl)) (hw _ (List.mem_of_getElem? (i := 46) rfl)) (rm_chk l Z a0 hw [] (3 : Int32) (4 : Int32) w_INVALID w_NONE w_SIGN w_SIGN_AND_ENCRYPT s_INVALID s_NONE s_SIGN s_SIGN_AND_ENCRYPT v_INVALID v_NONE v_SIGN v_SIGN_AND_ENCRYPT cs fm h0 FX (by decide) (by decide)) e0 (by decide) (by decide) 0 (by decide) (by decide) (by decide) (g := (mkF m 3 #[.val (.ref v_SIGN), .val (.int (3 : Int32))] [(.int (4 : Int32)), (.int (3 : Int32))])) rfl (by rw [hml]; rfl) (lenOf (ps := [.int, .int]) (r := none) (by decide +kernel) rfl) rfl (by show 2 * 0 + _ ≤ _; exact Nat.le_of_eq rfl) (hb hby d7_3)
  obtain ⟨rfl, e1, rfl⟩ := Q1
  refine own_go (T' := T1) (g' := (mkF m 6 #[.val (.ref v_SIGN), .val (.int (3 : Int32))] [])) (fun t q => st1 t q) ?_
  refine own_go (T' := T1) (g' := (mkF m 7 #[.val (.ref v_SIGN), .val (.int (3 : Int32))] [(.ref v_SIGN)])) (fun t q => XS.aloadN X1.here hx rfl (hb hby d7_6) rfl rfl q) ?_
  refine own_go (T' := T1) (g' := (mkF m 8 #[.val (.ref v_SIGN), .val (.int (3 : Int32))] [(.int (3 : Int32)), (.ref v_SIGN)])) (fun t q => XS.iloadN X1.here hx rfl (hb hby d7_7) rfl q) ?_
  refine own_go (T' := T1) (g' := (mkF m 9 #[.val (.ref v_SIGN), .val (.int (3 : Int32))] [(.int (110 : Int32))])) (fun t q => own_ldB X1 hx hZ e1 R_SIGN (by decide) rfl (g := (mkF m 8 #[.val (.ref v_SIGN), .val (.int (3 : Int32))] [(.int (3 : Int32)), (.ref v_SIGN)])) rfl rfl (hb hby d7_8) t q) ?_
  refine own_go (T' := T1) (g' := (mkF m 12 #[.val (.ref v_SIGN), .val (.int (3 : Int32))] [(.int (255 : Int32)), (.int (110 : Int32))])) (fun t q => XS.sipush X1.here hx rfl (hb hby d7_9) q) ?_
  refine own_go (T' := T1) (g' := (mkF m 13 #[.val (.ref v_SIGN), .val (.int (3 : Int32))] [(.int ((110 : Int32) &&& (255 : Int32)))])) (fun t q => XS.iand X1.here hx rfl (hb hby d7_12) rfl q) ?_
  refine own_go (T' := T1) (g' := (mkF m 14 #[.val (.ref v_SIGN), .val (.int (3 : Int32))] [(.int ((((110 : Int32) &&& (255 : Int32))).toUInt32.toUInt16.toUInt32.toInt32))])) (fun t q => XT.i2c X1.here hx rfl (hb hby d7_13) rfl q) ?_
  refine own_outN X1 hx hlk hret (t := .char) (by simp) (hb hby d7_14) (w := (nar .char ((((110 : Int32) &&& (255 : Int32))).toUInt32.toUInt16.toUInt32.toInt32))) rfl ?_ (by decide) (by decide)
  exact ⟨congrArg (fun z => some (Value.int z)) (by decide), e1, rfl⟩
set_option maxRecDepth 65536 in
set_option maxHeartbeats 40000000 in
theorem rm_ch_SIGN_3 (l : Launch) (Z : State) (a0 : Array Value) (hw : ∀ d ∈ tables_1, d.before a0 Z = true) (ws : List Jvm.Cond) (w_INVALID w_NONE w_SIGN w_SIGN_AND_ENCRYPT s_INVALID s_NONE s_SIGN s_SIGN_AND_ENCRYPT v_INVALID v_NONE v_SIGN v_SIGN_AND_ENCRYPT : Addr) (cs : Int32) (fm : Value) (h0 : Heap) (FX : own_F Z h0 w_INVALID w_NONE w_SIGN w_SIGN_AND_ENCRYPT s_INVALID s_NONE s_SIGN s_SIGN_AND_ENCRYPT v_INVALID v_NONE v_SIGN v_SIGN_AND_ENCRYPT cs fm) :
    own_Met l (⟨"java/lang/String", "charAt", "(I)C"⟩ : MethodName) jdk_42_method_56_code 2 (some .char) ws ({ frames := 3, cells := 0, slots := 0, locals := 40 } : Room) Z #[(.ref s_SIGN), (.int (3 : Int32))] h0 (fun v h L => v = some (.int (110 : Int32)) ∧ h = h0 ∧ L = []) := by
  refine MetFree.of_bodySF (plainFor_of_name (by first | (simp [plainName, overriddenIn]; done) | decide +kernel)) hisR ?_
  intro p e s m args below meth c s₁ Bd hml0 hP hK
  obtain ⟨rfl, hZ, hh⟩ := hP
  have hx := Bd.exec
  have hby := Bd.bytes
  have hml : c.maxLocals = 2 := hml0
  have hown : s.vm.findClass "java/lang/String" = some m.cls := findClass_of_methodNamed Bd.named
  have hnm := (name_of_methodNamed Bd.named Bd.method).1
  have hlk : meth.locks = false := Bd.notSynchronized
  have hret := Bd.returns
  have X0 : Stand p l e ({ frames := 3, cells := 0, slots := 0, locals := 40 } : Room) s m #[(.ref s_SIGN), (.int (3 : Int32))] below meth c s₁ [] 0 0 := Stand.of_body Bd
  have e0 : s₁.heap = h0 := by rw [← hh, Bd.state]; rfl
  refine own_in (Q := fun v h L => v = some (.int (110 : Int32)) ∧ h = h0 ∧ L = []) (ef := by first | (simp [entryFrame, mkF, argsToLocals, Value.category, maxLocals]; done) | rfl) (g' := (mkF m 0 #[.val (.ref s_SIGN), .val (.int (3 : Int32))] [])) ?_
  obtain ⟨S_INVALID, E_INVALID, S_SIGN, E_SIGN, S_SIGN_AND_ENCRYPT, E_SIGN_AND_ENCRYPT, S_NONE, E_NONE, F_INVALID_ordinal, F_SIGN_ordinal, F_SIGN_AND_ENCRYPT_ordinal, F_NONE_ordinal, ne_INVALID_SIGN, ne_INVALID_SIGN_AND_ENCRYPT, ne_INVALID_NONE, ne_SIGN_SIGN_AND_ENCRYPT, ne_SIGN_NONE, ne_SIGN_AND_ENCRYPT_NONE, G_INVALID, X_INVALID, G_SIGN_AND_ENCRYPT, X_SIGN_AND_ENCRYPT, G_SIGN, X_SIGN, G_NONE, X_NONE, H_INVALID, H_SIGN_AND_ENCRYPT, H_SIGN, H_NONE, D_INVALID, D_SIGN_AND_ENCRYPT, D_SIGN, D_NONE, R_INVALID, R_NONE, R_SIGN, R_SIGN_AND_ENCRYPT, S_cs, cs0, S_fm, hfm⟩ := id FX
  refine own_go (T' := s₁) (g' := (mkF m 1 #[.val (.ref s_SIGN), .val (.int (3 : Int32))] [(.ref s_SIGN)])) (fun t q => XS.aloadN X0.here hx rfl (hb hby d5_0) rfl rfl q) ?_
  obtain ⟨v1, T1, L1, X1, Q1, st1⟩ := own_callV X0 hx hZ (y := (⟨"java/lang/String", "isLatin1", "()Z"⟩ : MethodName)) (b := s_SIGN) (argsL := []) (rest := []) hown (hw _ (List.mem_of_getElem? (i := 35) rfl)) (hw _ (List.mem_of_getElem? (i := 36) rfl)) (hw _ (List.mem_of_getElem? (i := 38) rfl)) (hw _ (List.mem_of_getElem? (i := 37) rfl)) (hw _ (List.mem_of_getElem? (i := 18) rfl)) (hw _ (List.mem_of_getElem? (i := 39) rfl)) (rm_isl_SIGN l Z a0 hw [] w_INVALID w_NONE w_SIGN w_SIGN_AND_ENCRYPT s_INVALID s_NONE s_SIGN s_SIGN_AND_ENCRYPT v_INVALID v_NONE v_SIGN v_SIGN_AND_ENCRYPT cs fm h0 FX) e0 X_SIGN (by decide) (by decide) 0 (by decide) (by decide) (by decide) (g := (mkF m 1 #[.val (.ref s_SIGN), .val (.int (3 : Int32))] [(.ref s_SIGN)])) rfl (by rw [hml]; rfl) (lenOf (ps := []) (r := (some .boolean)) (by decide +kernel) rfl) rfl (by show 2 * 0 + _ ≤ _; exact Nat.le_of_eq rfl) (hb hby d5_1)
  obtain ⟨rfl, e1, rfl⟩ := Q1
  refine own_go (T' := T1) (g' := (mkF m 4 #[.val (.ref s_SIGN), .val (.int (3 : Int32))] [(.int (1 : Int32))])) (fun t q => st1 t q) ?_
  have c2 : ¬ ((1 : Int32) = (0 : Int32)) := by decide
  refine own_go (T' := T1) (g' := (mkF m 7 #[.val (.ref s_SIGN), .val (.int (3 : Int32))] [])) (fun t q => XS.ifNo X1.here hx rfl (hb hby d5_4) rfl ((if0 _ _).trans (feq c2).1) q) ?_
  refine own_go (T' := T1) (g' := (mkF m 8 #[.val (.ref s_SIGN), .val (.int (3 : Int32))] [(.ref s_SIGN)])) (fun t q => XS.aloadN X1.here hx rfl (hb hby d5_7) rfl rfl q) ?_
  obtain ⟨T3, X3, e3, st3⟩ := getF X1 hx hZ hown (host := "") (Or.inl (hw _ (List.mem_of_getElem? (i := 20) rfl))) Via.refl e1 H_SIGN (g := (mkF m 8 #[.val (.ref s_SIGN), .val (.int (3 : Int32))] [(.ref s_SIGN)])) rfl rfl (hb hby d5_8)
  refine own_go (T' := T3) (g' := (mkF m 11 #[.val (.ref s_SIGN), .val (.int (3 : Int32))] [(.ref v_SIGN)])) (fun t q => st3 t q) ?_
  refine own_go (T' := T3) (g' := (mkF m 12 #[.val (.ref s_SIGN), .val (.int (3 : Int32))] [(.int (3 : Int32)), (.ref v_SIGN)])) (fun t q => XS.iloadN X3.here hx rfl (hb hby d5_11) rfl q) ?_
  obtain ⟨v4, T4, L4, X4, Q4, st4⟩ := own_callS X3 hx hZ (y := (⟨"java/lang/StringLatin1", "charAt", "([BI)C"⟩ : MethodName)) (argsL := [(.ref v_SIGN), (.int (3 : Int32))]) (rest := []) hown (hw _ (List.mem_of_getElem? (i := 40) rfl)) (hw _ (List.mem_of_getElem? (i := 41) rfl)) (hw _ (List.mem_of_getElem? (i := 42) rfl)) (hw _ (List.mem_of_getElem? (i := 43) rfl)) (rm_lat_SIGN_3 l Z a0 hw [] w_INVALID w_NONE w_SIGN w_SIGN_AND_ENCRYPT s_INVALID s_NONE s_SIGN s_SIGN_AND_ENCRYPT v_INVALID v_NONE v_SIGN v_SIGN_AND_ENCRYPT cs fm h0 FX) e3 (by decide) (by decide) 0 (by decide) (by decide) (by decide) (g := (mkF m 12 #[.val (.ref s_SIGN), .val (.int (3 : Int32))] [(.int (3 : Int32)), (.ref v_SIGN)])) rfl (by rw [hml]; rfl) (lenOf (ps := [(.array .byte), .int]) (r := (some .char)) (by decide +kernel) rfl) rfl (by show 2 * 0 + _ ≤ _; exact Nat.le_of_eq rfl) (hb hby d5_12)
  obtain ⟨rfl, e4, rfl⟩ := Q4
  refine own_go (T' := T4) (g' := (mkF m 15 #[.val (.ref s_SIGN), .val (.int (3 : Int32))] [(.int (110 : Int32))])) (fun t q => st4 t q) ?_
  refine own_outN X4 hx hlk hret (t := .char) (by simp) (hb hby d5_15) (w := (110 : Int32)) (by decide) ?_ (by decide) (by decide)
  exact ⟨rfl, e4, rfl⟩
set_option maxRecDepth 65536 in
set_option maxHeartbeats 40000000 in
theorem rm_gsn_SIGN (l : Launch) (Z : State) (a0 : Array Value) (hw : ∀ d ∈ tables_1, d.before a0 Z = true) (ws : List Jvm.Cond) (w_INVALID w_NONE w_SIGN w_SIGN_AND_ENCRYPT s_INVALID s_NONE s_SIGN s_SIGN_AND_ENCRYPT v_INVALID v_NONE v_SIGN v_SIGN_AND_ENCRYPT : Addr) (cs : Int32) (fm : Value) (h0 : Heap) (FX : own_F Z h0 w_INVALID w_NONE w_SIGN w_SIGN_AND_ENCRYPT s_INVALID s_NONE s_SIGN s_SIGN_AND_ENCRYPT v_INVALID v_NONE v_SIGN v_SIGN_AND_ENCRYPT cs fm) :
    own_Met l (⟨"com/example/dvarapala/dvarapala/engine/MessageSecurityMode", "getSpecName", "()Ljava/lang/String;"⟩ : MethodName) prog_10_method_4_code 1 (some (.object "java/lang/String")) ws ({ frames := 0, cells := 0, slots := 0, locals := 0 } : Room) Z #[(.ref w_SIGN)] h0 (fun v h L => v = some (.ref s_SIGN) ∧ h = h0 ∧ L = []) := by
  refine MetFree.of_bodySF (plainFor_of_name (by first | (simp [plainName, overriddenIn]; done) | decide +kernel)) hisR ?_
  intro p e s m args below meth c s₁ Bd hml0 hP hK
  obtain ⟨rfl, hZ, hh⟩ := hP
  have hx := Bd.exec
  have hby := Bd.bytes
  have hml : c.maxLocals = 1 := hml0
  have hown : s.vm.findClass "com/example/dvarapala/dvarapala/engine/MessageSecurityMode" = some m.cls := findClass_of_methodNamed Bd.named
  have hnm := (name_of_methodNamed Bd.named Bd.method).1
  have hlk : meth.locks = false := Bd.notSynchronized
  have hret := Bd.returns
  have X0 : Stand p l e ({ frames := 0, cells := 0, slots := 0, locals := 0 } : Room) s m #[(.ref w_SIGN)] below meth c s₁ [] 0 0 := Stand.of_body Bd
  have e0 : s₁.heap = h0 := by rw [← hh, Bd.state]; rfl
  refine own_in (Q := fun v h L => v = some (.ref s_SIGN) ∧ h = h0 ∧ L = []) (ef := by first | (simp [entryFrame, mkF, argsToLocals, Value.category, maxLocals]; done) | rfl) (g' := (mkF m 0 #[.val (.ref w_SIGN)] [])) ?_
  obtain ⟨S_INVALID, E_INVALID, S_SIGN, E_SIGN, S_SIGN_AND_ENCRYPT, E_SIGN_AND_ENCRYPT, S_NONE, E_NONE, F_INVALID_ordinal, F_SIGN_ordinal, F_SIGN_AND_ENCRYPT_ordinal, F_NONE_ordinal, ne_INVALID_SIGN, ne_INVALID_SIGN_AND_ENCRYPT, ne_INVALID_NONE, ne_SIGN_SIGN_AND_ENCRYPT, ne_SIGN_NONE, ne_SIGN_AND_ENCRYPT_NONE, G_INVALID, X_INVALID, G_SIGN_AND_ENCRYPT, X_SIGN_AND_ENCRYPT, G_SIGN, X_SIGN, G_NONE, X_NONE, H_INVALID, H_SIGN_AND_ENCRYPT, H_SIGN, H_NONE, D_INVALID, D_SIGN_AND_ENCRYPT, D_SIGN, D_NONE, R_INVALID, R_NONE, R_SIGN, R_SIGN_AND_ENCRYPT, S_cs, cs0, S_fm, hfm⟩ := id FX
  refine own_go (T' := s₁) (g' := (mkF m 1 #[.val (.ref w_SIGN)] [(.ref w_SIGN)])) (fun t q => XS.aloadN X0.here hx rfl (hb hby d2_0) rfl rfl q) ?_
  obtain ⟨T1, X1, e1, st1⟩ := getF X0 hx hZ hown (host := "") (Or.inl (hw _ (List.mem_of_getElem? (i := 12) rfl))) Via.refl e0 G_SIGN (g := (mkF m 1 #[.val (.ref w_SIGN)] [(.ref w_SIGN)])) rfl rfl (hb hby d2_1)
  refine own_go (T' := T1) (g' := (mkF m 4 #[.val (.ref w_SIGN)] [(.ref s_SIGN)])) (fun t q => st1 t q) ?_
  refine own_outA X1 hx hlk hret rfl rfl (hb hby d2_4) ?_ (by decide) (by decide)
  exact ⟨rfl, e1, rfl⟩
theorem d10_14 : decode prog_10_method_5_code 14 = .ok (.iconst 1, 1) := by decide +kernel
theorem d10_15 : decode prog_10_method_5_code 15 = .ok (.goto 4, 3) := by decide +kernel
set_option maxRecDepth 65536 in
set_option maxHeartbeats 40000000 in
theorem rm_sig_SIGN (l : Launch) (Z : State) (a0 : Array Value) (hw : ∀ d ∈ tables_1, d.before a0 Z = true) (ws : List Jvm.Cond) (w_INVALID w_NONE w_SIGN w_SIGN_AND_ENCRYPT s_INVALID s_NONE s_SIGN s_SIGN_AND_ENCRYPT v_INVALID v_NONE v_SIGN v_SIGN_AND_ENCRYPT : Addr) (cs : Int32) (fm : Value) (h0 : Heap) (FX : own_F Z h0 w_INVALID w_NONE w_SIGN w_SIGN_AND_ENCRYPT s_INVALID s_NONE s_SIGN s_SIGN_AND_ENCRYPT v_INVALID v_NONE v_SIGN v_SIGN_AND_ENCRYPT cs fm) :
    own_Met l (⟨"com/example/dvarapala/dvarapala/engine/MessageSecurityMode", "isSigned", "()Z"⟩ : MethodName) prog_10_method_5_code 1 (some .boolean) ws ({ frames := 0, cells := 0, slots := 0, locals := 0 } : Room) Z #[(.ref w_SIGN)] h0 (fun v h L => v = some (.int (1 : Int32)) ∧ h = h0 ∧ L = []) := by
  refine MetFree.of_bodySF (plainFor_of_name (by first | (simp [plainName, overriddenIn]; done) | decide +kernel)) hisR ?_
  intro p e s m args below meth c s₁ Bd hml0 hP hK
  obtain ⟨rfl, hZ, hh⟩ := hP
  have hx := Bd.exec
  have hby := Bd.bytes
  have hml : c.maxLocals = 1 := hml0
  have hown : s.vm.findClass "com/example/dvarapala/dvarapala/engine/MessageSecurityMode" = some m.cls := findClass_of_methodNamed Bd.named
  have hnm := (name_of_methodNamed Bd.named Bd.method).1
  have hlk : meth.locks = false := Bd.notSynchronized
  have hret := Bd.returns
  have X0 : Stand p l e ({ frames := 0, cells := 0, slots := 0, locals := 0 } : Room) s m #[(.ref w_SIGN)] below meth c s₁ [] 0 0 := Stand.of_body Bd
  have e0 : s₁.heap = h0 := by rw [← hh, Bd.state]; rfl
  refine own_in (Q := fun v h L => v = some (.int (1 : Int32)) ∧ h = h0 ∧ L = []) (ef := by first | (simp [entryFrame, mkF, argsToLocals, Value.category, maxLocals]; done) | rfl) (g' := (mkF m 0 #[.val (.ref w_SIGN)] [])) ?_
  obtain ⟨S_INVALID, E_INVALID, S_SIGN, E_SIGN, S_SIGN_AND_ENCRYPT, E_SIGN_AND_ENCRYPT, S_NONE, E_NONE, F_INVALID_ordinal, F_SIGN_ordinal, F_SIGN_AND_ENCRYPT_ordinal, F_NONE_ordinal, ne_INVALID_SIGN, ne_INVALID_SIGN_AND_ENCRYPT, ne_INVALID_NONE, ne_SIGN_SIGN_AND_ENCRYPT, ne_SIGN_NONE, ne_SIGN_AND_ENCRYPT_NONE, G_INVALID, X_INVALID, G_SIGN_AND_ENCRYPT, X_SIGN_AND_ENCRYPT, G_SIGN, X_SIGN, G_NONE, X_NONE, H_INVALID, H_SIGN_AND_ENCRYPT, H_SIGN, H_NONE, D_INVALID, D_SIGN_AND_ENCRYPT, D_SIGN, D_NONE, R_INVALID, R_NONE, R_SIGN, R_SIGN_AND_ENCRYPT, S_cs, cs0, S_fm, hfm⟩ := id FX
  refine own_go (T' := s₁) (g' := (mkF m 1 #[.val (.ref w_SIGN)] [(.ref w_SIGN)])) (fun t q => XS.aloadN X0.here hx rfl (hb hby d10_0) rfl rfl q) ?_
  obtain ⟨T1, X1, e1, st1⟩ := getS2 X0 hx hZ hown (host := "") (Or.inl (hw _ (List.mem_of_getElem? (i := 57) rfl))) Via.refl e0 S_SIGN (g := (mkF m 1 #[.val (.ref w_SIGN)] [(.ref w_SIGN)])) rfl (hb hby d10_1)
  refine own_go (T' := T1) (g' := (mkF m 4 #[.val (.ref w_SIGN)] [(.ref w_SIGN), (.ref w_SIGN)])) (fun t q => st1 t q) ?_
  have c2 : (Value.ref w_SIGN) = (Value.ref w_SIGN) := rfl
  refine own_go (T' := T1) (g' := (mkF m 14 #[.val (.ref w_SIGN)] [])) (fun t q => XT.acmpYes X1.here hx rfl (pc0 := 4) (pc' := 14) rfl (hb hby d10_4) rfl rfl rfl (own_at c2).1 (by decide) (by decide) q) ?_
  refine own_go (T' := T1) (g' := (mkF m 15 #[.val (.ref w_SIGN)] [(.int (1 : Int32))])) (fun t q => XS.iconst X1.here hx rfl (hb hby d10_14) q) ?_
  refine own_go (T' := T1) (g' := (mkF m 19 #[.val (.ref w_SIGN)] [(.int (1 : Int32))])) (fun t q => XS.goto X1.here hx rfl (pc0 := 15) (pc' := 19) rfl (hb hby d10_15) (by decide) (by decide) q) ?_
  refine own_outN X1 hx hlk hret (t := .boolean) (by simp) (hb hby d10_19) (w := (1 : Int32)) (by decide) ?_ (by decide) (by decide)
  exact ⟨rfl, e1, rfl⟩
set_option maxRecDepth 65536 in
set_option maxHeartbeats 40000000 in
theorem rm_cod_SIGN_AND_ENCRYPT (l : Launch) (Z : State) (a0 : Array Value) (hw : ∀ d ∈ tables_1, d.before a0 Z = true) (ws : List Jvm.Cond) (w_INVALID w_NONE w_SIGN w_SIGN_AND_ENCRYPT s_INVALID s_NONE s_SIGN s_SIGN_AND_ENCRYPT v_INVALID v_NONE v_SIGN v_SIGN_AND_ENCRYPT : Addr) (cs : Int32) (fm : Value) (h0 : Heap) (FX : own_F Z h0 w_INVALID w_NONE w_SIGN w_SIGN_AND_ENCRYPT s_INVALID s_NONE s_SIGN s_SIGN_AND_ENCRYPT v_INVALID v_NONE v_SIGN v_SIGN_AND_ENCRYPT cs fm) :
    own_Met l (⟨"java/lang/String", "coder", "()B"⟩ : MethodName) jdk_42_method_152_code 1 (some .byte) ws ({ frames := 0, cells := 0, slots := 0, locals := 0 } : Room) Z #[(.ref s_SIGN_AND_ENCRYPT)] h0 (fun v h L => v = some (.int (0 : Int32)) ∧ h = h0 ∧ L = []) := by
  refine MetFree.of_bodySF (plainFor_of_name (by first | (simp [plainName, overriddenIn]; done) | decide +kernel)) hisR ?_
  intro p e s m args below meth c s₁ Bd hml0 hP hK
  obtain ⟨rfl, hZ, hh⟩ := hP
  have hx := Bd.exec
  have hby := Bd.bytes
  have hml : c.maxLocals = 1 := hml0
  have hown : s.vm.findClass "java/lang/String" = some m.cls := findClass_of_methodNamed Bd.named
  have hnm := (name_of_methodNamed Bd.named Bd.method).1
  have hlk : meth.locks = false := Bd.notSynchronized
  have hret := Bd.returns
  have X0 : Stand p l e ({ frames := 0, cells := 0, slots := 0, locals := 0 } : Room) s m #[(.ref s_SIGN_AND_ENCRYPT)] below meth c s₁ [] 0 0 := Stand.of_body Bd
  have e0 : s₁.heap = h0 := by rw [← hh, Bd.state]; rfl
  refine own_in (Q := fun v h L => v = some (.int (0 : Int32)) ∧ h = h0 ∧ L = []) (ef := by first | (simp [entryFrame, mkF, argsToLocals, Value.category, maxLocals]; done) | rfl) (g' := (mkF m 0 #[.val (.ref s_SIGN_AND_ENCRYPT)] [])) ?_
  obtain ⟨S_INVALID, E_INVALID, S_SIGN, E_SIGN, S_SIGN_AND_ENCRYPT, E_SIGN_AND_ENCRYPT, S_NONE, E_NONE, F_INVALID_ordinal, F_SIGN_ordinal, F_SIGN_AND_ENCRYPT_ordinal, F_NONE_ordinal, ne_INVALID_SIGN, ne_INVALID_SIGN_AND_ENCRYPT, ne_INVALID_NONE, ne_SIGN_SIGN_AND_ENCRYPT, ne_SIGN_NONE, ne_SIGN_AND_ENCRYPT_NONE, G_INVALID, X_INVALID, G_SIGN_AND_ENCRYPT, X_SIGN_AND_ENCRYPT, G_SIGN, X_SIGN, G_NONE, X_NONE, H_INVALID, H_SIGN_AND_ENCRYPT, H_SIGN, H_NONE, D_INVALID, D_SIGN_AND_ENCRYPT, D_SIGN, D_NONE, R_INVALID, R_NONE, R_SIGN, R_SIGN_AND_ENCRYPT, S_cs, cs0, S_fm, hfm⟩ := id FX
  obtain ⟨T1, X1, e1, st1⟩ := getS2 X0 hx hZ hown (host := "") (Or.inl (hw _ (List.mem_of_getElem? (i := 27) rfl))) Via.refl e0 S_cs (g := (mkF m 0 #[.val (.ref s_SIGN_AND_ENCRYPT)] [])) rfl (hb hby d4_0)
  refine own_go (T' := T1) (g' := (mkF m 3 #[.val (.ref s_SIGN_AND_ENCRYPT)] [(.int cs)])) (fun t q => st1 t q) ?_
  have c2 : ¬ (cs = (0 : Int32)) := cs0
  refine own_go (T' := T1) (g' := (mkF m 6 #[.val (.ref s_SIGN_AND_ENCRYPT)] [])) (fun t q => XS.ifNo X1.here hx rfl (hb hby d4_3) rfl ((if0 _ _).trans (feq c2).1) q) ?_
  refine own_go (T' := T1) (g' := (mkF m 7 #[.val (.ref s_SIGN_AND_ENCRYPT)] [(.ref s_SIGN_AND_ENCRYPT)])) (fun t q => XS.aloadN X1.here hx rfl (hb hby d4_6) rfl rfl q) ?_
  obtain ⟨T3, X3, e3, st3⟩ := getF X1 hx hZ hown (host := "") (Or.inl (hw _ (List.mem_of_getElem? (i := 28) rfl))) Via.refl e1 D_SIGN_AND_ENCRYPT (g := (mkF m 7 #[.val (.ref s_SIGN_AND_ENCRYPT)] [(.ref s_SIGN_AND_ENCRYPT)])) rfl rfl (hb hby d4_7)
  refine own_go (T' := T3) (g' := (mkF m 10 #[.val (.ref s_SIGN_AND_ENCRYPT)] [(.int (0 : Int32))])) (fun t q => st3 t q) ?_
  refine own_go (T' := T3) (g' := (mkF m 14 #[.val (.ref s_SIGN_AND_ENCRYPT)] [(.int (0 : Int32))])) (fun t q => XS.goto X3.here hx rfl (pc0 := 10) (pc' := 14) rfl (hb hby d4_10) (by decide) (by decide) q) ?_
  refine own_outN X3 hx hlk hret (t := .byte) (by simp) (hb hby d4_14) (w := (0 : Int32)) (by decide) ?_ (by decide) (by decide)
  exact ⟨rfl, e3, rfl⟩
set_option maxRecDepth 65536 in
set_option maxHeartbeats 40000000 in
theorem rm_isl_SIGN_AND_ENCRYPT (l : Launch) (Z : State) (a0 : Array Value) (hw : ∀ d ∈ tables_1, d.before a0 Z = true) (ws : List Jvm.Cond) (w_INVALID w_NONE w_SIGN w_SIGN_AND_ENCRYPT s_INVALID s_NONE s_SIGN s_SIGN_AND_ENCRYPT v_INVALID v_NONE v_SIGN v_SIGN_AND_ENCRYPT : Addr) (cs : Int32) (fm : Value) (h0 : Heap) (FX : own_F Z h0 w_INVALID w_NONE w_SIGN w_SIGN_AND_ENCRYPT s_INVALID s_NONE s_SIGN s_SIGN_AND_ENCRYPT v_INVALID v_NONE v_SIGN v_SIGN_AND_ENCRYPT cs fm) :
    own_Met l (⟨"java/lang/String", "isLatin1", "()Z"⟩ : MethodName) jdk_42_method_154_code 1 (some .boolean) ws ({ frames := 0, cells := 0, slots := 0, locals := 0 } : Room) Z #[(.ref s_SIGN_AND_ENCRYPT)] h0 (fun v h L => v = some (.int (1 : Int32)) ∧ h = h0 ∧ L = []) := by
  refine MetFree.of_bodySF (plainFor_of_name (by first | (simp [plainName, overriddenIn]; done) | decide +kernel)) hisR ?_
  intro p e s m args below meth c s₁ Bd hml0 hP hK
  obtain ⟨rfl, hZ, hh⟩ := hP
  have hx := Bd.exec
  have hby := Bd.bytes
  have hml : c.maxLocals = 1 := hml0
  have hown : s.vm.findClass "java/lang/String" = some m.cls := findClass_of_methodNamed Bd.named
  have hnm := (name_of_methodNamed Bd.named Bd.method).1
  have hlk : meth.locks = false := Bd.notSynchronized
  have hret := Bd.returns
  have X0 : Stand p l e ({ frames := 0, cells := 0, slots := 0, locals := 0 } : Room) s m #[(.ref s_SIGN_AND_ENCRYPT)] below meth c s₁ [] 0 0 := Stand.of_body Bd
  have e0 : s₁.heap = h0 := by rw [← hh, Bd.state]; rfl
  refine own_in (Q := fun v h L => v = some (.int (1 : Int32)) ∧ h = h0 ∧ L = []) (ef := by first | (simp [entryFrame, mkF, argsToLocals, Value.category, maxLocals]; done) | rfl) (g' := (mkF m 0 #[.val (.ref s_SIGN_AND_ENCRYPT)] [])) ?_
  obtain ⟨S_INVALID, E_INVALID, S_SIGN, E_SIGN, S_SIGN_AND_ENCRYPT, E_SIGN_AND_ENCRYPT, S_NONE, E_NONE, F_INVALID_ordinal, F_SIGN_ordinal, F_SIGN_AND_ENCRYPT_ordinal, F_NONE_ordinal, ne_INVALID_SIGN, ne_INVALID_SIGN_AND_ENCRYPT, ne_INVALID_NONE, ne_SIGN_SIGN_AND_ENCRYPT, ne_SIGN_NONE, ne_SIGN_AND_ENCRYPT_NONE, G_INVALID, X_INVALID, G_SIGN_AND_ENCRYPT, X_SIGN_AND_ENCRYPT, G_SIGN, X_SIGN, G_NONE, X_NONE, H_INVALID, H_SIGN_AND_ENCRYPT, H_SIGN, H_NONE, D_INVALID, D_SIGN_AND_ENCRYPT, D_SIGN, D_NONE, R_INVALID, R_NONE, R_SIGN, R_SIGN_AND_ENCRYPT, S_cs, cs0, S_fm, hfm⟩ := id FX
  obtain ⟨T1, X1, e1, st1⟩ := getS2 X0 hx hZ hown (host := "") (Or.inl (hw _ (List.mem_of_getElem? (i := 27) rfl))) Via.refl e0 S_cs (g := (mkF m 0 #[.val (.ref s_SIGN_AND_ENCRYPT)] [])) rfl (hb hby d6_0)
  refine own_go (T' := T1) (g' := (mkF m 3 #[.val (.ref s_SIGN_AND_ENCRYPT)] [(.int cs)])) (fun t q => st1 t q) ?_
  have c2 : ¬ (cs = (0 : Int32)) := cs0
  refine own_go (T' := T1) (g' := (mkF m 6 #[.val (.ref s_SIGN_AND_ENCRYPT)] [])) (fun t q => XS.ifNo X1.here hx rfl (hb hby d6_3) rfl ((if0 _ _).trans (feq c2).1) q) ?_
  refine own_go (T' := T1) (g' := (mkF m 7 #[.val (.ref s_SIGN_AND_ENCRYPT)] [(.ref s_SIGN_AND_ENCRYPT)])) (fun t q => XS.aloadN X1.here hx rfl (hb hby d6_6) rfl rfl q) ?_
  obtain ⟨T3, X3, e3, st3⟩ := getF X1 hx hZ hown (host := "") (Or.inl (hw _ (List.mem_of_getElem? (i := 28) rfl))) Via.refl e1 D_SIGN_AND_ENCRYPT (g := (mkF m 7 #[.val (.ref s_SIGN_AND_ENCRYPT)] [(.ref s_SIGN_AND_ENCRYPT)])) rfl rfl (hb hby d6_7)
  refine own_go (T' := T3) (g' := (mkF m 10 #[.val (.ref s_SIGN_AND_ENCRYPT)] [(.int (0 : Int32))])) (fun t q => st3 t q) ?_
  have c4 : (0 : Int32) = (0 : Int32) := by decide
  refine own_go (T' := T3) (g' := (mkF m 13 #[.val (.ref s_SIGN_AND_ENCRYPT)] [])) (fun t q => XS.ifNo X3.here hx rfl (hb hby d6_10) rfl ((if0 _ _).trans (teq c4).2) q) ?_
  refine own_go (T' := T3) (g' := (mkF m 14 #[.val (.ref s_SIGN_AND_ENCRYPT)] [(.int (1 : Int32))])) (fun t q => XS.iconst X3.here hx rfl (hb hby d6_13) q) ?_
  refine own_go (T' := T3) (g' := (mkF m 18 #[.val (.ref s_SIGN_AND_ENCRYPT)] [(.int (1 : Int32))])) (fun t q => XS.goto X3.here hx rfl (pc0 := 14) (pc' := 18) rfl (hb hby d6_14) (by decide) (by decide) q) ?_
  refine own_outN X3 hx hlk hret (t := .boolean) (by simp) (hb hby d6_18) (w := (1 : Int32)) (by decide) ?_ (by decide) (by decide)
  exact ⟨rfl, e3, rfl⟩
set_option maxRecDepth 65536 in
set_option maxHeartbeats 40000000 in
theorem rm_len_SIGN_AND_ENCRYPT (l : Launch) (Z : State) (a0 : Array Value) (hw : ∀ d ∈ tables_1, d.before a0 Z = true) (ws : List Jvm.Cond) (w_INVALID w_NONE w_SIGN w_SIGN_AND_ENCRYPT s_INVALID s_NONE s_SIGN s_SIGN_AND_ENCRYPT v_INVALID v_NONE v_SIGN v_SIGN_AND_ENCRYPT : Addr) (cs : Int32) (fm : Value) (h0 : Heap) (FX : own_F Z h0 w_INVALID w_NONE w_SIGN w_SIGN_AND_ENCRYPT s_INVALID s_NONE s_SIGN s_SIGN_AND_ENCRYPT v_INVALID v_NONE v_SIGN v_SIGN_AND_ENCRYPT cs fm) :
    own_Met l (⟨"java/lang/String", "length", "()I"⟩ : MethodName) jdk_42_method_54_code 1 (some .int) ws ({ frames := 1, cells := 0, slots := 0, locals := 13 } : Room) Z #[(.ref s_SIGN_AND_ENCRYPT)] h0 (fun v h L => v = some (.int (14 : Int32)) ∧ h = h0 ∧ L = []) := by
  refine MetFree.of_bodySF (plainFor_of_name (by first | (simp [plainName, overriddenIn]; done) | decide +kernel)) hisR ?_
  intro p e s m args below meth c s₁ Bd hml0 hP hK
  obtain ⟨rfl, hZ, hh⟩ := hP
  have hx := Bd.exec
  have hby := Bd.bytes
  have hml : c.maxLocals = 1 := hml0
  have hown : s.vm.findClass "java/lang/String" = some m.cls := findClass_of_methodNamed Bd.named
  have hnm := (name_of_methodNamed Bd.named Bd.method).1
  have hlk : meth.locks = false := Bd.notSynchronized
  have hret := Bd.returns
  have X0 : Stand p l e ({ frames := 1, cells := 0, slots := 0, locals := 13 } : Room) s m #[(.ref s_SIGN_AND_ENCRYPT)] below meth c s₁ [] 0 0 := Stand.of_body Bd
  have e0 : s₁.heap = h0 := by rw [← hh, Bd.state]; rfl
  refine own_in (Q := fun v h L => v = some (.int (14 : Int32)) ∧ h = h0 ∧ L = []) (ef := by first | (simp [entryFrame, mkF, argsToLocals, Value.category, maxLocals]; done) | rfl) (g' := (mkF m 0 #[.val (.ref s_SIGN_AND_ENCRYPT)] [])) ?_
  obtain ⟨S_INVALID, E_INVALID, S_SIGN, E_SIGN, S_SIGN_AND_ENCRYPT, E_SIGN_AND_ENCRYPT, S_NONE, E_NONE, F_INVALID_ordinal, F_SIGN_ordinal, F_SIGN_AND_ENCRYPT_ordinal, F_NONE_ordinal, ne_INVALID_SIGN, ne_INVALID_SIGN_AND_ENCRYPT, ne_INVALID_NONE, ne_SIGN_SIGN_AND_ENCRYPT, ne_SIGN_NONE, ne_SIGN_AND_ENCRYPT_NONE, G_INVALID, X_INVALID, G_SIGN_AND_ENCRYPT, X_SIGN_AND_ENCRYPT, G_SIGN, X_SIGN, G_NONE, X_NONE, H_INVALID, H_SIGN_AND_ENCRYPT, H_SIGN, H_NONE, D_INVALID, D_SIGN_AND_ENCRYPT, D_SIGN, D_NONE, R_INVALID, R_NONE, R_SIGN, R_SIGN_AND_ENCRYPT, S_cs, cs0, S_fm, hfm⟩ := id FX
  refine own_go (T' := s₁) (g' := (mkF m 1 #[.val (.ref s_SIGN_AND_ENCRYPT)] [(.ref s_SIGN_AND_ENCRYPT)])) (fun t q => XS.aloadN X0.here hx rfl (hb hby d3_0) rfl rfl q) ?_
  obtain ⟨T1, X1, e1, st1⟩ := getF X0 hx hZ hown (host := "") (Or.inl (hw _ (List.mem_of_getElem? (i := 20) rfl))) Via.refl e0 H_SIGN_AND_ENCRYPT (g := (mkF m 1 #[.val (.ref s_SIGN_AND_ENCRYPT)] [(.ref s_SIGN_AND_ENCRYPT)])) rfl rfl (hb hby d3_1)
  refine own_go (T' := T1) (g' := (mkF m 4 #[.val (.ref s_SIGN_AND_ENCRYPT)] [(.ref v_SIGN_AND_ENCRYPT)])) (fun t q => st1 t q) ?_
  refine own_go (T' := T1) (g' := (mkF m 5 #[.val (.ref s_SIGN_AND_ENCRYPT)] [(.int (14 : Int32))])) (fun t q => own_len X1 hx hZ e1 R_SIGN_AND_ENCRYPT (n := (14 : Int32)) rfl (g := (mkF m 4 #[.val (.ref s_SIGN_AND_ENCRYPT)] [(.ref v_SIGN_AND_ENCRYPT)])) rfl rfl (hb hby d3_4) t q) ?_
  refine own_go (T' := T1) (g' := (mkF m 6 #[.val (.ref s_SIGN_AND_ENCRYPT)] [(.ref s_SIGN_AND_ENCRYPT), (.int (14 : Int32))])) (fun t q => XS.aloadN X1.here hx rfl (hb hby d3_5) rfl rfl q) ?_
  obtain ⟨v2, T2, L2, X2, Q2, st2⟩ := own_callV X1 hx hZ (y := (⟨"java/lang/String", "coder", "()B"⟩ : MethodName)) (b := s_SIGN_AND_ENCRYPT) (argsL := []) (rest := [(.int (14 : Int32))]) hown (hw _ (List.mem_of_getElem? (i := 22) rfl)) (hw _ (List.mem_of_getElem? (i := 23) rfl)) (hw _ (List.mem_of_getElem? (i := 25) rfl)) (hw _ (List.mem_of_getElem? (i := 24) rfl)) (hw _ (List.mem_of_getElem? (i := 18) rfl)) (hw _ (List.mem_of_getElem? (i := 26) rfl)) (rm_cod_SIGN_AND_ENCRYPT l Z a0 hw [] w_INVALID w_NONE w_SIGN w_SIGN_AND_ENCRYPT s_INVALID s_NONE s_SIGN s_SIGN_AND_ENCRYPT v_INVALID v_NONE v_SIGN v_SIGN_AND_ENCRYPT cs fm h0 FX) e1 X_SIGN_AND_ENCRYPT (by decide) (by decide) 1 (by decide) (by decide) (by decide) (g := (mkF m 6 #[.val (.ref s_SIGN_AND_ENCRYPT)] [(.ref s_SIGN_AND_ENCRYPT), (.int (14 : Int32))])) rfl (by rw [hml]; rfl) (lenOf (ps := []) (r := (some .byte)) (by decide +kernel) rfl) rfl (by show 2 * 0 + _ ≤ _; exact Nat.le_of_eq rfl) (hb hby d3_6)
  obtain ⟨rfl, e2, rfl⟩ := Q2
  refine own_go (T' := T2) (g' := (mkF m 9 #[.val (.ref s_SIGN_AND_ENCRYPT)] [(.int (0 : Int32)), (.int (14 : Int32))])) (fun t q => st2 t q) ?_
  refine own_go (T' := T2) (g' := (mkF m 10 #[.val (.ref s_SIGN_AND_ENCRYPT)] [(.int ((14 : Int32) >>> ((0 : Int32) &&& 31)))])) (fun t q => XT.ishr X2.here hx rfl (hb hby d3_9) rfl q) ?_
  refine own_outI X2 hx hlk hret (hb hby d3_10) ?_ (by decide) (by decide)
  exact ⟨congrArg (fun z => some (Value.int z)) (by decide), e2, rfl⟩
set_option maxRecDepth 65536 in
set_option maxHeartbeats 40000000 in
theorem rm_lat_SIGN_AND_ENCRYPT_0 (l : Launch) (Z : State) (a0 : Array Value) (hw : ∀ d ∈ tables_1, d.before a0 Z = true) (ws : List Jvm.Cond) (w_INVALID w_NONE w_SIGN w_SIGN_AND_ENCRYPT s_INVALID s_NONE s_SIGN s_SIGN_AND_ENCRYPT v_INVALID v_NONE v_SIGN v_SIGN_AND_ENCRYPT : Addr) (cs : Int32) (fm : Value) (h0 : Heap) (FX : own_F Z h0 w_INVALID w_NONE w_SIGN w_SIGN_AND_ENCRYPT s_INVALID s_NONE s_SIGN s_SIGN_AND_ENCRYPT v_INVALID v_NONE v_SIGN v_SIGN_AND_ENCRYPT cs fm) :
    own_Met l (⟨"java/lang/StringLatin1", "charAt", "([BI)C"⟩ : MethodName) jdk_43_method_2_code 2 (some .char) ws ({ frames := 2, cells := 0, slots := 0, locals := 27 } : Room) Z #[(.ref v_SIGN_AND_ENCRYPT), (.int (0 : Int32))] h0 (fun v h L => v = some (.int (83 : Int32)) ∧ h = h0 ∧ L = []) := by
  refine MetFree.of_bodySF (plainFor_of_name (by first | (simp [plainName, overriddenIn]; done) | decide +kernel)) hisR ?_
  intro p e s m args below meth c s₁ Bd hml0 hP hK
  obtain ⟨rfl, hZ, hh⟩ := hP
  have hx := Bd.exec
  have hby := Bd.bytes
  have hml : c.maxLocals = 2 := hml0
  have hown : s.vm.findClass "java/lang/StringLatin1" = some m.cls := findClass_of_methodNamed Bd.named
  have hnm := (name_of_methodNamed Bd.named Bd.method).1
  have hlk : meth.locks = false := Bd.notSynchronized
  have hret := Bd.returns
  have X0 : Stand p l e ({ frames := 2, cells := 0, slots := 0, locals := 27 } : Room) s m #[(.ref v_SIGN_AND_ENCRYPT), (.int (0 : Int32))] below meth c s₁ [] 0 0 := Stand.of_body Bd
  have e0 : s₁.heap = h0 := by rw [← hh, Bd.state]; rfl
  refine own_in (Q := fun v h L => v = some (.int (83 : Int32)) ∧ h = h0 ∧ L = []) (ef := by first | (simp [entryFrame, mkF, argsToLocals, Value.category, maxLocals]; done) | rfl) (g' := (mkF m 0 #[.val (.ref v_SIGN_AND_ENCRYPT), .val (.int (0 : Int32))] [])) ?_
  obtain ⟨S_INVALID, E_INVALID, S_SIGN, E_SIGN, S_SIGN_AND_ENCRYPT, E_SIGN_AND_ENCRYPT, S_NONE, E_NONE, F_INVALID_ordinal, F_SIGN_ordinal, F_SIGN_AND_ENCRYPT_ordinal, F_NONE_ordinal, ne_INVALID_SIGN, ne_INVALID_SIGN_AND_ENCRYPT, ne_INVALID_NONE, ne_SIGN_SIGN_AND_ENCRYPT, ne_SIGN_NONE, ne_SIGN_AND_ENCRYPT_NONE, G_INVALID, X_INVALID, G_SIGN_AND_ENCRYPT, X_SIGN_AND_ENCRYPT, G_SIGN, X_SIGN, G_NONE, X_NONE, H_INVALID, H_SIGN_AND_ENCRYPT, H_SIGN, H_NONE, D_INVALID, D_SIGN_AND_ENCRYPT, D_SIGN, D_NONE, R_INVALID, R_NONE, R_SIGN, R_SIGN_AND_ENCRYPT, S_cs, cs0, S_fm, hfm⟩ := id FX
  refine own_go (T' := s₁) (g' := (mkF m 1 #[.val (.ref v_SIGN_AND_ENCRYPT), .val (.int (0 : Int32))] [(.int (0 : Int32))])) (fun t q => XS.iloadN X0.here hx rfl (hb hby d7_0) rfl q) ?_
  refine own_go (T' := s₁) (g' := (mkF m 2 #[.val (.ref v_SIGN_AND_ENCRYPT), .val (.int (0 : Int32))] [(.ref v_SIGN_AND_ENCRYPT), (.int (0 : Int32))])) (fun t q => XS.aloadN X0.here hx rfl (hb hby d7_1) rfl rfl q) ?_
  refine own_go (T' := s₁) (g' := (mkF m 3 #[.val (.ref v_SIGN_AND_ENCRYPT), .val (.int (0 : Int32))] [(.int (14 : Int32)), (.int (0 : Int32))])) (fun t q => own_len X0 hx hZ e0 R_SIGN_AND_ENCRYPT (n := (14 : Int32)) rfl (g := (mkF m 2 #[.val (.ref v_SIGN_AND_ENCRYPT), .val (.int (0 : Int32))] [(.ref v_SIGN_AND_ENCRYPT), (.int (0 : Int32))])) rfl rfl (hb hby d7_2) t q) ?_
  obtain ⟨v1, T1, L1, X1, Q1, st1⟩ := own_callS X0 hx hZ (y := (⟨"java/lang/String", "checkIndex", "(II)V"⟩ : MethodName)) (argsL := [(.int (0 : Int32)), (.int (14 : Int32))]) (rest := []) hown (hw _ (List.mem_of_getElem? (i := 44) rfl)) (hw _ (List.mem_of_getElem? (i := 45) rfl)) (hw _ (List.mem_of_getElem? (i := 18) rfl)) (hw _ (List.mem_of_getElem? (i := 46) rfl)) (rm_chk l Z a0 hw [] (0 : Int32) (14 : Int32) w_INVALID w_NONE w_SIGN w_SIGN_AND_ENCRYPT s_INVALID s_NONE s_SIGN s_SIGN_AND_ENCRYPT v_INVALID v_NONE v_SIGN v_SIGN_AND_ENCRYPT cs fm h0 FX (by decide) (by decide)) e0 (by decide) (by decide) 0 (by decide) (by decide) (by decide) (g := (mkF m 3 #[.val (.ref v_SIGN_AND_ENCRYPT), .val (.int (0 : Int32))] [(.int (14 : Int32)), (.int (0 : Int32))])) rfl (by rw [hml]; rfl) (lenOf (ps := [.int, .int]) (r := none) (by decide +kernel) rfl) rfl (by show 2 * 0 + _ ≤ _; exact Nat.le_of_eq rfl) (hb hby d7_3)
  obtain ⟨rfl, e1, rfl⟩ := Q1
  refine own_go (T' := T1) (g' := (mkF m 6 #[.val (.ref v_SIGN_AND_ENCRYPT), .val (.int (0 : Int32))] [])) (fun t q => st1 t q) ?_
  refine own_go (T' := T1) (g' := (mkF m 7 #[.val (.ref v_SIGN_AND_ENCRYPT), .val (.int (0 : Int32))] [(.ref v_SIGN_AND_ENCRYPT)])) (fun t q => XS.aloadN X1.here hx rfl (hb hby d7_6) rfl rfl q) ?_
  refine own_go (T' := T1) (g' := (mkF m 8 #[.val (.ref v_SIGN_AND_ENCRYPT), .val (.int (0 : Int32))] [(.int (0 : Int32)), (.ref v_SIGN_AND_ENCRYPT)])) (fun t q => XS.iloadN X1.here hx rfl (hb hby d7_7) rfl q) ?_
  refine own_go (T' := T1) (g' := (mkF m 9 #[.val (.ref v_SIGN_AND_ENCRYPT), .val (.int (0 : Int32))] [(.int (83 : Int32))])) (fun t q => own_ldB X1 hx hZ e1 R_SIGN_AND_ENCRYPT (by decide) rfl (g := (mkF m 8 #[.val (.ref v_SIGN_AND_ENCRYPT), .val (.int (0 : Int32))] [(.int (0 : Int32)), (.ref v_SIGN_AND_ENCRYPT)])) rfl rfl (hb hby d7_8) t q) ?_
  refine own_go (T' := T1) (g' := (mkF m 12 #[.val (.ref v_SIGN_AND_ENCRYPT), .val (.int (0 : Int32))] [(.int (255 : Int32)), (.int (83 : Int32))])) (fun t q => XS.sipush X1.here hx rfl (hb hby d7_9) q) ?_
  refine own_go (T' := T1) (g' := (mkF m 13 #[.val (.ref v_SIGN_AND_ENCRYPT), .val (.int (0 : Int32))] [(.int ((83 : Int32) &&& (255 : Int32)))])) (fun t q => XS.iand X1.here hx rfl (hb hby d7_12) rfl q) ?_
  refine own_go (T' := T1) (g' := (mkF m 14 #[.val (.ref v_SIGN_AND_ENCRYPT), .val (.int (0 : Int32))] [(.int ((((83 : Int32) &&& (255 : Int32))).toUInt32.toUInt16.toUInt32.toInt32))])) (fun t q => XT.i2c X1.here hx rfl (hb hby d7_13) rfl q) ?_
  refine own_outN X1 hx hlk hret (t := .char) (by simp) (hb hby d7_14) (w := (nar .char ((((83 : Int32) &&& (255 : Int32))).toUInt32.toUInt16.toUInt32.toInt32))) rfl ?_ (by decide) (by decide)
  exact ⟨congrArg (fun z => some (Value.int z)) (by decide), e1, rfl⟩
set_option maxRecDepth 65536 in
set_option maxHeartbeats 40000000 in
theorem rm_ch_SIGN_AND_ENCRYPT_0 (l : Launch) (Z : State) (a0 : Array Value) (hw : ∀ d ∈ tables_1, d.before a0 Z = true) (ws : List Jvm.Cond) (w_INVALID w_NONE w_SIGN w_SIGN_AND_ENCRYPT s_INVALID s_NONE s_SIGN s_SIGN_AND_ENCRYPT v_INVALID v_NONE v_SIGN v_SIGN_AND_ENCRYPT : Addr) (cs : Int32) (fm : Value) (h0 : Heap) (FX : own_F Z h0 w_INVALID w_NONE w_SIGN w_SIGN_AND_ENCRYPT s_INVALID s_NONE s_SIGN s_SIGN_AND_ENCRYPT v_INVALID v_NONE v_SIGN v_SIGN_AND_ENCRYPT cs fm) :
    own_Met l (⟨"java/lang/String", "charAt", "(I)C"⟩ : MethodName) jdk_42_method_56_code 2 (some .char) ws ({ frames := 3, cells := 0, slots := 0, locals := 40 } : Room) Z #[(.ref s_SIGN_AND_ENCRYPT), (.int (0 : Int32))] h0 (fun v h L => v = some (.int (83 : Int32)) ∧ h = h0 ∧ L = []) := by
  refine MetFree.of_bodySF (plainFor_of_name (by first | (simp [plainName, overriddenIn]; done) | decide +kernel)) hisR ?_
  intro p e s m args below meth c s₁ Bd hml0 hP hK
  obtain ⟨rfl, hZ, hh⟩ := hP
  have hx := Bd.exec
  have hby := Bd.bytes
  have hml : c.maxLocals = 2 := hml0
  have hown : s.vm.findClass "java/lang/String" = some m.cls := findClass_of_methodNamed Bd.named
  have hnm := (name_of_methodNamed Bd.named Bd.method).1
  have hlk : meth.locks = false := Bd.notSynchronized
  have hret := Bd.returns
  have X0 : Stand p l e ({ frames := 3, cells := 0, slots := 0, locals := 40 } : Room) s m #[(.ref s_SIGN_AND_ENCRYPT), (.int (0 : Int32))] below meth c s₁ [] 0 0 := Stand.of_body Bd
  have e0 : s₁.heap = h0 := by rw [← hh, Bd.state]; rfl
  refine own_in (Q := fun v h L => v = some (.int (83 : Int32)) ∧ h = h0 ∧ L = []) (ef := by first | (simp [entryFrame, mkF, argsToLocals, Value.category, maxLocals]; done) | rfl) (g' := (mkF m 0 #[.val (.ref s_SIGN_AND_ENCRYPT), .val (.int (0 : Int32))] [])) ?_
  obtain ⟨S_INVALID, E_INVALID, S_SIGN, E_SIGN, S_SIGN_AND_ENCRYPT, E_SIGN_AND_ENCRYPT, S_NONE, E_NONE, F_INVALID_ordinal, F_SIGN_ordinal, F_SIGN_AND_ENCRYPT_ordinal, F_NONE_ordinal, ne_INVALID_SIGN, ne_INVALID_SIGN_AND_ENCRYPT, ne_INVALID_NONE, ne_SIGN_SIGN_AND_ENCRYPT, ne_SIGN_NONE, ne_SIGN_AND_ENCRYPT_NONE, G_INVALID, X_INVALID, G_SIGN_AND_ENCRYPT, X_SIGN_AND_ENCRYPT, G_SIGN, X_SIGN, G_NONE, X_NONE, H_INVALID, H_SIGN_AND_ENCRYPT, H_SIGN, H_NONE, D_INVALID, D_SIGN_AND_ENCRYPT, D_SIGN, D_NONE, R_INVALID, R_NONE, R_SIGN, R_SIGN_AND_ENCRYPT, S_cs, cs0, S_fm, hfm⟩ := id FX
  refine own_go (T' := s₁) (g' := (mkF m 1 #[.val (.ref s_SIGN_AND_ENCRYPT), .val (.int (0 : Int32))] [(.ref s_SIGN_AND_ENCRYPT)])) (fun t q => XS.aloadN X0.here hx rfl (hb hby d5_0) rfl rfl q) ?_
  obtain ⟨v1, T1, L1, X1, Q1, st1⟩ := own_callV X0 hx hZ (y := (⟨"java/lang/String", "isLatin1", "()Z"⟩ : MethodName)) (b := s_SIGN_AND_ENCRYPT) (argsL := []) (rest := []) hown (hw _ (List.mem_of_getElem? (i := 35) rfl)) (hw _ (List.mem_of_getElem? (i := 36) rfl)) (hw _ (List.mem_of_getElem? (i := 38) rfl)) (hw _ (List.mem_of_getElem? (i := 37) rfl)) (hw _ (List.mem_of_getElem? (i := 18) rfl)) (hw _ (List.mem_of_getElem? (i := 39) rfl)) (rm_isl_SIGN_AND_ENCRYPT l Z a0 hw [] w_INVALID w_NONE w_SIGN w_SIGN_AND_ENCRYPT s_INVALID s_NONE s_SIGN s_SIGN_AND_ENCRYPT v_INVALID v_NONE v_SIGN v_SIGN_AND_ENCRYPT cs fm h0 FX) e0 X_SIGN_AND_ENCRYPT (by decide) (by decide) 0 (by decide) (by decide) (by decide) (g := (mkF m 1 #[.val (.ref s_SIGN_AND_ENCRYPT), .val (.int (0 : Int32))] [(.ref s_SIGN_AND_ENCRYPT)])) rfl (by rw [hml]; rfl) (lenOf (ps := []) (r := (some .boolean)) (by decide +kernel) rfl) rfl (by show 2 * 0 + _ ≤ _; exact Nat.le_of_eq rfl) (hb hby d5_1)
  obtain ⟨rfl, e1, rfl⟩ := Q1
  refine own_go (T' := T1) (g' := (mkF m 4 #[.val (.ref s_SIGN_AND_ENCRYPT), .val (.int (0 : Int32))] [(.int (1 : Int32))])) (fun t q => st1 t q) ?_
  have c2 : ¬ ((1 : Int32) = (0 : Int32)) := by decide
  refine own_go (T' := T1) (g' := (mkF m 7 #[.val (.ref s_SIGN_AND_ENCRYPT), .val (.int (0 : Int32))] [])) (fun t q => XS.ifNo X1.here hx rfl (hb hby d5_4) rfl ((if0 _ _).trans (feq c2).1) q) ?_
  refine own_go (T' := T1) (g' := (mkF m 8 #[.val (.ref s_SIGN_AND_ENCRYPT), .val (.int (0 : Int32))] [(.ref s_SIGN_AND_ENCRYPT)])) (fun t q => XS.aloadN X1.here hx rfl (hb hby d5_7) rfl rfl q) ?_
  obtain ⟨T3, X3, e3, st3⟩ := getF X1 hx hZ hown (host := "") (Or.inl (hw _ (List.mem_of_getElem? (i := 20) rfl))) Via.refl e1 H_SIGN_AND_ENCRYPT (g := (mkF m 8 #[.val (.ref s_SIGN_AND_ENCRYPT), .val (.int (0 : Int32))] [(.ref s_SIGN_AND_ENCRYPT)])) rfl rfl (hb hby d5_8)
  refine own_go (T' := T3) (g' := (mkF m 11 #[.val (.ref s_SIGN_AND_ENCRYPT), .val (.int (0 : Int32))] [(.ref v_SIGN_AND_ENCRYPT)])) (fun t q => st3 t q) ?_
  refine own_go (T' := T3) (g' := (mkF m 12 #[.val (.ref s_SIGN_AND_ENCRYPT), .val (.int (0 : Int32))] [(.int (0 : Int32)), (.ref v_SIGN_AND_ENCRYPT)])) (fun t q => XS.iloadN X3.here hx rfl (hb hby d5_11) rfl q) ?_
  obtain ⟨v4, T4, L4, X4, Q4, st4⟩ := own_callS X3 hx hZ (y := (⟨"java/lang/StringLatin1", "charAt", "([BI)C"⟩ : MethodName)) (argsL := [(.ref v_SIGN_AND_ENCRYPT), (.int (0 : Int32))]) (rest := []) hown (hw _ (List.mem_of_getElem? (i := 40) rfl)) (hw _ (List.mem_of_getElem? (i := 41) rfl)) (hw _ (List.mem_of_getElem? (i := 42) rfl)) (hw _ (List.mem_of_getElem? (i := 43) rfl)) (rm_lat_SIGN_AND_ENCRYPT_0 l Z a0 hw [] w_INVALID w_NONE w_SIGN w_SIGN_AND_ENCRYPT s_INVALID s_NONE s_SIGN s_SIGN_AND_ENCRYPT v_INVALID v_NONE v_SIGN v_SIGN_AND_ENCRYPT cs fm h0 FX) e3 (by decide) (by decide) 0 (by decide) (by decide) (by decide) (g := (mkF m 12 #[.val (.ref s_SIGN_AND_ENCRYPT), .val (.int (0 : Int32))] [(.int (0 : Int32)), (.ref v_SIGN_AND_ENCRYPT)])) rfl (by rw [hml]; rfl) (lenOf (ps := [(.array .byte), .int]) (r := (some .char)) (by decide +kernel) rfl) rfl (by show 2 * 0 + _ ≤ _; exact Nat.le_of_eq rfl) (hb hby d5_12)
  obtain ⟨rfl, e4, rfl⟩ := Q4
  refine own_go (T' := T4) (g' := (mkF m 15 #[.val (.ref s_SIGN_AND_ENCRYPT), .val (.int (0 : Int32))] [(.int (83 : Int32))])) (fun t q => st4 t q) ?_
  refine own_outN X4 hx hlk hret (t := .char) (by simp) (hb hby d5_15) (w := (83 : Int32)) (by decide) ?_ (by decide) (by decide)
  exact ⟨rfl, e4, rfl⟩
set_option maxRecDepth 65536 in
set_option maxHeartbeats 40000000 in
theorem rm_lat_SIGN_AND_ENCRYPT_1 (l : Launch) (Z : State) (a0 : Array Value) (hw : ∀ d ∈ tables_1, d.before a0 Z = true) (ws : List Jvm.Cond) (w_INVALID w_NONE w_SIGN w_SIGN_AND_ENCRYPT s_INVALID s_NONE s_SIGN s_SIGN_AND_ENCRYPT v_INVALID v_NONE v_SIGN v_SIGN_AND_ENCRYPT : Addr) (cs : Int32) (fm : Value) (h0 : Heap) (FX : own_F Z h0 w_INVALID w_NONE w_SIGN w_SIGN_AND_ENCRYPT s_INVALID s_NONE s_SIGN s_SIGN_AND_ENCRYPT v_INVALID v_NONE v_SIGN v_SIGN_AND_ENCRYPT cs fm) :
    own_Met l (⟨"java/lang/StringLatin1", "charAt", "([BI)C"⟩ : MethodName) jdk_43_method_2_code 2 (some .char) ws ({ frames := 2, cells := 0, slots := 0, locals := 27 } : Room) Z #[(.ref v_SIGN_AND_ENCRYPT), (.int (1 : Int32))] h0 (fun v h L => v = some (.int (105 : Int32)) ∧ h = h0 ∧ L = []) := by
  refine MetFree.of_bodySF (plainFor_of_name (by first | (simp [plainName, overriddenIn]; done) | decide +kernel)) hisR ?_
  intro p e s m args below meth c s₁ Bd hml0 hP hK
  obtain ⟨rfl, hZ, hh⟩ := hP
  have hx := Bd.exec
  have hby := Bd.bytes
  have hml : c.maxLocals = 2 := hml0
  have hown : s.vm.findClass "java/lang/StringLatin1" = some m.cls := findClass_of_methodNamed Bd.named
  have hnm := (name_of_methodNamed Bd.named Bd.method).1
  have hlk : meth.locks = false := Bd.notSynchronized
  have hret := Bd.returns
  have X0 : Stand p l e ({ frames := 2, cells := 0, slots := 0, locals := 27 } : Room) s m #[(.ref v_SIGN_AND_ENCRYPT), (.int (1 : Int32))] below meth c s₁ [] 0 0 := Stand.of_body Bd
  have e0 : s₁.heap = h0 := by rw [← hh, Bd.state]; rfl
  refine own_in (Q := fun v h L => v = some (.int (105 : Int32)) ∧ h = h0 ∧ L = []) (ef := by first | (simp [entryFrame, mkF, argsToLocals, Value.category, maxLocals]; done) | rfl) (g' := (mkF m 0 #[.val (.ref v_SIGN_AND_ENCRYPT), .val (.int (1 : Int32))] [])) ?_
  obtain ⟨S_INVALID, E_INVALID, S_SIGN, E_SIGN, S_SIGN_AND_ENCRYPT, E_SIGN_AND_ENCRYPT, S_NONE, E_NONE, F_INVALID_ordinal, F_SIGN_ordinal, F_SIGN_AND_ENCRYPT_ordinal, F_NONE_ordinal, ne_INVALID_SIGN, ne_INVALID_SIGN_AND_ENCRYPT, ne_INVALID_NONE, ne_SIGN_SIGN_AND_ENCRYPT, ne_SIGN_NONE, ne_SIGN_AND_ENCRYPT_NONE, G_INVALID, X_INVALID, G_SIGN_AND_ENCRYPT, X_SIGN_AND_ENCRYPT, G_SIGN, X_SIGN, G_NONE, X_NONE, H_INVALID, H_SIGN_AND_ENCRYPT, H_SIGN, H_NONE, D_INVALID, D_SIGN_AND_ENCRYPT, D_SIGN, D_NONE, R_INVALID, R_NONE, R_SIGN, R_SIGN_AND_ENCRYPT, S_cs, cs0, S_fm, hfm⟩ := id FX
  refine own_go (T' := s₁) (g' := (mkF m 1 #[.val (.ref v_SIGN_AND_ENCRYPT), .val (.int (1 : Int32))] [(.int (1 : Int32))])) (fun t q => XS.iloadN X0.here hx rfl (hb hby d7_0) rfl q) ?_
  refine own_go (T' := s₁) (g' := (mkF m 2 #[.val (.ref v_SIGN_AND_ENCRYPT), .val (.int (1 : Int32))] [(.ref v_SIGN_AND_ENCRYPT), (.int (1 : Int32))])) (fun t q => XS.aloadN X0.here hx rfl (hb hby d7_1) rfl rfl q) ?_
  refine own_go (T' := s₁) (g' := (mkF m 3 #[.val (.ref v_SIGN_AND_ENCRYPT), .val (.int (1 : Int32))] [(.int (14 : Int32)), (.int (1 : Int32))])) (fun t q => own_len X0 hx hZ e0 R_SIGN_AND_ENCRYPT (n := (14 : Int32)) rfl (g := (mkF m 2 #[.val (.ref v_SIGN_AND_ENCRYPT), .val (.int (1 : Int32))] [(.ref v_SIGN_AND_ENCRYPT), (.int (1 : Int32))])) rfl rfl (hb hby d7_2) t q) ?_
  obtain ⟨v1, T1, L1, X1, Q1, st1⟩ := own_callS X0 hx hZ (y := (⟨"java/lang/String", "checkIndex", "(II)V"⟩ : MethodName)) (argsL := [(.int (1 : Int32)), (.int (14 : Int32))]) (rest := []) hown (hw _ (List.mem_of_getElem? (i := 44) rfl)) (hw _ (List.mem_of_getElem? (i := 45) rfl)) (hw _ (List.mem_of_getElem? (i := 18) rfl)) (hw _ (List.mem_of_getElem? (i := 46) rfl)) (rm_chk l Z a0 hw [] (1 : Int32) (14 : Int32) w_INVALID w_NONE w_SIGN w_SIGN_AND_ENCRYPT s_INVALID s_NONE s_SIGN s_SIGN_AND_ENCRYPT v_INVALID v_NONE v_SIGN v_SIGN_AND_ENCRYPT cs fm h0 FX (by decide) (by decide)) e0 (by decide) (by decide) 0 (by decide) (by decide) (by decide) (g := (mkF m 3 #[.val (.ref v_SIGN_AND_ENCRYPT), .val (.int (1 : Int32))] [(.int (14 : Int32)), (.int (1 : Int32))])) rfl (by rw [hml]; rfl) (lenOf (ps := [.int, .int]) (r := none) (by decide +kernel) rfl) rfl (by show 2 * 0 + _ ≤ _; exact Nat.le_of_eq rfl) (hb hby d7_3)
  obtain ⟨rfl, e1, rfl⟩ := Q1
  refine own_go (T' := T1) (g' := (mkF m 6 #[.val (.ref v_SIGN_AND_ENCRYPT), .val (.int (1 : Int32))] [])) (fun t q => st1 t q) ?_
  refine own_go (T' := T1) (g' := (mkF m 7 #[.val (.ref v_SIGN_AND_ENCRYPT), .val (.int (1 : Int32))] [(.ref v_SIGN_AND_ENCRYPT)])) (fun t q => XS.aloadN X1.here hx rfl (hb hby d7_6) rfl rfl q) ?_
  refine own_go (T' := T1) (g' := (mkF m 8 #[.val (.ref v_SIGN_AND_ENCRYPT), .val (.int (1 : Int32))] [(.int (1 : Int32)), (.ref v_SIGN_AND_ENCRYPT)])) (fun t q => XS.iloadN X1.here hx rfl (hb hby d7_7) rfl q) ?_
  refine own_go (T' := T1) (g' := (mkF m 9 #[.val (.ref v_SIGN_AND_ENCRYPT), .val (.int (1 : Int32))] [(.int (105 : Int32))])) (fun t q => own_ldB X1 hx hZ e1 R_SIGN_AND_ENCRYPT (by decide) rfl (g := (mkF m 8 #[.val (.ref v_SIGN_AND_ENCRYPT), .val (.int (1 : Int32))] [(.int (1 : Int32)), (.ref v_SIGN_AND_ENCRYPT)])) rfl rfl (hb hby d7_8) t q) ?_
  refine own_go (T' := T1) (g' := (mkF m 12 #[.val (.ref v_SIGN_AND_ENCRYPT), .val (.int (1 : Int32))] [(.int (255 : Int32)), (.int (105 : Int32))])) (fun t q => XS.sipush X1.here hx rfl (hb hby d7_9) q) ?_
  refine own_go (T' := T1) (g' := (mkF m 13 #[.val (.ref v_SIGN_AND_ENCRYPT), .val (.int (1 : Int32))] [(.int ((105 : Int32) &&& (255 : Int32)))])) (fun t q => XS.iand X1.here hx rfl (hb hby d7_12) rfl q) ?_
  refine own_go (T' := T1) (g' := (mkF m 14 #[.val (.ref v_SIGN_AND_ENCRYPT), .val (.int (1 : Int32))] [(.int ((((105 : Int32) &&& (255 : Int32))).toUInt32.toUInt16.toUInt32.toInt32))])) (fun t q => XT.i2c X1.here hx rfl (hb hby d7_13) rfl q) ?_
  refine own_outN X1 hx hlk hret (t := .char) (by simp) (hb hby d7_14) (w := (nar .char ((((105 : Int32) &&& (255 : Int32))).toUInt32.toUInt16.toUInt32.toInt32))) rfl ?_ (by decide) (by decide)
  exact ⟨congrArg (fun z => some (Value.int z)) (by decide), e1, rfl⟩
set_option maxRecDepth 65536 in
set_option maxHeartbeats 40000000 in
theorem rm_ch_SIGN_AND_ENCRYPT_1 (l : Launch) (Z : State) (a0 : Array Value) (hw : ∀ d ∈ tables_1, d.before a0 Z = true) (ws : List Jvm.Cond) (w_INVALID w_NONE w_SIGN w_SIGN_AND_ENCRYPT s_INVALID s_NONE s_SIGN s_SIGN_AND_ENCRYPT v_INVALID v_NONE v_SIGN v_SIGN_AND_ENCRYPT : Addr) (cs : Int32) (fm : Value) (h0 : Heap) (FX : own_F Z h0 w_INVALID w_NONE w_SIGN w_SIGN_AND_ENCRYPT s_INVALID s_NONE s_SIGN s_SIGN_AND_ENCRYPT v_INVALID v_NONE v_SIGN v_SIGN_AND_ENCRYPT cs fm) :
    own_Met l (⟨"java/lang/String", "charAt", "(I)C"⟩ : MethodName) jdk_42_method_56_code 2 (some .char) ws ({ frames := 3, cells := 0, slots := 0, locals := 40 } : Room) Z #[(.ref s_SIGN_AND_ENCRYPT), (.int (1 : Int32))] h0 (fun v h L => v = some (.int (105 : Int32)) ∧ h = h0 ∧ L = []) := by
  refine MetFree.of_bodySF (plainFor_of_name (by first | (simp [plainName, overriddenIn]; done) | decide +kernel)) hisR ?_
  intro p e s m args below meth c s₁ Bd hml0 hP hK
  obtain ⟨rfl, hZ, hh⟩ := hP
  have hx := Bd.exec
  have hby := Bd.bytes
  have hml : c.maxLocals = 2 := hml0
  have hown : s.vm.findClass "java/lang/String" = some m.cls := findClass_of_methodNamed Bd.named
  have hnm := (name_of_methodNamed Bd.named Bd.method).1
  have hlk : meth.locks = false := Bd.notSynchronized
  have hret := Bd.returns
  have X0 : Stand p l e ({ frames := 3, cells := 0, slots := 0, locals := 40 } : Room) s m #[(.ref s_SIGN_AND_ENCRYPT), (.int (1 : Int32))] below meth c s₁ [] 0 0 := Stand.of_body Bd
  have e0 : s₁.heap = h0 := by rw [← hh, Bd.state]; rfl
  refine own_in (Q := fun v h L => v = some (.int (105 : Int32)) ∧ h = h0 ∧ L = []) (ef := by first | (simp [entryFrame, mkF, argsToLocals, Value.category, maxLocals]; done) | rfl) (g' := (mkF m 0 #[.val (.ref s_SIGN_AND_ENCRYPT), .val (.int (1 : Int32))] [])) ?_
  obtain ⟨S_INVALID, E_INVALID, S_SIGN, E_SIGN, S_SIGN_AND_ENCRYPT, E_SIGN_AND_ENCRYPT, S_NONE, E_NONE, F_INVALID_ordinal, F_SIGN_ordinal, F_SIGN_AND_ENCRYPT_ordinal, F_NONE_ordinal, ne_INVALID_SIGN, ne_INVALID_SIGN_AND_ENCRYPT, ne_INVALID_NONE, ne_SIGN_SIGN_AND_ENCRYPT, ne_SIGN_NONE, ne_SIGN_AND_ENCRYPT_NONE, G_INVALID, X_INVALID, G_SIGN_AND_ENCRYPT, X_SIGN_AND_ENCRYPT, G_SIGN, X_SIGN, G_NONE, X_NONE, H_INVALID, H_SIGN_AND_ENCRYPT, H_SIGN, H_NONE, D_INVALID, D_SIGN_AND_ENCRYPT, D_SIGN, D_NONE, R_INVALID, R_NONE, R_SIGN, R_SIGN_AND_ENCRYPT, S_cs, cs0, S_fm, hfm⟩ := id FX
  refine own_go (T' := s₁) (g' := (mkF m 1 #[.val (.ref s_SIGN_AND_ENCRYPT), .val (.int (1 : Int32))] [(.ref s_SIGN_AND_ENCRYPT)])) (fun t q => XS.aloadN X0.here hx rfl (hb hby d5_0) rfl rfl q) ?_
  obtain ⟨v1, T1, L1, X1, Q1, st1⟩ := own_callV X0 hx hZ (y := (⟨"java/lang/String", "isLatin1", "()Z"⟩ : MethodName)) (b := s_SIGN_AND_ENCRYPT) (argsL := []) (rest := []) hown (hw _ (List.mem_of_getElem? (i := 35) rfl)) (hw _ (List.mem_of_getElem? (i := 36) rfl)) (hw _ (List.mem_of_getElem? (i := 38) rfl)) (hw _ (List.mem_of_getElem? (i := 37) rfl)) (hw _ (List.mem_of_getElem? (i := 18) rfl)) (hw _ (List.mem_of_getElem? (i := 39) rfl)) (rm_isl_SIGN_AND_ENCRYPT l Z a0 hw [] w_INVALID w_NONE w_SIGN w_SIGN_AND_ENCRYPT s_INVALID s_NONE s_SIGN s_SIGN_AND_ENCRYPT v_INVALID v_NONE v_SIGN v_SIGN_AND_ENCRYPT cs fm h0 FX) e0 X_SIGN_AND_ENCRYPT (by decide) (by decide) 0 (by decide) (by decide) (by decide) (g := (mkF m 1 #[.val (.ref s_SIGN_AND_ENCRYPT), .val (.int (1 : Int32))] [(.ref s_SIGN_AND_ENCRYPT)])) rfl (by rw [hml]; rfl) (lenOf (ps := []) (r := (some .boolean)) (by decide +kernel) rfl) rfl (by show 2 * 0 + _ ≤ _; exact Nat.le_of_eq rfl) (hb hby d5_1)
  obtain ⟨rfl, e1, rfl⟩ := Q1
  refine own_go (T' := T1) (g' := (mkF m 4 #[.val (.ref s_SIGN_AND_ENCRYPT), .val (.int (1 : Int32))] [(.int (1 : Int32))])) (fun t q => st1 t q) ?_
  have c2 : ¬ ((1 : Int32) = (0 : Int32)) := by decide
  refine own_go (T' := T1) (g' := (mkF m 7 #[.val (.ref s_SIGN_AND_ENCRYPT), .val (.int (1 : Int32))] [])) (fun t q => XS.ifNo X1.here hx rfl (hb hby d5_4) rfl ((if0 _ _).trans (feq c2).1) q) ?_
  refine own_go (T' := T1) (g' := (mkF m 8 #[.val (.ref s_SIGN_AND_ENCRYPT), .val (.int (1 : Int32))] [(.ref s_SIGN_AND_ENCRYPT)])) (fun t q => XS.aloadN X1.here hx rfl (hb hby d5_7) rfl rfl q) ?_
  obtain ⟨T3, X3, e3, st3⟩ := getF X1 hx hZ hown (host := "") (Or.inl (hw _ (List.mem_of_getElem? (i := 20) rfl))) Via.refl e1 H_SIGN_AND_ENCRYPT (g := (mkF m 8 #[.val (.ref s_SIGN_AND_ENCRYPT), .val (.int (1 : Int32))] [(.ref s_SIGN_AND_ENCRYPT)])) rfl rfl (hb hby d5_8)
  refine own_go (T' := T3) (g' := (mkF m 11 #[.val (.ref s_SIGN_AND_ENCRYPT), .val (.int (1 : Int32))] [(.ref v_SIGN_AND_ENCRYPT)])) (fun t q => st3 t q) ?_
  refine own_go (T' := T3) (g' := (mkF m 12 #[.val (.ref s_SIGN_AND_ENCRYPT), .val (.int (1 : Int32))] [(.int (1 : Int32)), (.ref v_SIGN_AND_ENCRYPT)])) (fun t q => XS.iloadN X3.here hx rfl (hb hby d5_11) rfl q) ?_
  obtain ⟨v4, T4, L4, X4, Q4, st4⟩ := own_callS X3 hx hZ (y := (⟨"java/lang/StringLatin1", "charAt", "([BI)C"⟩ : MethodName)) (argsL := [(.ref v_SIGN_AND_ENCRYPT), (.int (1 : Int32))]) (rest := []) hown (hw _ (List.mem_of_getElem? (i := 40) rfl)) (hw _ (List.mem_of_getElem? (i := 41) rfl)) (hw _ (List.mem_of_getElem? (i := 42) rfl)) (hw _ (List.mem_of_getElem? (i := 43) rfl)) (rm_lat_SIGN_AND_ENCRYPT_1 l Z a0 hw [] w_INVALID w_NONE w_SIGN w_SIGN_AND_ENCRYPT s_INVALID s_NONE s_SIGN s_SIGN_AND_ENCRYPT v_INVALID v_NONE v_SIGN v_SIGN_AND_ENCRYPT cs fm h0 FX) e3 (by decide) (by decide) 0 (by decide) (by decide) (by decide) (g := (mkF m 12 #[.val (.ref s_SIGN_AND_ENCRYPT), .val (.int (1 : Int32))] [(.int (1 : Int32)), (.ref v_SIGN_AND_ENCRYPT)])) rfl (by rw [hml]; rfl) (lenOf (ps := [(.array .byte), .int]) (r := (some .char)) (by decide +kernel) rfl) rfl (by show 2 * 0 + _ ≤ _; exact Nat.le_of_eq rfl) (hb hby d5_12)
  obtain ⟨rfl, e4, rfl⟩ := Q4
  refine own_go (T' := T4) (g' := (mkF m 15 #[.val (.ref s_SIGN_AND_ENCRYPT), .val (.int (1 : Int32))] [(.int (105 : Int32))])) (fun t q => st4 t q) ?_
  refine own_outN X4 hx hlk hret (t := .char) (by simp) (hb hby d5_15) (w := (105 : Int32)) (by decide) ?_ (by decide) (by decide)
  exact ⟨rfl, e4, rfl⟩
set_option maxRecDepth 65536 in
set_option maxHeartbeats 40000000 in
theorem rm_lat_SIGN_AND_ENCRYPT_2 (l : Launch) (Z : State) (a0 : Array Value) (hw : ∀ d ∈ tables_1, d.before a0 Z = true) (ws : List Jvm.Cond) (w_INVALID w_NONE w_SIGN w_SIGN_AND_ENCRYPT s_INVALID s_NONE s_SIGN s_SIGN_AND_ENCRYPT v_INVALID v_NONE v_SIGN v_SIGN_AND_ENCRYPT : Addr) (cs : Int32) (fm : Value) (h0 : Heap) (FX : own_F Z h0 w_INVALID w_NONE w_SIGN w_SIGN_AND_ENCRYPT s_INVALID s_NONE s_SIGN s_SIGN_AND_ENCRYPT v_INVALID v_NONE v_SIGN v_SIGN_AND_ENCRYPT cs fm) :
    own_Met l (⟨"java/lang/StringLatin1", "charAt", "([BI)C"⟩ : MethodName) jdk_43_method_2_code 2 (some .char) ws ({ frames := 2, cells := 0, slots := 0, locals := 27 } : Room) Z #[(.ref v_SIGN_AND_ENCRYPT), (.int (2 : Int32))] h0 (fun v h L => v = some (.int (103 : Int32)) ∧ h = h0 ∧ L = []) := by
  refine MetFree.of_bodySF (plainFor_of_name (by first | (simp [plainName, overriddenIn]; done) | decide +kernel)) hisR ?_
  intro p e s m args below meth c s₁ Bd hml0 hP hK
  obtain ⟨rfl, hZ, hh⟩ := hP
  have hx := Bd.exec
  have hby := Bd.bytes
  have hml : c.maxLocals = 2 := hml0
  have hown : s.vm.findClass "java/lang/StringLatin1" = some m.cls := findClass_of_methodNamed Bd.named
  have hnm := (name_of_methodNamed Bd.named Bd.method).1
  have hlk : meth.locks = false := Bd.notSynchronized
  have hret := Bd.returns
  have X0 : Stand p l e ({ frames := 2, cells := 0, slots := 0, locals := 27 } : Room) s m #[(.ref v_SIGN_AND_ENCRYPT), (.int (2 : Int32))] below meth c s₁ [] 0 0 := Stand.of_body Bd
  have e0 : s₁.heap = h0 := by rw [← hh, Bd.state]; rfl
  refine own_in (Q := fun v h L => v = some (.int (103 : Int32)) ∧ h = h0 ∧ L = []) (ef := by first | (simp [entryFrame, mkF, argsToLocals, Value.category, maxLocals]; done) | rfl) (g' := (mkF m 0 #[.val (.ref v_SIGN_AND_ENCRYPT), .val (.int (2 : Int32))] [])) ?_
  obtain ⟨S_INVALID, E_INVALID, S_SIGN, E_SIGN, S_SIGN_AND_ENCRYPT, E_SIGN_AND_ENCRYPT, S_NONE, E_NONE, F_INVALID_ordinal, F_SIGN_ordinal, F_SIGN_AND_ENCRYPT_ordinal, F_NONE_ordinal, ne_INVALID_SIGN, ne_INVALID_SIGN_AND_ENCRYPT, ne_INVALID_NONE, ne_SIGN_SIGN_AND_ENCRYPT, ne_SIGN_NONE, ne_SIGN_AND_ENCRYPT_NONE, G_INVALID, X_INVALID, G_SIGN_AND_ENCRYPT, X_SIGN_AND_ENCRYPT, G_SIGN, X_SIGN, G_NONE, X_NONE, H_INVALID, H_SIGN_AND_ENCRYPT, H_SIGN, H_NONE, D_INVALID, D_SIGN_AND_ENCRYPT, D_SIGN, D_NONE, R_INVALID, R_NONE, R_SIGN, R_SIGN_AND_ENCRYPT, S_cs, cs0, S_fm, hfm⟩ := id FX
  refine own_go (T' := s₁) (g' := (mkF m 1 #[.val (.ref v_SIGN_AND_ENCRYPT), .val (.int (2 : Int32))] [(.int (2 : Int32))])) (fun t q => XS.iloadN X0.here hx rfl (hb hby d7_0) rfl q) ?_
  refine own_go (T' := s₁) (g' := (mkF m 2 #[.val (.ref v_SIGN_AND_ENCRYPT), .val (.int (2 : Int32))] [(.ref v_SIGN_AND_ENCRYPT), (.int (2 : Int32))])) (fun t q => XS.aloadN X0.here hx rfl (hb hby d7_1) rfl rfl q) ?_
  refine own_go (T' := s₁) (g' := (mkF m 3 #[.val (.ref v_SIGN_AND_ENCRYPT), .val (.int (2 : Int32))] [(.int (14 : Int32)), (.int (2 : Int32))])) (fun t q => own_len X0 hx hZ e0 R_SIGN_AND_ENCRYPT (n := (14 : Int32)) rfl (g := (mkF m 2 #[.val (.ref v_SIGN_AND_ENCRYPT), .val (.int (2 : Int32))] [(.ref v_SIGN_AND_ENCRYPT), (.int (2 : Int32))])) rfl rfl (hb hby d7_2) t q) ?_
  obtain ⟨v1, T1, L1, X1, Q1, st1⟩ := own_callS X0 hx hZ (y := (⟨"java/lang/String", "checkIndex", "(II)V"⟩ : MethodName)) (argsL := [(.int (2 : Int32)), (.int (14 : Int32))]) (rest := []) hown (hw _ (List.mem_of_getElem? (i := 44) rfl)) (hw _ (List.mem_of_getElem? (i := 45) rfl)) (hw _ (List.mem_of_getElem? (i := 18) rfl)) (hw _ (List.mem_of_getElem? (i := 46) rfl)) (rm_chk l Z a0 hw [] (2 : Int32) (14 : Int32) w_INVALID w_NONE w_SIGN w_SIGN_AND_ENCRYPT s_INVALID s_NONE s_SIGN s_SIGN_AND_ENCRYPT v_INVALID v_NONE v_SIGN v_SIGN_AND_ENCRYPT cs fm h0 FX (by decide) (by decide)) e0 (by decide) (by decide) 0 (by decide) (by decide) (by decide) (g := (mkF m 3 #[.val (.ref v_SIGN_AND_ENCRYPT), .val (.int (2 : Int32))] [(.int (14 : Int32)), (.int (2 : Int32))])) rfl (by rw [hml]; rfl) (lenOf (ps := [.int, .int]) (r := none) (by decide +kernel) rfl) rfl (by show 2 * 0 + _ ≤ _; exact Nat.le_of_eq rfl) (hb hby d7_3)
  obtain ⟨rfl, e1, rfl⟩ := Q1
  refine own_go (T' := T1) (g' := (mkF m 6 #[.val (.ref v_SIGN_AND_ENCRYPT), .val (.int (2 : Int32))] [])) (fun t q => st1 t q) ?_
  refine own_go (T' := T1) (g' := (mkF m 7 #[.val (.ref v_SIGN_AND_ENCRYPT), .val (.int (2 : Int32))] [(.ref v_SIGN_AND_ENCRYPT)])) (fun t q => XS.aloadN X1.here hx rfl (hb hby d7_6) rfl rfl q) ?_
  refine own_go (T' := T1) (g' := (mkF m 8 #[.val (.ref v_SIGN_AND_ENCRYPT), .val (.int (2 : Int32))] [(.int (2 : Int32)), (.ref v_SIGN_AND_ENCRYPT)])) (fun t q => XS.iloadN X1.here hx rfl (hb hby d7_7) rfl q) ?_
  refine own_go (T' := T1) (g' := (mkF m 9 #[.val (.ref v_SIGN_AND_ENCRYPT), .val (.int (2 : Int32))] [(.int (103 : Int32))])) (fun t q => own_ldB X1 hx hZ e1 R_SIGN_AND_ENCRYPT (by decide) rfl (g := (mkF m 8 #[.val (.ref v_SIGN_AND_ENCRYPT), .val (.int (2 : Int32))] [(.int (2 : Int32)), (.ref v_SIGN_AND_ENCRYPT)])) rfl rfl (hb hby d7_8) t q) ?_
  refine own_go (T' := T1) (g' := (mkF m 12 #[.val (.ref v_SIGN_AND_ENCRYPT), .val (.int (2 : Int32))] [(.int (255 : Int32)), (.int (103 : Int32))])) (fun t q => XS.sipush X1.here hx rfl (hb hby d7_9) q) ?_
  refine own_go (T' := T1) (g' := (mkF m 13 #[.val (.ref v_SIGN_AND_ENCRYPT), .val (.int (2 : Int32))] [(.int ((103 : Int32) &&& (255 : Int32)))])) (fun t q => XS.iand X1.here hx rfl (hb hby d7_12) rfl q) ?_
  refine own_go (T' := T1) (g' := (mkF m 14 #[.val (.ref v_SIGN_AND_ENCRYPT), .val (.int (2 : Int32))] [(.int ((((103 : Int32) &&& (255 : Int32))).toUInt32.toUInt16.toUInt32.toInt32))])) (fun t q => XT.i2c X1.here hx rfl (hb hby d7_13) rfl q) ?_
  refine own_outN X1 hx hlk hret (t := .char) (by simp) (hb hby d7_14) (w := (nar .char ((((103 : Int32) &&& (255 : Int32))).toUInt32.toUInt16.toUInt32.toInt32))) rfl ?_ (by decide) (by decide)
  exact ⟨congrArg (fun z => some (Value.int z)) (by decide), e1, rfl⟩
set_option maxRecDepth 65536 in
set_option maxHeartbeats 40000000 in
theorem rm_ch_SIGN_AND_ENCRYPT_2 (l : Launch) (Z : State) (a0 : Array Value) (hw : ∀ d ∈ tables_1, d.before a0 Z = true) (ws : List Jvm.Cond) (w_INVALID w_NONE w_SIGN w_SIGN_AND_ENCRYPT s_INVALID s_NONE s_SIGN s_SIGN_AND_ENCRYPT v_INVALID v_NONE v_SIGN v_SIGN_AND_ENCRYPT : Addr) (cs : Int32) (fm : Value) (h0 : Heap) (FX : own_F Z h0 w_INVALID w_NONE w_SIGN w_SIGN_AND_ENCRYPT s_INVALID s_NONE s_SIGN s_SIGN_AND_ENCRYPT v_INVALID v_NONE v_SIGN v_SIGN_AND_ENCRYPT cs fm) :
    own_Met l (⟨"java/lang/String", "charAt", "(I)C"⟩ : MethodName) jdk_42_method_56_code 2 (some .char) ws ({ frames := 3, cells := 0, slots := 0, locals := 40 } : Room) Z #[(.ref s_SIGN_AND_ENCRYPT), (.int (2 : Int32))] h0 (fun v h L => v = some (.int (103 : Int32)) ∧ h = h0 ∧ L = []) := by
  refine MetFree.of_bodySF (plainFor_of_name (by first | (simp [plainName, overriddenIn]; done) | decide +kernel)) hisR ?_
  intro p e s m args below meth c s₁ Bd hml0 hP hK
  obtain ⟨rfl, hZ, hh⟩ := hP
  have hx := Bd.exec
  have hby := Bd.bytes
  have hml : c.maxLocals = 2 := hml0
  have hown : s.vm.findClass "java/lang/String" = some m.cls := findClass_of_methodNamed Bd.named
  have hnm := (name_of_methodNamed Bd.named Bd.method).1
  have hlk : meth.locks = false := Bd.notSynchronized
  have hret := Bd.returns
  have X0 : Stand p l e ({ frames := 3, cells := 0, slots := 0, locals := 40 } : Room) s m #[(.ref s_SIGN_AND_ENCRYPT), (.int (2 : Int32))] below meth c s₁ [] 0 0 := Stand.of_body Bd
  have e0 : s₁.heap = h0 := by rw [← hh, Bd.state]; rfl
  refine own_in (Q := fun v h L => v = some (.int (103 : Int32)) ∧ h = h0 ∧ L = []) (ef := by first | (simp [entryFrame, mkF, argsToLocals, Value.category, maxLocals]; done) | rfl) (g' := (mkF m 0 #[.val (.ref s_SIGN_AND_ENCRYPT), .val (.int (2 : Int32))] [])) ?_
  obtain ⟨S_INVALID, E_INVALID, S_SIGN, E_SIGN, S_SIGN_AND_ENCRYPT, E_SIGN_AND_ENCRYPT, S_NONE, E_NONE, F_INVALID_ordinal, F_SIGN_ordinal, F_SIGN_AND_ENCRYPT_ordinal, F_NONE_ordinal, ne_INVALID_SIGN, ne_INVALID_SIGN_AND_ENCRYPT, ne_INVALID_NONE, ne_SIGN_SIGN_AND_ENCRYPT, ne_SIGN_NONE, ne_SIGN_AND_ENCRYPT_NONE, G_INVALID, X_INVALID, G_SIGN_AND_ENCRYPT, X_SIGN_AND_ENCRYPT, G_SIGN, X_SIGN, G_NONE, X_NONE, H_INVALID, H_SIGN_AND_ENCRYPT, H_SIGN, H_NONE, D_INVALID, D_SIGN_AND_ENCRYPT, D_SIGN, D_NONE, R_INVALID, R_NONE, R_SIGN, R_SIGN_AND_ENCRYPT, S_cs, cs0, S_fm, hfm⟩ := id FX
  refine own_go (T' := s₁) (g' := (mkF m 1 #[.val (.ref s_SIGN_AND_ENCRYPT), .val (.int (2 : Int32))] [(.ref s_SIGN_AND_ENCRYPT)])) (fun t q => XS.aloadN X0.here hx rfl (hb hby d5_0) rfl rfl q) ?_
  obtain ⟨v1, T1, L1, X1, Q1, st1⟩ := own_callV X0 hx hZ (y := (⟨"java/lang/String", "isLatin1", "()Z"⟩ : MethodName)) (b := s_SIGN_AND_ENCRYPT) (argsL := []) (rest := []) hown (hw _ (List.mem_of_getElem? (i := 35) rfl)) (hw _ (List.mem_of_getElem? (i := 36) rfl)) (hw _ (List.mem_of_getElem? (i := 38) rfl)) (hw _ (List.mem_of_getElem? (i := 37) rfl)) (hw _ (List.mem_of_getElem? (i := 18) rfl)) (hw _ (List.mem_of_getElem? (i := 39) rfl)) (rm_isl_SIGN_AND_ENCRYPT l Z a0 hw [] w_INVALID w_NONE w_SIGN w_SIGN_AND_ENCRYPT s_INVALID s_NONE s_SIGN s_SIGN_AND_ENCRYPT v_INVALID v_NONE v_SIGN v_SIGN_AND_ENCRYPT cs fm h0 FX) e0 X_SIGN_AND_ENCRYPT (by decide) (by decide) 0 (by decide) (by decide) (by decide) (g := (mkF m 1 #[.val (.ref s_SIGN_AND_ENCRYPT), .val (.int (2 : Int32))] [(.ref s_SIGN_AND_ENCRYPT)])) rfl (by rw [hml]; rfl) (lenOf (ps := []) (r := (some .boolean)) (by decide +kernel) rfl) rfl (by show 2 * 0 + _ ≤ _; exact Nat.le_of_eq rfl) (hb hby d5_1)
  obtain ⟨rfl, e1, rfl⟩ := Q1
  refine own_go (T' := T1) (g' := (mkF m 4 #[.val (.ref s_SIGN_AND_ENCRYPT), .val (.int (2 : Int32))] [(.int (1 : Int32))])) (fun t q => st1 t q) ?_
  have c2 : ¬ ((1 : Int32) = (0 : Int32)) := by decide
  refine own_go (T' := T1) (g' := (mkF m 7 #[.val (.ref s_SIGN_AND_ENCRYPT), .val (.int (2 : Int32))] [])) (fun t q => XS.ifNo X1.here hx rfl (hb hby d5_4) rfl ((if0 _ _).trans (feq c2).1) q) ?_
  refine own_go (T' := T1) (g' := (mkF m 8 #[.val (.ref s_SIGN_AND_ENCRYPT), .val (.int (2 : Int32))] [(.ref s_SIGN_AND_ENCRYPT)])) (fun t q => XS.aloadN X1.here hx rfl (hb hby d5_7) rfl rfl q) ?_
  obtain ⟨T3, X3, e3, st3⟩ := getF X1 hx hZ hown (host := "") (Or.inl (hw _ (List.mem_of_getElem? (i := 20) rfl))) Via.refl e1 H_SIGN_AND_ENCRYPT (g := (mkF m 8 #[.val (.ref s_SIGN_AND_ENCRYPT), .val (.int (2 : Int32))] [(.ref s_SIGN_AND_ENCRYPT)])) rfl rfl (hb hby d5_8)
  refine own_go (T' := T3) (g' := (mkF m 11 #[.val (.ref s_SIGN_AND_ENCRYPT), .val (.int (2 : Int32))] [(.ref v_SIGN_AND_ENCRYPT)])) (fun t q => st3 t q) ?_
  refine own_go (T' := T3) (g' := (mkF m 12 #[.val (.ref s_SIGN_AND_ENCRYPT), .val (.int (2 : Int32))] [(.int (2 : Int32)), (.ref v_SIGN_AND_ENCRYPT)])) (fun t q => XS.iloadN X3.here hx rfl (hb hby d5_11) rfl q) ?_
  obtain ⟨v4, T4, L4, X4, Q4, st4⟩ := own_callS X3 hx hZ (y := (⟨"java/lang/StringLatin1", "charAt", "([BI)C"⟩ : MethodName)) (argsL := [(.ref v_SIGN_AND_ENCRYPT), (.int (2 : Int32))]) (rest := []) hown (hw _ (List.mem_of_getElem? (i := 40) rfl)) (hw _ (List.mem_of_getElem? (i := 41) rfl)) (hw _ (List.mem_of_getElem? (i := 42) rfl)) (hw _ (List.mem_of_getElem? (i := 43) rfl)) (rm_lat_SIGN_AND_ENCRYPT_2 l Z a0 hw [] w_INVALID w_NONE w_SIGN w_SIGN_AND_ENCRYPT s_INVALID s_NONE s_SIGN s_SIGN_AND_ENCRYPT v_INVALID v_NONE v_SIGN v_SIGN_AND_ENCRYPT cs fm h0 FX) e3 (by decide) (by decide) 0 (by decide) (by decide) (by decide) (g := (mkF m 12 #[.val (.ref s_SIGN_AND_ENCRYPT), .val (.int (2 : Int32))] [(.int (2 : Int32)), (.ref v_SIGN_AND_ENCRYPT)])) rfl (by rw [hml]; rfl) (lenOf (ps := [(.array .byte), .int]) (r := (some .char)) (by decide +kernel) rfl) rfl (by show 2 * 0 + _ ≤ _; exact Nat.le_of_eq rfl) (hb hby d5_12)
  obtain ⟨rfl, e4, rfl⟩ := Q4
  refine own_go (T' := T4) (g' := (mkF m 15 #[.val (.ref s_SIGN_AND_ENCRYPT), .val (.int (2 : Int32))] [(.int (103 : Int32))])) (fun t q => st4 t q) ?_
  refine own_outN X4 hx hlk hret (t := .char) (by simp) (hb hby d5_15) (w := (103 : Int32)) (by decide) ?_ (by decide) (by decide)
  exact ⟨rfl, e4, rfl⟩
set_option maxRecDepth 65536 in
set_option maxHeartbeats 40000000 in
theorem rm_lat_SIGN_AND_ENCRYPT_3 (l : Launch) (Z : State) (a0 : Array Value) (hw : ∀ d ∈ tables_1, d.before a0 Z = true) (ws : List Jvm.Cond) (w_INVALID w_NONE w_SIGN w_SIGN_AND_ENCRYPT s_INVALID s_NONE s_SIGN s_SIGN_AND_ENCRYPT v_INVALID v_NONE v_SIGN v_SIGN_AND_ENCRYPT : Addr) (cs : Int32) (fm : Value) (h0 : Heap) (FX : own_F Z h0 w_INVALID w_NONE w_SIGN w_SIGN_AND_ENCRYPT s_INVALID s_NONE s_SIGN s_SIGN_AND_ENCRYPT v_INVALID v_NONE v_SIGN v_SIGN_AND_ENCRYPT cs fm) :
    own_Met l (⟨"java/lang/StringLatin1", "charAt", "([BI)C"⟩ : MethodName) jdk_43_method_2_code 2 (some .char) ws ({ frames := 2, cells := 0, slots := 0, locals := 27 } : Room) Z #[(.ref v_SIGN_AND_ENCRYPT), (.int (3 : Int32))] h0 (fun v h L => v = some (.int (110 : Int32)) ∧ h = h0 ∧ L = []) := by
  refine MetFree.of_bodySF (plainFor_of_name (by first | (simp [plainName, overriddenIn]; done) | decide +kernel)) hisR ?_
  intro p e s m args below meth c s₁ Bd hml0 hP hK
  obtain ⟨rfl, hZ, hh⟩ := hP
  have hx := Bd.exec
  have hby := Bd.bytes
  have hml : c.maxLocals = 2 := hml0
  have hown : s.vm.findClass "java/lang/StringLatin1" = some m.cls := findClass_of_methodNamed Bd.named
  have hnm := (name_of_methodNamed Bd.named Bd.method).1
  have hlk : meth.locks = false := Bd.notSynchronized
  have hret := Bd.returns
  have X0 : Stand p l e ({ frames := 2, cells := 0, slots := 0, locals := 27 } : Room) s m #[(.ref v_SIGN_AND_ENCRYPT), (.int (3 : Int32))] below meth c s₁ [] 0 0 := Stand.of_body Bd
  have e0 : s₁.heap = h0 := by rw [← hh, Bd.state]; rfl
  refine own_in (Q := fun v h L => v = some (.int (110 : Int32)) ∧ h = h0 ∧ L = []) (ef := by first | (simp [entryFrame, mkF, argsToLocals, Value.category, maxLocals]; done) | rfl) (g' := (mkF m 0 #[.val (.ref v_SIGN_AND_ENCRYPT), .val (.int (3 : Int32))] [])) ?_
  obtain ⟨S_INVALID, E_INVALID, S_SIGN, E_SIGN, S_SIGN_AND_ENCRYPT, E_SIGN_AND_ENCRYPT, S_NONE, E_NONE, F_INVALID_ordinal, F_SIGN_ordinal, F_SIGN_AND_ENCRYPT_ordinal, F_NONE_ordinal, ne_INVALID_SIGN, ne_INVALID_SIGN_AND_ENCRYPT, ne_INVALID_NONE, ne_SIGN_SIGN_AND_ENCRYPT, ne_SIGN_NONE, ne_SIGN_AND_ENCRYPT_NONE, G_INVALID, X_INVALID, G_SIGN_AND_ENCRYPT, X_SIGN_AND_ENCRYPT, G_SIGN, X_SIGN, G_NONE, X_NONE, H_INVALID, H_SIGN_AND_ENCRYPT, H_SIGN, H_NONE, D_INVALID, D_SIGN_AND_ENCRYPT, D_SIGN, D_NONE, R_INVALID, R_NONE, R_SIGN, R_SIGN_AND_ENCRYPT, S_cs, cs0, S_fm, hfm⟩ := id FX
  refine own_go (T' := s₁) (g' := (mkF m 1 #[.val (.ref v_SIGN_AND_ENCRYPT), .val (.int (3 : Int32))] [(.int (3 : Int32))])) (fun t q => XS.iloadN X0.here hx rfl (hb hby d7_0) rfl q) ?_
  refine own_go (T' := s₁) (g' := (mkF m 2 #[.val (.ref v_SIGN_AND_ENCRYPT), .val (.int (3 : Int32))] [(.ref v_SIGN_AND_ENCRYPT), (.int (3 : Int32))])) (fun t q => XS.aloadN X0.here hx rfl (hb hby d7_1) rfl rfl q) ?_
  refine own_go (T' := s₁) (g' := (mkF m 3 #[.val (.ref v_SIGN_AND_ENCRYPT), .val (.int (3 : Int32))] [(.int (14 : Int32)), (.int (3 : Int32))])) (fun t q => own_len X0 hx hZ e0 R_SIGN_AND_ENCRYPT (n := (14 : Int32)) rfl (g := (mkF m 2 #[.val (.ref v_SIGN_AND_ENCRYPT), .val (.int (3 : Int32))] [(.ref v_SIGN_AND_ENCRYPT), (.int (3 : Int32))])) rfl rfl (hb hby d7_2) t q) ?_
  obtain ⟨v1, T1, L1, X1, Q1, st1⟩ := own_callS X0 hx hZ (y := (⟨"java/lang/String", "checkIndex", "(II)V"⟩ : MethodName)) (argsL := [(.int (3 : Int32)), (.int (14 : Int32))]) (rest := []) hown (hw _ (List.mem_of_getElem? (i := 44) rfl)) (hw _ (List.mem_of_getElem? (i := 45) rfl)) (hw _ (List.mem_of_getElem? (i := 18) rfl)) (hw _ (List.mem_of_getElem? (i := 46) rfl)) (rm_chk l Z a0 hw [] (3 : Int32) (14 : Int32) w_INVALID w_NONE w_SIGN w_SIGN_AND_ENCRYPT s_INVALID s_NONE s_SIGN s_SIGN_AND_ENCRYPT v_INVALID v_NONE v_SIGN v_SIGN_AND_ENCRYPT cs fm h0 FX (by decide) (by decide)) e0 (by decide) (by decide) 0 (by decide) (by decide) (by decide) (g := (mkF m 3 #[.val (.ref v_SIGN_AND_ENCRYPT), .val (.int (3 : Int32))] [(.int (14 : Int32)), (.int (3 : Int32))])) rfl (by rw [hml]; rfl) (lenOf (ps := [.int, .int]) (r := none) (by decide +kernel) rfl) rfl (by show 2 * 0 + _ ≤ _; exact Nat.le_of_eq rfl) (hb hby d7_3)
  obtain ⟨rfl, e1, rfl⟩ := Q1
  refine own_go (T' := T1) (g' := (mkF m 6 #[.val (.ref v_SIGN_AND_ENCRYPT), .val (.int (3 : Int32))] [])) (fun t q => st1 t q) ?_
  refine own_go (T' := T1) (g' := (mkF m 7 #[.val (.ref v_SIGN_AND_ENCRYPT), .val (.int (3 : Int32))] [(.ref v_SIGN_AND_ENCRYPT)])) (fun t q => XS.aloadN X1.here hx rfl (hb hby d7_6) rfl rfl q) ?_
  refine own_go (T' := T1) (g' := (mkF m 8 #[.val (.ref v_SIGN_AND_ENCRYPT), .val (.int (3 : Int32))] [(.int (3 : Int32)), (.ref v_SIGN_AND_ENCRYPT)])) (fun t q => XS.iloadN X1.here hx rfl (hb hby d7_7) rfl q) ?_
  refine own_go (T' := T1) (g' := (mkF m 9 #[.val (.ref v_SIGN_AND_ENCRYPT), .val (.int (3 : Int32))] [(.int (110 : Int32))])) (fun t q => own_ldB X1 hx hZ e1 R_SIGN_AND_ENCRYPT (by decide) rfl (g := (mkF m 8 #[.val (.ref v_SIGN_AND_ENCRYPT), .val (.int (3 : Int32))] [(.int (3 : Int32)), (.ref v_SIGN_AND_ENCRYPT)])) rfl rfl (hb hby d7_8) t q) ?_
  refine own_go (T' := T1) (g' := (mkF m 12 #[.val (.ref v_SIGN_AND_ENCRYPT), .val (.int (3 : Int32))] [(.int (255 : Int32)), (.int (110 : Int32))])) (fun t q => XS.sipush X1.here hx rfl (hb hby d7_9) q) ?_
  refine own_go (T' := T1) (g' := (mkF m 13 #[.val (.ref v_SIGN_AND_ENCRYPT), .val (.int (3 : Int32))] [(.int ((110 : Int32) &&& (255 : Int32)))])) (fun t q => XS.iand X1.here hx rfl (hb hby d7_12) rfl q) ?_
  refine own_go (T' := T1) (g' := (mkF m 14 #[.val (.ref v_SIGN_AND_ENCRYPT), .val (.int (3 : Int32))] [(.int ((((110 : Int32) &&& (255 : Int32))).toUInt32.toUInt16.toUInt32.toInt32))])) (fun t q => XT.i2c X1.here hx rfl (hb hby d7_13) rfl q) ?_
  refine own_outN X1 hx hlk hret (t := .char) (by simp) (hb hby d7_14) (w := (nar .char ((((110 : Int32) &&& (255 : Int32))).toUInt32.toUInt16.toUInt32.toInt32))) rfl ?_ (by decide) (by decide)
  exact ⟨congrArg (fun z => some (Value.int z)) (by decide), e1, rfl⟩
set_option maxRecDepth 65536 in
set_option maxHeartbeats 40000000 in
theorem rm_ch_SIGN_AND_ENCRYPT_3 (l : Launch) (Z : State) (a0 : Array Value) (hw : ∀ d ∈ tables_1, d.before a0 Z = true) (ws : List Jvm.Cond) (w_INVALID w_NONE w_SIGN w_SIGN_AND_ENCRYPT s_INVALID s_NONE s_SIGN s_SIGN_AND_ENCRYPT v_INVALID v_NONE v_SIGN v_SIGN_AND_ENCRYPT : Addr) (cs : Int32) (fm : Value) (h0 : Heap) (FX : own_F Z h0 w_INVALID w_NONE w_SIGN w_SIGN_AND_ENCRYPT s_INVALID s_NONE s_SIGN s_SIGN_AND_ENCRYPT v_INVALID v_NONE v_SIGN v_SIGN_AND_ENCRYPT cs fm) :
    own_Met l (⟨"java/lang/String", "charAt", "(I)C"⟩ : MethodName) jdk_42_method_56_code 2 (some .char) ws ({ frames := 3, cells := 0, slots := 0, locals := 40 } : Room) Z #[(.ref s_SIGN_AND_ENCRYPT), (.int (3 : Int32))] h0 (fun v h L => v = some (.int (110 : Int32)) ∧ h = h0 ∧ L = []) := by
  refine MetFree.of_bodySF (plainFor_of_name (by first | (simp [plainName, overriddenIn]; done) | decide +kernel)) hisR ?_
  intro p e s m args below meth c s₁ Bd hml0 hP hK
  obtain ⟨rfl, hZ, hh⟩ := hP
  have hx := Bd.exec
  have hby := Bd.bytes
  have hml : c.maxLocals = 2 := hml0
  have hown : s.vm.findClass "java/lang/String" = some m.cls := findClass_of_methodNamed Bd.named
  have hnm := (name_of_methodNamed Bd.named Bd.method).1
  have hlk : meth.locks = false := Bd.notSynchronized
  have hret := Bd.returns
  have X0 : Stand p l e ({ frames := 3, cells := 0, slots := 0, locals := 40 } : Room) s m #[(.ref s_SIGN_AND_ENCRYPT), (.int (3 : Int32))] below meth c s₁ [] 0 0 := Stand.of_body Bd
  have e0 : s₁.heap = h0 := by rw [← hh, Bd.state]; rfl
  refine own_in (Q := fun v h L => v = some (.int (110 : Int32)) ∧ h = h0 ∧ L = []) (ef := by first | (simp [entryFrame, mkF, argsToLocals, Value.category, maxLocals]; done) | rfl) (g' := (mkF m 0 #[.val (.ref s_SIGN_AND_ENCRYPT), .val (.int (3 : Int32))] [])) ?_
  obtain ⟨S_INVALID, E_INVALID, S_SIGN, E_SIGN, S_SIGN_AND_ENCRYPT, E_SIGN_AND_ENCRYPT, S_NONE, E_NONE, F_INVALID_ordinal, F_SIGN_ordinal, F_SIGN_AND_ENCRYPT_ordinal, F_NONE_ordinal, ne_INVALID_SIGN, ne_INVALID_SIGN_AND_ENCRYPT, ne_INVALID_NONE, ne_SIGN_SIGN_AND_ENCRYPT, ne_SIGN_NONE, ne_SIGN_AND_ENCRYPT_NONE, G_INVALID, X_INVALID, G_SIGN_AND_ENCRYPT, X_SIGN_AND_ENCRYPT, G_SIGN, X_SIGN, G_NONE, X_NONE, H_INVALID, H_SIGN_AND_ENCRYPT, H_SIGN, H_NONE, D_INVALID, D_SIGN_AND_ENCRYPT, D_SIGN, D_NONE, R_INVALID, R_NONE, R_SIGN, R_SIGN_AND_ENCRYPT, S_cs, cs0, S_fm, hfm⟩ := id FX
  refine own_go (T' := s₁) (g' := (mkF m 1 #[.val (.ref s_SIGN_AND_ENCRYPT), .val (.int (3 : Int32))] [(.ref s_SIGN_AND_ENCRYPT)])) (fun t q => XS.aloadN X0.here hx rfl (hb hby d5_0) rfl rfl q) ?_
  obtain ⟨v1, T1, L1, X1, Q1, st1⟩ := own_callV X0 hx hZ (y := (⟨"java/lang/String", "isLatin1", "()Z"⟩ : MethodName)) (b := s_SIGN_AND_ENCRYPT) (argsL := []) (rest := []) hown (hw _ (List.mem_of_getElem? (i := 35) rfl)) (hw _ (List.mem_of_getElem? (i := 36) rfl)) (hw _ (List.mem_of_getElem? (i := 38) rfl)) (hw _ (List.mem_of_getElem? (i := 37) rfl)) (hw _ (List.mem_of_getElem? (i := 18) rfl)) (hw _ (List.mem_of_getElem? (i := 39) rfl)) (rm_isl_SIGN_AND_ENCRYPT l Z a0 hw [] w_INVALID w_NONE w_SIGN w_SIGN_AND_ENCRYPT s_INVALID s_NONE s_SIGN s_SIGN_AND_ENCRYPT v_INVALID v_NONE v_SIGN v_SIGN_AND_ENCRYPT cs fm h0 FX) e0 X_SIGN_AND_ENCRYPT (by decide) (by decide) 0 (by decide) (by decide) (by decide) (g := (mkF m 1 #[.val (.ref s_SIGN_AND_ENCRYPT), .val (.int (3 : Int32))] [(.ref s_SIGN_AND_ENCRYPT)])) rfl (by rw [hml]; rfl) (lenOf (ps := []) (r := (some .boolean)) (by decide +kernel) rfl) rfl (by show 2 * 0 + _ ≤ _; exact Nat.le_of_eq rfl) (hb hby d5_1)
  obtain ⟨rfl, e1, rfl⟩ := Q1
  refine own_go (T' := T1) (g' := (mkF m 4 #[.val (.ref s_SIGN_AND_ENCRYPT), .val (.int (3 : Int32))] [(.int (1 : Int32))])) (fun t q => st1 t q) ?_
  have c2 : ¬ ((1 : Int32) = (0 : Int32)) := by decide
  refine own_go (T' := T1) (g' := (mkF m 7 #[.val (.ref s_SIGN_AND_ENCRYPT), .val (.int (3 : Int32))] [])) (fun t q => XS.ifNo X1.here hx rfl (hb hby d5_4) rfl ((if0 _ _).trans (feq c2).1) q) ?_
  refine own_go (T' := T1) (g' := (mkF m 8 #[.val (.ref s_SIGN_AND_ENCRYPT), .val (.int (3 : Int32))] [(.ref s_SIGN_AND_ENCRYPT)])) (fun t q => XS.aloadN X1.here hx rfl (hb hby d5_7) rfl rfl q) ?_
  obtain ⟨T3, X3, e3, st3⟩ := getF X1 hx hZ hown (host := "") (Or.inl (hw _ (List.mem_of_getElem? (i := 20) rfl))) Via.refl e1 H_SIGN_AND_ENCRYPT (g := (mkF m 8 #[.val (.ref s_SIGN_AND_ENCRYPT), .val (.int (3 : Int32))] [(.ref s_SIGN_AND_ENCRYPT)])) rfl rfl (hb hby d5_8)
  refine own_go (T' := T3) (g' := (mkF m 11 #[.val (.ref s_SIGN_AND_ENCRYPT), .val (.int (3 : Int32))] [(.ref v_SIGN_AND_ENCRYPT)])) (fun t q => st3 t q) ?_
  refine own_go (T' := T3) (g' := (mkF m 12 #[.val (.ref s_SIGN_AND_ENCRYPT), .val (.int (3 : Int32))] [(.int (3 : Int32)), (.ref v_SIGN_AND_ENCRYPT)])) (fun t q => XS.iloadN X3.here hx rfl (hb hby d5_11) rfl q) ?_
  obtain ⟨v4, T4, L4, X4, Q4, st4⟩ := own_callS X3 hx hZ (y := (⟨"java/lang/StringLatin1", "charAt", "([BI)C"⟩ : MethodName)) (argsL := [(.ref v_SIGN_AND_ENCRYPT), (.int (3 : Int32))]) (rest := []) hown (hw _ (List.mem_of_getElem? (i := 40) rfl)) (hw _ (List.mem_of_getElem? (i := 41) rfl)) (hw _ (List.mem_of_getElem? (i := 42) rfl)) (hw _ (List.mem_of_getElem? (i := 43) rfl)) (rm_lat_SIGN_AND_ENCRYPT_3 l Z a0 hw [] w_INVALID w_NONE w_SIGN w_SIGN_AND_ENCRYPT s_INVALID s_NONE s_SIGN s_SIGN_AND_ENCRYPT v_INVALID v_NONE v_SIGN v_SIGN_AND_ENCRYPT cs fm h0 FX) e3 (by decide) (by decide) 0 (by decide) (by decide) (by decide) (g := (mkF m 12 #[.val (.ref s_SIGN_AND_ENCRYPT), .val (.int (3 : Int32))] [(.int (3 : Int32)), (.ref v_SIGN_AND_ENCRYPT)])) rfl (by rw [hml]; rfl) (lenOf (ps := [(.array .byte), .int]) (r := (some .char)) (by decide +kernel) rfl) rfl (by show 2 * 0 + _ ≤ _; exact Nat.le_of_eq rfl) (hb hby d5_12)
  obtain ⟨rfl, e4, rfl⟩ := Q4
  refine own_go (T' := T4) (g' := (mkF m 15 #[.val (.ref s_SIGN_AND_ENCRYPT), .val (.int (3 : Int32))] [(.int (110 : Int32))])) (fun t q => st4 t q) ?_
  refine own_outN X4 hx hlk hret (t := .char) (by simp) (hb hby d5_15) (w := (110 : Int32)) (by decide) ?_ (by decide) (by decide)
  exact ⟨rfl, e4, rfl⟩
set_option maxRecDepth 65536 in
set_option maxHeartbeats 40000000 in
theorem rm_gsn_SIGN_AND_ENCRYPT (l : Launch) (Z : State) (a0 : Array Value) (hw : ∀ d ∈ tables_1, d.before a0 Z = true) (ws : List Jvm.Cond) (w_INVALID w_NONE w_SIGN w_SIGN_AND_ENCRYPT s_INVALID s_NONE s_SIGN s_SIGN_AND_ENCRYPT v_INVALID v_NONE v_SIGN v_SIGN_AND_ENCRYPT : Addr) (cs : Int32) (fm : Value) (h0 : Heap) (FX : own_F Z h0 w_INVALID w_NONE w_SIGN w_SIGN_AND_ENCRYPT s_INVALID s_NONE s_SIGN s_SIGN_AND_ENCRYPT v_INVALID v_NONE v_SIGN v_SIGN_AND_ENCRYPT cs fm) :
    own_Met l (⟨"com/example/dvarapala/dvarapala/engine/MessageSecurityMode", "getSpecName", "()Ljava/lang/String;"⟩ : MethodName) prog_10_method_4_code 1 (some (.object "java/lang/String")) ws ({ frames := 0, cells := 0, slots := 0, locals := 0 } : Room) Z #[(.ref w_SIGN_AND_ENCRYPT)] h0 (fun v h L => v = some (.ref s_SIGN_AND_ENCRYPT) ∧ h = h0 ∧ L = []) := by
  refine MetFree.of_bodySF (plainFor_of_name (by first | (simp [plainName, overriddenIn]; done) | decide +kernel)) hisR ?_
  intro p e s m args below meth c s₁ Bd hml0 hP hK
  obtain ⟨rfl, hZ, hh⟩ := hP
  have hx := Bd.exec
  have hby := Bd.bytes
  have hml : c.maxLocals = 1 := hml0
  have hown : s.vm.findClass "com/example/dvarapala/dvarapala/engine/MessageSecurityMode" = some m.cls := findClass_of_methodNamed Bd.named
  have hnm := (name_of_methodNamed Bd.named Bd.method).1
  have hlk : meth.locks = false := Bd.notSynchronized
  have hret := Bd.returns
  have X0 : Stand p l e ({ frames := 0, cells := 0, slots := 0, locals := 0 } : Room) s m #[(.ref w_SIGN_AND_ENCRYPT)] below meth c s₁ [] 0 0 := Stand.of_body Bd
  have e0 : s₁.heap = h0 := by rw [← hh, Bd.state]; rfl
  refine own_in (Q := fun v h L => v = some (.ref s_SIGN_AND_ENCRYPT) ∧ h = h0 ∧ L = []) (ef := by first | (simp [entryFrame, mkF, argsToLocals, Value.category, maxLocals]; done) | rfl) (g' := (mkF m 0 #[.val (.ref w_SIGN_AND_ENCRYPT)] [])) ?_
  obtain ⟨S_INVALID, E_INVALID, S_SIGN, E_SIGN, S_SIGN_AND_ENCRYPT, E_SIGN_AND_ENCRYPT, S_NONE, E_NONE, F_INVALID_ordinal, F_SIGN_ordinal, F_SIGN_AND_ENCRYPT_ordinal, F_NONE_ordinal, ne_INVALID_SIGN, ne_INVALID_SIGN_AND_ENCRYPT, ne_INVALID_NONE, ne_SIGN_SIGN_AND_ENCRYPT, ne_SIGN_NONE, ne_SIGN_AND_ENCRYPT_NONE, G_INVALID, X_INVALID, G_SIGN_AND_ENCRYPT, X_SIGN_AND_ENCRYPT, G_SIGN, X_SIGN, G_NONE, X_NONE, H_INVALID, H_SIGN_AND_ENCRYPT, H_SIGN, H_NONE, D_INVALID, D_SIGN_AND_ENCRYPT, D_SIGN, D_NONE, R_INVALID, R_NONE, R_SIGN, R_SIGN_AND_ENCRYPT, S_cs, cs0, S_fm, hfm⟩ := id FX
  refine own_go (T' := s₁) (g' := (mkF m 1 #[.val (.ref w_SIGN_AND_ENCRYPT)] [(.ref w_SIGN_AND_ENCRYPT)])) (fun t q => XS.aloadN X0.here hx rfl (hb hby d2_0) rfl rfl q) ?_
  obtain ⟨T1, X1, e1, st1⟩ := getF X0 hx hZ hown (host := "") (Or.inl (hw _ (List.mem_of_getElem? (i := 12) rfl))) Via.refl e0 G_SIGN_AND_ENCRYPT (g := (mkF m 1 #[.val (.ref w_SIGN_AND_ENCRYPT)] [(.ref w_SIGN_AND_ENCRYPT)])) rfl rfl (hb hby d2_1)
  refine own_go (T' := T1) (g' := (mkF m 4 #[.val (.ref w_SIGN_AND_ENCRYPT)] [(.ref s_SIGN_AND_ENCRYPT)])) (fun t q => st1 t q) ?_
  refine own_outA X1 hx hlk hret rfl rfl (hb hby d2_4) ?_ (by decide) (by decide)
  exact ⟨rfl, e1, rfl⟩
set_option maxRecDepth 65536 in
set_option maxHeartbeats 40000000 in
theorem rm_sig_SIGN_AND_ENCRYPT (l : Launch) (Z : State) (a0 : Array Value) (hw : ∀ d ∈ tables_1, d.before a0 Z = true) (ws : List Jvm.Cond) (w_INVALID w_NONE w_SIGN w_SIGN_AND_ENCRYPT s_INVALID s_NONE s_SIGN s_SIGN_AND_ENCRYPT v_INVALID v_NONE v_SIGN v_SIGN_AND_ENCRYPT : Addr) (cs : Int32) (fm : Value) (h0 : Heap) (FX : own_F Z h0 w_INVALID w_NONE w_SIGN w_SIGN_AND_ENCRYPT s_INVALID s_NONE s_SIGN s_SIGN_AND_ENCRYPT v_INVALID v_NONE v_SIGN v_SIGN_AND_ENCRYPT cs fm) :
    own_Met l (⟨"com/example/dvarapala/dvarapala/engine/MessageSecurityMode", "isSigned", "()Z"⟩ : MethodName) prog_10_method_5_code 1 (some .boolean) ws ({ frames := 0, cells := 0, slots := 0, locals := 0 } : Room) Z #[(.ref w_SIGN_AND_ENCRYPT)] h0 (fun v h L => v = some (.int (1 : Int32)) ∧ h = h0 ∧ L = []) := by
  refine MetFree.of_bodySF (plainFor_of_name (by first | (simp [plainName, overriddenIn]; done) | decide +kernel)) hisR ?_
  intro p e s m args below meth c s₁ Bd hml0 hP hK
  obtain ⟨rfl, hZ, hh⟩ := hP
  have hx := Bd.exec
  have hby := Bd.bytes
  have hml : c.maxLocals = 1 := hml0
  have hown : s.vm.findClass "com/example/dvarapala/dvarapala/engine/MessageSecurityMode" = some m.cls := findClass_of_methodNamed Bd.named
  have hnm := (name_of_methodNamed Bd.named Bd.method).1
  have hlk : meth.locks = false := Bd.notSynchronized
  have hret := Bd.returns
  have X0 : Stand p l e ({ frames := 0, cells := 0, slots := 0, locals := 0 } : Room) s m #[(.ref w_SIGN_AND_ENCRYPT)] below meth c s₁ [] 0 0 := Stand.of_body Bd
  have e0 : s₁.heap = h0 := by rw [← hh, Bd.state]; rfl
  refine own_in (Q := fun v h L => v = some (.int (1 : Int32)) ∧ h = h0 ∧ L = []) (ef := by first | (simp [entryFrame, mkF, argsToLocals, Value.category, maxLocals]; done) | rfl) (g' := (mkF m 0 #[.val (.ref w_SIGN_AND_ENCRYPT)] [])) ?_
  obtain ⟨S_INVALID, E_INVALID, S_SIGN, E_SIGN, S_SIGN_AND_ENCRYPT, E_SIGN_AND_ENCRYPT, S_NONE, E_NONE, F_INVALID_ordinal, F_SIGN_ordinal, F_SIGN_AND_ENCRYPT_ordinal, F_NONE_ordinal, ne_INVALID_SIGN, ne_INVALID_SIGN_AND_ENCRYPT, ne_INVALID_NONE, ne_SIGN_SIGN_AND_ENCRYPT, ne_SIGN_NONE, ne_SIGN_AND_ENCRYPT_NONE, G_INVALID, X_INVALID, G_SIGN_AND_ENCRYPT, X_SIGN_AND_ENCRYPT, G_SIGN, X_SIGN, G_NONE, X_NONE, H_INVALID, H_SIGN_AND_ENCRYPT, H_SIGN, H_NONE, D_INVALID, D_SIGN_AND_ENCRYPT, D_SIGN, D_NONE, R_INVALID, R_NONE, R_SIGN, R_SIGN_AND_ENCRYPT, S_cs, cs0, S_fm, hfm⟩ := id FX
  refine own_go (T' := s₁) (g' := (mkF m 1 #[.val (.ref w_SIGN_AND_ENCRYPT)] [(.ref w_SIGN_AND_ENCRYPT)])) (fun t q => XS.aloadN X0.here hx rfl (hb hby d10_0) rfl rfl q) ?_
  obtain ⟨T1, X1, e1, st1⟩ := getS2 X0 hx hZ hown (host := "") (Or.inl (hw _ (List.mem_of_getElem? (i := 57) rfl))) Via.refl e0 S_SIGN (g := (mkF m 1 #[.val (.ref w_SIGN_AND_ENCRYPT)] [(.ref w_SIGN_AND_ENCRYPT)])) rfl (hb hby d10_1)
  refine own_go (T' := T1) (g' := (mkF m 4 #[.val (.ref w_SIGN_AND_ENCRYPT)] [(.ref w_SIGN), (.ref w_SIGN_AND_ENCRYPT)])) (fun t q => st1 t q) ?_
  have c2 : ¬ ((Value.ref w_SIGN_AND_ENCRYPT) = (Value.ref w_SIGN)) := fun z => ne_SIGN_SIGN_AND_ENCRYPT (Value.ref.inj z).symm
  refine own_go (T' := T1) (g' := (mkF m 7 #[.val (.ref w_SIGN_AND_ENCRYPT)] [])) (fun t q => XT.acmpNo X1.here hx rfl (hb hby d10_4) rfl rfl rfl (own_af c2).1 q) ?_
  refine own_go (T' := T1) (g' := (mkF m 8 #[.val (.ref w_SIGN_AND_ENCRYPT)] [(.ref w_SIGN_AND_ENCRYPT)])) (fun t q => XS.aloadN X1.here hx rfl (hb hby d10_7) rfl rfl q) ?_
  obtain ⟨T3, X3, e3, st3⟩ := getS2 X1 hx hZ hown (host := "") (Or.inl (hw _ (List.mem_of_getElem? (i := 59) rfl))) Via.refl e1 S_SIGN_AND_ENCRYPT (g := (mkF m 8 #[.val (.ref w_SIGN_AND_ENCRYPT)] [(.ref w_SIGN_AND_ENCRYPT)])) rfl (hb hby d10_8)
  refine own_go (T' := T3) (g' := (mkF m 11 #[.val (.ref w_SIGN_AND_ENCRYPT)] [(.ref w_SIGN_AND_ENCRYPT), (.ref w_SIGN_AND_ENCRYPT)])) (fun t q => st3 t q) ?_
  have c4 : (Value.ref w_SIGN_AND_ENCRYPT) = (Value.ref w_SIGN_AND_ENCRYPT) := rfl
  refine own_go (T' := T3) (g' := (mkF m 14 #[.val (.ref w_SIGN_AND_ENCRYPT)] [])) (fun t q => XT.acmpNo X3.here hx rfl (hb hby d10_11) rfl rfl rfl (own_at c4).2 q) ?_
  refine own_go (T' := T3) (g' := (mkF m 15 #[.val (.ref w_SIGN_AND_ENCRYPT)] [(.int (1 : Int32))])) (fun t q => XS.iconst X3.here hx rfl (hb hby d10_14) q) ?_
  refine own_go (T' := T3) (g' := (mkF m 19 #[.val (.ref w_SIGN_AND_ENCRYPT)] [(.int (1 : Int32))])) (fun t q => XS.goto X3.here hx rfl (pc0 := 15) (pc' := 19) rfl (hb hby d10_15) (by decide) (by decide) q) ?_
  refine own_outN X3 hx hlk hret (t := .boolean) (by simp) (hb hby d10_19) (w := (1 : Int32)) (by decide) ?_ (by decide) (by decide)
  exact ⟨rfl, e3, rfl⟩
theorem own_ge2 {p k : Int32} (h : k = (p &&& (3 : Int32))) (hk : k ≠ 0 ∧ k ≠ 1 ∧ k ≠ 2) : ¬ k < (2 : Int32) := by
  have h1 : (p &&& (3 : Int32)).toInt = p.toInt % ((2 ^ 2 : Nat) : Int) := c_mask p 3 2 (by decide) (by decide)
  rw [← h] at h1
  have r0 : k.toInt ≠ 0 := fun z => hk.1 (Int32.toInt_inj.mp (z.trans (by decide)))
  have r1 : k.toInt ≠ 1 := fun z => hk.2.1 (Int32.toInt_inj.mp (z.trans (by decide)))
  have e2 : (2 : Int32).toInt = 2 := by decide
  rw [Int32.lt_iff_toInt_lt, e2]; omega
set_option maxRecDepth 65536 in
set_option maxHeartbeats 40000000 in
theorem rm0 (l : Launch) (Z : State) (a0 : Array Value) (hw : ∀ d ∈ tables_1, d.before a0 Z = true) (ws : List Jvm.Cond) (p1 : Int32) (w_INVALID w_NONE w_SIGN w_SIGN_AND_ENCRYPT s_INVALID s_NONE s_SIGN s_SIGN_AND_ENCRYPT v_INVALID v_NONE v_SIGN v_SIGN_AND_ENCRYPT : Addr) (cs : Int32) (fm : Value) (h0 : Heap) (FX : own_F Z h0 w_INVALID w_NONE w_SIGN w_SIGN_AND_ENCRYPT s_INVALID s_NONE s_SIGN s_SIGN_AND_ENCRYPT v_INVALID v_NONE v_SIGN v_SIGN_AND_ENCRYPT cs fm) :
    own_Met l x code maxLocals ret ws room_1 Z #[(.int p1)] h0 (fun v _ L => v = some (.int (1 : Int32)) ∧ Fr h0.size L) := by
  refine MetFree.of_bodySF (plainFor_of_name (by first | (simp [plainName, overriddenIn]; done) | decide +kernel)) hisR ?_
  intro p e s m args below meth c s₁ Bd hml0 hP hK
  obtain ⟨rfl, hZ, hh⟩ := hP
  have hx := Bd.exec
  have hby := Bd.bytes
  have hml : c.maxLocals = 7 := hml0
  have hown : s.vm.findClass "com/example/dvarapala/dvarapala/engine/MessageSecurityModeIsSignedPinLaw" = some m.cls := findClass_of_methodNamed Bd.named
  have hnm := (name_of_methodNamed Bd.named Bd.method).1
  have hlk : meth.locks = false := Bd.notSynchronized
  have hret := Bd.returns
  have X0 : Stand p l e room_1 s m #[(.int p1)] below meth c s₁ [] 0 0 := Stand.of_body Bd
  have e0 : s₁.heap = h0 := by rw [← hh, Bd.state]; rfl
  refine own_in (Q := fun v _ L => v = some (.int (1 : Int32)) ∧ Fr h0.size L) (ef := by first | (simp [entryFrame, mkF, argsToLocals, Value.category, maxLocals]; done) | rfl) (g' := (mkF m 0 #[.val (.int p1), .unset, .unset, .unset, .unset, .unset, .unset] [])) ?_
  obtain ⟨S_INVALID, E_INVALID, S_SIGN, E_SIGN, S_SIGN_AND_ENCRYPT, E_SIGN_AND_ENCRYPT, S_NONE, E_NONE, F_INVALID_ordinal, F_SIGN_ordinal, F_SIGN_AND_ENCRYPT_ordinal, F_NONE_ordinal, ne_INVALID_SIGN, ne_INVALID_SIGN_AND_ENCRYPT, ne_INVALID_NONE, ne_SIGN_SIGN_AND_ENCRYPT, ne_SIGN_NONE, ne_SIGN_AND_ENCRYPT_NONE, G_INVALID, X_INVALID, G_SIGN_AND_ENCRYPT, X_SIGN_AND_ENCRYPT, G_SIGN, X_SIGN, G_NONE, X_NONE, H_INVALID, H_SIGN_AND_ENCRYPT, H_SIGN, H_NONE, D_INVALID, D_SIGN_AND_ENCRYPT, D_SIGN, D_NONE, R_INVALID, R_NONE, R_SIGN, R_SIGN_AND_ENCRYPT, S_cs, cs0, S_fm, hfm⟩ := id FX
  refine own_go (T' := s₁) (g' := (mkF m 1 #[.val (.int p1), .unset, .unset, .unset, .unset, .unset, .unset] [(.int p1)])) (fun t q => XS.iloadN X0.here hx rfl (hb hby at_0) rfl q) ?_
  refine own_go (T' := s₁) (g' := (mkF m 2 #[.val (.int p1), .unset, .unset, .unset, .unset, .unset, .unset] [(.int (3 : Int32)), (.int p1)])) (fun t q => XS.iconst X0.here hx rfl (hb hby at_1) q) ?_
  refine own_go (T' := s₁) (g' := (mkF m 3 #[.val (.int p1), .unset, .unset, .unset, .unset, .unset, .unset] [(.int (p1 &&& (3 : Int32)))])) (fun t q => XS.iand X0.here hx rfl (hb hby at_2) rfl q) ?_
  obtain ⟨kk, hk0⟩ : ∃ z : Int32, z = (p1 &&& (3 : Int32)) := ⟨_, rfl⟩
  rw [← hk0]
  refine own_go (T' := s₁) (g' := (mkF m 4 #[.val (.int p1), .val (.int kk), .unset, .unset, .unset, .unset, .unset] [])) (fun t q => XS.istoreN X0.here hx rfl (hb hby at_3) rfl (l' := #[.val (.int p1), .val (.int kk), .unset, .unset, .unset, .unset, .unset]) rfl q) ?_
  refine own_go (T' := s₁) (g' := (mkF m 5 #[.val (.int p1), .val (.int kk), .unset, .unset, .unset, .unset, .unset] [(.int kk)])) (fun t q => XS.iloadN X0.here hx rfl (hb hby at_4) rfl q) ?_
  obtain ⟨v1, T1, L1, X1, Q1, st1⟩ := own_callS X0 hx hZ (y := (⟨"com/example/dvarapala/dvarapala/engine/MessageSecurityModeIsSignedPinLaw", "pick", "(I)Lcom/example/dvarapala/dvarapala/engine/MessageSecurityMode;"⟩ : MethodName)) (argsL := [(.int kk)]) (rest := []) hown (hw _ (List.mem_of_getElem? (i := 0) rfl)) (hw _ (List.mem_of_getElem? (i := 1) rfl)) (hw _ (List.mem_of_getElem? (i := 2) rfl)) (hw _ (List.mem_of_getElem? (i := 3) rfl)) (rm_pick l Z a0 hw [] kk w_INVALID w_NONE w_SIGN w_SIGN_AND_ENCRYPT s_INVALID s_NONE s_SIGN s_SIGN_AND_ENCRYPT v_INVALID v_NONE v_SIGN v_SIGN_AND_ENCRYPT cs fm h0 FX) e0 (by decide) (by decide) 0 (by decide) (by decide) (by decide) (g := (mkF m 5 #[.val (.int p1), .val (.int kk), .unset, .unset, .unset, .unset, .unset] [(.int kk)])) rfl (by rw [hml]; rfl) (lenOf (ps := [.int]) (r := (some (.object "com/example/dvarapala/dvarapala/engine/MessageSecurityMode"))) (by decide +kernel) rfl) rfl (by show 2 * 0 + _ ≤ _; exact Nat.le_of_eq rfl) (hb hby at_5)
  obtain ⟨Q1, e1, rfl⟩ := Q1
  rcases Q1 with ⟨hk, rfl⟩ | ⟨hk, rfl⟩ | ⟨hk, rfl⟩ | ⟨hk, rfl⟩
  · refine own_go (T' := T1) (g' := (mkF m 8 #[.val (.int p1), .val (.int kk), .unset, .unset, .unset, .unset, .unset] [(.ref w_INVALID)])) (fun t q => st1 t q) ?_
    refine own_go (T' := T1) (g' := (mkF m 9 #[.val (.int p1), .val (.int kk), .val (.ref w_INVALID), .unset, .unset, .unset, .unset] [])) (fun t q => XS.astoreN X1.here hx rfl (hb hby at_8) rfl rfl (l' := #[.val (.int p1), .val (.int kk), .val (.ref w_INVALID), .unset, .unset, .unset, .unset]) rfl q) ?_
    refine own_go (T' := T1) (g' := (mkF m 10 #[.val (.int p1), .val (.int kk), .val (.ref w_INVALID), .unset, .unset, .unset, .unset] [(.int kk)])) (fun t q => XS.iloadN X1.here hx rfl (hb hby at_9) rfl q) ?_
    refine own_go (T' := T1) (g' := (mkF m 11 #[.val (.int p1), .val (.int kk), .val (.ref w_INVALID), .unset, .unset, .unset, .unset] [(.int (2 : Int32)), (.int kk)])) (fun t q => XS.iconst X1.here hx rfl (hb hby at_10) q) ?_
    have c2 : kk < (2 : Int32) := by rw [hk]; decide
    refine own_go (T' := T1) (g' := (mkF m 18 #[.val (.int p1), .val (.int kk), .val (.ref w_INVALID), .unset, .unset, .unset, .unset] [])) (fun t q => XS.icmpYes X1.here hx rfl (pc0 := 11) (pc' := 18) rfl (hb hby at_11) rfl (tlt c2).1 (by decide) (by decide) q) ?_
    refine own_go (T' := T1) (g' := (mkF m 19 #[.val (.int p1), .val (.int kk), .val (.ref w_INVALID), .unset, .unset, .unset, .unset] [(.int (0 : Int32))])) (fun t q => XS.iconst X1.here hx rfl (hb hby at_18) q) ?_
    refine own_go (T' := T1) (g' := (mkF m 20 #[.val (.int p1), .val (.int kk), .val (.ref w_INVALID), .val (.int (0 : Int32)), .unset, .unset, .unset] [])) (fun t q => XS.istoreN X1.here hx rfl (hb hby at_19) rfl (l' := #[.val (.int p1), .val (.int kk), .val (.ref w_INVALID), .val (.int (0 : Int32)), .unset, .unset, .unset]) rfl q) ?_
    refine own_go (T' := T1) (g' := (mkF m 21 #[.val (.int p1), .val (.int kk), .val (.ref w_INVALID), .val (.int (0 : Int32)), .unset, .unset, .unset] [(.ref w_INVALID)])) (fun t q => XS.aloadN X1.here hx rfl (hb hby at_20) rfl rfl q) ?_
    obtain ⟨v3, T3, L3, X3, Q3, st3⟩ := own_callV X1 hx hZ (y := (⟨"com/example/dvarapala/dvarapala/engine/MessageSecurityMode", "getSpecName", "()Ljava/lang/String;"⟩ : MethodName)) (b := w_INVALID) (argsL := []) (rest := []) hown (hw _ (List.mem_of_getElem? (i := 7) rfl)) (hw _ (List.mem_of_getElem? (i := 8) rfl)) (hw _ (List.mem_of_getElem? (i := 10) rfl)) (hw _ (List.mem_of_getElem? (i := 9) rfl)) (hw _ (List.mem_of_getElem? (i := 5) rfl)) (hw _ (List.mem_of_getElem? (i := 11) rfl)) (rm_gsn_INVALID l Z a0 hw [] w_INVALID w_NONE w_SIGN w_SIGN_AND_ENCRYPT s_INVALID s_NONE s_SIGN s_SIGN_AND_ENCRYPT v_INVALID v_NONE v_SIGN v_SIGN_AND_ENCRYPT cs fm h0 FX) e1 E_INVALID (by decide) (by decide) 0 (by decide) (by decide) (by decide) (g := (mkF m 21 #[.val (.int p1), .val (.int kk), .val (.ref w_INVALID), .val (.int (0 : Int32)), .unset, .unset, .unset] [(.ref w_INVALID)])) rfl (by rw [hml]; rfl) (lenOf (ps := []) (r := (some (.object "java/lang/String"))) (by decide +kernel) rfl) rfl (by show 2 * 0 + _ ≤ _; exact Nat.le_of_eq rfl) (hb hby at_21)
    obtain ⟨rfl, e3, rfl⟩ := Q3
    refine own_go (T' := T3) (g' := (mkF m 24 #[.val (.int p1), .val (.int kk), .val (.ref w_INVALID), .val (.int (0 : Int32)), .unset, .unset, .unset] [(.ref s_INVALID)])) (fun t q => st3 t q) ?_
    refine own_go (T' := T3) (g' := (mkF m 26 #[.val (.int p1), .val (.int kk), .val (.ref w_INVALID), .val (.int (0 : Int32)), .val (.ref s_INVALID), .unset, .unset] [])) (fun t q => XS.astore X3.here hx rfl (hb hby at_24) rfl rfl (l' := #[.val (.int p1), .val (.int kk), .val (.ref w_INVALID), .val (.int (0 : Int32)), .val (.ref s_INVALID), .unset, .unset]) rfl q) ?_
    refine own_go (T' := T3) (g' := (mkF m 28 #[.val (.int p1), .val (.int kk), .val (.ref w_INVALID), .val (.int (0 : Int32)), .val (.ref s_INVALID), .unset, .unset] [(.ref s_INVALID)])) (fun t q => XS.aload X3.here hx rfl (hb hby at_26) rfl rfl q) ?_
    obtain ⟨v4, T4, L4, X4, Q4, st4⟩ := own_callV X3 hx hZ (y := (⟨"java/lang/String", "length", "()I"⟩ : MethodName)) (b := s_INVALID) (argsL := []) (rest := []) hown (hw _ (List.mem_of_getElem? (i := 14) rfl)) (hw _ (List.mem_of_getElem? (i := 15) rfl)) (hw _ (List.mem_of_getElem? (i := 17) rfl)) (hw _ (List.mem_of_getElem? (i := 16) rfl)) (hw _ (List.mem_of_getElem? (i := 18) rfl)) (hw _ (List.mem_of_getElem? (i := 19) rfl)) (rm_len_INVALID l Z a0 hw [] w_INVALID w_NONE w_SIGN w_SIGN_AND_ENCRYPT s_INVALID s_NONE s_SIGN s_SIGN_AND_ENCRYPT v_INVALID v_NONE v_SIGN v_SIGN_AND_ENCRYPT cs fm h0 FX) e3 X_INVALID (by decide) (by decide) 0 (by decide) (by decide) (by decide) (g := (mkF m 28 #[.val (.int p1), .val (.int kk), .val (.ref w_INVALID), .val (.int (0 : Int32)), .val (.ref s_INVALID), .unset, .unset] [(.ref s_INVALID)])) rfl (by rw [hml]; rfl) (lenOf (ps := []) (r := (some .int)) (by decide +kernel) rfl) rfl (by show 2 * 0 + _ ≤ _; exact Nat.le_of_eq rfl) (hb hby at_28)
    obtain ⟨rfl, e4, rfl⟩ := Q4
    refine own_go (T' := T4) (g' := (mkF m 31 #[.val (.int p1), .val (.int kk), .val (.ref w_INVALID), .val (.int (0 : Int32)), .val (.ref s_INVALID), .unset, .unset] [(.int (7 : Int32))])) (fun t q => st4 t q) ?_
    refine own_go (T' := T4) (g' := (mkF m 32 #[.val (.int p1), .val (.int kk), .val (.ref w_INVALID), .val (.int (0 : Int32)), .val (.ref s_INVALID), .unset, .unset] [(.int (4 : Int32)), (.int (7 : Int32))])) (fun t q => XS.iconst X4.here hx rfl (hb hby at_31) q) ?_
    have c5 : ¬ ((7 : Int32) < (4 : Int32)) := by decide
    refine own_go (T' := T4) (g' := (mkF m 35 #[.val (.int p1), .val (.int kk), .val (.ref w_INVALID), .val (.int (0 : Int32)), .val (.ref s_INVALID), .unset, .unset] [])) (fun t q => XS.icmpNo X4.here hx rfl (hb hby at_32) rfl (flt c5).1 q) ?_
    refine own_go (T' := T4) (g' := (mkF m 37 #[.val (.int p1), .val (.int kk), .val (.ref w_INVALID), .val (.int (0 : Int32)), .val (.ref s_INVALID), .unset, .unset] [(.ref s_INVALID)])) (fun t q => XS.aload X4.here hx rfl (hb hby at_35) rfl rfl q) ?_
    refine own_go (T' := T4) (g' := (mkF m 38 #[.val (.int p1), .val (.int kk), .val (.ref w_INVALID), .val (.int (0 : Int32)), .val (.ref s_INVALID), .unset, .unset] [(.int (0 : Int32)), (.ref s_INVALID)])) (fun t q => XS.iconst X4.here hx rfl (hb hby at_37) q) ?_
    obtain ⟨v6, T6, L6, X6, Q6, st6⟩ := own_callV X4 hx hZ (y := (⟨"java/lang/String", "charAt", "(I)C"⟩ : MethodName)) (b := s_INVALID) (argsL := [(.int (0 : Int32))]) (rest := []) hown (hw _ (List.mem_of_getElem? (i := 30) rfl)) (hw _ (List.mem_of_getElem? (i := 31) rfl)) (hw _ (List.mem_of_getElem? (i := 33) rfl)) (hw _ (List.mem_of_getElem? (i := 32) rfl)) (hw _ (List.mem_of_getElem? (i := 18) rfl)) (hw _ (List.mem_of_getElem? (i := 34) rfl)) (rm_ch_INVALID_0 l Z a0 hw [] w_INVALID w_NONE w_SIGN w_SIGN_AND_ENCRYPT s_INVALID s_NONE s_SIGN s_SIGN_AND_ENCRYPT v_INVALID v_NONE v_SIGN v_SIGN_AND_ENCRYPT cs fm h0 FX) e4 X_INVALID (by decide) (by decide) 0 (by decide) (by decide) (by decide) (g := (mkF m 38 #[.val (.int p1), .val (.int kk), .val (.ref w_INVALID), .val (.int (0 : Int32)), .val (.ref s_INVALID), .unset, .unset] [(.int (0 : Int32)), (.ref s_INVALID)])) rfl (by rw [hml]; rfl) (lenOf (ps := [.int]) (r := (some .char)) (by decide +kernel) rfl) rfl (by show 2 * 0 + _ ≤ _; exact Nat.le_of_eq rfl) (hb hby at_38)
    obtain ⟨rfl, e6, rfl⟩ := Q6
    refine own_go (T' := T6) (g' := (mkF m 41 #[.val (.int p1), .val (.int kk), .val (.ref w_INVALID), .val (.int (0 : Int32)), .val (.ref s_INVALID), .unset, .unset] [(.int (73 : Int32))])) (fun t q => st6 t q) ?_
    refine own_go (T' := T6) (g' := (mkF m 43 #[.val (.int p1), .val (.int kk), .val (.ref w_INVALID), .val (.int (0 : Int32)), .val (.ref s_INVALID), .unset, .unset] [(.int (83 : Int32)), (.int (73 : Int32))])) (fun t q => XS.bipush X6.here hx rfl (hb hby at_41) q) ?_
    have c7 : ¬ ((73 : Int32) = (83 : Int32)) := by decide
    refine own_go (T' := T6) (g' := (mkF m 83 #[.val (.int p1), .val (.int kk), .val (.ref w_INVALID), .val (.int (0 : Int32)), .val (.ref s_INVALID), .unset, .unset] [])) (fun t q => XS.icmpYes X6.here hx rfl (pc0 := 43) (pc' := 83) rfl (hb hby at_43) rfl (feq c7).2 (by decide) (by decide) q) ?_
    refine own_go (T' := T6) (g' := (mkF m 84 #[.val (.int p1), .val (.int kk), .val (.ref w_INVALID), .val (.int (0 : Int32)), .val (.ref s_INVALID), .unset, .unset] [(.int (0 : Int32))])) (fun t q => XS.iconst X6.here hx rfl (hb hby at_83) q) ?_
    refine own_go (T' := T6) (g' := (mkF m 86 #[.val (.int p1), .val (.int kk), .val (.ref w_INVALID), .val (.int (0 : Int32)), .val (.ref s_INVALID), .val (.int (0 : Int32)), .unset] [])) (fun t q => XS.istore X6.here hx rfl (hb hby at_84) rfl (l' := #[.val (.int p1), .val (.int kk), .val (.ref w_INVALID), .val (.int (0 : Int32)), .val (.ref s_INVALID), .val (.int (0 : Int32)), .unset]) rfl q) ?_
    refine own_go (T' := T6) (g' := (mkF m 87 #[.val (.int p1), .val (.int kk), .val (.ref w_INVALID), .val (.int (0 : Int32)), .val (.ref s_INVALID), .val (.int (0 : Int32)), .unset] [(.ref w_INVALID)])) (fun t q => XS.aloadN X6.here hx rfl (hb hby at_86) rfl rfl q) ?_
    obtain ⟨v8, T8, L8, X8, Q8, st8⟩ := own_callV X6 hx hZ (y := (⟨"com/example/dvarapala/dvarapala/engine/MessageSecurityMode", "isSigned", "()Z"⟩ : MethodName)) (b := w_INVALID) (argsL := []) (rest := []) hown (hw _ (List.mem_of_getElem? (i := 52) rfl)) (hw _ (List.mem_of_getElem? (i := 53) rfl)) (hw _ (List.mem_of_getElem? (i := 55) rfl)) (hw _ (List.mem_of_getElem? (i := 54) rfl)) (hw _ (List.mem_of_getElem? (i := 5) rfl)) (hw _ (List.mem_of_getElem? (i := 56) rfl)) (rm_sig_INVALID l Z a0 hw [] w_INVALID w_NONE w_SIGN w_SIGN_AND_ENCRYPT s_INVALID s_NONE s_SIGN s_SIGN_AND_ENCRYPT v_INVALID v_NONE v_SIGN v_SIGN_AND_ENCRYPT cs fm h0 FX) e6 E_INVALID (by decide) (by decide) 0 (by decide) (by decide) (by decide) (g := (mkF m 87 #[.val (.int p1), .val (.int kk), .val (.ref w_INVALID), .val (.int (0 : Int32)), .val (.ref s_INVALID), .val (.int (0 : Int32)), .unset] [(.ref w_INVALID)])) rfl (by rw [hml]; rfl) (lenOf (ps := []) (r := (some .boolean)) (by decide +kernel) rfl) rfl (by show 2 * 0 + _ ≤ _; exact Nat.le_of_eq rfl) (hb hby at_87)
    obtain ⟨rfl, e8, rfl⟩ := Q8
    refine own_go (T' := T8) (g' := (mkF m 90 #[.val (.int p1), .val (.int kk), .val (.ref w_INVALID), .val (.int (0 : Int32)), .val (.ref s_INVALID), .val (.int (0 : Int32)), .unset] [(.int (0 : Int32))])) (fun t q => st8 t q) ?_
    refine own_go (T' := T8) (g' := (mkF m 92 #[.val (.int p1), .val (.int kk), .val (.ref w_INVALID), .val (.int (0 : Int32)), .val (.ref s_INVALID), .val (.int (0 : Int32)), .val (.int (0 : Int32))] [])) (fun t q => XS.istore X8.here hx rfl (hb hby at_90) rfl (l' := #[.val (.int p1), .val (.int kk), .val (.ref w_INVALID), .val (.int (0 : Int32)), .val (.ref s_INVALID), .val (.int (0 : Int32)), .val (.int (0 : Int32))]) rfl q) ?_
    refine own_go (T' := T8) (g' := (mkF m 94 #[.val (.int p1), .val (.int kk), .val (.ref w_INVALID), .val (.int (0 : Int32)), .val (.ref s_INVALID), .val (.int (0 : Int32)), .val (.int (0 : Int32))] [(.int (0 : Int32))])) (fun t q => XS.iload X8.here hx rfl (hb hby at_92) rfl q) ?_
    refine own_go (T' := T8) (g' := (mkF m 95 #[.val (.int p1), .val (.int kk), .val (.ref w_INVALID), .val (.int (0 : Int32)), .val (.ref s_INVALID), .val (.int (0 : Int32)), .val (.int (0 : Int32))] [(.int (0 : Int32)), (.int (0 : Int32))])) (fun t q => XS.iloadN X8.here hx rfl (hb hby at_94) rfl q) ?_
    have c9 : (0 : Int32) = (0 : Int32) := by decide
    refine own_go (T' := T8) (g' := (mkF m 98 #[.val (.int p1), .val (.int kk), .val (.ref w_INVALID), .val (.int (0 : Int32)), .val (.ref s_INVALID), .val (.int (0 : Int32)), .val (.int (0 : Int32))] [])) (fun t q => XS.icmpNo X8.here hx rfl (hb hby at_95) rfl (teq c9).2 q) ?_
    refine own_go (T' := T8) (g' := (mkF m 100 #[.val (.int p1), .val (.int kk), .val (.ref w_INVALID), .val (.int (0 : Int32)), .val (.ref s_INVALID), .val (.int (0 : Int32)), .val (.int (0 : Int32))] [(.int (0 : Int32))])) (fun t q => XS.iload X8.here hx rfl (hb hby at_98) rfl q) ?_
    refine own_go (T' := T8) (g' := (mkF m 102 #[.val (.int p1), .val (.int kk), .val (.ref w_INVALID), .val (.int (0 : Int32)), .val (.ref s_INVALID), .val (.int (0 : Int32)), .val (.int (0 : Int32))] [(.int (0 : Int32)), (.int (0 : Int32))])) (fun t q => XS.iload X8.here hx rfl (hb hby at_100) rfl q) ?_
    have c10 : (0 : Int32) = (0 : Int32) := by decide
    refine own_go (T' := T8) (g' := (mkF m 105 #[.val (.int p1), .val (.int kk), .val (.ref w_INVALID), .val (.int (0 : Int32)), .val (.ref s_INVALID), .val (.int (0 : Int32)), .val (.int (0 : Int32))] [])) (fun t q => XS.icmpNo X8.here hx rfl (hb hby at_102) rfl (teq c10).2 q) ?_
    refine own_go (T' := T8) (g' := (mkF m 106 #[.val (.int p1), .val (.int kk), .val (.ref w_INVALID), .val (.int (0 : Int32)), .val (.ref s_INVALID), .val (.int (0 : Int32)), .val (.int (0 : Int32))] [(.int (1 : Int32))])) (fun t q => XS.iconst X8.here hx rfl (hb hby at_105) q) ?_
    refine own_go (T' := T8) (g' := (mkF m 110 #[.val (.int p1), .val (.int kk), .val (.ref w_INVALID), .val (.int (0 : Int32)), .val (.ref s_INVALID), .val (.int (0 : Int32)), .val (.int (0 : Int32))] [(.int (1 : Int32))])) (fun t q => XS.goto X8.here hx rfl (pc0 := 106) (pc' := 110) rfl (hb hby at_106) (by decide) (by decide) q) ?_
    refine own_outN X8 hx hlk hret (t := .boolean) (by simp) (hb hby at_110) (w := (1 : Int32)) (by decide) ?_ (by decide) (by decide)
    exact ⟨rfl, (Fr.app (Fr.app (Fr.app (Fr.app (Fr.app (Fr.nil _) (Fr.nil _)) (Fr.nil _)) (Fr.nil _)) (Fr.nil _)) (Fr.nil _))⟩
  · refine own_go (T' := T1) (g' := (mkF m 8 #[.val (.int p1), .val (.int kk), .unset, .unset, .unset, .unset, .unset] [(.ref w_NONE)])) (fun t q => st1 t q) ?_
    refine own_go (T' := T1) (g' := (mkF m 9 #[.val (.int p1), .val (.int kk), .val (.ref w_NONE), .unset, .unset, .unset, .unset] [])) (fun t q => XS.astoreN X1.here hx rfl (hb hby at_8) rfl rfl (l' := #[.val (.int p1), .val (.int kk), .val (.ref w_NONE), .unset, .unset, .unset, .unset]) rfl q) ?_
    refine own_go (T' := T1) (g' := (mkF m 10 #[.val (.int p1), .val (.int kk), .val (.ref w_NONE), .unset, .unset, .unset, .unset] [(.int kk)])) (fun t q => XS.iloadN X1.here hx rfl (hb hby at_9) rfl q) ?_
    refine own_go (T' := T1) (g' := (mkF m 11 #[.val (.int p1), .val (.int kk), .val (.ref w_NONE), .unset, .unset, .unset, .unset] [(.int (2 : Int32)), (.int kk)])) (fun t q => XS.iconst X1.here hx rfl (hb hby at_10) q) ?_
    have c11 : kk < (2 : Int32) := by rw [hk]; decide
    refine own_go (T' := T1) (g' := (mkF m 18 #[.val (.int p1), .val (.int kk), .val (.ref w_NONE), .unset, .unset, .unset, .unset] [])) (fun t q => XS.icmpYes X1.here hx rfl (pc0 := 11) (pc' := 18) rfl (hb hby at_11) rfl (tlt c11).1 (by decide) (by decide) q) ?_
    refine own_go (T' := T1) (g' := (mkF m 19 #[.val (.int p1), .val (.int kk), .val (.ref w_NONE), .unset, .unset, .unset, .unset] [(.int (0 : Int32))])) (fun t q => XS.iconst X1.here hx rfl (hb hby at_18) q) ?_
    refine own_go (T' := T1) (g' := (mkF m 20 #[.val (.int p1), .val (.int kk), .val (.ref w_NONE), .val (.int (0 : Int32)), .unset, .unset, .unset] [])) (fun t q => XS.istoreN X1.here hx rfl (hb hby at_19) rfl (l' := #[.val (.int p1), .val (.int kk), .val (.ref w_NONE), .val (.int (0 : Int32)), .unset, .unset, .unset]) rfl q) ?_
    refine own_go (T' := T1) (g' := (mkF m 21 #[.val (.int p1), .val (.int kk), .val (.ref w_NONE), .val (.int (0 : Int32)), .unset, .unset, .unset] [(.ref w_NONE)])) (fun t q => XS.aloadN X1.here hx rfl (hb hby at_20) rfl rfl q) ?_
    obtain ⟨v12, T12, L12, X12, Q12, st12⟩ := own_callV X1 hx hZ (y := (⟨"com/example/dvarapala/dvarapala/engine/MessageSecurityMode", "getSpecName", "()Ljava/lang/String;"⟩ : MethodName)) (b := w_NONE) (argsL := []) (rest := []) hown (hw _ (List.mem_of_getElem? (i := 7) rfl)) (hw _ (List.mem_of_getElem? (i := 8) rfl)) (hw _ (List.mem_of_getElem? (i := 10) rfl)) (hw _ (List.mem_of_getElem? (i := 9) rfl)) (hw _ (List.mem_of_getElem? (i := 5) rfl)) (hw _ (List.mem_of_getElem? (i := 11) rfl)) (rm_gsn_NONE l Z a0 hw [] w_INVALID w_NONE w_SIGN w_SIGN_AND_ENCRYPT s_INVALID s_NONE s_SIGN s_SIGN_AND_ENCRYPT v_INVALID v_NONE v_SIGN v_SIGN_AND_ENCRYPT cs fm h0 FX) e1 E_NONE (by decide) (by decide) 0 (by decide) (by decide) (by decide) (g := (mkF m 21 #[.val (.int p1), .val (.int kk), .val (.ref w_NONE), .val (.int (0 : Int32)), .unset, .unset, .unset] [(.ref w_NONE)])) rfl (by rw [hml]; rfl) (lenOf (ps := []) (r := (some (.object "java/lang/String"))) (by decide +kernel) rfl) rfl (by show 2 * 0 + _ ≤ _; exact Nat.le_of_eq rfl) (hb hby at_21)
    obtain ⟨rfl, e12, rfl⟩ := Q12
    refine own_go (T' := T12) (g' := (mkF m 24 #[.val (.int p1), .val (.int kk), .val (.ref w_NONE), .val (.int (0 : Int32)), .unset, .unset, .unset] [(.ref s_NONE)])) (fun t q => st12 t q) ?_
    refine own_go (T' := T12) (g' := (mkF m 26 #[.val (.int p1), .val (.int kk), .val (.ref w_NONE), .val (.int (0 : Int32)), .val (.ref s_NONE), .unset, .unset] [])) (fun t q => XS.astore X12.here hx rfl (hb hby at_24) rfl rfl (l' := #[.val (.int p1), .val (.int kk), .val (.ref w_NONE), .val (.int (0 : Int32)), .val (.ref s_NONE), .unset, .unset]) rfl q) ?_
    refine own_go (T' := T12) (g' := (mkF m 28 #[.val (.int p1), .val (.int kk), .val (.ref w_NONE), .val (.int (0 : Int32)), .val (.ref s_NONE), .unset, .unset] [(.ref s_NONE)])) (fun t q => XS.aload X12.here hx rfl (hb hby at_26) rfl rfl q) ?_
    obtain ⟨v13, T13, L13, X13, Q13, st13⟩ := own_callV X12 hx hZ (y := (⟨"java/lang/String", "length", "()I"⟩ : MethodName)) (b := s_NONE) (argsL := []) (rest := []) hown (hw _ (List.mem_of_getElem? (i := 14) rfl)) (hw _ (List.mem_of_getElem? (i := 15) rfl)) (hw _ (List.mem_of_getElem? (i := 17) rfl)) (hw _ (List.mem_of_getElem? (i := 16) rfl)) (hw _ (List.mem_of_getElem? (i := 18) rfl)) (hw _ (List.mem_of_getElem? (i := 19) rfl)) (rm_len_NONE l Z a0 hw [] w_INVALID w_NONE w_SIGN w_SIGN_AND_ENCRYPT s_INVALID s_NONE s_SIGN s_SIGN_AND_ENCRYPT v_INVALID v_NONE v_SIGN v_SIGN_AND_ENCRYPT cs fm h0 FX) e12 X_NONE (by decide) (by decide) 0 (by decide) (by decide) (by decide) (g := (mkF m 28 #[.val (.int p1), .val (.int kk), .val (.ref w_NONE), .val (.int (0 : Int32)), .val (.ref s_NONE), .unset, .unset] [(.ref s_NONE)])) rfl (by rw [hml]; rfl) (lenOf (ps := []) (r := (some .int)) (by decide +kernel) rfl) rfl (by show 2 * 0 + _ ≤ _; exact Nat.le_of_eq rfl) (hb hby at_28)
    obtain ⟨rfl, e13, rfl⟩ := Q13
    refine own_go (T' := T13) (g' := (mkF m 31 #[.val (.int p1), .val (.int kk), .val (.ref w_NONE), .val (.int (0 : Int32)), .val (.ref s_NONE), .unset, .unset] [(.int (4 : Int32))])) (fun t q => st13 t q) ?_
    refine own_go (T' := T13) (g' := (mkF m 32 #[.val (.int p1), .val (.int kk), .val (.ref w_NONE), .val (.int (0 : Int32)), .val (.ref s_NONE), .unset, .unset] [(.int (4 : Int32)), (.int (4 : Int32))])) (fun t q => XS.iconst X13.here hx rfl (hb hby at_31) q) ?_
    have c14 : ¬ ((4 : Int32) < (4 : Int32)) := by decide
    refine own_go (T' := T13) (g' := (mkF m 35 #[.val (.int p1), .val (.int kk), .val (.ref w_NONE), .val (.int (0 : Int32)), .val (.ref s_NONE), .unset, .unset] [])) (fun t q => XS.icmpNo X13.here hx rfl (hb hby at_32) rfl (flt c14).1 q) ?_
    refine own_go (T' := T13) (g' := (mkF m 37 #[.val (.int p1), .val (.int kk), .val (.ref w_NONE), .val (.int (0 : Int32)), .val (.ref s_NONE), .unset, .unset] [(.ref s_NONE)])) (fun t q => XS.aload X13.here hx rfl (hb hby at_35) rfl rfl q) ?_
    refine own_go (T' := T13) (g' := (mkF m 38 #[.val (.int p1), .val (.int kk), .val (.ref w_NONE), .val (.int (0 : Int32)), .val (.ref s_NONE), .unset, .unset] [(.int (0 : Int32)), (.ref s_NONE)])) (fun t q => XS.iconst X13.here hx rfl (hb hby at_37) q) ?_
    obtain ⟨v15, T15, L15, X15, Q15, st15⟩ := own_callV X13 hx hZ (y := (⟨"java/lang/String", "charAt", "(I)C"⟩ : MethodName)) (b := s_NONE) (argsL := [(.int (0 : Int32))]) (rest := []) hown (hw _ (List.mem_of_getElem? (i := 30) rfl)) (hw _ (List.mem_of_getElem? (i := 31) rfl)) (hw _ (List.mem_of_getElem? (i := 33) rfl)) (hw _ (List.mem_of_getElem? (i := 32) rfl)) (hw _ (List.mem_of_getElem? (i := 18) rfl)) (hw _ (List.mem_of_getElem? (i := 34) rfl)) (rm_ch_NONE_0 l Z a0 hw [] w_INVALID w_NONE w_SIGN w_SIGN_AND_ENCRYPT s_INVALID s_NONE s_SIGN s_SIGN_AND_ENCRYPT v_INVALID v_NONE v_SIGN v_SIGN_AND_ENCRYPT cs fm h0 FX) e13 X_NONE (by decide) (by decide) 0 (by decide) (by decide) (by decide) (g := (mkF m 38 #[.val (.int p1), .val (.int kk), .val (.ref w_NONE), .val (.int (0 : Int32)), .val (.ref s_NONE), .unset, .unset] [(.int (0 : Int32)), (.ref s_NONE)])) rfl (by rw [hml]; rfl) (lenOf (ps := [.int]) (r := (some .char)) (by decide +kernel) rfl) rfl (by show 2 * 0 + _ ≤ _; exact Nat.le_of_eq rfl) (hb hby at_38)
    obtain ⟨rfl, e15, rfl⟩ := Q15
    refine own_go (T' := T15) (g' := (mkF m 41 #[.val (.int p1), .val (.int kk), .val (.ref w_NONE), .val (.int (0 : Int32)), .val (.ref s_NONE), .unset, .unset] [(.int (78 : Int32))])) (fun t q => st15 t q) ?_
    refine own_go (T' := T15) (g' := (mkF m 43 #[.val (.int p1), .val (.int kk), .val (.ref w_NONE), .val (.int (0 : Int32)), .val (.ref s_NONE), .unset, .unset] [(.int (83 : Int32)), (.int (78 : Int32))])) (fun t q => XS.bipush X15.here hx rfl (hb hby at_41) q) ?_
    have c16 : ¬ ((78 : Int32) = (83 : Int32)) := by decide
    refine own_go (T' := T15) (g' := (mkF m 83 #[.val (.int p1), .val (.int kk), .val (.ref w_NONE), .val (.int (0 : Int32)), .val (.ref s_NONE), .unset, .unset] [])) (fun t q => XS.icmpYes X15.here hx rfl (pc0 := 43) (pc' := 83) rfl (hb hby at_43) rfl (feq c16).2 (by decide) (by decide) q) ?_
    refine own_go (T' := T15) (g' := (mkF m 84 #[.val (.int p1), .val (.int kk), .val (.ref w_NONE), .val (.int (0 : Int32)), .val (.ref s_NONE), .unset, .unset] [(.int (0 : Int32))])) (fun t q => XS.iconst X15.here hx rfl (hb hby at_83) q) ?_
    refine own_go (T' := T15) (g' := (mkF m 86 #[.val (.int p1), .val (.int kk), .val (.ref w_NONE), .val (.int (0 : Int32)), .val (.ref s_NONE), .val (.int (0 : Int32)), .unset] [])) (fun t q => XS.istore X15.here hx rfl (hb hby at_84) rfl (l' := #[.val (.int p1), .val (.int kk), .val (.ref w_NONE), .val (.int (0 : Int32)), .val (.ref s_NONE), .val (.int (0 : Int32)), .unset]) rfl q) ?_
    refine own_go (T' := T15) (g' := (mkF m 87 #[.val (.int p1), .val (.int kk), .val (.ref w_NONE), .val (.int (0 : Int32)), .val (.ref s_NONE), .val (.int (0 : Int32)), .unset] [(.ref w_NONE)])) (fun t q => XS.aloadN X15.here hx rfl (hb hby at_86) rfl rfl q) ?_
    obtain ⟨v17, T17, L17, X17, Q17, st17⟩ := own_callV X15 hx hZ (y := (⟨"com/example/dvarapala/dvarapala/engine/MessageSecurityMode", "isSigned", "()Z"⟩ : MethodName)) (b := w_NONE) (argsL := []) (rest := []) hown (hw _ (List.mem_of_getElem? (i := 52) rfl)) (hw _ (List.mem_of_getElem? (i := 53) rfl)) (hw _ (List.mem_of_getElem? (i := 55) rfl)) (hw _ (List.mem_of_getElem? (i := 54) rfl)) (hw _ (List.mem_of_getElem? (i := 5) rfl)) (hw _ (List.mem_of_getElem? (i := 56) rfl)) (rm_sig_NONE l Z a0 hw [] w_INVALID w_NONE w_SIGN w_SIGN_AND_ENCRYPT s_INVALID s_NONE s_SIGN s_SIGN_AND_ENCRYPT v_INVALID v_NONE v_SIGN v_SIGN_AND_ENCRYPT cs fm h0 FX) e15 E_NONE (by decide) (by decide) 0 (by decide) (by decide) (by decide) (g := (mkF m 87 #[.val (.int p1), .val (.int kk), .val (.ref w_NONE), .val (.int (0 : Int32)), .val (.ref s_NONE), .val (.int (0 : Int32)), .unset] [(.ref w_NONE)])) rfl (by rw [hml]; rfl) (lenOf (ps := []) (r := (some .boolean)) (by decide +kernel) rfl) rfl (by show 2 * 0 + _ ≤ _; exact Nat.le_of_eq rfl) (hb hby at_87)
    obtain ⟨rfl, e17, rfl⟩ := Q17
    refine own_go (T' := T17) (g' := (mkF m 90 #[.val (.int p1), .val (.int kk), .val (.ref w_NONE), .val (.int (0 : Int32)), .val (.ref s_NONE), .val (.int (0 : Int32)), .unset] [(.int (0 : Int32))])) (fun t q => st17 t q) ?_
    refine own_go (T' := T17) (g' := (mkF m 92 #[.val (.int p1), .val (.int kk), .val (.ref w_NONE), .val (.int (0 : Int32)), .val (.ref s_NONE), .val (.int (0 : Int32)), .val (.int (0 : Int32))] [])) (fun t q => XS.istore X17.here hx rfl (hb hby at_90) rfl (l' := #[.val (.int p1), .val (.int kk), .val (.ref w_NONE), .val (.int (0 : Int32)), .val (.ref s_NONE), .val (.int (0 : Int32)), .val (.int (0 : Int32))]) rfl q) ?_
    refine own_go (T' := T17) (g' := (mkF m 94 #[.val (.int p1), .val (.int kk), .val (.ref w_NONE), .val (.int (0 : Int32)), .val (.ref s_NONE), .val (.int (0 : Int32)), .val (.int (0 : Int32))] [(.int (0 : Int32))])) (fun t q => XS.iload X17.here hx rfl (hb hby at_92) rfl q) ?_
    refine own_go (T' := T17) (g' := (mkF m 95 #[.val (.int p1), .val (.int kk), .val (.ref w_NONE), .val (.int (0 : Int32)), .val (.ref s_NONE), .val (.int (0 : Int32)), .val (.int (0 : Int32))] [(.int (0 : Int32)), (.int (0 : Int32))])) (fun t q => XS.iloadN X17.here hx rfl (hb hby at_94) rfl q) ?_
    have c18 : (0 : Int32) = (0 : Int32) := by decide
    refine own_go (T' := T17) (g' := (mkF m 98 #[.val (.int p1), .val (.int kk), .val (.ref w_NONE), .val (.int (0 : Int32)), .val (.ref s_NONE), .val (.int (0 : Int32)), .val (.int (0 : Int32))] [])) (fun t q => XS.icmpNo X17.here hx rfl (hb hby at_95) rfl (teq c18).2 q) ?_
    refine own_go (T' := T17) (g' := (mkF m 100 #[.val (.int p1), .val (.int kk), .val (.ref w_NONE), .val (.int (0 : Int32)), .val (.ref s_NONE), .val (.int (0 : Int32)), .val (.int (0 : Int32))] [(.int (0 : Int32))])) (fun t q => XS.iload X17.here hx rfl (hb hby at_98) rfl q) ?_
    refine own_go (T' := T17) (g' := (mkF m 102 #[.val (.int p1), .val (.int kk), .val (.ref w_NONE), .val (.int (0 : Int32)), .val (.ref s_NONE), .val (.int (0 : Int32)), .val (.int (0 : Int32))] [(.int (0 : Int32)), (.int (0 : Int32))])) (fun t q => XS.iload X17.here hx rfl (hb hby at_100) rfl q) ?_
    have c19 : (0 : Int32) = (0 : Int32) := by decide
    refine own_go (T' := T17) (g' := (mkF m 105 #[.val (.int p1), .val (.int kk), .val (.ref w_NONE), .val (.int (0 : Int32)), .val (.ref s_NONE), .val (.int (0 : Int32)), .val (.int (0 : Int32))] [])) (fun t q => XS.icmpNo X17.here hx rfl (hb hby at_102) rfl (teq c19).2 q) ?_
    refine own_go (T' := T17) (g' := (mkF m 106 #[.val (.int p1), .val (.int kk), .val (.ref w_NONE), .val (.int (0 : Int32)), .val (.ref s_NONE), .val (.int (0 : Int32)), .val (.int (0 : Int32))] [(.int (1 : Int32))])) (fun t q => XS.iconst X17.here hx rfl (hb hby at_105) q) ?_
    refine own_go (T' := T17) (g' := (mkF m 110 #[.val (.int p1), .val (.int kk), .val (.ref w_NONE), .val (.int (0 : Int32)), .val (.ref s_NONE), .val (.int (0 : Int32)), .val (.int (0 : Int32))] [(.int (1 : Int32))])) (fun t q => XS.goto X17.here hx rfl (pc0 := 106) (pc' := 110) rfl (hb hby at_106) (by decide) (by decide) q) ?_
    refine own_outN X17 hx hlk hret (t := .boolean) (by simp) (hb hby at_110) (w := (1 : Int32)) (by decide) ?_ (by decide) (by decide)
    exact ⟨rfl, (Fr.app (Fr.app (Fr.app (Fr.app (Fr.app (Fr.nil _) (Fr.nil _)) (Fr.nil _)) (Fr.nil _)) (Fr.nil _)) (Fr.nil _))⟩
  · refine own_go (T' := T1) (g' := (mkF m 8 #[.val (.int p1), .val (.int kk), .unset, .unset, .unset, .unset, .unset] [(.ref w_SIGN)])) (fun t q => st1 t q) ?_
    refine own_go (T' := T1) (g' := (mkF m 9 #[.val (.int p1), .val (.int kk), .val (.ref w_SIGN), .unset, .unset, .unset, .unset] [])) (fun t q => XS.astoreN X1.here hx rfl (hb hby at_8) rfl rfl (l' := #[.val (.int p1), .val (.int kk), .val (.ref w_SIGN), .unset, .unset, .unset, .unset]) rfl q) ?_
    refine own_go (T' := T1) (g' := (mkF m 10 #[.val (.int p1), .val (.int kk), .val (.ref w_SIGN), .unset, .unset, .unset, .unset] [(.int kk)])) (fun t q => XS.iloadN X1.here hx rfl (hb hby at_9) rfl q) ?_
    refine own_go (T' := T1) (g' := (mkF m 11 #[.val (.int p1), .val (.int kk), .val (.ref w_SIGN), .unset, .unset, .unset, .unset] [(.int (2 : Int32)), (.int kk)])) (fun t q => XS.iconst X1.here hx rfl (hb hby at_10) q) ?_
    have c20 : ¬ (kk < (2 : Int32)) := by rw [hk]; decide
    refine own_go (T' := T1) (g' := (mkF m 14 #[.val (.int p1), .val (.int kk), .val (.ref w_SIGN), .unset, .unset, .unset, .unset] [])) (fun t q => XS.icmpNo X1.here hx rfl (hb hby at_11) rfl (flt c20).1 q) ?_
    refine own_go (T' := T1) (g' := (mkF m 15 #[.val (.int p1), .val (.int kk), .val (.ref w_SIGN), .unset, .unset, .unset, .unset] [(.int (1 : Int32))])) (fun t q => XS.iconst X1.here hx rfl (hb hby at_14) q) ?_
    refine own_go (T' := T1) (g' := (mkF m 19 #[.val (.int p1), .val (.int kk), .val (.ref w_SIGN), .unset, .unset, .unset, .unset] [(.int (1 : Int32))])) (fun t q => XS.goto X1.here hx rfl (pc0 := 15) (pc' := 19) rfl (hb hby at_15) (by decide) (by decide) q) ?_
    refine own_go (T' := T1) (g' := (mkF m 20 #[.val (.int p1), .val (.int kk), .val (.ref w_SIGN), .val (.int (1 : Int32)), .unset, .unset, .unset] [])) (fun t q => XS.istoreN X1.here hx rfl (hb hby at_19) rfl (l' := #[.val (.int p1), .val (.int kk), .val (.ref w_SIGN), .val (.int (1 : Int32)), .unset, .unset, .unset]) rfl q) ?_
    refine own_go (T' := T1) (g' := (mkF m 21 #[.val (.int p1), .val (.int kk), .val (.ref w_SIGN), .val (.int (1 : Int32)), .unset, .unset, .unset] [(.ref w_SIGN)])) (fun t q => XS.aloadN X1.here hx rfl (hb hby at_20) rfl rfl q) ?_
    obtain ⟨v21, T21, L21, X21, Q21, st21⟩ := own_callV X1 hx hZ (y := (⟨"com/example/dvarapala/dvarapala/engine/MessageSecurityMode", "getSpecName", "()Ljava/lang/String;"⟩ : MethodName)) (b := w_SIGN) (argsL := []) (rest := []) hown (hw _ (List.mem_of_getElem? (i := 7) rfl)) (hw _ (List.mem_of_getElem? (i := 8) rfl)) (hw _ (List.mem_of_getElem? (i := 10) rfl)) (hw _ (List.mem_of_getElem? (i := 9) rfl)) (hw _ (List.mem_of_getElem? (i := 5) rfl)) (hw _ (List.mem_of_getElem? (i := 11) rfl)) (rm_gsn_SIGN l Z a0 hw [] w_INVALID w_NONE w_SIGN w_SIGN_AND_ENCRYPT s_INVALID s_NONE s_SIGN s_SIGN_AND_ENCRYPT v_INVALID v_NONE v_SIGN v_SIGN_AND_ENCRYPT cs fm h0 FX) e1 E_SIGN (by decide) (by decide) 0 (by decide) (by decide) (by decide) (g := (mkF m 21 #[.val (.int p1), .val (.int kk), .val (.ref w_SIGN), .val (.int (1 : Int32)), .unset, .unset, .unset] [(.ref w_SIGN)])) rfl (by rw [hml]; rfl) (lenOf (ps := []) (r := (some (.object "java/lang/String"))) (by decide +kernel) rfl) rfl (by show 2 * 0 + _ ≤ _; exact Nat.le_of_eq rfl) (hb hby at_21)
    obtain ⟨rfl, e21, rfl⟩ := Q21
    refine own_go (T' := T21) (g' := (mkF m 24 #[.val (.int p1), .val (.int kk), .val (.ref w_SIGN), .val (.int (1 : Int32)), .unset, .unset, .unset] [(.ref s_SIGN)])) (fun t q => st21 t q) ?_
    refine own_go (T' := T21) (g' := (mkF m 26 #[.val (.int p1), .val (.int kk), .val (.ref w_SIGN), .val (.int (1 : Int32)), .val (.ref s_SIGN), .unset, .unset] [])) (fun t q => XS.astore X21.here hx rfl (hb hby at_24) rfl rfl (l' := #[.val (.int p1), .val (.int kk), .val (.ref w_SIGN), .val (.int (1 : Int32)), .val (.ref s_SIGN), .unset, .unset]) rfl q) ?_
    refine own_go (T' := T21) (g' := (mkF m 28 #[.val (.int p1), .val (.int kk), .val (.ref w_SIGN), .val (.int (1 : Int32)), .val (.ref s_SIGN), .unset, .unset] [(.ref s_SIGN)])) (fun t q => XS.aload X21.here hx rfl (hb hby at_26) rfl rfl q) ?_
    obtain ⟨v22, T22, L22, X22, Q22, st22⟩ := own_callV X21 hx hZ (y := (⟨"java/lang/String", "length", "()I"⟩ : MethodName)) (b := s_SIGN) (argsL := []) (rest := []) hown (hw _ (List.mem_of_getElem? (i := 14) rfl)) (hw _ (List.mem_of_getElem? (i := 15) rfl)) (hw _ (List.mem_of_getElem? (i := 17) rfl)) (hw _ (List.mem_of_getElem? (i := 16) rfl)) (hw _ (List.mem_of_getElem? (i := 18) rfl)) (hw _ (List.mem_of_getElem? (i := 19) rfl)) (rm_len_SIGN l Z a0 hw [] w_INVALID w_NONE w_SIGN w_SIGN_AND_ENCRYPT s_INVALID s_NONE s_SIGN s_SIGN_AND_ENCRYPT v_INVALID v_NONE v_SIGN v_SIGN_AND_ENCRYPT cs fm h0 FX) e21 X_SIGN (by decide) (by decide) 0 (by decide) (by decide) (by decide) (g := (mkF m 28 #[.val (.int p1), .val (.int kk), .val (.ref w_SIGN), .val (.int (1 : Int32)), .val (.ref s_SIGN), .unset, .unset] [(.ref s_SIGN)])) rfl (by rw [hml]; rfl) (lenOf (ps := []) (r := (some .int)) (by decide +kernel) rfl) rfl (by show 2 * 0 + _ ≤ _; exact Nat.le_of_eq rfl) (hb hby at_28)
    obtain ⟨rfl, e22, rfl⟩ := Q22
    refine own_go (T' := T22) (g' := (mkF m 31 #[.val (.int p1), .val (.int kk), .val (.ref w_SIGN), .val (.int (1 : Int32)), .val (.ref s_SIGN), .unset, .unset] [(.int (4 : Int32))])) (fun t q => st22 t q) ?_
    refine own_go (T' := T22) (g' := (mkF m 32 #[.val (.int p1), .val (.int kk), .val (.ref w_SIGN), .val (.int (1 : Int32)), .val (.ref s_SIGN), .unset, .unset] [(.int (4 : Int32)), (.int (4 : Int32))])) (fun t q => XS.iconst X22.here hx rfl (hb hby at_31) q) ?_
    have c23 : ¬ ((4 : Int32) < (4 : Int32)) := by decide
    refine own_go (T' := T22) (g' := (mkF m 35 #[.val (.int p1), .val (.int kk), .val (.ref w_SIGN), .val (.int (1 : Int32)), .val (.ref s_SIGN), .unset, .unset] [])) (fun t q => XS.icmpNo X22.here hx rfl (hb hby at_32) rfl (flt c23).1 q) ?_
    refine own_go (T' := T22) (g' := (mkF m 37 #[.val (.int p1), .val (.int kk), .val (.ref w_SIGN), .val (.int (1 : Int32)), .val (.ref s_SIGN), .unset, .unset] [(.ref s_SIGN)])) (fun t q => XS.aload X22.here hx rfl (hb hby at_35) rfl rfl q) ?_
    refine own_go (T' := T22) (g' := (mkF m 38 #[.val (.int p1), .val (.int kk), .val (.ref w_SIGN), .val (.int (1 : Int32)), .val (.ref s_SIGN), .unset, .unset] [(.int (0 : Int32)), (.ref s_SIGN)])) (fun t q => XS.iconst X22.here hx rfl (hb hby at_37) q) ?_
    obtain ⟨v24, T24, L24, X24, Q24, st24⟩ := own_callV X22 hx hZ (y := (⟨"java/lang/String", "charAt", "(I)C"⟩ : MethodName)) (b := s_SIGN) (argsL := [(.int (0 : Int32))]) (rest := []) hown (hw _ (List.mem_of_getElem? (i := 30) rfl)) (hw _ (List.mem_of_getElem? (i := 31) rfl)) (hw _ (List.mem_of_getElem? (i := 33) rfl)) (hw _ (List.mem_of_getElem? (i := 32) rfl)) (hw _ (List.mem_of_getElem? (i := 18) rfl)) (hw _ (List.mem_of_getElem? (i := 34) rfl)) (rm_ch_SIGN_0 l Z a0 hw [] w_INVALID w_NONE w_SIGN w_SIGN_AND_ENCRYPT s_INVALID s_NONE s_SIGN s_SIGN_AND_ENCRYPT v_INVALID v_NONE v_SIGN v_SIGN_AND_ENCRYPT cs fm h0 FX) e22 X_SIGN (by decide) (by decide) 0 (by decide) (by decide) (by decide) (g := (mkF m 38 #[.val (.int p1), .val (.int kk), .val (.ref w_SIGN), .val (.int (1 : Int32)), .val (.ref s_SIGN), .unset, .unset] [(.int (0 : Int32)), (.ref s_SIGN)])) rfl (by rw [hml]; rfl) (lenOf (ps := [.int]) (r := (some .char)) (by decide +kernel) rfl) rfl (by show 2 * 0 + _ ≤ _; exact Nat.le_of_eq rfl) (hb hby at_38)
    obtain ⟨rfl, e24, rfl⟩ := Q24
    refine own_go (T' := T24) (g' := (mkF m 41 #[.val (.int p1), .val (.int kk), .val (.ref w_SIGN), .val (.int (1 : Int32)), .val (.ref s_SIGN), .unset, .unset] [(.int (83 : Int32))])) (fun t q => st24 t q) ?_
    refine own_go (T' := T24) (g' := (mkF m 43 #[.val (.int p1), .val (.int kk), .val (.ref w_SIGN), .val (.int (1 : Int32)), .val (.ref s_SIGN), .unset, .unset] [(.int (83 : Int32)), (.int (83 : Int32))])) (fun t q => XS.bipush X24.here hx rfl (hb hby at_41) q) ?_
    have c25 : (83 : Int32) = (83 : Int32) := by decide
    refine own_go (T' := T24) (g' := (mkF m 46 #[.val (.int p1), .val (.int kk), .val (.ref w_SIGN), .val (.int (1 : Int32)), .val (.ref s_SIGN), .unset, .unset] [])) (fun t q => XS.icmpNo X24.here hx rfl (hb hby at_43) rfl (teq c25).2 q) ?_
    refine own_go (T' := T24) (g' := (mkF m 48 #[.val (.int p1), .val (.int kk), .val (.ref w_SIGN), .val (.int (1 : Int32)), .val (.ref s_SIGN), .unset, .unset] [(.ref s_SIGN)])) (fun t q => XS.aload X24.here hx rfl (hb hby at_46) rfl rfl q) ?_
    refine own_go (T' := T24) (g' := (mkF m 49 #[.val (.int p1), .val (.int kk), .val (.ref w_SIGN), .val (.int (1 : Int32)), .val (.ref s_SIGN), .unset, .unset] [(.int (1 : Int32)), (.ref s_SIGN)])) (fun t q => XS.iconst X24.here hx rfl (hb hby at_48) q) ?_
    obtain ⟨v26, T26, L26, X26, Q26, st26⟩ := own_callV X24 hx hZ (y := (⟨"java/lang/String", "charAt", "(I)C"⟩ : MethodName)) (b := s_SIGN) (argsL := [(.int (1 : Int32))]) (rest := []) hown (hw _ (List.mem_of_getElem? (i := 30) rfl)) (hw _ (List.mem_of_getElem? (i := 31) rfl)) (hw _ (List.mem_of_getElem? (i := 33) rfl)) (hw _ (List.mem_of_getElem? (i := 32) rfl)) (hw _ (List.mem_of_getElem? (i := 18) rfl)) (hw _ (List.mem_of_getElem? (i := 34) rfl)) (rm_ch_SIGN_1 l Z a0 hw [] w_INVALID w_NONE w_SIGN w_SIGN_AND_ENCRYPT s_INVALID s_NONE s_SIGN s_SIGN_AND_ENCRYPT v_INVALID v_NONE v_SIGN v_SIGN_AND_ENCRYPT cs fm h0 FX) e24 X_SIGN (by decide) (by decide) 0 (by decide) (by decide) (by decide) (g := (mkF m 49 #[.val (.int p1), .val (.int kk), .val (.ref w_SIGN), .val (.int (1 : Int32)), .val (.ref s_SIGN), .unset, .unset] [(.int (1 : Int32)), (.ref s_SIGN)])) rfl (by rw [hml]; rfl) (lenOf (ps := [.int]) (r := (some .char)) (by decide +kernel) rfl) rfl (by show 2 * 0 + _ ≤ _; exact Nat.le_of_eq rfl) (hb hby at_49)
    obtain ⟨rfl, e26, rfl⟩ := Q26
    refine own_go (T' := T26) (g' := (mkF m 52 #[.val (.int p1), .val (.int kk), .val (.ref w_SIGN), .val (.int (1 : Int32)), .val (.ref s_SIGN), .unset, .unset] [(.int (105 : Int32))])) (fun t q => st26 t q) ?_
    refine own_go (T' := T26) (g' := (mkF m 54 #[.val (.int p1), .val (.int kk), .val (.ref w_SIGN), .val (.int (1 : Int32)), .val (.ref s_SIGN), .unset, .unset] [(.int (105 : Int32)), (.int (105 : Int32))])) (fun t q => XS.bipush X26.here hx rfl (hb hby at_52) q) ?_
    have c27 : (105 : Int32) = (105 : Int32) := by decide
    refine own_go (T' := T26) (g' := (mkF m 57 #[.val (.int p1), .val (.int kk), .val (.ref w_SIGN), .val (.int (1 : Int32)), .val (.ref s_SIGN), .unset, .unset] [])) (fun t q => XS.icmpNo X26.here hx rfl (hb hby at_54) rfl (teq c27).2 q) ?_
    refine own_go (T' := T26) (g' := (mkF m 59 #[.val (.int p1), .val (.int kk), .val (.ref w_SIGN), .val (.int (1 : Int32)), .val (.ref s_SIGN), .unset, .unset] [(.ref s_SIGN)])) (fun t q => XS.aload X26.here hx rfl (hb hby at_57) rfl rfl q) ?_
    refine own_go (T' := T26) (g' := (mkF m 60 #[.val (.int p1), .val (.int kk), .val (.ref w_SIGN), .val (.int (1 : Int32)), .val (.ref s_SIGN), .unset, .unset] [(.int (2 : Int32)), (.ref s_SIGN)])) (fun t q => XS.iconst X26.here hx rfl (hb hby at_59) q) ?_
    obtain ⟨v28, T28, L28, X28, Q28, st28⟩ := own_callV X26 hx hZ (y := (⟨"java/lang/String", "charAt", "(I)C"⟩ : MethodName)) (b := s_SIGN) (argsL := [(.int (2 : Int32))]) (rest := []) hown (hw _ (List.mem_of_getElem? (i := 30) rfl)) (hw _ (List.mem_of_getElem? (i := 31) rfl)) (hw _ (List.mem_of_getElem? (i := 33) rfl)) (hw _ (List.mem_of_getElem? (i := 32) rfl)) (hw _ (List.mem_of_getElem? (i := 18) rfl)) (hw _ (List.mem_of_getElem? (i := 34) rfl)) (rm_ch_SIGN_2 l Z a0 hw [] w_INVALID w_NONE w_SIGN w_SIGN_AND_ENCRYPT s_INVALID s_NONE s_SIGN s_SIGN_AND_ENCRYPT v_INVALID v_NONE v_SIGN v_SIGN_AND_ENCRYPT cs fm h0 FX) e26 X_SIGN (by decide) (by decide) 0 (by decide) (by decide) (by decide) (g := (mkF m 60 #[.val (.int p1), .val (.int kk), .val (.ref w_SIGN), .val (.int (1 : Int32)), .val (.ref s_SIGN), .unset, .unset] [(.int (2 : Int32)), (.ref s_SIGN)])) rfl (by rw [hml]; rfl) (lenOf (ps := [.int]) (r := (some .char)) (by decide +kernel) rfl) rfl (by show 2 * 0 + _ ≤ _; exact Nat.le_of_eq rfl) (hb hby at_60)
    obtain ⟨rfl, e28, rfl⟩ := Q28
    refine own_go (T' := T28) (g' := (mkF m 63 #[.val (.int p1), .val (.int kk), .val (.ref w_SIGN), .val (.int (1 : Int32)), .val (.ref s_SIGN), .unset, .unset] [(.int (103 : Int32))])) (fun t q => st28 t q) ?_
    refine own_go (T' := T28) (g' := (mkF m 65 #[.val (.int p1), .val (.int kk), .val (.ref w_SIGN), .val (.int (1 : Int32)), .val (.ref s_SIGN), .unset, .unset] [(.int (103 : Int32)), (.int (103 : Int32))])) (fun t q => XS.bipush X28.here hx rfl (hb hby at_63) q) ?_
    have c29 : (103 : Int32) = (103 : Int32) := by decide
    refine own_go (T' := T28) (g' := (mkF m 68 #[.val (.int p1), .val (.int kk), .val (.ref w_SIGN), .val (.int (1 : Int32)), .val (.ref s_SIGN), .unset, .unset] [])) (fun t q => XS.icmpNo X28.here hx rfl (hb hby at_65) rfl (teq c29).2 q) ?_
    refine own_go (T' := T28) (g' := (mkF m 70 #[.val (.int p1), .val (.int kk), .val (.ref w_SIGN), .val (.int (1 : Int32)), .val (.ref s_SIGN), .unset, .unset] [(.ref s_SIGN)])) (fun t q => XS.aload X28.here hx rfl (hb hby at_68) rfl rfl q) ?_
    refine own_go (T' := T28) (g' := (mkF m 71 #[.val (.int p1), .val (.int kk), .val (.ref w_SIGN), .val (.int (1 : Int32)), .val (.ref s_SIGN), .unset, .unset] [(.int (3 : Int32)), (.ref s_SIGN)])) (fun t q => XS.iconst X28.here hx rfl (hb hby at_70) q) ?_
    obtain ⟨v30, T30, L30, X30, Q30, st30⟩ := own_callV X28 hx hZ (y := (⟨"java/lang/String", "charAt", "(I)C"⟩ : MethodName)) (b := s_SIGN) (argsL := [(.int (3 : Int32))]) (rest := []) hown (hw _ (List.mem_of_getElem? (i := 30) rfl)) (hw _ (List.mem_of_getElem? (i := 31) rfl)) (hw _ (List.mem_of_getElem? (i := 33) rfl)) (hw _ (List.mem_of_getElem? (i := 32) rfl)) (hw _ (List.mem_of_getElem? (i := 18) rfl)) (hw _ (List.mem_of_getElem? (i := 34) rfl)) (rm_ch_SIGN_3 l Z a0 hw [] w_INVALID w_NONE w_SIGN w_SIGN_AND_ENCRYPT s_INVALID s_NONE s_SIGN s_SIGN_AND_ENCRYPT v_INVALID v_NONE v_SIGN v_SIGN_AND_ENCRYPT cs fm h0 FX) e28 X_SIGN (by decide) (by decide) 0 (by decide) (by decide) (by decide) (g := (mkF m 71 #[.val (.int p1), .val (.int kk), .val (.ref w_SIGN), .val (.int (1 : Int32)), .val (.ref s_SIGN), .unset, .unset] [(.int (3 : Int32)), (.ref s_SIGN)])) rfl (by rw [hml]; rfl) (lenOf (ps := [.int]) (r := (some .char)) (by decide +kernel) rfl) rfl (by show 2 * 0 + _ ≤ _; exact Nat.le_of_eq rfl) (hb hby at_71)
    obtain ⟨rfl, e30, rfl⟩ := Q30
    refine own_go (T' := T30) (g' := (mkF m 74 #[.val (.int p1), .val (.int kk), .val (.ref w_SIGN), .val (.int (1 : Int32)), .val (.ref s_SIGN), .unset, .unset] [(.int (110 : Int32))])) (fun t q => st30 t q) ?_
    refine own_go (T' := T30) (g' := (mkF m 76 #[.val (.int p1), .val (.int kk), .val (.ref w_SIGN), .val (.int (1 : Int32)), .val (.ref s_SIGN), .unset, .unset] [(.int (110 : Int32)), (.int (110 : Int32))])) (fun t q => XS.bipush X30.here hx rfl (hb hby at_74) q) ?_
    have c31 : (110 : Int32) = (110 : Int32) := by decide
    refine own_go (T' := T30) (g' := (mkF m 79 #[.val (.int p1), .val (.int kk), .val (.ref w_SIGN), .val (.int (1 : Int32)), .val (.ref s_SIGN), .unset, .unset] [])) (fun t q => XS.icmpNo X30.here hx rfl (hb hby at_76) rfl (teq c31).2 q) ?_
    refine own_go (T' := T30) (g' := (mkF m 80 #[.val (.int p1), .val (.int kk), .val (.ref w_SIGN), .val (.int (1 : Int32)), .val (.ref s_SIGN), .unset, .unset] [(.int (1 : Int32))])) (fun t q => XS.iconst X30.here hx rfl (hb hby at_79) q) ?_
    refine own_go (T' := T30) (g' := (mkF m 84 #[.val (.int p1), .val (.int kk), .val (.ref w_SIGN), .val (.int (1 : Int32)), .val (.ref s_SIGN), .unset, .unset] [(.int (1 : Int32))])) (fun t q => XS.goto X30.here hx rfl (pc0 := 80) (pc' := 84) rfl (hb hby at_80) (by decide) (by decide) q) ?_
    refine own_go (T' := T30) (g' := (mkF m 86 #[.val (.int p1), .val (.int kk), .val (.ref w_SIGN), .val (.int (1 : Int32)), .val (.ref s_SIGN), .val (.int (1 : Int32)), .unset] [])) (fun t q => XS.istore X30.here hx rfl (hb hby at_84) rfl (l' := #[.val (.int p1), .val (.int kk), .val (.ref w_SIGN), .val (.int (1 : Int32)), .val (.ref s_SIGN), .val (.int (1 : Int32)), .unset]) rfl q) ?_
    refine own_go (T' := T30) (g' := (mkF m 87 #[.val (.int p1), .val (.int kk), .val (.ref w_SIGN), .val (.int (1 : Int32)), .val (.ref s_SIGN), .val (.int (1 : Int32)), .unset] [(.ref w_SIGN)])) (fun t q => XS.aloadN X30.here hx rfl (hb hby at_86) rfl rfl q) ?_
    obtain ⟨v32, T32, L32, X32, Q32, st32⟩ := own_callV X30 hx hZ (y := (⟨"com/example/dvarapala/dvarapala/engine/MessageSecurityMode", "isSigned", "()Z"⟩ : MethodName)) (b := w_SIGN) (argsL := []) (rest := []) hown (hw _ (List.mem_of_getElem? (i := 52) rfl)) (hw _ (List.mem_of_getElem? (i := 53) rfl)) (hw _ (List.mem_of_getElem? (i := 55) rfl)) (hw _ (List.mem_of_getElem? (i := 54) rfl)) (hw _ (List.mem_of_getElem? (i := 5) rfl)) (hw _ (List.mem_of_getElem? (i := 56) rfl)) (rm_sig_SIGN l Z a0 hw [] w_INVALID w_NONE w_SIGN w_SIGN_AND_ENCRYPT s_INVALID s_NONE s_SIGN s_SIGN_AND_ENCRYPT v_INVALID v_NONE v_SIGN v_SIGN_AND_ENCRYPT cs fm h0 FX) e30 E_SIGN (by decide) (by decide) 0 (by decide) (by decide) (by decide) (g := (mkF m 87 #[.val (.int p1), .val (.int kk), .val (.ref w_SIGN), .val (.int (1 : Int32)), .val (.ref s_SIGN), .val (.int (1 : Int32)), .unset] [(.ref w_SIGN)])) rfl (by rw [hml]; rfl) (lenOf (ps := []) (r := (some .boolean)) (by decide +kernel) rfl) rfl (by show 2 * 0 + _ ≤ _; exact Nat.le_of_eq rfl) (hb hby at_87)
    obtain ⟨rfl, e32, rfl⟩ := Q32
    refine own_go (T' := T32) (g' := (mkF m 90 #[.val (.int p1), .val (.int kk), .val (.ref w_SIGN), .val (.int (1 : Int32)), .val (.ref s_SIGN), .val (.int (1 : Int32)), .unset] [(.int (1 : Int32))])) (fun t q => st32 t q) ?_
    refine own_go (T' := T32) (g' := (mkF m 92 #[.val (.int p1), .val (.int kk), .val (.ref w_SIGN), .val (.int (1 : Int32)), .val (.ref s_SIGN), .val (.int (1 : Int32)), .val (.int (1 : Int32))] [])) (fun t q => XS.istore X32.here hx rfl (hb hby at_90) rfl (l' := #[.val (.int p1), .val (.int kk), .val (.ref w_SIGN), .val (.int (1 : Int32)), .val (.ref s_SIGN), .val (.int (1 : Int32)), .val (.int (1 : Int32))]) rfl q) ?_
    refine own_go (T' := T32) (g' := (mkF m 94 #[.val (.int p1), .val (.int kk), .val (.ref w_SIGN), .val (.int (1 : Int32)), .val (.ref s_SIGN), .val (.int (1 : Int32)), .val (.int (1 : Int32))] [(.int (1 : Int32))])) (fun t q => XS.iload X32.here hx rfl (hb hby at_92) rfl q) ?_
    refine own_go (T' := T32) (g' := (mkF m 95 #[.val (.int p1), .val (.int kk), .val (.ref w_SIGN), .val (.int (1 : Int32)), .val (.ref s_SIGN), .val (.int (1 : Int32)), .val (.int (1 : Int32))] [(.int (1 : Int32)), (.int (1 : Int32))])) (fun t q => XS.iloadN X32.here hx rfl (hb hby at_94) rfl q) ?_
    have c33 : (1 : Int32) = (1 : Int32) := by decide
    refine own_go (T' := T32) (g' := (mkF m 98 #[.val (.int p1), .val (.int kk), .val (.ref w_SIGN), .val (.int (1 : Int32)), .val (.ref s_SIGN), .val (.int (1 : Int32)), .val (.int (1 : Int32))] [])) (fun t q => XS.icmpNo X32.here hx rfl (hb hby at_95) rfl (teq c33).2 q) ?_
    refine own_go (T' := T32) (g' := (mkF m 100 #[.val (.int p1), .val (.int kk), .val (.ref w_SIGN), .val (.int (1 : Int32)), .val (.ref s_SIGN), .val (.int (1 : Int32)), .val (.int (1 : Int32))] [(.int (1 : Int32))])) (fun t q => XS.iload X32.here hx rfl (hb hby at_98) rfl q) ?_
    refine own_go (T' := T32) (g' := (mkF m 102 #[.val (.int p1), .val (.int kk), .val (.ref w_SIGN), .val (.int (1 : Int32)), .val (.ref s_SIGN), .val (.int (1 : Int32)), .val (.int (1 : Int32))] [(.int (1 : Int32)), (.int (1 : Int32))])) (fun t q => XS.iload X32.here hx rfl (hb hby at_100) rfl q) ?_
    have c34 : (1 : Int32) = (1 : Int32) := by decide
    refine own_go (T' := T32) (g' := (mkF m 105 #[.val (.int p1), .val (.int kk), .val (.ref w_SIGN), .val (.int (1 : Int32)), .val (.ref s_SIGN), .val (.int (1 : Int32)), .val (.int (1 : Int32))] [])) (fun t q => XS.icmpNo X32.here hx rfl (hb hby at_102) rfl (teq c34).2 q) ?_
    refine own_go (T' := T32) (g' := (mkF m 106 #[.val (.int p1), .val (.int kk), .val (.ref w_SIGN), .val (.int (1 : Int32)), .val (.ref s_SIGN), .val (.int (1 : Int32)), .val (.int (1 : Int32))] [(.int (1 : Int32))])) (fun t q => XS.iconst X32.here hx rfl (hb hby at_105) q) ?_
    refine own_go (T' := T32) (g' := (mkF m 110 #[.val (.int p1), .val (.int kk), .val (.ref w_SIGN), .val (.int (1 : Int32)), .val (.ref s_SIGN), .val (.int (1 : Int32)), .val (.int (1 : Int32))] [(.int (1 : Int32))])) (fun t q => XS.goto X32.here hx rfl (pc0 := 106) (pc' := 110) rfl (hb hby at_106) (by decide) (by decide) q) ?_
    refine own_outN X32 hx hlk hret (t := .boolean) (by simp) (hb hby at_110) (w := (1 : Int32)) (by decide) ?_ (by decide) (by decide)
    exact ⟨rfl, (Fr.app (Fr.app (Fr.app (Fr.app (Fr.app (Fr.app (Fr.app (Fr.app (Fr.nil _) (Fr.nil _)) (Fr.nil _)) (Fr.nil _)) (Fr.nil _)) (Fr.nil _)) (Fr.nil _)) (Fr.nil _)) (Fr.nil _))⟩
  · refine own_go (T' := T1) (g' := (mkF m 8 #[.val (.int p1), .val (.int kk), .unset, .unset, .unset, .unset, .unset] [(.ref w_SIGN_AND_ENCRYPT)])) (fun t q => st1 t q) ?_
    refine own_go (T' := T1) (g' := (mkF m 9 #[.val (.int p1), .val (.int kk), .val (.ref w_SIGN_AND_ENCRYPT), .unset, .unset, .unset, .unset] [])) (fun t q => XS.astoreN X1.here hx rfl (hb hby at_8) rfl rfl (l' := #[.val (.int p1), .val (.int kk), .val (.ref w_SIGN_AND_ENCRYPT), .unset, .unset, .unset, .unset]) rfl q) ?_
    refine own_go (T' := T1) (g' := (mkF m 10 #[.val (.int p1), .val (.int kk), .val (.ref w_SIGN_AND_ENCRYPT), .unset, .unset, .unset, .unset] [(.int kk)])) (fun t q => XS.iloadN X1.here hx rfl (hb hby at_9) rfl q) ?_
    refine own_go (T' := T1) (g' := (mkF m 11 #[.val (.int p1), .val (.int kk), .val (.ref w_SIGN_AND_ENCRYPT), .unset, .unset, .unset, .unset] [(.int (2 : Int32)), (.int kk)])) (fun t q => XS.iconst X1.here hx rfl (hb hby at_10) q) ?_
    have c35 : ¬ (kk < (2 : Int32)) := own_ge2 hk0 hk
    refine own_go (T' := T1) (g' := (mkF m 14 #[.val (.int p1), .val (.int kk), .val (.ref w_SIGN_AND_ENCRYPT), .unset, .unset, .unset, .unset] [])) (fun t q => XS.icmpNo X1.here hx rfl (hb hby at_11) rfl (flt c35).1 q) ?_
    refine own_go (T' := T1) (g' := (mkF m 15 #[.val (.int p1), .val (.int kk), .val (.ref w_SIGN_AND_ENCRYPT), .unset, .unset, .unset, .unset] [(.int (1 : Int32))])) (fun t q => XS.iconst X1.here hx rfl (hb hby at_14) q) ?_
    refine own_go (T' := T1) (g' := (mkF m 19 #[.val (.int p1), .val (.int kk), .val (.ref w_SIGN_AND_ENCRYPT), .unset, .unset, .unset, .unset] [(.int (1 : Int32))])) (fun t q => XS.goto X1.here hx rfl (pc0 := 15) (pc' := 19) rfl (hb hby at_15) (by decide) (by decide) q) ?_
    refine own_go (T' := T1) (g' := (mkF m 20 #[.val (.int p1), .val (.int kk), .val (.ref w_SIGN_AND_ENCRYPT), .val (.int (1 : Int32)), .unset, .unset, .unset] [])) (fun t q => XS.istoreN X1.here hx rfl (hb hby at_19) rfl (l' := #[.val (.int p1), .val (.int kk), .val (.ref w_SIGN_AND_ENCRYPT), .val (.int (1 : Int32)), .unset, .unset, .unset]) rfl q) ?_
    refine own_go (T' := T1) (g' := (mkF m 21 #[.val (.int p1), .val (.int kk), .val (.ref w_SIGN_AND_ENCRYPT), .val (.int (1 : Int32)), .unset, .unset, .unset] [(.ref w_SIGN_AND_ENCRYPT)])) (fun t q => XS.aloadN X1.here hx rfl (hb hby at_20) rfl rfl q) ?_
    obtain ⟨v36, T36, L36, X36, Q36, st36⟩ := own_callV X1 hx hZ (y := (⟨"com/example/dvarapala/dvarapala/engine/MessageSecurityMode", "getSpecName", "()Ljava/lang/String;"⟩ : MethodName)) (b := w_SIGN_AND_ENCRYPT) (argsL := []) (rest := []) hown (hw _ (List.mem_of_getElem? (i := 7) rfl)) (hw _ (List.mem_of_getElem? (i := 8) rfl)) (hw _ (List.mem_of_getElem? (i := 10) rfl)) (hw _ (List.mem_of_getElem? (i := 9) rfl)) (hw _ (List.mem_of_getElem? (i := 5) rfl)) (hw _ (List.mem_of_getElem? (i := 11) rfl)) (rm_gsn_SIGN_AND_ENCRYPT l Z a0 hw [] w_INVALID w_NONE w_SIGN w_SIGN_AND_ENCRYPT s_INVALID s_NONE s_SIGN s_SIGN_AND_ENCRYPT v_INVALID v_NONE v_SIGN v_SIGN_AND_ENCRYPT cs fm h0 FX) e1 E_SIGN_AND_ENCRYPT (by decide) (by decide) 0 (by decide) (by decide) (by decide) (g := (mkF m 21 #[.val (.int p1), .val (.int kk), .val (.ref w_SIGN_AND_ENCRYPT), .val (.int (1 : Int32)), .unset, .unset, .unset] [(.ref w_SIGN_AND_ENCRYPT)])) rfl (by rw [hml]; rfl) (lenOf (ps := []) (r := (some (.object "java/lang/String"))) (by decide +kernel) rfl) rfl (by show 2 * 0 + _ ≤ _; exact Nat.le_of_eq rfl) (hb hby at_21)
    obtain ⟨rfl, e36, rfl⟩ := Q36
    refine own_go (T' := T36) (g' := (mkF m 24 #[.val (.int p1), .val (.int kk), .val (.ref w_SIGN_AND_ENCRYPT), .val (.int (1 : Int32)), .unset, .unset, .unset] [(.ref s_SIGN_AND_ENCRYPT)])) (fun t q => st36 t q) ?_
    refine own_go (T' := T36) (g' := (mkF m 26 #[.val (.int p1), .val (.int kk), .val (.ref w_SIGN_AND_ENCRYPT), .val (.int (1 : Int32)), .val (.ref s_SIGN_AND_ENCRYPT), .unset, .unset] [])) (fun t q => XS.astore X36.here hx rfl (hb hby at_24) rfl rfl (l' := #[.val (.int p1), .val (.int kk), .val (.ref w_SIGN_AND_ENCRYPT), .val (.int (1 : Int32)), .val (.ref s_SIGN_AND_ENCRYPT), .unset, .unset]) rfl q) ?_
    refine own_go (T' := T36) (g' := (mkF m 28 #[.val (.int p1), .val (.int kk), .val (.ref w_SIGN_AND_ENCRYPT), .val (.int (1 : Int32)), .val (.ref s_SIGN_AND_ENCRYPT), .unset, .unset] [(.ref s_SIGN_AND_ENCRYPT)])) (fun t q => XS.aload X36.here hx rfl (hb hby at_26) rfl rfl q) ?_
    obtain ⟨v37, T37, L37, X37, Q37, st37⟩ := own_callV X36 hx hZ (y := (⟨"java/lang/String", "length", "()I"⟩ : MethodName)) (b := s_SIGN_AND_ENCRYPT) (argsL := []) (rest := []) hown (hw _ (List.mem_of_getElem? (i := 14) rfl)) (hw _ (List.mem_of_getElem? (i := 15) rfl)) (hw _ (List.mem_of_getElem? (i := 17) rfl)) (hw _ (List.mem_of_getElem? (i := 16) rfl)) (hw _ (List.mem_of_getElem? (i := 18) rfl)) (hw _ (List.mem_of_getElem? (i := 19) rfl)) (rm_len_SIGN_AND_ENCRYPT l Z a0 hw [] w_INVALID w_NONE w_SIGN w_SIGN_AND_ENCRYPT s_INVALID s_NONE s_SIGN s_SIGN_AND_ENCRYPT v_INVALID v_NONE v_SIGN v_SIGN_AND_ENCRYPT cs fm h0 FX) e36 X_SIGN_AND_ENCRYPT (by decide) (by decide) 0 (by decide) (by decide) (by decide) (g := (mkF m 28 #[.val (.int p1), .val (.int kk), .val (.ref w_SIGN_AND_ENCRYPT), .val (.int (1 : Int32)), .val (.ref s_SIGN_AND_ENCRYPT), .unset, .unset] [(.ref s_SIGN_AND_ENCRYPT)])) rfl (by rw [hml]; rfl) (lenOf (ps := []) (r := (some .int)) (by decide +kernel) rfl) rfl (by show 2 * 0 + _ ≤ _; exact Nat.le_of_eq rfl) (hb hby at_28)
    obtain ⟨rfl, e37, rfl⟩ := Q37
    refine own_go (T' := T37) (g' := (mkF m 31 #[.val (.int p1), .val (.int kk), .val (.ref w_SIGN_AND_ENCRYPT), .val (.int (1 : Int32)), .val (.ref s_SIGN_AND_ENCRYPT), .unset, .unset] [(.int (14 : Int32))])) (fun t q => st37 t q) ?_
    refine own_go (T' := T37) (g' := (mkF m 32 #[.val (.int p1), .val (.int kk), .val (.ref w_SIGN_AND_ENCRYPT), .val (.int (1 : Int32)), .val (.ref s_SIGN_AND_ENCRYPT), .unset, .unset] [(.int (4 : Int32)), (.int (14 : Int32))])) (fun t q => XS.iconst X37.here hx rfl (hb hby at_31) q) ?_
    have c38 : ¬ ((14 : Int32) < (4 : Int32)) := by decide
    refine own_go (T' := T37) (g' := (mkF m 35 #[.val (.int p1), .val (.int kk), .val (.ref w_SIGN_AND_ENCRYPT), .val (.int (1 : Int32)), .val (.ref s_SIGN_AND_ENCRYPT), .unset, .unset] [])) (fun t q => XS.icmpNo X37.here hx rfl (hb hby at_32) rfl (flt c38).1 q) ?_
    refine own_go (T' := T37) (g' := (mkF m 37 #[.val (.int p1), .val (.int kk), .val (.ref w_SIGN_AND_ENCRYPT), .val (.int (1 : Int32)), .val (.ref s_SIGN_AND_ENCRYPT), .unset, .unset] [(.ref s_SIGN_AND_ENCRYPT)])) (fun t q => XS.aload X37.here hx rfl (hb hby at_35) rfl rfl q) ?_
    refine own_go (T' := T37) (g' := (mkF m 38 #[.val (.int p1), .val (.int kk), .val (.ref w_SIGN_AND_ENCRYPT), .val (.int (1 : Int32)), .val (.ref s_SIGN_AND_ENCRYPT), .unset, .unset] [(.int (0 : Int32)), (.ref s_SIGN_AND_ENCRYPT)])) (fun t q => XS.iconst X37.here hx rfl (hb hby at_37) q) ?_
    obtain ⟨v39, T39, L39, X39, Q39, st39⟩ := own_callV X37 hx hZ (y := (⟨"java/lang/String", "charAt", "(I)C"⟩ : MethodName)) (b := s_SIGN_AND_ENCRYPT) (argsL := [(.int (0 : Int32))]) (rest := []) hown (hw _ (List.mem_of_getElem? (i := 30) rfl)) (hw _ (List.mem_of_getElem? (i := 31) rfl)) (hw _ (List.mem_of_getElem? (i := 33) rfl)) (hw _ (List.mem_of_getElem? (i := 32) rfl)) (hw _ (List.mem_of_getElem? (i := 18) rfl)) (hw _ (List.mem_of_getElem? (i := 34) rfl)) (rm_ch_SIGN_AND_ENCRYPT_0 l Z a0 hw [] w_INVALID w_NONE w_SIGN w_SIGN_AND_ENCRYPT s_INVALID s_NONE s_SIGN s_SIGN_AND_ENCRYPT v_INVALID v_NONE v_SIGN v_SIGN_AND_ENCRYPT cs fm h0 FX) e37 X_SIGN_AND_ENCRYPT (by decide) (by decide) 0 (by decide) (by decide) (by decide) (g := (mkF m 38 #[.val (.int p1), .val (.int kk), .val (.ref w_SIGN_AND_ENCRYPT), .val (.int (1 : Int32)), .val (.ref s_SIGN_AND_ENCRYPT), .unset, .unset] [(.int (0 : Int32)), (.ref s_SIGN_AND_ENCRYPT)])) rfl (by rw [hml]; rfl) (lenOf (ps := [.int]) (r := (some .char)) (by decide +kernel) rfl) rfl (by show 2 * 0 + _ ≤ _; exact Nat.le_of_eq rfl) (hb hby at_38)
    obtain ⟨rfl, e39, rfl⟩ := Q39
    refine own_go (T' := T39) (g' := (mkF m 41 #[.val (.int p1), .val (.int kk), .val (.ref w_SIGN_AND_ENCRYPT), .val (.int (1 : Int32)), .val (.ref s_SIGN_AND_ENCRYPT), .unset, .unset] [(.int (83 : Int32))])) (fun t q => st39 t q) ?_
    refine own_go (T' := T39) (g' := (mkF m 43 #[.val (.int p1), .val (.int kk), .val (.ref w_SIGN_AND_ENCRYPT), .val (.int (1 : Int32)), .val (.ref s_SIGN_AND_ENCRYPT), .unset, .unset] [(.int (83 : Int32)), (.int (83 : Int32))])) (fun t q => XS.bipush X39.here hx rfl (hb hby at_41) q) ?_
    have c40 : (83 : Int32) = (83 : Int32) := by decide
    refine own_go (T' := T39) (g' := (mkF m 46 #[.val (.int p1), .val (.int kk), .val (.ref w_SIGN_AND_ENCRYPT), .val (.int (1 : Int32)), .val (.ref s_SIGN_AND_ENCRYPT), .unset, .unset] [])) (fun t q => XS.icmpNo X39.here hx rfl (hb hby at_43) rfl (teq c40).2 q) ?_
    refine own_go (T' := T39) (g' := (mkF m 48 #[.val (.int p1), .val (.int kk), .val (.ref w_SIGN_AND_ENCRYPT), .val (.int (1 : Int32)), .val (.ref s_SIGN_AND_ENCRYPT), .unset, .unset] [(.ref s_SIGN_AND_ENCRYPT)])) (fun t q => XS.aload X39.here hx rfl (hb hby at_46) rfl rfl q) ?_
    refine own_go (T' := T39) (g' := (mkF m 49 #[.val (.int p1), .val (.int kk), .val (.ref w_SIGN_AND_ENCRYPT), .val (.int (1 : Int32)), .val (.ref s_SIGN_AND_ENCRYPT), .unset, .unset] [(.int (1 : Int32)), (.ref s_SIGN_AND_ENCRYPT)])) (fun t q => XS.iconst X39.here hx rfl (hb hby at_48) q) ?_
    obtain ⟨v41, T41, L41, X41, Q41, st41⟩ := own_callV X39 hx hZ (y := (⟨"java/lang/String", "charAt", "(I)C"⟩ : MethodName)) (b := s_SIGN_AND_ENCRYPT) (argsL := [(.int (1 : Int32))]) (rest := []) hown (hw _ (List.mem_of_getElem? (i := 30) rfl)) (hw _ (List.mem_of_getElem? (i := 31) rfl)) (hw _ (List.mem_of_getElem? (i := 33) rfl)) (hw _ (List.mem_of_getElem? (i := 32) rfl)) (hw _ (List.mem_of_getElem? (i := 18) rfl)) (hw _ (List.mem_of_getElem? (i := 34) rfl)) (rm_ch_SIGN_AND_ENCRYPT_1 l Z a0 hw [] w_INVALID w_NONE w_SIGN w_SIGN_AND_ENCRYPT s_INVALID s_NONE s_SIGN s_SIGN_AND_ENCRYPT v_INVALID v_NONE v_SIGN v_SIGN_AND_ENCRYPT cs fm h0 FX) e39 X_SIGN_AND_ENCRYPT (by decide) (by decide) 0 (by decide) (by decide) (by decide) (g := (mkF m 49 #[.val (.int p1), .val (.int kk), .val (.ref w_SIGN_AND_ENCRYPT), .val (.int (1 : Int32)), .val (.ref s_SIGN_AND_ENCRYPT), .unset, .unset] [(.int (1 : Int32)), (.ref s_SIGN_AND_ENCRYPT)])) rfl (by rw [hml]; rfl) (lenOf (ps := [.int]) (r := (some .char)) (by decide +kernel) rfl) rfl (by show 2 * 0 + _ ≤ _; exact Nat.le_of_eq rfl) (hb hby at_49)
    obtain ⟨rfl, e41, rfl⟩ := Q41
    refine own_go (T' := T41) (g' := (mkF m 52 #[.val (.int p1), .val (.int kk), .val (.ref w_SIGN_AND_ENCRYPT), .val (.int (1 : Int32)), .val (.ref s_SIGN_AND_ENCRYPT), .unset, .unset] [(.int (105 : Int32))])) (fun t q => st41 t q) ?_
    refine own_go (T' := T41) (g' := (mkF m 54 #[.val (.int p1), .val (.int kk), .val (.ref w_SIGN_AND_ENCRYPT), .val (.int (1 : Int32)), .val (.ref s_SIGN_AND_ENCRYPT), .unset, .unset] [(.int (105 : Int32)), (.int (105 : Int32))])) (fun t q => XS.bipush X41.here hx rfl (hb hby at_52) q) ?_
    have c42 : (105 : Int32) = (105 : Int32) := by decide
    refine own_go (T' := T41) (g' := (mkF m 57 #[.val (.int p1), .val (.int kk), .val (.ref w_SIGN_AND_ENCRYPT), .val (.int (1 : Int32)), .val (.ref s_SIGN_AND_ENCRYPT), .unset, .unset] [])) (fun t q => XS.icmpNo X41.here hx rfl (hb hby at_54) rfl (teq c42).2 q) ?_
    refine own_go (T' := T41) (g' := (mkF m 59 #[.val (.int p1), .val (.int kk), .val (.ref w_SIGN_AND_ENCRYPT), .val (.int (1 : Int32)), .val (.ref s_SIGN_AND_ENCRYPT), .unset, .unset] [(.ref s_SIGN_AND_ENCRYPT)])) (fun t q => XS.aload X41.here hx rfl (hb hby at_57) rfl rfl q) ?_
    refine own_go (T' := T41) (g' := (mkF m 60 #[.val (.int p1), .val (.int kk), .val (.ref w_SIGN_AND_ENCRYPT), .val (.int (1 : Int32)), .val (.ref s_SIGN_AND_ENCRYPT), .unset, .unset] [(.int (2 : Int32)), (.ref s_SIGN_AND_ENCRYPT)])) (fun t q => XS.iconst X41.here hx rfl (hb hby at_59) q) ?_
    obtain ⟨v43, T43, L43, X43, Q43, st43⟩ := own_callV X41 hx hZ (y := (⟨"java/lang/String", "charAt", "(I)C"⟩ : MethodName)) (b := s_SIGN_AND_ENCRYPT) (argsL := [(.int (2 : Int32))]) (rest := []) hown (hw _ (List.mem_of_getElem? (i := 30) rfl)) (hw _ (List.mem_of_getElem? (i := 31) rfl)) (hw _ (List.mem_of_getElem? (i := 33) rfl)) (hw _ (List.mem_of_getElem? (i := 32) rfl)) (hw _ (List.mem_of_getElem? (i := 18) rfl)) (hw _ (List.mem_of_getElem? (i := 34) rfl)) (rm_ch_SIGN_AND_ENCRYPT_2 l Z a0 hw [] w_INVALID w_NONE w_SIGN w_SIGN_AND_ENCRYPT s_INVALID s_NONE s_SIGN s_SIGN_AND_ENCRYPT v_INVALID v_NONE v_SIGN v_SIGN_AND_ENCRYPT cs fm h0 FX) e41 X_SIGN_AND_ENCRYPT (by decide) (by decide) 0 (by decide) (by decide) (by decide) (g := (mkF m 60 #[.val (.int p1), .val (.int kk), .val (.ref w_SIGN_AND_ENCRYPT), .val (.int (1 : Int32)), .val (.ref s_SIGN_AND_ENCRYPT), .unset, .unset] [(.int (2 : Int32)), (.ref s_SIGN_AND_ENCRYPT)])) rfl (by rw [hml]; rfl) (lenOf (ps := [.int]) (r := (some .char)) (by decide +kernel) rfl) rfl (by show 2 * 0 + _ ≤ _; exact Nat.le_of_eq rfl) (hb hby at_60)
    obtain ⟨rfl, e43, rfl⟩ := Q43
    refine own_go (T' := T43) (g' := (mkF m 63 #[.val (.int p1), .val (.int kk), .val (.ref w_SIGN_AND_ENCRYPT), .val (.int (1 : Int32)), .val (.ref s_SIGN_AND_ENCRYPT), .unset, .unset] [(.int (103 : Int32))])) (fun t q => st43 t q) ?_
    refine own_go (T' := T43) (g' := (mkF m 65 #[.val (.int p1), .val (.int kk), .val (.ref w_SIGN_AND_ENCRYPT), .val (.int (1 : Int32)), .val (.ref s_SIGN_AND_ENCRYPT), .unset, .unset] [(.int (103 : Int32)), (.int (103 : Int32))])) (fun t q => XS.bipush X43.here hx rfl (hb hby at_63) q) ?_
    have c44 : (103 : Int32) = (103 : Int32) := by decide
    refine own_go (T' := T43) (g' := (mkF m 68 #[.val (.int p1), .val (.int kk), .val (.ref w_SIGN_AND_ENCRYPT), .val (.int (1 : Int32)), .val (.ref s_SIGN_AND_ENCRYPT), .unset, .unset] [])) (fun t q => XS.icmpNo X43.here hx rfl (hb hby at_65) rfl (teq c44).2 q) ?_
    refine own_go (T' := T43) (g' := (mkF m 70 #[.val (.int p1), .val (.int kk), .val (.ref w_SIGN_AND_ENCRYPT), .val (.int (1 : Int32)), .val (.ref s_SIGN_AND_ENCRYPT), .unset, .unset] [(.ref s_SIGN_AND_ENCRYPT)])) (fun t q => XS.aload X43.here hx rfl (hb hby at_68) rfl rfl q) ?_
    refine own_go (T' := T43) (g' := (mkF m 71 #[.val (.int p1), .val (.int kk), .val (.ref w_SIGN_AND_ENCRYPT), .val (.int (1 : Int32)), .val (.ref s_SIGN_AND_ENCRYPT), .unset, .unset] [(.int (3 : Int32)), (.ref s_SIGN_AND_ENCRYPT)])) (fun t q => XS.iconst X43.here hx rfl (hb hby at_70) q) ?_
    obtain ⟨v45, T45, L45, X45, Q45, st45⟩ := own_callV X43 hx hZ (y := (⟨"java/lang/String", "charAt", "(I)C"⟩ : MethodName)) (b := s_SIGN_AND_ENCRYPT) (argsL := [(.int (3 : Int32))]) (rest := []) hown (hw _ (List.mem_of_getElem? (i := 30) rfl)) (hw _ (List.mem_of_getElem? (i := 31) rfl)) (hw _ (List.mem_of_getElem? (i := 33) rfl)) (hw _ (List.mem_of_getElem? (i := 32) rfl)) (hw _ (List.mem_of_getElem? (i := 18) rfl)) (hw _ (List.mem_of_getElem? (i := 34) rfl)) (rm_ch_SIGN_AND_ENCRYPT_3 l Z a0 hw [] w_INVALID w_NONE w_SIGN w_SIGN_AND_ENCRYPT s_INVALID s_NONE s_SIGN s_SIGN_AND_ENCRYPT v_INVALID v_NONE v_SIGN v_SIGN_AND_ENCRYPT cs fm h0 FX) e43 X_SIGN_AND_ENCRYPT (by decide) (by decide) 0 (by decide) (by decide) (by decide) (g := (mkF m 71 #[.val (.int p1), .val (.int kk), .val (.ref w_SIGN_AND_ENCRYPT), .val (.int (1 : Int32)), .val (.ref s_SIGN_AND_ENCRYPT), .unset, .unset] [(.int (3 : Int32)), (.ref s_SIGN_AND_ENCRYPT)])) rfl (by rw [hml]; rfl) (lenOf (ps := [.int]) (r := (some .char)) (by decide +kernel) rfl) rfl (by show 2 * 0 + _ ≤ _; exact Nat.le_of_eq rfl) (hb hby at_71)
    obtain ⟨rfl, e45, rfl⟩ := Q45
    refine own_go (T' := T45) (g' := (mkF m 74 #[.val (.int p1), .val (.int kk), .val (.ref w_SIGN_AND_ENCRYPT), .val (.int (1 : Int32)), .val (.ref s_SIGN_AND_ENCRYPT), .unset, .unset] [(.int (110 : Int32))])) (fun t q => st45 t q) ?_
    refine own_go (T' := T45) (g' := (mkF m 76 #[.val (.int p1), .val (.int kk), .val (.ref w_SIGN_AND_ENCRYPT), .val (.int (1 : Int32)), .val (.ref s_SIGN_AND_ENCRYPT), .unset, .unset] [(.int (110 : Int32)), (.int (110 : Int32))])) (fun t q => XS.bipush X45.here hx rfl (hb hby at_74) q) ?_
    have c46 : (110 : Int32) = (110 : Int32) := by decide
    refine own_go (T' := T45) (g' := (mkF m 79 #[.val (.int p1), .val (.int kk), .val (.ref w_SIGN_AND_ENCRYPT), .val (.int (1 : Int32)), .val (.ref s_SIGN_AND_ENCRYPT), .unset, .unset] [])) (fun t q => XS.icmpNo X45.here hx rfl (hb hby at_76) rfl (teq c46).2 q) ?_
    refine own_go (T' := T45) (g' := (mkF m 80 #[.val (.int p1), .val (.int kk), .val (.ref w_SIGN_AND_ENCRYPT), .val (.int (1 : Int32)), .val (.ref s_SIGN_AND_ENCRYPT), .unset, .unset] [(.int (1 : Int32))])) (fun t q => XS.iconst X45.here hx rfl (hb hby at_79) q) ?_
    refine own_go (T' := T45) (g' := (mkF m 84 #[.val (.int p1), .val (.int kk), .val (.ref w_SIGN_AND_ENCRYPT), .val (.int (1 : Int32)), .val (.ref s_SIGN_AND_ENCRYPT), .unset, .unset] [(.int (1 : Int32))])) (fun t q => XS.goto X45.here hx rfl (pc0 := 80) (pc' := 84) rfl (hb hby at_80) (by decide) (by decide) q) ?_
    refine own_go (T' := T45) (g' := (mkF m 86 #[.val (.int p1), .val (.int kk), .val (.ref w_SIGN_AND_ENCRYPT), .val (.int (1 : Int32)), .val (.ref s_SIGN_AND_ENCRYPT), .val (.int (1 : Int32)), .unset] [])) (fun t q => XS.istore X45.here hx rfl (hb hby at_84) rfl (l' := #[.val (.int p1), .val (.int kk), .val (.ref w_SIGN_AND_ENCRYPT), .val (.int (1 : Int32)), .val (.ref s_SIGN_AND_ENCRYPT), .val (.int (1 : Int32)), .unset]) rfl q) ?_
    refine own_go (T' := T45) (g' := (mkF m 87 #[.val (.int p1), .val (.int kk), .val (.ref w_SIGN_AND_ENCRYPT), .val (.int (1 : Int32)), .val (.ref s_SIGN_AND_ENCRYPT), .val (.int (1 : Int32)), .unset] [(.ref w_SIGN_AND_ENCRYPT)])) (fun t q => XS.aloadN X45.here hx rfl (hb hby at_86) rfl rfl q) ?_
    obtain ⟨v47, T47, L47, X47, Q47, st47⟩ := own_callV X45 hx hZ (y := (⟨"com/example/dvarapala/dvarapala/engine/MessageSecurityMode", "isSigned", "()Z"⟩ : MethodName)) (b := w_SIGN_AND_ENCRYPT) (argsL := []) (rest := []) hown (hw _ (List.mem_of_getElem? (i := 52) rfl)) (hw _ (List.mem_of_getElem? (i := 53) rfl)) (hw _ (List.mem_of_getElem? (i := 55) rfl)) (hw _ (List.mem_of_getElem? (i := 54) rfl)) (hw _ (List.mem_of_getElem? (i := 5) rfl)) (hw _ (List.mem_of_getElem? (i := 56) rfl)) (rm_sig_SIGN_AND_ENCRYPT l Z a0 hw [] w_INVALID w_NONE w_SIGN w_SIGN_AND_ENCRYPT s_INVALID s_NONE s_SIGN s_SIGN_AND_ENCRYPT v_INVALID v_NONE v_SIGN v_SIGN_AND_ENCRYPT cs fm h0 FX) e45 E_SIGN_AND_ENCRYPT (by decide) (by decide) 0 (by decide) (by decide) (by decide) (g := (mkF m 87 #[.val (.int p1), .val (.int kk), .val (.ref w_SIGN_AND_ENCRYPT), .val (.int (1 : Int32)), .val (.ref s_SIGN_AND_ENCRYPT), .val (.int (1 : Int32)), .unset] [(.ref w_SIGN_AND_ENCRYPT)])) rfl (by rw [hml]; rfl) (lenOf (ps := []) (r := (some .boolean)) (by decide +kernel) rfl) rfl (by show 2 * 0 + _ ≤ _; exact Nat.le_of_eq rfl) (hb hby at_87)
    obtain ⟨rfl, e47, rfl⟩ := Q47
    refine own_go (T' := T47) (g' := (mkF m 90 #[.val (.int p1), .val (.int kk), .val (.ref w_SIGN_AND_ENCRYPT), .val (.int (1 : Int32)), .val (.ref s_SIGN_AND_ENCRYPT), .val (.int (1 : Int32)), .unset] [(.int (1 : Int32))])) (fun t q => st47 t q) ?_
    refine own_go (T' := T47) (g' := (mkF m 92 #[.val (.int p1), .val (.int kk), .val (.ref w_SIGN_AND_ENCRYPT), .val (.int (1 : Int32)), .val (.ref s_SIGN_AND_ENCRYPT), .val (.int (1 : Int32)), .val (.int (1 : Int32))] [])) (fun t q => XS.istore X47.here hx rfl (hb hby at_90) rfl (l' := #[.val (.int p1), .val (.int kk), .val (.ref w_SIGN_AND_ENCRYPT), .val (.int (1 : Int32)), .val (.ref s_SIGN_AND_ENCRYPT), .val (.int (1 : Int32)), .val (.int (1 : Int32))]) rfl q) ?_
    refine own_go (T' := T47) (g' := (mkF m 94 #[.val (.int p1), .val (.int kk), .val (.ref w_SIGN_AND_ENCRYPT), .val (.int (1 : Int32)), .val (.ref s_SIGN_AND_ENCRYPT), .val (.int (1 : Int32)), .val (.int (1 : Int32))] [(.int (1 : Int32))])) (fun t q => XS.iload X47.here hx rfl (hb hby at_92) rfl q) ?_
    refine own_go (T' := T47) (g' := (mkF m 95 #[.val (.int p1), .val (.int kk), .val (.ref w_SIGN_AND_ENCRYPT), .val (.int (1 : Int32)), .val (.ref s_SIGN_AND_ENCRYPT), .val (.int (1 : Int32)), .val (.int (1 : Int32))] [(.int (1 : Int32)), (.int (1 : Int32))])) (fun t q => XS.iloadN X47.here hx rfl (hb hby at_94) rfl q) ?_
    have c48 : (1 : Int32) = (1 : Int32) := by decide
    refine own_go (T' := T47) (g' := (mkF m 98 #[.val (.int p1), .val (.int kk), .val (.ref w_SIGN_AND_ENCRYPT), .val (.int (1 : Int32)), .val (.ref s_SIGN_AND_ENCRYPT), .val (.int (1 : Int32)), .val (.int (1 : Int32))] [])) (fun t q => XS.icmpNo X47.here hx rfl (hb hby at_95) rfl (teq c48).2 q) ?_
    refine own_go (T' := T47) (g' := (mkF m 100 #[.val (.int p1), .val (.int kk), .val (.ref w_SIGN_AND_ENCRYPT), .val (.int (1 : Int32)), .val (.ref s_SIGN_AND_ENCRYPT), .val (.int (1 : Int32)), .val (.int (1 : Int32))] [(.int (1 : Int32))])) (fun t q => XS.iload X47.here hx rfl (hb hby at_98) rfl q) ?_
    refine own_go (T' := T47) (g' := (mkF m 102 #[.val (.int p1), .val (.int kk), .val (.ref w_SIGN_AND_ENCRYPT), .val (.int (1 : Int32)), .val (.ref s_SIGN_AND_ENCRYPT), .val (.int (1 : Int32)), .val (.int (1 : Int32))] [(.int (1 : Int32)), (.int (1 : Int32))])) (fun t q => XS.iload X47.here hx rfl (hb hby at_100) rfl q) ?_
    have c49 : (1 : Int32) = (1 : Int32) := by decide
    refine own_go (T' := T47) (g' := (mkF m 105 #[.val (.int p1), .val (.int kk), .val (.ref w_SIGN_AND_ENCRYPT), .val (.int (1 : Int32)), .val (.ref s_SIGN_AND_ENCRYPT), .val (.int (1 : Int32)), .val (.int (1 : Int32))] [])) (fun t q => XS.icmpNo X47.here hx rfl (hb hby at_102) rfl (teq c49).2 q) ?_
    refine own_go (T' := T47) (g' := (mkF m 106 #[.val (.int p1), .val (.int kk), .val (.ref w_SIGN_AND_ENCRYPT), .val (.int (1 : Int32)), .val (.ref s_SIGN_AND_ENCRYPT), .val (.int (1 : Int32)), .val (.int (1 : Int32))] [(.int (1 : Int32))])) (fun t q => XS.iconst X47.here hx rfl (hb hby at_105) q) ?_
    refine own_go (T' := T47) (g' := (mkF m 110 #[.val (.int p1), .val (.int kk), .val (.ref w_SIGN_AND_ENCRYPT), .val (.int (1 : Int32)), .val (.ref s_SIGN_AND_ENCRYPT), .val (.int (1 : Int32)), .val (.int (1 : Int32))] [(.int (1 : Int32))])) (fun t q => XS.goto X47.here hx rfl (pc0 := 106) (pc' := 110) rfl (hb hby at_106) (by decide) (by decide) q) ?_
    refine own_outN X47 hx hlk hret (t := .boolean) (by simp) (hb hby at_110) (w := (1 : Int32)) (by decide) ?_ (by decide) (by decide)
    exact ⟨rfl, (Fr.app (Fr.app (Fr.app (Fr.app (Fr.app (Fr.app (Fr.app (Fr.app (Fr.nil _) (Fr.nil _)) (Fr.nil _)) (Fr.nil _)) (Fr.nil _)) (Fr.nil _)) (Fr.nil _)) (Fr.nil _)) (Fr.nil _))⟩
set_option maxRecDepth 65536 in
set_option maxHeartbeats 40000000 in
theorem comes_1 {Post : Tables → Env → Array Value → State → Outcome → State → Prop} (hpost : ∀ tb e args s v u, (limb_1_1.after args s (.returned v) u = true ∧ limb_1_2.after args s (.returned v) u = true ∧ True) → FrameEnd s (.returned v) u (Jvm.fieldLocs frame_1_writes args s ++ Jvm.arrayLocs frame_1_arrays args s ++ Jvm.staticLocs frame_1_statics s) 0 0 → Post tb e args s (.returned v) u) :
    ArmFor flags0 classFile x code maxLocals ret World_1 tables_1 room_1 Calls_1 rest_1 Pre_1 Post := by
  intro l hfl _ _ p e ha hc hk s m args below hf hA hF happ hP
  obtain ⟨hcalls, hrest, hpre⟩ := hP
  obtain ⟨-, -, -, hnamed, -, -, -, hat⟩ := (Spec.applies_iff hf).mp happ
  obtain ⟨hg, hn⟩ := and_e (Cond.before_iff.mp (show (Jvm.Cond.and given_1 narrow_1).before args s = true from hpre))
  obtain ⟨h1, hg⟩ := and_e hg
  have g0 := hg
  obtain ⟨w0, rfl⟩ : ∃ w0 : Value, args = #[w0] := by
    have hs : args.size = 1 := by simpa [Cond.value, given_1] using h1
    obtain ⟨L⟩ := args
    match L, hs with
    | [w0], _ => exact ⟨w0, rfl⟩
  have hw := fun d (hd : d ∈ tables_1) => atoms_spec (ws := Jvm.Cond.code x code maxLocals ret :: tables_1) hat d (List.mem_cons_of_mem _ hd)
  have hfit : Fit s := fun {y c} hc i hi => by
    obtain ⟨ha, rfl⟩ := Array.getElem?_eq_some_iff.mp hc
    have q := List.all_eq_true.mp ((Array.all_eq_true_iff_forall_mem.mp hF) _ (Array.getElem_mem ha)) i (List.mem_range.mpr hi)
    simpa [Array.getElem?_eq_getElem hi] using q
  obtain ⟨i0, b0⟩ := is_v g0
  obtain rfl : w0 = (.int i0) := Option.some.inj b0
  obtain ⟨n0, hn⟩ := and_e hn
  obtain ⟨n1, hn⟩ := and_e hn
  obtain ⟨n2, hn⟩ := and_e hn
  obtain ⟨n3, hn⟩ := and_e hn
  obtain ⟨n4, hn⟩ := and_e hn
  obtain ⟨n5, hn⟩ := and_e hn
  obtain ⟨n6, hn⟩ := and_e hn
  obtain ⟨n7, hn⟩ := and_e hn
  obtain ⟨n8, hn⟩ := and_e hn
  obtain ⟨n9, hn⟩ := and_e hn
  obtain ⟨n10, hn⟩ := and_e hn
  obtain ⟨n11, hn⟩ := and_e hn
  obtain ⟨n12, hn⟩ := and_e hn
  obtain ⟨n13, hn⟩ := and_e hn
  obtain ⟨n14, hn⟩ := and_e hn
  obtain ⟨n15, hn⟩ := and_e hn
  obtain ⟨n16, hn⟩ := and_e hn
  obtain ⟨n17, hn⟩ := and_e hn
  obtain ⟨n18, hn⟩ := and_e hn
  obtain ⟨n19, hn⟩ := and_e hn
  obtain ⟨n20, hn⟩ := and_e hn
  obtain ⟨n21, hn⟩ := and_e hn
  obtain ⟨n22, hn⟩ := and_e hn
  obtain ⟨n23, hn⟩ := and_e hn
  obtain ⟨n24, hn⟩ := and_e hn
  obtain ⟨n25, hn⟩ := and_e hn
  obtain ⟨n26, hn⟩ := and_e hn
  obtain ⟨n27, hn⟩ := and_e hn
  obtain ⟨n28, hn⟩ := and_e hn
  obtain ⟨n29, hn⟩ := and_e hn
  obtain ⟨n30, hn⟩ := and_e hn
  obtain ⟨n31, hn⟩ := and_e hn
  obtain ⟨n32, hn⟩ := and_e hn
  obtain ⟨n33, hn⟩ := and_e hn
  obtain ⟨n34, hn⟩ := and_e hn
  obtain ⟨n35, hn⟩ := and_e hn
  obtain ⟨n36, hn⟩ := and_e hn
  obtain ⟨n37, hn⟩ := and_e hn
  obtain ⟨n38, hn⟩ := and_e hn
  obtain ⟨n39, hn⟩ := and_e hn
  obtain ⟨n40, hn⟩ := and_e hn
  obtain ⟨n41, hn⟩ := and_e hn
  obtain ⟨n42, hn⟩ := and_e hn
  obtain ⟨n43, hn⟩ := and_e hn
  obtain ⟨n44, hn⟩ := and_e hn
  obtain ⟨n45, hn⟩ := and_e hn
  obtain ⟨n46, hn⟩ := and_e hn
  obtain ⟨n47, hn⟩ := and_e hn
  obtain ⟨n48, hn⟩ := and_e hn
  obtain ⟨n49, hn⟩ := and_e hn
  obtain ⟨n50, hn⟩ := and_e hn
  obtain ⟨n51, hn⟩ := and_e hn
  have n52 := hn
  obtain ⟨w_INVALID, ev_INVALID⟩ := exa_v n0
  have S_INVALID := Sta.start ev_INVALID (Or.inr ⟨(hw _ (List.mem_of_getElem? (i := 5) rfl)), (hw _ (List.mem_of_getElem? (i := 6) rfl))⟩)
  have E_INVALID := Exa.start ev_INVALID n0
  obtain ⟨w_SIGN, ev_SIGN⟩ := exa_v n5
  have S_SIGN := Sta.start ev_SIGN (Or.inr ⟨(hw _ (List.mem_of_getElem? (i := 5) rfl)), (hw _ (List.mem_of_getElem? (i := 58) rfl))⟩)
  have E_SIGN := Exa.start ev_SIGN n5
  obtain ⟨w_SIGN_AND_ENCRYPT, ev_SIGN_AND_ENCRYPT⟩ := exa_v n8
  have S_SIGN_AND_ENCRYPT := Sta.start ev_SIGN_AND_ENCRYPT (Or.inr ⟨(hw _ (List.mem_of_getElem? (i := 5) rfl)), (hw _ (List.mem_of_getElem? (i := 60) rfl))⟩)
  have E_SIGN_AND_ENCRYPT := Exa.start ev_SIGN_AND_ENCRYPT n8
  obtain ⟨w_NONE, ev_NONE⟩ := exa_v n22
  have S_NONE := Sta.start ev_NONE (Or.inr ⟨(hw _ (List.mem_of_getElem? (i := 5) rfl)), (hw _ (List.mem_of_getElem? (i := 64) rfl))⟩)
  have E_NONE := Exa.start ev_NONE n22
  have F_INVALID_ordinal := own_fld ev_INVALID (Term.int_eval _) n6
  have F_SIGN_ordinal := own_fld ev_SIGN (Term.int_eval _) n7
  have F_SIGN_AND_ENCRYPT_ordinal := own_fld ev_SIGN_AND_ENCRYPT (Term.int_eval _) n9
  have F_NONE_ordinal := own_fld ev_NONE (Term.int_eval _) n28
  have ne_INVALID_SIGN := Fld.ne F_INVALID_ordinal F_SIGN_ordinal (by decide)
  have ne_INVALID_SIGN_AND_ENCRYPT := Fld.ne F_INVALID_ordinal F_SIGN_AND_ENCRYPT_ordinal (by decide)
  have ne_INVALID_NONE := Fld.ne F_INVALID_ordinal F_NONE_ordinal (by decide)
  have ne_SIGN_SIGN_AND_ENCRYPT := Fld.ne F_SIGN_ordinal F_SIGN_AND_ENCRYPT_ordinal (by decide)
  have ne_SIGN_NONE := Fld.ne F_SIGN_ordinal F_NONE_ordinal (by decide)
  have ne_SIGN_AND_ENCRYPT_NONE := Fld.ne F_SIGN_AND_ENCRYPT_ordinal F_NONE_ordinal (by decide)
  obtain ⟨s_INVALID, es_INVALID⟩ := exa_v n1
  have G_INVALID := own_fldR ev_INVALID es_INVALID
  have X_INVALID := Exa.start es_INVALID n1
  obtain ⟨s_SIGN_AND_ENCRYPT, es_SIGN_AND_ENCRYPT⟩ := exa_v n10
  have G_SIGN_AND_ENCRYPT := own_fldR ev_SIGN_AND_ENCRYPT es_SIGN_AND_ENCRYPT
  have X_SIGN_AND_ENCRYPT := Exa.start es_SIGN_AND_ENCRYPT n10
  obtain ⟨s_SIGN, es_SIGN⟩ := exa_v n14
  have G_SIGN := own_fldR ev_SIGN es_SIGN
  have X_SIGN := Exa.start es_SIGN n14
  obtain ⟨s_NONE, es_NONE⟩ := exa_v n23
  have G_NONE := own_fldR ev_NONE es_NONE
  have X_NONE := Exa.start es_NONE n23
  obtain ⟨v_INVALID, ea_INVALID⟩ := arr_v n2
  have H_INVALID := own_fldR es_INVALID ea_INVALID
  obtain ⟨cl_INVALID, A_INVALID⟩ := Arr.start ea_INVALID n2
  obtain ⟨v_SIGN_AND_ENCRYPT, ea_SIGN_AND_ENCRYPT⟩ := arr_v n11
  have H_SIGN_AND_ENCRYPT := own_fldR es_SIGN_AND_ENCRYPT ea_SIGN_AND_ENCRYPT
  obtain ⟨cl_SIGN_AND_ENCRYPT, A_SIGN_AND_ENCRYPT⟩ := Arr.start ea_SIGN_AND_ENCRYPT n11
  obtain ⟨v_SIGN, ea_SIGN⟩ := arr_v n15
  have H_SIGN := own_fldR es_SIGN ea_SIGN
  obtain ⟨cl_SIGN, A_SIGN⟩ := Arr.start ea_SIGN n15
  obtain ⟨v_NONE, ea_NONE⟩ := arr_v n24
  have H_NONE := own_fldR es_NONE ea_NONE
  obtain ⟨cl_NONE, A_NONE⟩ := Arr.start ea_NONE n24
  have l_INVALID := own_lenS (own_eqi (Term.int_eval _) n3) ea_INVALID A_INVALID.1 (by decide)
  have D_INVALID := own_fld es_INVALID (Term.int_eval _) n4
  have l_SIGN_AND_ENCRYPT := own_lenS (own_eqi (Term.int_eval _) n12) ea_SIGN_AND_ENCRYPT A_SIGN_AND_ENCRYPT.1 (by decide)
  have D_SIGN_AND_ENCRYPT := own_fld es_SIGN_AND_ENCRYPT (Term.int_eval _) n13
  have l_SIGN := own_lenS (own_eqi (Term.int_eval _) n16) ea_SIGN A_SIGN.1 (by decide)
  have D_SIGN := own_fld es_SIGN (Term.int_eval _) n17
  have l_NONE := own_lenS (own_eqi (Term.int_eval _) n25) ea_NONE A_NONE.1 (by decide)
  have D_NONE := own_fld es_NONE (Term.int_eval _) n26
  have R_INVALID : own_Ar s s.heap v_INVALID .byte [(.int (73 : Int32)), (.int (110 : Int32)), (.int (118 : Int32)), (.int (97 : Int32)), (.int (108 : Int32)), (.int (105 : Int32)), (.int (100 : Int32))] := own_ArS A_INVALID l_INVALID ⟨(elem_in (own_eqi (Term.int_eval _) n32) ea_INVALID (Term.int_eval _) A_INVALID.1).2, (elem_in (own_eqi (Term.int_eval _) n33) ea_INVALID (Term.int_eval _) A_INVALID.1).2, (elem_in (own_eqi (Term.int_eval _) n34) ea_INVALID (Term.int_eval _) A_INVALID.1).2, (elem_in (own_eqi (Term.int_eval _) n35) ea_INVALID (Term.int_eval _) A_INVALID.1).2, (elem_in (own_eqi (Term.int_eval _) n36) ea_INVALID (Term.int_eval _) A_INVALID.1).2, (elem_in (own_eqi (Term.int_eval _) n37) ea_INVALID (Term.int_eval _) A_INVALID.1).2, (elem_in (own_eqi (Term.int_eval _) n38) ea_INVALID (Term.int_eval _) A_INVALID.1).2, trivial⟩
  have R_NONE : own_Ar s s.heap v_NONE .byte [(.int (78 : Int32)), (.int (111 : Int32)), (.int (110 : Int32)), (.int (101 : Int32))] := own_ArS A_NONE l_NONE ⟨(elem_in (own_eqi (Term.int_eval _) n27) ea_NONE (Term.int_eval _) A_NONE.1).2, (elem_in (own_eqi (Term.int_eval _) n29) ea_NONE (Term.int_eval _) A_NONE.1).2, (elem_in (own_eqi (Term.int_eval _) n30) ea_NONE (Term.int_eval _) A_NONE.1).2, (elem_in (own_eqi (Term.int_eval _) n31) ea_NONE (Term.int_eval _) A_NONE.1).2, trivial⟩
  have R_SIGN : own_Ar s s.heap v_SIGN .byte [(.int (83 : Int32)), (.int (105 : Int32)), (.int (103 : Int32)), (.int (110 : Int32))] := own_ArS A_SIGN l_SIGN ⟨(elem_in (own_eqi (Term.int_eval _) n18) ea_SIGN (Term.int_eval _) A_SIGN.1).2, (elem_in (own_eqi (Term.int_eval _) n19) ea_SIGN (Term.int_eval _) A_SIGN.1).2, (elem_in (own_eqi (Term.int_eval _) n20) ea_SIGN (Term.int_eval _) A_SIGN.1).2, (elem_in (own_eqi (Term.int_eval _) n21) ea_SIGN (Term.int_eval _) A_SIGN.1).2, trivial⟩
  have R_SIGN_AND_ENCRYPT : own_Ar s s.heap v_SIGN_AND_ENCRYPT .byte [(.int (83 : Int32)), (.int (105 : Int32)), (.int (103 : Int32)), (.int (110 : Int32)), (.int (65 : Int32)), (.int (110 : Int32)), (.int (100 : Int32)), (.int (69 : Int32)), (.int (110 : Int32)), (.int (99 : Int32)), (.int (114 : Int32)), (.int (121 : Int32)), (.int (112 : Int32)), (.int (116 : Int32))] := own_ArS A_SIGN_AND_ENCRYPT l_SIGN_AND_ENCRYPT ⟨(elem_in (own_eqi (Term.int_eval _) n39) ea_SIGN_AND_ENCRYPT (Term.int_eval _) A_SIGN_AND_ENCRYPT.1).2, (elem_in (own_eqi (Term.int_eval _) n40) ea_SIGN_AND_ENCRYPT (Term.int_eval _) A_SIGN_AND_ENCRYPT.1).2, (elem_in (own_eqi (Term.int_eval _) n41) ea_SIGN_AND_ENCRYPT (Term.int_eval _) A_SIGN_AND_ENCRYPT.1).2, (elem_in (own_eqi (Term.int_eval _) n42) ea_SIGN_AND_ENCRYPT (Term.int_eval _) A_SIGN_AND_ENCRYPT.1).2, (elem_in (own_eqi (Term.int_eval _) n43) ea_SIGN_AND_ENCRYPT (Term.int_eval _) A_SIGN_AND_ENCRYPT.1).2, (elem_in (own_eqi (Term.int_eval _) n44) ea_SIGN_AND_ENCRYPT (Term.int_eval _) A_SIGN_AND_ENCRYPT.1).2, (elem_in (own_eqi (Term.int_eval _) n45) ea_SIGN_AND_ENCRYPT (Term.int_eval _) A_SIGN_AND_ENCRYPT.1).2, (elem_in (own_eqi (Term.int_eval _) n46) ea_SIGN_AND_ENCRYPT (Term.int_eval _) A_SIGN_AND_ENCRYPT.1).2, (elem_in (own_eqi (Term.int_eval _) n47) ea_SIGN_AND_ENCRYPT (Term.int_eval _) A_SIGN_AND_ENCRYPT.1).2, (elem_in (own_eqi (Term.int_eval _) n48) ea_SIGN_AND_ENCRYPT (Term.int_eval _) A_SIGN_AND_ENCRYPT.1).2, (elem_in (own_eqi (Term.int_eval _) n49) ea_SIGN_AND_ENCRYPT (Term.int_eval _) A_SIGN_AND_ENCRYPT.1).2, (elem_in (own_eqi (Term.int_eval _) n50) ea_SIGN_AND_ENCRYPT (Term.int_eval _) A_SIGN_AND_ENCRYPT.1).2, (elem_in (own_eqi (Term.int_eval _) n51) ea_SIGN_AND_ENCRYPT (Term.int_eval _) A_SIGN_AND_ENCRYPT.1).2, (elem_in (own_eqi (Term.int_eval _) n52) ea_SIGN_AND_ENCRYPT (Term.int_eval _) A_SIGN_AND_ENCRYPT.1).2, trivial⟩
  obtain ⟨hsets, hown0⟩ := atoms_of _ (rest_1_c_eq ▸ (show rest_1_c.before _ s = true from hrest))
  have nz := not_v (Cond.before_iff.mp (hsets _ (List.mem_of_getElem? (i := 2) rfl)))
  obtain ⟨cs, ecs⟩ := is_v (Cond.before_iff.mp (hsets _ (List.mem_of_getElem? (i := 1) rfl)))
  have S_cs := Sta.start ecs (Or.inl (hsets _ (List.mem_of_getElem? (i := 0) rfl)))
  have cs0 : ¬ (cs = (0 : Int32)) := gotF (Cond.eq_ints ecs (Term.int_eval (0))) nz
  obtain ⟨fm, efm, hfm⟩ := isR_v (Cond.before_iff.mp (hsets _ (List.mem_of_getElem? (i := 8) rfl)))
  have S_fm := Sta.start efm (Or.inl (hsets _ (List.mem_of_getElem? (i := 7) rfl)))
  have FX : own_F s s.heap w_INVALID w_NONE w_SIGN w_SIGN_AND_ENCRYPT s_INVALID s_NONE s_SIGN s_SIGN_AND_ENCRYPT v_INVALID v_NONE v_SIGN v_SIGN_AND_ENCRYPT cs fm := ⟨S_INVALID, E_INVALID, S_SIGN, E_SIGN, S_SIGN_AND_ENCRYPT, E_SIGN_AND_ENCRYPT, S_NONE, E_NONE, F_INVALID_ordinal, F_SIGN_ordinal, F_SIGN_AND_ENCRYPT_ordinal, F_NONE_ordinal, ne_INVALID_SIGN, ne_INVALID_SIGN_AND_ENCRYPT, ne_INVALID_NONE, ne_SIGN_SIGN_AND_ENCRYPT, ne_SIGN_NONE, ne_SIGN_AND_ENCRYPT_NONE, G_INVALID, X_INVALID, G_SIGN_AND_ENCRYPT, X_SIGN_AND_ENCRYPT, G_SIGN, X_SIGN, G_NONE, X_NONE, H_INVALID, H_SIGN_AND_ENCRYPT, H_SIGN, H_NONE, D_INVALID, D_SIGN_AND_ENCRYPT, D_SIGN, D_NONE, R_INVALID, R_NONE, R_SIGN, R_SIGN_AND_ENCRYPT, S_cs, cs0, S_fm, hfm⟩
  obtain ⟨n, o, h1, h2, h3, _, L, rfl, ⟨rfl, N⟩, hq⟩ := rm0 l s _ hw tables_1 i0 w_INVALID w_NONE w_SIGN w_SIGN_AND_ENCRYPT s_INVALID s_NONE s_SIGN s_SIGN_AND_ENCRYPT v_INVALID v_NONE v_SIGN v_SIGN_AND_ENCRYPT cs fm s.heap FX p e ha hc hk s m _ below hf ((Spec.applies_iff_loose hf).mp happ).1 ⟨rfl, State.Warmed39.refl s, rfl⟩ trivial
  refine ⟨n, _, h1, h2, h3, hpost _ _ _ _ _ _ ⟨Cond.after_iff.mpr rfl, Cond.after_iff.mpr (eq_i res_at (Term.int_eval (1)) rfl), trivial⟩ ⟨hq.1, hq.2.1, (hq.2.2.sift fun y hy => Or.inr (N y hy)).mono (by decide) (by decide)⟩⟩
theorem main_1_1 : Claimed_1_1 := comes_1 fun _ _ _ _ _ _ h hF => ⟨h.1, hF⟩
theorem main_1_2 : Claimed_1_2 := comes_1 fun _ _ _ _ _ _ h hF => ⟨h.2.1, hF⟩
end Jvm.Pilot.@@N@@
namespace Jvm.Pilot.@@N@@
open Jvm Jvm.ClassFile Sem Op Lib Jvm.Free Jvm.Stand Jvm.Pilot.@@N@@.Jvm.D
/-! MADE BY PROGRAM (witnessworld.py) out of the Statement's table words and the real class files: 18 classes; the members and pool entries that the words name. The judged class is class 1, her method 2. -/
namespace start1
open Jvm.ClassFile
def u (s : String) : CpInfo := .utf8 (stringToUtf16 s)
/-- a pool by its gaps: so many unusable entries, then the entry; so many at the end -/
def gap : Nat → List CpInfo → List CpInfo
  | 0, r => r
  | n + 1, r => .unusable :: gap n r
def poolList (es : List (Nat × CpInfo)) (last : Nat) : List CpInfo := es.foldr (fun e r => gap e.1 (e.2 :: r)) (gap last [])
def pool (es : List (Nat × CpInfo)) (last : Nat) : Array CpInfo := ⟨poolList es last⟩
def fileOf (pool : Array CpInfo) (this : Nat) (attrs : Array Attribute := #[]) (ms : Array MethodInfo := #[]) (fl : Nat := 33) (sup : Nat := 0) (ifs : Array Nat := #[]) (fds : Array FieldInfo := #[]) : ClassFile where
  minorVersion := 0
  majorVersion := 65
  constantPool := pool
  accessFlags := fl
  thisClass := this
  superClass := sup
  interfaces := ifs
  fields := fds
  methods := ms
  attributes := attrs
def plain (name : String) (sup : Option ClassId) : Class where
  name := name
  kind := .ordinary
  loader := none
  accessFlags := 33
  super := sup
  interfaces := #[]
  cf := none
  fields := #[]
  methods := #[]
  instanceTypes := #[]
  staticTypes := #[]
  resolved := #[]
  callSites := []
  init := .initialized
  statics := none
  mirror := none

def pool0 : Array CpInfo := pool [(5, u "<init>"), (0, u "()V"), (1, .class_ 10), (1, u "java/lang/Object")] 113

def k0m0 : Method := { name := "<init>", desc := "()V", sig := { parameters := [], returnType := none }, accessFlags := 1, code := none }
/-- java/lang/Object -/
def k0 : Class := { plain "java/lang/Object" none with
  accessFlags := 33
  interfaces := #[]
  cf := some (fileOf pool0 8 #[] #[{ accessFlags := 1, nameIndex := 5, descriptorIndex := 6, attributes := #[] }] 33 0 #[] #[])
  fields := #[]
  methods := #[k0m0]
  instanceTypes := #[]
  staticTypes := #[]
  resolved := Array.replicate 124 none
  statics := none }

def pool1 : Array CpInfo := pool [(2, .class_ 4), (1, u "java/lang/Object"), (0, u "<init>"), (0, u "()V"), (0, .fieldref 8 9), (0, .class_ 10), (0, .nameAndType 11 12), (0, u "com/example/dvarapala/dvarapala/engine/MessageSecurityMode"), (0, u "INVALID"), (0, u "Lcom/example/dvarapala/dvarapala/engine/MessageSecurityMode;"), (0, .fieldref 8 14), (0, .nameAndType 15 12), (0, u "NONE"), (0, .fieldref 8 17), (0, .nameAndType 18 12), (0, u "SIGN"), (0, .fieldref 8 20), (0, .nameAndType 21 12), (0, u "SIGN_AND_ENCRYPT"), (0, .methodref 23 24), (0, .class_ 25), (0, .nameAndType 26 27), (0, u "com/example/dvarapala/dvarapala/engine/MessageSecurityModeIsSignedPinLaw"), (0, u "pick"), (0, u "(I)Lcom/example/dvarapala/dvarapala/engine/MessageSecurityMode;"), (0, .methodref 8 29), (0, .nameAndType 30 31), (0, u "getSpecName"), (0, u "()Ljava/lang/String;"), (0, .methodref 33 34), (0, .class_ 35), (0, .nameAndType 36 37), (0, u "java/lang/String"), (0, u "length"), (0, u "()I"), (0, .methodref 33 39), (0, .nameAndType 40 41), (0, u "charAt"), (0, u "(I)C"), (0, .methodref 8 43), (0, .nameAndType 44 45), (0, u "isSigned"), (0, u "()Z"), (3, u "law"), (0, u "(I)Z")] 2

def k1m0 : Method := { name := "<init>", desc := "()V", sig := { parameters := [], returnType := none }, accessFlags := 2, code := none }
def k1c1 : Code := { maxStack := 2, maxLocals := 1, code := method_2_code, exceptionTable := #[], attributes := #[] }
def k1m1 : Method := { name := "pick", desc := "(I)Lcom/example/dvarapala/dvarapala/engine/MessageSecurityMode;", sig := { parameters := [.int], returnType := some (.object "com/example/dvarapala/dvarapala/engine/MessageSecurityMode") }, accessFlags := 10, code := some k1c1 }
def k1c2 : Code := { maxStack := 2, maxLocals := 7, code := code, exceptionTable := #[], attributes := #[] }
def k1m2 : Method := { name := "law", desc := "(I)Z", sig := { parameters := [.int], returnType := some .boolean }, accessFlags := 9, code := some k1c2 }
/-- com/example/dvarapala/dvarapala/engine/MessageSecurityModeIsSignedPinLaw -/
def k1 : Class := { plain "com/example/dvarapala/dvarapala/engine/MessageSecurityModeIsSignedPinLaw" (some 0) with
  accessFlags := 49
  interfaces := #[]
  cf := some (fileOf pool1 23 #[] #[{ accessFlags := 2, nameIndex := 5, descriptorIndex := 6, attributes := #[] }, { accessFlags := 10, nameIndex := 26, descriptorIndex := 27, attributes := #[] }, { accessFlags := 9, nameIndex := 49, descriptorIndex := 50, attributes := #[] }] 49 2 #[] #[])
  fields := #[]
  methods := #[k1m0, k1m1, k1m2]
  instanceTypes := #[]
  staticTypes := #[]
  resolved := Array.replicate 53 none
  statics := none }

def pool2 : Array CpInfo := pool [(1, .class_ 2), (0, u "java/lang/constant/Constable"), (0, .class_ 4), (0, u "java/lang/Object")] 6

/-- java/lang/constant/Constable -/
def k2 : Class := { plain "java/lang/constant/Constable" (some 0) with
  accessFlags := 1537
  interfaces := #[]
  cf := some (fileOf pool2 1 #[] #[] 1537 3 #[] #[])
  fields := #[]
  methods := #[]
  instanceTypes := #[]
  staticTypes := #[]
  resolved := Array.replicate 11 none
  statics := none }

def pool3 : Array CpInfo := pool [(1, .class_ 2), (0, u "java/lang/Comparable"), (0, .class_ 4), (0, u "java/lang/Object")] 7

/-- java/lang/Comparable -/
def k3 : Class := { plain "java/lang/Comparable" (some 0) with
  accessFlags := 1537
  interfaces := #[]
  cf := some (fileOf pool3 1 #[] #[] 1537 3 #[] #[])
  fields := #[]
  methods := #[]
  instanceTypes := #[]
  staticTypes := #[]
  resolved := Array.replicate 12 none
  statics := none }

def pool4 : Array CpInfo := pool [(1, .class_ 2), (0, u "java/io/Serializable"), (0, .class_ 4), (0, u "java/lang/Object")] 2

/-- java/io/Serializable -/
def k4 : Class := { plain "java/io/Serializable" (some 0) with
  accessFlags := 1537
  interfaces := #[]
  cf := some (fileOf pool4 1 #[] #[] 1537 3 #[] #[])
  fields := #[]
  methods := #[]
  instanceTypes := #[]
  staticTypes := #[]
  resolved := Array.replicate 7 none
  statics := none }

def pool5 : Array CpInfo := pool [(2, .class_ 4), (1, u "java/lang/Enum"), (0, u "name"), (0, u "Ljava/lang/String;"), (2, u "ordinal"), (0, u "I"), (1, .class_ 14), (1, u "java/lang/Object"), (4, u "hash"), (86, .class_ 108), (1, u "java/lang/Enum$EnumDesc"), (2, .class_ 112), (0, u "java/lang/constant/Constable"), (0, .class_ 114), (0, u "java/lang/Comparable"), (0, .class_ 116), (0, u "java/io/Serializable")] 87

/-- java/lang/Enum -/
def k5 : Class := { plain "java/lang/Enum" (some 0) with
  accessFlags := 1057
  interfaces := #[2, 3, 4]
  cf := some (fileOf pool5 2 #[.nestMembers #[106]] #[] 1057 12 #[111, 113, 115] #[{ accessFlags := 18, nameIndex := 5, descriptorIndex := 6, attributes := #[] }, { accessFlags := 18, nameIndex := 9, descriptorIndex := 10, attributes := #[] }, { accessFlags := 2, nameIndex := 19, descriptorIndex := 10, attributes := #[] }])
  fields := #[{ name := "name", type := (.object "java/lang/String"), accessFlags := 18, slot := 0, constantValue := 0 }, { name := "ordinal", type := .int, accessFlags := 18, slot := 1, constantValue := 0 }, { name := "hash", type := .int, accessFlags := 2, slot := 2, constantValue := 0 }]
  methods := #[]
  instanceTypes := #[(.object "java/lang/String"), .int, .int]
  staticTypes := #[]
  resolved := Array.replicate 204 none
  statics := none }

def pool6 : Array CpInfo := pool [(1, .class_ 2), (0, u "com/example/dvarapala/dvarapala/engine/MessageSecurityMode"), (2, u "INVALID"), (0, u "Lcom/example/dvarapala/dvarapala/engine/MessageSecurityMode;"), (2, u "NONE"), (0, .fieldref 1 11), (0, .nameAndType 12 6), (0, u "SIGN"), (0, .fieldref 1 14), (0, .nameAndType 15 6), (0, u "SIGN_AND_ENCRYPT"), (2, u "$VALUES"), (0, u "[Lcom/example/dvarapala/dvarapala/engine/MessageSecurityMode;"), (6, .class_ 28), (1, u "java/lang/Enum"), (6, .fieldref 1 36), (0, .nameAndType 37 38), (0, u "specName"), (0, u "Ljava/lang/String;"), (40, u "getSpecName"), (0, u "()Ljava/lang/String;"), (0, u "isSigned"), (0, u "()Z")] 28

def k6c0 : Code := { maxStack := 1, maxLocals := 1, code := prog_10_method_4_code, exceptionTable := #[], attributes := #[] }
def k6m0 : Method := { name := "getSpecName", desc := "()Ljava/lang/String;", sig := { parameters := [], returnType := some (.object "java/lang/String") }, accessFlags := 1, code := some k6c0 }
def k6c1 : Code := { maxStack := 2, maxLocals := 1, code := prog_10_method_5_code, exceptionTable := #[], attributes := #[] }
def k6m1 : Method := { name := "isSigned", desc := "()Z", sig := { parameters := [], returnType := some .boolean }, accessFlags := 1, code := some k6c1 }
/-- com/example/dvarapala/dvarapala/engine/MessageSecurityMode -/
def k6 : Class := { plain "com/example/dvarapala/dvarapala/engine/MessageSecurityMode" (some 5) with
  accessFlags := 16433
  interfaces := #[]
  cf := some (fileOf pool6 1 #[] #[{ accessFlags := 1, nameIndex := 79, descriptorIndex := 80, attributes := #[] }, { accessFlags := 1, nameIndex := 81, descriptorIndex := 82, attributes := #[] }] 16433 26 #[] #[{ accessFlags := 16409, nameIndex := 5, descriptorIndex := 6, attributes := #[] }, { accessFlags := 16409, nameIndex := 9, descriptorIndex := 6, attributes := #[] }, { accessFlags := 16409, nameIndex := 12, descriptorIndex := 6, attributes := #[] }, { accessFlags := 16409, nameIndex := 15, descriptorIndex := 6, attributes := #[] }, { accessFlags := 18, nameIndex := 37, descriptorIndex := 38, attributes := #[] }, { accessFlags := 4122, nameIndex := 18, descriptorIndex := 19, attributes := #[] }])
  fields := #[{ name := "INVALID", type := (.object "com/example/dvarapala/dvarapala/engine/MessageSecurityMode"), accessFlags := 16409, slot := 0, constantValue := 0 }, { name := "NONE", type := (.object "com/example/dvarapala/dvarapala/engine/MessageSecurityMode"), accessFlags := 16409, slot := 1, constantValue := 0 }, { name := "SIGN", type := (.object "com/example/dvarapala/dvarapala/engine/MessageSecurityMode"), accessFlags := 16409, slot := 2, constantValue := 0 }, { name := "SIGN_AND_ENCRYPT", type := (.object "com/example/dvarapala/dvarapala/engine/MessageSecurityMode"), accessFlags := 16409, slot := 3, constantValue := 0 }, { name := "specName", type := (.object "java/lang/String"), accessFlags := 18, slot := 3, constantValue := 0 }, { name := "$VALUES", type := (.array (.object "com/example/dvarapala/dvarapala/engine/MessageSecurityMode")), accessFlags := 4122, slot := 4, constantValue := 0 }]
  methods := #[k6m0, k6m1]
  instanceTypes := #[(.object "java/lang/String"), .int, .int, (.object "java/lang/String")]
  staticTypes := #[(.object "com/example/dvarapala/dvarapala/engine/MessageSecurityMode"), (.object "com/example/dvarapala/dvarapala/engine/MessageSecurityMode"), (.object "com/example/dvarapala/dvarapala/engine/MessageSecurityMode"), (.object "com/example/dvarapala/dvarapala/engine/MessageSecurityMode"), (.array (.object "com/example/dvarapala/dvarapala/engine/MessageSecurityMode"))]
  resolved := Array.replicate 111 none
  statics := some 0 }

def pool7 : Array CpInfo := pool [(2, .class_ 4), (1, u "java/lang/CharSequence"), (42, .class_ 48), (0, u "java/lang/CharSequence$1CodePointIterator"), (10, .class_ 60), (0, u "java/lang/CharSequence$1CharIterator"), (5, .class_ 67), (0, u "java/lang/Object")] 63

/-- java/lang/CharSequence -/
def k7 : Class := { plain "java/lang/CharSequence" (some 0) with
  accessFlags := 1537
  interfaces := #[]
  cf := some (fileOf pool7 2 #[.nestMembers #[47, 59]] #[] 1537 66 #[] #[])
  fields := #[]
  methods := #[]
  instanceTypes := #[]
  staticTypes := #[]
  resolved := Array.replicate 131 none
  statics := none }

def pool8 : Array CpInfo := pool [(1, .class_ 2), (0, u "java/lang/constant/ConstantDesc"), (0, .class_ 4), (0, u "java/lang/Object")] 32

/-- java/lang/constant/ConstantDesc -/
def k8 : Class := { plain "java/lang/constant/ConstantDesc" (some 0) with
  accessFlags := 1537
  interfaces := #[]
  cf := some (fileOf pool8 1 #[] #[] 1537 3 #[] #[])
  fields := #[]
  methods := #[]
  instanceTypes := #[]
  staticTypes := #[]
  resolved := Array.replicate 37 none
  statics := none }

def pool9 : Array CpInfo := pool [(2, .class_ 4), (1, u "java/lang/Object"), (0, u "<init>"), (0, u "()V"), (2, .fieldref 10 11), (0, .class_ 12), (0, .nameAndType 13 14), (0, u "java/lang/String"), (0, u "value"), (0, u "[B"), (0, .fieldref 10 16), (0, .nameAndType 17 18), (0, u "coder"), (0, u "B"), (2, u "hash"), (0, u "I"), (2, u "hashIsZero"), (0, u "Z"), (11, .fieldref 10 39), (0, .nameAndType 40 26), (0, u "COMPACT_STRINGS"), (66, .class_ 109), (1, u "java/lang/StringLatin1"), (32, u "()Z"), (191, u "()I"), (0, .methodref 10 336), (0, .nameAndType 17 337), (0, u "()B"), (25, u "([BI)C"), (27, u "(II)V"), (35, u "(I)C"), (64, .methodref 10 493), (0, .nameAndType 494 142), (0, u "isLatin1"), (0, .methodref 107 496), (0, .nameAndType 497 363), (0, u "charAt"), (3, u "checkIndex"), (5, u "length"), (67, .class_ 576), (0, u "java/lang/CharSequence"), (22, u "CASE_INSENSITIVE_ORDER"), (0, u "Ljava/util/Comparator;"), (452, .fieldref 1054 1055), (0, .class_ 1056), (0, .nameAndType 1057 1058), (0, u "jdk/internal/util/Preconditions"), (0, u "SIOOBE_FORMATTER"), (0, u "Ljava/util/function/BiFunction;"), (0, .methodref 1054 1060), (0, .nameAndType 501 1061), (0, u "(IILjava/util/function/BiFunction;)I"), (39, u "serialPersistentFields"), (0, u "[Ljava/io/ObjectStreamField;"), (0, .class_ 1104), (0, u "java/lang/String$CaseInsensitiveComparator"), (1, .class_ 1107), (0, u "java/io/Serializable"), (0, .class_ 1109), (0, u "java/lang/Comparable"), (0, .class_ 1111), (0, u "java/lang/constant/Constable"), (0, .class_ 1113), (0, u "java/lang/constant/ConstantDesc"), (2, u "serialVersionUID"), (0, u "J"), (3, u "REPL"), (0, u "C"), (2, u "LATIN1"), (1, u "UTF16")] 323

def k9m0 : Method := { name := "<init>", desc := "()V", sig := { parameters := [], returnType := none }, accessFlags := 1, code := none }
def k9c1 : Code := { maxStack := 2, maxLocals := 1, code := jdk_42_method_54_code, exceptionTable := #[], attributes := #[] }
def k9m1 : Method := { name := "length", desc := "()I", sig := { parameters := [], returnType := some .int }, accessFlags := 1, code := some k9c1 }
def k9c2 : Code := { maxStack := 2, maxLocals := 2, code := jdk_42_method_56_code, exceptionTable := #[], attributes := #[] }
def k9m2 : Method := { name := "charAt", desc := "(I)C", sig := { parameters := [.int], returnType := some .char }, accessFlags := 1, code := some k9c2 }
def k9c3 : Code := { maxStack := 1, maxLocals := 1, code := jdk_42_method_152_code, exceptionTable := #[], attributes := #[] }
def k9m3 : Method := { name := "coder", desc := "()B", sig := { parameters := [], returnType := some .byte }, accessFlags := 0, code := some k9c3 }
def k9c4 : Code := { maxStack := 1, maxLocals := 1, code := jdk_42_method_154_code, exceptionTable := #[], attributes := #[] }
def k9m4 : Method := { name := "isLatin1", desc := "()Z", sig := { parameters := [], returnType := some .boolean }, accessFlags := 0, code := some k9c4 }
def k9c5 : Code := { maxStack := 3, maxLocals := 2, code := jdk_42_method_155_code, exceptionTable := #[], attributes := #[] }
def k9m5 : Method := { name := "checkIndex", desc := "(II)V", sig := { parameters := [.int, .int], returnType := none }, accessFlags := 8, code := some k9c5 }
/-- java/lang/String -/
def k9 : Class := { plain "java/lang/String" (some 0) with
  accessFlags := 49
  interfaces := #[4, 3, 7, 2, 8]
  cf := some (fileOf pool9 10 #[.nestMembers #[1103]] #[{ accessFlags := 1, nameIndex := 5, descriptorIndex := 6, attributes := #[] }, { accessFlags := 1, nameIndex := 507, descriptorIndex := 334, attributes := #[] }, { accessFlags := 1, nameIndex := 497, descriptorIndex := 427, attributes := #[] }, { accessFlags := 0, nameIndex := 17, descriptorIndex := 337, attributes := #[] }, { accessFlags := 0, nameIndex := 494, descriptorIndex := 142, attributes := #[] }, { accessFlags := 8, nameIndex := 501, descriptorIndex := 391, attributes := #[] }] 49 2 #[1106, 1108, 575, 1110, 1112] #[{ accessFlags := 18, nameIndex := 13, descriptorIndex := 14, attributes := #[] }, { accessFlags := 18, nameIndex := 17, descriptorIndex := 18, attributes := #[] }, { accessFlags := 2, nameIndex := 21, descriptorIndex := 22, attributes := #[] }, { accessFlags := 2, nameIndex := 25, descriptorIndex := 26, attributes := #[] }, { accessFlags := 26, nameIndex := 1116, descriptorIndex := 1117, attributes := #[] }, { accessFlags := 24, nameIndex := 40, descriptorIndex := 26, attributes := #[] }, { accessFlags := 26, nameIndex := 1101, descriptorIndex := 1102, attributes := #[] }, { accessFlags := 26, nameIndex := 1121, descriptorIndex := 1122, attributes := #[] }, { accessFlags := 25, nameIndex := 599, descriptorIndex := 600, attributes := #[] }, { accessFlags := 24, nameIndex := 1125, descriptorIndex := 18, attributes := #[] }, { accessFlags := 24, nameIndex := 1127, descriptorIndex := 18, attributes := #[] }])
  fields := #[{ name := "value", type := (.array .byte), accessFlags := 18, slot := 0, constantValue := 0 }, { name := "coder", type := .byte, accessFlags := 18, slot := 1, constantValue := 0 }, { name := "hash", type := .int, accessFlags := 2, slot := 2, constantValue := 0 }, { name := "hashIsZero", type := .boolean, accessFlags := 2, slot := 3, constantValue := 0 }, { name := "serialVersionUID", type := .long, accessFlags := 26, slot := 0, constantValue := 0 }, { name := "COMPACT_STRINGS", type := .boolean, accessFlags := 24, slot := 1, constantValue := 0 }, { name := "serialPersistentFields", type := (.array (.object "java/io/ObjectStreamField")), accessFlags := 26, slot := 2, constantValue := 0 }, { name := "REPL", type := .char, accessFlags := 26, slot := 3, constantValue := 0 }, { name := "CASE_INSENSITIVE_ORDER", type := (.object "java/util/Comparator"), accessFlags := 25, slot := 4, constantValue := 0 }, { name := "LATIN1", type := .byte, accessFlags := 24, slot := 5, constantValue := 0 }, { name := "UTF16", type := .byte, accessFlags := 24, slot := 6, constantValue := 0 }]
  methods := #[k9m0, k9m1, k9m2, k9m3, k9m4, k9m5]
  instanceTypes := #[(.array .byte), .byte, .int, .boolean]
  staticTypes := #[.long, .boolean, (.array (.object "java/io/ObjectStreamField")), .char, (.object "java/util/Comparator"), .byte, .byte]
  resolved := Array.replicate 1451 none
  statics := some 1 }

def pool10 : Array CpInfo := pool [(1, .class_ 2), (0, u "java/lang/String"), (1, .class_ 6), (1, u "java/lang/Object"), (0, u "<init>"), (0, u "()V"), (0, .methodref 1 10), (0, .nameAndType 11 12), (0, u "checkIndex"), (0, u "(II)V"), (1, .class_ 16), (1, u "java/lang/StringLatin1"), (36, u "([BI)C"), (67, u "$assertionsDisabled"), (0, u "Z"), (98, .class_ 223), (1, u "java/lang/StringLatin1$LinesSpliterator"), (28, u "charAt"), (137, .class_ 391), (0, u "java/lang/StringLatin1$CharsSpliterator")] 3

def k10m0 : Method := { name := "<init>", desc := "()V", sig := { parameters := [], returnType := none }, accessFlags := 0, code := none }
def k10c1 : Code := { maxStack := 2, maxLocals := 2, code := jdk_43_method_2_code, exceptionTable := #[], attributes := #[] }
def k10m1 : Method := { name := "charAt", desc := "([BI)C", sig := { parameters := [(.array .byte), .int], returnType := some .char }, accessFlags := 9, code := some k10c1 }
/-- java/lang/StringLatin1 -/
def k10 : Class := { plain "java/lang/StringLatin1" (some 0) with
  accessFlags := 48
  interfaces := #[]
  cf := some (fileOf pool10 14 #[.nestMembers #[390, 221]] #[{ accessFlags := 0, nameIndex := 7, descriptorIndex := 8, attributes := #[] }, { accessFlags := 9, nameIndex := 252, descriptorIndex := 53, attributes := #[] }] 48 4 #[] #[{ accessFlags := 4120, nameIndex := 121, descriptorIndex := 122, attributes := #[] }])
  fields := #[{ name := "$assertionsDisabled", type := .boolean, accessFlags := 4120, slot := 0, constantValue := 0 }]
  methods := #[k10m0, k10m1]
  instanceTypes := #[]
  staticTypes := #[.boolean]
  resolved := Array.replicate 395 none
  statics := none }

def pool11 : Array CpInfo := pool [(2, .class_ 4), (1, u "java/lang/Object"), (0, u "<init>"), (0, u "()V"), (17, .class_ 26), (1, u "jdk/internal/util/Preconditions"), (6, u "checkIndex"), (21, .class_ 56), (0, u "jdk/internal/util/Preconditions$4"), (57, .class_ 115), (0, u "jdk/internal/util/Preconditions$1"), (7, u "SIOOBE_FORMATTER"), (0, u "Ljava/util/function/BiFunction;"), (0, .class_ 126), (0, u "jdk/internal/util/Preconditions$2"), (3, u "AIOOBE_FORMATTER"), (0, .class_ 132), (0, u "jdk/internal/util/Preconditions$3"), (3, u "IOOBE_FORMATTER"), (41, u "(IILjava/util/function/BiFunction;)I")] 15

def k11m0 : Method := { name := "<init>", desc := "()V", sig := { parameters := [], returnType := none }, accessFlags := 1, code := none }
def k11c1 : Code := { maxStack := 3, maxLocals := 3, code := jdk_41_method_11_code, exceptionTable := #[], attributes := #[] }
def k11m1 : Method := { name := "checkIndex", desc := "(IILjava/util/function/BiFunction;)I", sig := { parameters := [.int, .int, (.object "java/util/function/BiFunction")], returnType := some .int }, accessFlags := 9, code := some k11c1 }
/-- jdk/internal/util/Preconditions -/
def k11 : Class := { plain "jdk/internal/util/Preconditions" (some 0) with
  accessFlags := 33
  interfaces := #[]
  cf := some (fileOf pool11 24 #[.nestMembers #[55, 131, 125, 114]] #[{ accessFlags := 1, nameIndex := 5, descriptorIndex := 6, attributes := #[] }, { accessFlags := 9, nameIndex := 33, descriptorIndex := 178, attributes := #[] }] 33 2 #[] #[{ accessFlags := 25, nameIndex := 123, descriptorIndex := 124, attributes := #[] }, { accessFlags := 25, nameIndex := 130, descriptorIndex := 124, attributes := #[] }, { accessFlags := 25, nameIndex := 136, descriptorIndex := 124, attributes := #[] }])
  fields := #[{ name := "SIOOBE_FORMATTER", type := (.object "java/util/function/BiFunction"), accessFlags := 25, slot := 0, constantValue := 0 }, { name := "AIOOBE_FORMATTER", type := (.object "java/util/function/BiFunction"), accessFlags := 25, slot := 1, constantValue := 0 }, { name := "IOOBE_FORMATTER", type := (.object "java/util/function/BiFunction"), accessFlags := 25, slot := 2, constantValue := 0 }]
  methods := #[k11m0, k11m1]
  instanceTypes := #[]
  staticTypes := #[(.object "java/util/function/BiFunction"), (.object "java/util/function/BiFunction"), (.object "java/util/function/BiFunction")]
  resolved := Array.replicate 194 none
  statics := some 2 }

def pool12 : Array CpInfo := pool [(9, u "<init>"), (6, .class_ 18), (1, u "java/lang/Object"), (0, u "()V"), (1, .class_ 23), (1, u "jdk/internal/util/ArraysSupport"), (0, u "LOG2_ARRAY_LONG_INDEX_SCALE"), (0, u "I"), (2, u "U"), (0, u "Ljdk/internal/misc/Unsafe;"), (8, u "BIG_ENDIAN"), (0, u "Z"), (8, u "LOG2_BYTE_BIT_SIZE"), (4, u "LOG2_ARRAY_INT_INDEX_SCALE"), (54, u "JLA"), (0, u "Ljdk/internal/access/JavaLangAccess;"), (11, u "LOG2_ARRAY_BOOLEAN_INDEX_SCALE"), (9, u "LOG2_ARRAY_BYTE_INDEX_SCALE"), (5, u "LOG2_ARRAY_CHAR_INDEX_SCALE"), (5, u "LOG2_ARRAY_SHORT_INDEX_SCALE"), (18, u "LOG2_ARRAY_FLOAT_INDEX_SCALE"), (24, u "LOG2_ARRAY_DOUBLE_INDEX_SCALE"), (89, u "T_BOOLEAN"), (2, u "T_CHAR"), (1, u "T_FLOAT"), (1, u "T_DOUBLE"), (1, u "T_BYTE"), (1, u "T_SHORT"), (1, u "T_INT"), (1, u "T_LONG"), (1, u "SOFT_MAX_ARRAY_LENGTH")] 83

def k12m0 : Method := { name := "<init>", desc := "()V", sig := { parameters := [], returnType := none }, accessFlags := 2, code := none }
/-- jdk/internal/util/ArraysSupport -/
def k12 : Class := { plain "jdk/internal/util/ArraysSupport" (some 0) with
  accessFlags := 33
  interfaces := #[]
  cf := some (fileOf pool12 21 #[] #[{ accessFlags := 2, nameIndex := 9, descriptorIndex := 19, attributes := #[] }] 33 16 #[] #[{ accessFlags := 24, nameIndex := 28, descriptorIndex := 29, attributes := #[] }, { accessFlags := 26, nameIndex := 38, descriptorIndex := 39, attributes := #[] }, { accessFlags := 25, nameIndex := 121, descriptorIndex := 25, attributes := #[] }, { accessFlags := 25, nameIndex := 131, descriptorIndex := 25, attributes := #[] }, { accessFlags := 25, nameIndex := 137, descriptorIndex := 25, attributes := #[] }, { accessFlags := 25, nameIndex := 143, descriptorIndex := 25, attributes := #[] }, { accessFlags := 25, nameIndex := 53, descriptorIndex := 25, attributes := #[] }, { accessFlags := 25, nameIndex := 24, descriptorIndex := 25, attributes := #[] }, { accessFlags := 25, nameIndex := 162, descriptorIndex := 25, attributes := #[] }, { accessFlags := 25, nameIndex := 187, descriptorIndex := 25, attributes := #[] }, { accessFlags := 26, nameIndex := 48, descriptorIndex := 25, attributes := #[] }, { accessFlags := 25, nameIndex := 277, descriptorIndex := 25, attributes := #[] }, { accessFlags := 25, nameIndex := 280, descriptorIndex := 25, attributes := #[] }, { accessFlags := 25, nameIndex := 282, descriptorIndex := 25, attributes := #[] }, { accessFlags := 25, nameIndex := 284, descriptorIndex := 25, attributes := #[] }, { accessFlags := 25, nameIndex := 286, descriptorIndex := 25, attributes := #[] }, { accessFlags := 25, nameIndex := 288, descriptorIndex := 25, attributes := #[] }, { accessFlags := 25, nameIndex := 290, descriptorIndex := 25, attributes := #[] }, { accessFlags := 25, nameIndex := 292, descriptorIndex := 25, attributes := #[] }, { accessFlags := 26, nameIndex := 108, descriptorIndex := 109, attributes := #[] }, { accessFlags := 25, nameIndex := 294, descriptorIndex := 25, attributes := #[] }])
  fields := #[{ name := "U", type := (.object "jdk/internal/misc/Unsafe"), accessFlags := 24, slot := 0, constantValue := 0 }, { name := "BIG_ENDIAN", type := .boolean, accessFlags := 26, slot := 1, constantValue := 0 }, { name := "LOG2_ARRAY_BOOLEAN_INDEX_SCALE", type := .int, accessFlags := 25, slot := 2, constantValue := 0 }, { name := "LOG2_ARRAY_BYTE_INDEX_SCALE", type := .int, accessFlags := 25, slot := 3, constantValue := 0 }, { name := "LOG2_ARRAY_CHAR_INDEX_SCALE", type := .int, accessFlags := 25, slot := 4, constantValue := 0 }, { name := "LOG2_ARRAY_SHORT_INDEX_SCALE", type := .int, accessFlags := 25, slot := 5, constantValue := 0 }, { name := "LOG2_ARRAY_INT_INDEX_SCALE", type := .int, accessFlags := 25, slot := 6, constantValue := 0 }, { name := "LOG2_ARRAY_LONG_INDEX_SCALE", type := .int, accessFlags := 25, slot := 7, constantValue := 0 }, { name := "LOG2_ARRAY_FLOAT_INDEX_SCALE", type := .int, accessFlags := 25, slot := 8, constantValue := 0 }, { name := "LOG2_ARRAY_DOUBLE_INDEX_SCALE", type := .int, accessFlags := 25, slot := 9, constantValue := 0 }, { name := "LOG2_BYTE_BIT_SIZE", type := .int, accessFlags := 26, slot := 10, constantValue := 0 }, { name := "T_BOOLEAN", type := .int, accessFlags := 25, slot := 11, constantValue := 0 }, { name := "T_CHAR", type := .int, accessFlags := 25, slot := 12, constantValue := 0 }, { name := "T_FLOAT", type := .int, accessFlags := 25, slot := 13, constantValue := 0 }, { name := "T_DOUBLE", type := .int, accessFlags := 25, slot := 14, constantValue := 0 }, { name := "T_BYTE", type := .int, accessFlags := 25, slot := 15, constantValue := 0 }, { name := "T_SHORT", type := .int, accessFlags := 25, slot := 16, constantValue := 0 }, { name := "T_INT", type := .int, accessFlags := 25, slot := 17, constantValue := 0 }, { name := "T_LONG", type := .int, accessFlags := 25, slot := 18, constantValue := 0 }, { name := "JLA", type := (.object "jdk/internal/access/JavaLangAccess"), accessFlags := 26, slot := 19, constantValue := 0 }, { name := "SOFT_MAX_ARRAY_LENGTH", type := .int, accessFlags := 25, slot := 20, constantValue := 0 }]
  methods := #[k12m0]
  instanceTypes := #[]
  staticTypes := #[(.object "jdk/internal/misc/Unsafe"), .boolean, .int, .int, .int, .int, .int, .int, .int, .int, .int, .int, .int, .int, .int, .int, .int, .int, .int, (.object "jdk/internal/access/JavaLangAccess"), .int]
  resolved := Array.replicate 378 none
  statics := none }

def pool13 : Array CpInfo := pool [(1, u "java/lang/Cloneable"), (0, .class_ 1), (0, u "java/lang/Object"), (0, .class_ 3)] 3

/-- java/lang/Cloneable -/
def k13 : Class := { plain "java/lang/Cloneable" (some 0) with
  accessFlags := 1537
  interfaces := #[]
  cf := some (fileOf pool13 2 #[] #[] 1537 4 #[] #[])
  fields := #[]
  methods := #[]
  instanceTypes := #[]
  staticTypes := #[]
  resolved := Array.replicate 8 none
  statics := none }

/-- the primitive byte -/
def k14 : Class := { plain "byte" none with kind := .primitive 'B', accessFlags := 0x411 }
/-- [B -/
def k15 : Class := { plain "[B" (some 0) with kind := .array 14 .byte, interfaces := #[13, 4], accessFlags := 1041 }

/-- the primitive int -/
def k16 : Class := { plain "int" none with kind := .primitive 'I', accessFlags := 0x411 }
/-- [I -/
def k17 : Class := { plain "[I" (some 0) with kind := .array 16 .int, interfaces := #[13, 4], accessFlags := 1041 }

def heap : Heap := #[{ cls := 6, slots := #[.ref 3, .ref 12, .ref 6, .ref 7, .null], vm := .statics 6 },
  { cls := 9, slots := #[.long 0, .int 1, .null, .int 0, .null, .int 0, .int 0], vm := .statics 9 },
  { cls := 11, slots := #[.null, .null, .null], vm := .statics 11 },
  { cls := 6, slots := #[.null, .int 0, .int 0, .ref 4], vm := .none },
  { cls := 9, slots := #[.ref 5, .int 0, .int 0, .int 0], vm := .none },
  { cls := 15, slots := #[.int 73, .int 110, .int 118, .int 97, .int 108, .int 105, .int 100], vm := .none },
  { cls := 6, slots := #[.null, .int 2, .int 0, .ref 10], vm := .none },
  { cls := 6, slots := #[.null, .int 3, .int 0, .ref 8], vm := .none },
  { cls := 9, slots := #[.ref 9, .int 0, .int 0, .int 0], vm := .none },
  { cls := 15, slots := #[.int 83, .int 105, .int 103, .int 110, .int 65, .int 110, .int 100, .int 69, .int 110, .int 99, .int 114, .int 121, .int 112, .int 116], vm := .none },
  { cls := 9, slots := #[.ref 11, .int 0, .int 0, .int 0], vm := .none },
  { cls := 15, slots := #[.int 83, .int 105, .int 103, .int 110], vm := .none },
  { cls := 6, slots := #[.null, .int 1, .int 0, .ref 13], vm := .none },
  { cls := 9, slots := #[.ref 14, .int 0, .int 0, .int 0], vm := .none },
  { cls := 15, slots := #[.int 78, .int 111, .int 110, .int 101], vm := .none }]
def classes : Array Class := #[k0, k1, k2, k3, k4, k5, k6, k7, k8, k9, k10, k11, k12, k13, k14, k15, k16, k17]
def interned : List (Array UInt16 × Addr) := []
def slotsUsed : Nat := 76
def theMethod : MethodId := ⟨1, 2⟩
def args0 : Array Value := #[.int 5]
def aboutOver (below : List Frame) : State where
  vm := { classes := classes, interned := interned.toArray }
  heap := heap
  slotsUsed := slotsUsed
  threads := #[{ frames := .invoking theMethod args0 :: below }]
def below0 : List Frame := [.native { method := ⟨0, 0⟩, args := #[] }]
def about1 : State := aboutOver below0
def p0 : Program := .bare "" "" ""
def e0 : Env := launch0.env 0 0 0
theorem w_frames : about1.frames = Frame.invoking theMethod args0 :: below0 := rfl
set_option maxRecDepth 65536 in
theorem w_args : argsFit about1.vm theMethod args0 = true := by decide +kernel
set_option maxRecDepth 65536 in
theorem w_heap : heapFits about1 = true := by decide +kernel
set_option maxRecDepth 65536 in
theorem w_runnable : about1.curStatus? = some .runnable := by decide +kernel
set_option maxRecDepth 65536 in
theorem w_alone : about1.alone = true := by decide +kernel
set_option maxRecDepth 65536 in
theorem w_named : about1.methodNamed? x = some theMethod := by decide +kernel
set_option maxRecDepth 65536 in
theorem w_hears : about1.hears theMethod below0 = true := by decide +kernel
set_option maxRecDepth 65536 in
theorem w_ripe : about1.ripe theMethod args0 below0 = true := by decide +kernel
theorem w_running : about1.status = .running := rfl
set_option maxRecDepth 65536 in
theorem w_room : about1.hasRoom e0.platform room_1 = true :=
  launch0.hasRoom_least _ room_1 (by decide +kernel) (by decide +kernel) (by decide +kernel) (by decide +kernel) (by decide +kernel) (by decide +kernel)
theorem allAtoms_all (ts : List Jvm.Cond) (a : Array Jvm.Value) (st : Jvm.State) : (allAtoms ts).before a st = ts.all (fun c => c.before a st) := by
  induction ts with
  | nil => rfl
  | cons c t ih =>
    show (Jvm.Cond.and c (allAtoms t)).before a st = _
    rw [Jvm.Cond.before_and, ih, List.all_cons]
def words1 : List Jvm.Cond := Jvm.Cond.code x code maxLocals ret :: tables_1
/-- a 'code' word, met by the world's own term for the bytes: nothing is compared byte by byte -/
theorem code_word {y : MethodName} {bytes : ByteArray} {mx : Nat} {rt : Option FieldType} {a : Array Value} {s : State} {m : MethodId} {meth : Method} {c : Code} (h1 : s.methodNamed? y = some m) (h2 : s.vm.method? m = some meth) (h3 : meth.code = some c) (h4 : c.code = bytes)
    (h5 : (c.maxLocals == mx && c.exceptionTable.isEmpty && decide (c.maxStack ≤ mostOperands) && decide (meth.sig.returnType = rt) && !meth.locks && decide (parseMethodDescriptor y.desc = some meth.sig)) = true) : (Jvm.Cond.code y bytes mx rt).before a s = true := by
  simp only [Bool.and_eq_true, beq_iff_eq, Bool.not_eq_true', decide_eq_true_eq] at h5
  obtain ⟨⟨⟨⟨⟨g1, g2⟩, g3⟩, g4⟩, g5⟩, g6⟩ := h5
  simp [Cond.before, Cond.holds, Cond.value, h1, h2, h3, h4, g1, g2, g3, g4, g5, g6]
def isCode : Jvm.Cond → Bool
  | .code _ _ _ _ => true
  | _ => false
theorem all_split {L : List Jvm.Cond} {P : Jvm.Cond → Bool} (h1 : L.all (fun c => isCode c || P c) = true) (h2 : ∀ c ∈ L.filter isCode, P c = true) : L.all P = true := by
  refine List.all_eq_true.mpr fun c hc => ?_
  have h := List.all_eq_true.mp h1 c hc
  rcases Bool.eq_false_or_eq_true (isCode c) with hi | hi
  · exact h2 c (List.mem_filter.mpr ⟨hc, hi⟩)
  · simpa [hi] using h
set_option maxRecDepth 65536 in
theorem w_c0 : (Jvm.Cond.code x code maxLocals ret).before args0 about1 = true := code_word (m := ⟨1, 2⟩) (meth := k1m2) (c := k1c2) (by decide +kernel) rfl rfl rfl (by decide +kernel)
set_option maxRecDepth 65536 in
theorem w_c1 : (Jvm.Cond.code ({ cls := "com/example/dvarapala/dvarapala/engine/MessageSecurityModeIsSignedPinLaw", name := "pick", desc := "(I)Lcom/example/dvarapala/dvarapala/engine/MessageSecurityMode;" } : Jvm.MethodName) method_2_code (1 : Nat) (Option.some (Jvm.ClassFile.FieldType.object "com/example/dvarapala/dvarapala/engine/MessageSecurityMode"))).before args0 about1 = true := code_word (m := ⟨1, 1⟩) (meth := k1m1) (c := k1c1) (by decide +kernel) rfl rfl rfl (by decide +kernel)
set_option maxRecDepth 65536 in
theorem w_c2 : (Jvm.Cond.code ({ cls := "com/example/dvarapala/dvarapala/engine/MessageSecurityMode", name := "getSpecName", desc := "()Ljava/lang/String;" } : Jvm.MethodName) prog_10_method_4_code (1 : Nat) (Option.some (Jvm.ClassFile.FieldType.object "java/lang/String"))).before args0 about1 = true := code_word (m := ⟨6, 0⟩) (meth := k6m0) (c := k6c0) (by decide +kernel) rfl rfl rfl (by decide +kernel)
set_option maxRecDepth 65536 in
theorem w_c3 : (Jvm.Cond.code ({ cls := "java/lang/String", name := "length", desc := "()I" } : Jvm.MethodName) jdk_42_method_54_code (1 : Nat) (Option.some Jvm.ClassFile.FieldType.int)).before args0 about1 = true := code_word (m := ⟨9, 1⟩) (meth := k9m1) (c := k9c1) (by decide +kernel) rfl rfl rfl (by decide +kernel)
set_option maxRecDepth 65536 in
theorem w_c4 : (Jvm.Cond.code ({ cls := "java/lang/String", name := "coder", desc := "()B" } : Jvm.MethodName) jdk_42_method_152_code (1 : Nat) (Option.some Jvm.ClassFile.FieldType.byte)).before args0 about1 = true := code_word (m := ⟨9, 3⟩) (meth := k9m3) (c := k9c3) (by decide +kernel) rfl rfl rfl (by decide +kernel)
set_option maxRecDepth 65536 in
theorem w_c5 : (Jvm.Cond.code ({ cls := "java/lang/String", name := "charAt", desc := "(I)C" } : Jvm.MethodName) jdk_42_method_56_code (2 : Nat) (Option.some Jvm.ClassFile.FieldType.char)).before args0 about1 = true := code_word (m := ⟨9, 2⟩) (meth := k9m2) (c := k9c2) (by decide +kernel) rfl rfl rfl (by decide +kernel)
set_option maxRecDepth 65536 in
theorem w_c6 : (Jvm.Cond.code ({ cls := "java/lang/String", name := "isLatin1", desc := "()Z" } : Jvm.MethodName) jdk_42_method_154_code (1 : Nat) (Option.some Jvm.ClassFile.FieldType.boolean)).before args0 about1 = true := code_word (m := ⟨9, 4⟩) (meth := k9m4) (c := k9c4) (by decide +kernel) rfl rfl rfl (by decide +kernel)
set_option maxRecDepth 65536 in
theorem w_c7 : (Jvm.Cond.code ({ cls := "java/lang/StringLatin1", name := "charAt", desc := "([BI)C" } : Jvm.MethodName) jdk_43_method_2_code (2 : Nat) (Option.some Jvm.ClassFile.FieldType.char)).before args0 about1 = true := code_word (m := ⟨10, 1⟩) (meth := k10m1) (c := k10c1) (by decide +kernel) rfl rfl rfl (by decide +kernel)
set_option maxRecDepth 65536 in
theorem w_c8 : (Jvm.Cond.code ({ cls := "java/lang/String", name := "checkIndex", desc := "(II)V" } : Jvm.MethodName) jdk_42_method_155_code (2 : Nat) (Option.none : Option Jvm.ClassFile.FieldType)).before args0 about1 = true := code_word (m := ⟨9, 5⟩) (meth := k9m5) (c := k9c5) (by decide +kernel) rfl rfl rfl (by decide +kernel)
set_option maxRecDepth 65536 in
theorem w_c9 : (Jvm.Cond.code ({ cls := "jdk/internal/util/Preconditions", name := "checkIndex", desc := "(IILjava/util/function/BiFunction;)I" } : Jvm.MethodName) jdk_41_method_11_code (3 : Nat) (Option.some Jvm.ClassFile.FieldType.int)).before args0 about1 = true := code_word (m := ⟨11, 1⟩) (meth := k11m1) (c := k11c1) (by decide +kernel) rfl rfl rfl (by decide +kernel)
set_option maxRecDepth 65536 in
theorem w_c10 : (Jvm.Cond.code ({ cls := "com/example/dvarapala/dvarapala/engine/MessageSecurityMode", name := "isSigned", desc := "()Z" } : Jvm.MethodName) prog_10_method_5_code (1 : Nat) (Option.some Jvm.ClassFile.FieldType.boolean)).before args0 about1 = true := code_word (m := ⟨6, 1⟩) (meth := k6m1) (c := k6c1) (by decide +kernel) rfl rfl rfl (by decide +kernel)
def codes1 : List Jvm.Cond := [Jvm.Cond.code x code maxLocals ret, Jvm.Cond.code ({ cls := "com/example/dvarapala/dvarapala/engine/MessageSecurityModeIsSignedPinLaw", name := "pick", desc := "(I)Lcom/example/dvarapala/dvarapala/engine/MessageSecurityMode;" } : Jvm.MethodName) method_2_code (1 : Nat) (Option.some (Jvm.ClassFile.FieldType.object "com/example/dvarapala/dvarapala/engine/MessageSecurityMode")), Jvm.Cond.code ({ cls := "com/example/dvarapala/dvarapala/engine/MessageSecurityMode", name := "getSpecName", desc := "()Ljava/lang/String;" } : Jvm.MethodName) prog_10_method_4_code (1 : Nat) (Option.some (Jvm.ClassFile.FieldType.object "java/lang/String")), Jvm.Cond.code ({ cls := "java/lang/String", name := "length", desc := "()I" } : Jvm.MethodName) jdk_42_method_54_code (1 : Nat) (Option.some Jvm.ClassFile.FieldType.int), Jvm.Cond.code ({ cls := "java/lang/String", name := "coder", desc := "()B" } : Jvm.MethodName) jdk_42_method_152_code (1 : Nat) (Option.some Jvm.ClassFile.FieldType.byte), Jvm.Cond.code ({ cls := "java/lang/String", name := "charAt", desc := "(I)C" } : Jvm.MethodName) jdk_42_method_56_code (2 : Nat) (Option.some Jvm.ClassFile.FieldType.char), Jvm.Cond.code ({ cls := "java/lang/String", name := "isLatin1", desc := "()Z" } : Jvm.MethodName) jdk_42_method_154_code (1 : Nat) (Option.some Jvm.ClassFile.FieldType.boolean), Jvm.Cond.code ({ cls := "java/lang/StringLatin1", name := "charAt", desc := "([BI)C" } : Jvm.MethodName) jdk_43_method_2_code (2 : Nat) (Option.some Jvm.ClassFile.FieldType.char), Jvm.Cond.code ({ cls := "java/lang/String", name := "checkIndex", desc := "(II)V" } : Jvm.MethodName) jdk_42_method_155_code (2 : Nat) (Option.none : Option Jvm.ClassFile.FieldType), Jvm.Cond.code ({ cls := "jdk/internal/util/Preconditions", name := "checkIndex", desc := "(IILjava/util/function/BiFunction;)I" } : Jvm.MethodName) jdk_41_method_11_code (3 : Nat) (Option.some Jvm.ClassFile.FieldType.int), Jvm.Cond.code ({ cls := "com/example/dvarapala/dvarapala/engine/MessageSecurityMode", name := "isSigned", desc := "()Z" } : Jvm.MethodName) prog_10_method_5_code (1 : Nat) (Option.some Jvm.ClassFile.FieldType.boolean)]
set_option maxRecDepth 65536 in
theorem codes_eq : words1.filter isCode = codes1 := rfl
theorem w_codes : ∀ c ∈ words1.filter isCode, c.before args0 about1 = true := by
  rw [codes_eq]
  intro c hc
  simp only [codes1, List.mem_cons, List.not_mem_nil, or_false] at hc
  rcases hc with rfl | rfl | rfl | rfl | rfl | rfl | rfl | rfl | rfl | rfl | rfl
  · exact w_c0
  · exact w_c1
  · exact w_c2
  · exact w_c3
  · exact w_c4
  · exact w_c5
  · exact w_c6
  · exact w_c7
  · exact w_c8
  · exact w_c9
  · exact w_c10
set_option maxRecDepth 65536 in
theorem w_t1 : (words1.take 24).all (fun c => isCode c || c.before args0 about1) = true := by decide +kernel
set_option maxRecDepth 65536 in
theorem w_t2 : ((words1.drop 24).take 24).all (fun c => isCode c || c.before args0 about1) = true := by decide +kernel
set_option maxRecDepth 65536 in
theorem w_t3 : ((words1.drop 24).drop 24).all (fun c => isCode c || c.before args0 about1) = true := by decide +kernel
theorem w_tables : (allAtoms (Jvm.Cond.code x code maxLocals ret :: tables_1)).before args0 about1 = true := by
  rw [allAtoms_all]
  show words1.all (fun c => c.before args0 about1) = true
  refine all_split ?_ w_codes
  rw [← List.take_append_drop 24 words1, List.all_append, w_t1, ← List.take_append_drop 24 (words1.drop 24), List.all_append, w_t2, w_t3]
  rfl
set_option maxRecDepth 65536 in
theorem w_rest : rest_1_c.before args0 about1 = true := by decide +kernel
set_option maxRecDepth 65536 in
theorem w_case : (Jvm.Cond.and given_1 narrow_1).before args0 about1 = true := by decide +kernel
theorem w_applies : (headSpec (Jvm.Cond.code x code maxLocals ret :: tables_1) room_1).applies x e0.platform about1 = true :=
  (Spec.applies_iff w_frames).mpr ⟨w_running, w_runnable, w_alone, w_named, w_hears, w_ripe, w_room, w_tables⟩
theorem atStart : AtStart classFile x code maxLocals ret World_1 tables_1 room_1 Calls_1 rest_1 Pre_1 launch0 p0 e0 about1 theMethod args0 below0 :=
  ⟨lists_1, trivial, launch0.admits_env _ _ _, launch0.least_env, fairChoices_fair.cas, fairChoices_fair.clock, w_frames, w_args, w_heap, w_applies, trivial, w_rest, w_case⟩
end start1
theorem witness_1 : WitnessClaimed_1 := ⟨start1.p0, start1.e0, start1.about1, start1.theMethod, start1.args0, start1.below0, start1.atStart⟩
end Jvm.Pilot.@@N@@
