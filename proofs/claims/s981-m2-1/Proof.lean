import JvmDerived
import JvmDerived.Pilot.@@N@@Statement
import JvmDerived.Pilot.@@N@@Code
set_option linter.unusedVariables false
set_option linter.unusedSimpArgs false
namespace Jvm.RoadKit
open Sem ClassFile Op Lib Jvm.Stand Jvm.Free Jvm.LawKit
section OwnWalk
variable {p : Program} {l : Launch} {e : Env} {R : Room} {s : State} {m : MethodId} {args : Array Value} {below : List Frame} {meth : Method} {c : Code} {T : State} {locs : List Loc} {cells slots : Nat} {Z : State} {a0 : Array Value} {h : Heap}
theorem retI (X : Stand p l e R s m args below meth c T locs cells slots) (hx : p.tables.exec = Jvm.exec) {pc : Nat} {Ls : Array Slot} {z : Int32} {rest : List Value} (hret : meth.sig.returnType = some .int) (hd : decode c.code pc = .ok (.ireturn, 1)) {fs : List Frame}
    (hl : ∀ (f : JFrame) (acts : List Action), f.method = m → f.locked = none → f.entered = [] → (doReturn e (T.setTop f) acts (some (.int z))).1 = T.setFrames fs) : Steps p.tables e below (T.setTop (mkF m pc Ls (.int z :: rest))) (T.setFrames fs) := by
  have hm' : T.vm.method? m = some meth := X.method'
  have hn : narrow .int (.int z) = .int z := rfl
  show Steps p.tables e below (T.setTop { method := m, pc := pc, locals := Ls, stack := _ :: rest, locked := none }) _
  jvm_step X.here [X.here.top, hx, hd, hm', hret, hn]
  first | (intro acts; rw [hl _ acts rfl rfl rfl]) | rw [hl _ _ rfl rfl rfl]
  exact Steps.refl _
/-- a body's contract at given arguments and a given heap -/
abbrev own_Met (l : Launch) (y : MethodName) (bytes : ByteArray) (maxL : Nat) (ret : Option FieldType) (ws : List Cond) (rm : Room) (Z : State) (as' : Array Value) (h : Heap) (Q : Option Value → Heap → List Loc → Prop) : Prop :=
  MetFree l y (head1 (Cond.code y bytes maxL ret :: ws) rm) (fun a U => a = as' ∧ Z.Warmed39 U.vm ∧ U.heap = h) (fun _ _ _ _ _ => True) (fun _ U o U' => ∃ v L, o = .returned v ∧ Q v U'.heap L ∧ FrameEnd U o U' L rm.cells rm.slots)
/-- from here the walk comes to its end, and Q holds there -/
def own_Go (p : Program) (e : Env) (below : List Frame) (s T : State) (g : JFrame) (k n : Nat) (Q : Option Value → Heap → List Loc → Prop) : Prop :=
  ∃ s₂ o, Steps p.tables e below (T.setTop g) s₂ ∧ s₂.status = .running ∧ Ended s₂ below o ∧ ∃ v L, o = .returned v ∧ Q v s₂.heap L ∧ FrameEnd s o s₂ L k n
variable {k n : Nat} {Q : Option Value → Heap → List Loc → Prop}
theorem own_in {g g' : JFrame} (ef : g = g') (q : own_Go p e below s T g' k n Q) : ∃ s₂ o, Steps p.tables e below (T.setTop g) s₂ ∧ s₂.status = .running ∧ Ended s₂ below o ∧ ∃ v L, o = .returned v ∧ Q v s₂.heap L ∧ FrameEnd s o s₂ L k n := by
  subst ef; exact q
theorem own_go {T' : State} {g g' : JFrame} (f : ∀ t, Steps p.tables e below (T'.setTop g') t → Steps p.tables e below (T.setTop g) t) (q : own_Go p e below s T' g' k n Q) : own_Go p e below s T g k n Q := by
  obtain ⟨s₂, o, h1, h2⟩ := q; exact ⟨s₂, o, f _ h1, h2⟩
theorem own_outI (X : Stand p l e R s m args below meth c T locs cells slots) (hx : p.tables.exec = Jvm.exec) (hlk : meth.locks = false) (hret : meth.sig.returnType = some .int) {pc : Nat} {Ls : Array Slot} {z : Int32} {rest : List Value} (hd : decode c.code pc = .ok (.ireturn, 1))
    (q : Q (some (.int z)) T.heap locs) (hk : cells ≤ k) (hn : slots ≤ n) : own_Go p e below s T (mkF m pc Ls (.int z :: rest)) k n Q := by
  obtain ⟨fs, hr, hrun, hended, hW, hsame⟩ := X.leave (v := some (.int z)) (fun h => by rw [hret] at h; cases h) hlk
  exact ⟨_, _, retI X hx hret hd hr, hrun, hended, _, _, rfl, q, ⟨_, rfl⟩, hW, hsame.mono hk hn⟩
theorem own_outN (X : Stand p l e R s m args below meth c T locs cells slots) (hx : p.tables.exec = Jvm.exec) (hlk : meth.locks = false) {t : FieldType} (hret : meth.sig.returnType = some t) (ht : t = .boolean ∨ t = .byte ∨ t = .char ∨ t = .short) {pc : Nat} {Ls : Array Slot} {z w : Int32} {rest : List Value} (hd : decode c.code pc = .ok (.ireturn, 1))
    (hw : nar t z = w) (q : Q (some (.int w)) T.heap locs) (hk : cells ≤ k) (hn : slots ≤ n) : own_Go p e below s T (mkF m pc Ls (.int z :: rest)) k n Q := by
  subst hw
  obtain ⟨fs, hr, hrun, hended, hW, hsame⟩ := X.leave (v := some (.int (nar t z))) (fun h => by rw [hret] at h; cases h) hlk
  exact ⟨_, _, retN X hx hret ht hd hr, hrun, hended, _, _, rfl, q, ⟨_, rfl⟩, hW, hsame.mono hk hn⟩
theorem own_outJ (X : Stand p l e R s m args below meth c T locs cells slots) (hx : p.tables.exec = Jvm.exec) (hlk : meth.locks = false) (hret : meth.sig.returnType = some .long) {pc : Nat} {Ls : Array Slot} {z : Int64} {rest : List Value} (hd : decode c.code pc = .ok (.lreturn, 1))
    (q : Q (some (.long z)) T.heap locs) (hk : cells ≤ k) (hn : slots ≤ n) : own_Go p e below s T (mkF m pc Ls (.long z :: rest)) k n Q := by
  obtain ⟨fs, hr, hrun, hended, hW, hsame⟩ := X.leave (v := some (.long z)) (fun h => by rw [hret] at h; cases h) hlk
  exact ⟨_, _, retOut X hx hret rfl (Or.inr (Or.inl ⟨rfl, rfl, _, rfl⟩)) hd hr, hrun, hended, _, _, rfl, q, ⟨_, rfl⟩, hW, hsame.mono hk hn⟩
theorem own_outD (X : Stand p l e R s m args below meth c T locs cells slots) (hx : p.tables.exec = Jvm.exec) (hlk : meth.locks = false) (hret : meth.sig.returnType = some .double) {pc : Nat} {Ls : Array Slot} {z : UInt64} {rest : List Value} (hd : decode c.code pc = .ok (.dreturn, 1))
    (q : Q (some (.double z)) T.heap locs) (hk : cells ≤ k) (hn : slots ≤ n) : own_Go p e below s T (mkF m pc Ls (.double z :: rest)) k n Q := by
  obtain ⟨fs, hr, hrun, hended, hW, hsame⟩ := X.leave (v := some (.double z)) (fun h => by rw [hret] at h; cases h) hlk
  exact ⟨_, _, retOut X hx hret rfl (Or.inr (Or.inr (Or.inl ⟨rfl, rfl, _, rfl⟩))) hd hr, hrun, hended, _, _, rfl, q, ⟨_, rfl⟩, hW, hsame.mono hk hn⟩
theorem own_outA (X : Stand p l e R s m args below meth c T locs cells slots) (hx : p.tables.exec = Jvm.exec) (hlk : meth.locks = false) {t : FieldType} (hret : meth.sig.returnType = some t) (ht : t.isReference = true) {pc : Nat} {Ls : Array Slot} {w : Value} {rest : List Value} (hwr : w.isRef = true) (hd : decode c.code pc = .ok (.areturn, 1))
    (q : Q (some w) T.heap locs) (hk : cells ≤ k) (hn : slots ≤ n) : own_Go p e below s T (mkF m pc Ls (w :: rest)) k n Q := by
  obtain ⟨fs, hr, hrun, hended, hW, hsame⟩ := X.leave (v := some w) (fun h => by rw [hret] at h; cases h) hlk
  have hnw : narrow t w = w := by rcases ref_cases hwr with rfl | ⟨a, rfl⟩ <;> cases t <;> first | rfl | cases ht
  exact ⟨_, _, retOut X hx hret hnw (Or.inr (Or.inr (Or.inr (Or.inr ⟨rfl, ht, hwr⟩)))) hd hr, hrun, hended, _, _, rfl, q, ⟨_, rfl⟩, hW, hsame.mono hk hn⟩
theorem own_outV (X : Stand p l e R s m args below meth c T locs cells slots) (hx : p.tables.exec = Jvm.exec) (hlk : meth.locks = false) (hret : meth.sig.returnType = none) {pc : Nat} {Ls : Array Slot} (hd : decode c.code pc = .ok (.return_, 1))
    (q : Q none T.heap locs) (hk : cells ≤ k) (hn : slots ≤ n) : own_Go p e below s T (mkF m pc Ls []) k n Q := by
  obtain ⟨fs, hr, hrun, hended, hW, hsame⟩ := X.leave (v := none) (fun _ => rfl) hlk
  exact ⟨_, _, X.returnOut hx hret hd hr, hrun, hended, _, _, rfl, q, ⟨_, rfl⟩, hW, hsame.mono hk hn⟩
theorem own_callS (X : Stand p l e R s m args below meth c T locs cells slots) (hx : p.tables.exec = Jvm.exec) (hZ : Z.Warmed39 s.vm) {own : String} {index : Nat} {y : MethodName} {bytes : ByteArray} {maxL : Nat} {ret : Option FieldType} {rm : Room} {argsL rest : List Value}
    (hown : s.vm.findClass own = some m.cls) (w1 : (Cond.methodLink own index y).before a0 Z = true) (w2 : (Cond.static y).before a0 Z = true) (w3 : (Cond.initialized y.cls).before a0 Z = true) (w4 : (Cond.code y bytes maxL ret).before a0 Z = true)
    (hM : own_Met l y bytes maxL ret [] rm Z argsL.toArray h Q) (eT : T.heap = h) (hy : y.cls ≠ "java/lang/invoke/MethodHandle" ∧ y.cls ≠ "java/lang/invoke/VarHandle") (hf : rm.frames + 1 ≤ R.frames) (W : Nat) (hl : W + (maxL + 11) + rm.locals ≤ R.locals) (hc : cells + rm.cells ≤ R.cells) (hs : slots + rm.slots ≤ R.slots)
    {g : JFrame} (hg : g.method = m) (hsize : g.locals.size = c.maxLocals) (hlen : ∀ sig, parseMethodDescriptor y.desc = some sig → argsL.length = sig.parameters.length) (hstack : g.stack = argsL.reverse ++ rest) (hW : 2 * g.monitorRoom + (rest.map fun v => v.category).sum ≤ W) (hd : decode c.code g.pc = .ok (.invokestatic index, 3)) :
    ∃ v T' L, Stand p l e R s m args below meth c T' (locs ++ L) (cells + rm.cells) (slots + rm.slots) ∧ Q v T'.heap L ∧ ∀ t, Steps p.tables e below (T'.setTop { g with pc := g.pc + 3, stack := v.toList ++ rest }) t → Steps p.tables e below (T.setTop g) t := by
  obtain ⟨v, _, ⟨T', L', k', n'⟩, -, X', ⟨Lc, hQ, l1, l2, l3⟩, st⟩ := Jvm.LawKit.callS X hx (y := y) hown (mvT hZ w1) (mvT hZ w2) (mvT hZ w3) (mvT hZ w4) hy (backOf (W := W) hM hZ w4 w3 hf hl) hg hsize (argsL := argsL) (rest := rest) hlen hstack hW hd (fun _ _ => ⟨rfl, eT, hc, hs⟩)
  dsimp only [Pt.U, Pt.locs, Pt.cells, Pt.slots] at X' l1 l2 l3 st hQ
  subst l1 l2 l3
  exact ⟨v, T', Lc, X', hQ, st⟩
theorem own_callV (X : Stand p l e R s m args below meth c T locs cells slots) (hx : p.tables.exec = Jvm.exec) (hZ : Z.Warmed39 s.vm) {own C : String} {index : Nat} {y : MethodName} {bytes : ByteArray} {maxL : Nat} {ret : Option FieldType} {rm : Room} {b : Addr} {argsL rest : List Value}
    (hown : s.vm.findClass own = some m.cls) (w1 : (Cond.methodLink own index y).before a0 Z = true) (w2 : (Cond.declares y).before a0 Z = true) (w3 : (Cond.selects C y y).before a0 Z = true) (w4 : (Cond.instanceMethod y).before a0 Z = true) (w5 : (Cond.initialized y.cls).before a0 Z = true) (w6 : (Cond.code y bytes maxL ret).before a0 Z = true)
    (hM : own_Met l y bytes maxL ret [] rm Z (.ref b :: argsL).toArray h Q) (eT : T.heap = h) (E : Exa Z h b C) (hy : y.cls ≠ "java/lang/invoke/MethodHandle" ∧ y.cls ≠ "java/lang/invoke/VarHandle") (hf : rm.frames + 1 ≤ R.frames) (W : Nat) (hl : W + (maxL + 11) + rm.locals ≤ R.locals) (hc : cells + rm.cells ≤ R.cells) (hs : slots + rm.slots ≤ R.slots)
    {g : JFrame} (hg : g.method = m) (hsize : g.locals.size = c.maxLocals) (hlen : ∀ sig, parseMethodDescriptor y.desc = some sig → argsL.length = sig.parameters.length) (hstack : g.stack = argsL.reverse ++ .ref b :: rest) (hW : 2 * g.monitorRoom + (rest.map fun v => v.category).sum ≤ W) (hd : decode c.code g.pc = .ok (.invokevirtual index, 3)) :
    ∃ v T' L, Stand p l e R s m args below meth c T' (locs ++ L) (cells + rm.cells) (slots + rm.slots) ∧ Q v T'.heap L ∧ ∀ t, Steps p.tables e below (T'.setTop { g with pc := g.pc + 3, stack := v.toList ++ rest }) t → Steps p.tables e below (T.setTop g) t := by
  obtain ⟨cq, kq, qa, qb, qc⟩ := isOf hZ eT E
  obtain ⟨v, _, ⟨T', L', k', n'⟩, -, X', ⟨Lc, hQ, l1, l2, l3⟩, st⟩ := X.virtualBack hx (y := y) (z := y) hown (mvT hZ w1) (mvT hZ w2) (notFace_of_selects (args := #[]) (mvT hZ w3)) (mvT hZ w3) (mvT hZ w4) hy (backOf (W := W) hM hZ w6 w5 hf hl) qa qc hg hsize (Steps.refl _) (argsL := argsL) (rest := rest) hlen hstack hW hd (fun _ _ => ⟨rfl, eT, hc, hs⟩)
  dsimp only [Pt.U, Pt.locs, Pt.cells, Pt.slots] at X' l1 l2 l3 st hQ
  subst l1 l2 l3
  exact ⟨v, T', Lc, X', hQ, fun t q => st.trans q⟩
theorem own_callP (X : Stand p l e R s m args below meth c T locs cells slots) (hx : p.tables.exec = Jvm.exec) (hZ : Z.Warmed39 s.vm) {own : String} {index : Nat} {y : MethodName} {bytes : ByteArray} {maxL : Nat} {rm : Room} {a : Addr} {argsL rest : List Value}
    (hown : s.vm.findClass own = some m.cls) (hy1 : y.name = "<init>") (w1 : (Cond.methodLink own index y).before a0 Z = true) (w2 : (Cond.instanceMethod y).before a0 Z = true) (w3 : (Cond.initialized y.cls).before a0 Z = true) (w4 : (Cond.code y bytes maxL none).before a0 Z = true)
    (hM : own_Met l y bytes maxL none [] rm Z (.ref a :: argsL).toArray h Q) (eT : T.heap = h) (hy : y.cls ≠ "java/lang/invoke/MethodHandle" ∧ y.cls ≠ "java/lang/invoke/VarHandle") (hf : rm.frames + 1 ≤ R.frames) (W : Nat) (hl : W + (maxL + 11) + rm.locals ≤ R.locals) (hc : cells + rm.cells ≤ R.cells) (hs : slots + rm.slots ≤ R.slots)
    {g : JFrame} (hg : g.method = m) (hsize : g.locals.size = c.maxLocals) (hlen : ∀ sig, parseMethodDescriptor y.desc = some sig → argsL.length = sig.parameters.length) (hstack : g.stack = argsL.reverse ++ .ref a :: rest) (hW : 2 * g.monitorRoom + (rest.map fun v => v.category).sum ≤ W) (hd : decode c.code g.pc = .ok (.invokespecial index, 3)) :
    ∃ v T' L, Stand p l e R s m args below meth c T' (locs ++ L) (cells + rm.cells) (slots + rm.slots) ∧ Q v T'.heap L ∧ ∀ t, Steps p.tables e below (T'.setTop { g with pc := g.pc + 3, stack := v.toList ++ rest }) t → Steps p.tables e below (T.setTop g) t := by
  obtain ⟨v, _, ⟨T', L', k', n'⟩, -, X', ⟨Lc, hQ, l1, l2, l3⟩, st⟩ := X.specialBack hx (y := y) hy1 hown (mvT hZ w1) (mvT hZ w2) (mvT hZ w4) hy (backOf (W := W) hM hZ w4 w3 hf hl) hg hsize (Steps.refl _) (a := a) (argsL := argsL) (rest := rest) hlen hstack hW hd (fun _ _ => ⟨rfl, eT, hc, hs⟩)
  dsimp only [Pt.U, Pt.locs, Pt.cells, Pt.slots] at X' l1 l2 l3 st hQ
  subst l1 l2 l3
  exact ⟨v, T', Lc, X', hQ, fun t q => st.trans q⟩
end OwnWalk
theorem own_llt (x y : Int64) : XT.cmpL x y < 0 ↔ x < y := by
  show (if y < x then (1 : Int32) else if x = y then 0 else -1) < 0 ↔ _
  split
  · rename_i h; exact ⟨fun q => absurd q (by decide), fun q => by rw [Int64.lt_iff_toInt_lt] at h q; omega⟩
  · rename_i h; split
    · rename_i h2; subst h2; exact ⟨fun q => absurd q (by decide), fun q => absurd q h⟩
    · rename_i h2; refine ⟨fun _ => ?_, fun _ => by decide⟩
      rw [← Int64.toInt_inj] at h2; rw [Int64.lt_iff_toInt_lt] at h ⊢; omega
theorem own_lgt (x y : Int64) : 0 < XT.cmpL x y ↔ y < x := by
  show 0 < (if y < x then (1 : Int32) else if x = y then 0 else -1) ↔ _
  split
  · rename_i h; exact ⟨fun _ => h, fun _ => by decide⟩
  · rename_i h; split
    · exact ⟨fun q => absurd q (by decide), fun q => absurd q h⟩
    · exact ⟨fun q => absurd q (by decide), fun q => absurd q h⟩
theorem own_leq (x y : Int64) : XT.cmpL x y = 0 ↔ x = y := by
  show (if y < x then (1 : Int32) else if x = y then 0 else -1) = 0 ↔ _
  split
  · rename_i h; refine ⟨fun q => absurd q (by decide), fun q => ?_⟩; subst q; exact absurd h (by simp only [Int64.lt_iff_toInt_lt]; omega)
  · split
    · rename_i h; exact ⟨fun _ => h, fun _ => rfl⟩
    · rename_i h; exact ⟨fun q => absurd q (by decide), fun q => absurd q h⟩
theorem own_at {x y : Value} (h : x = y) : XT.acmp .eq x y = true ∧ XT.acmp .ne x y = false := by subst h; exact ⟨decide_eq_true rfl, decide_eq_false fun q => q rfl⟩
theorem own_af {x y : Value} (h : ¬ (x = y)) : XT.acmp .eq x y = false ∧ XT.acmp .ne x y = true := ⟨decide_eq_false h, decide_eq_true h⟩
theorem own_fld {s : State} {args : Array Value} {t u : Term} {C n d : String} {a : Addr} {v : Value} (ev : t.eval args s none [] s = some (.ref a)) (hu : u.eval args s none [] s = some v) (hq : (Cond.eq (.field t C n d) u).value args s none s [] = some true) : Fld s s.heap a C n d v := by
  refine Fld.start ?_
  obtain ⟨x, y, h1, h2, -, -⟩ := cmp_v (Or.inl hq)
  cases hu.symm.trans h2
  have h3 := h1
  rw [fld_at ev] at h3
  simp only [Cond.value, h1, h2] at hq
  rw [h3]
  cases x <;> cases v <;> simp at hq ⊢ <;> exact hq
end Jvm.RoadKit
namespace Jvm.Pilot.@@N@@
open Jvm Jvm.ClassFile Sem Op Lib Jvm.Free Jvm.Stand Jvm.LawKit Jvm.RoadKit Bundle Jvm.Pilot.@@N@@.Jvm.D
def own_F (Z : State) (h : Heap) (w_ON_ITS_OWN w_TRANSACTION_LEG w_TRANSACTION w_RECEIVABLE w_PAYABLE w_NETTING_GROUP : Addr) : Prop := Sta Z h "com/example/ryudo/ryudo/model/ExposureCategory$Kind" "ON_ITS_OWN" "Lcom/example/ryudo/ryudo/model/ExposureCategory$Kind;" (.ref w_ON_ITS_OWN) ∧ Exa Z h w_ON_ITS_OWN "com/example/ryudo/ryudo/model/ExposureCategory$Kind" ∧ Sta Z h "com/example/ryudo/ryudo/model/ExposureCategory$Kind" "TRANSACTION_LEG" "Lcom/example/ryudo/ryudo/model/ExposureCategory$Kind;" (.ref w_TRANSACTION_LEG) ∧ Exa Z h w_TRANSACTION_LEG "com/example/ryudo/ryudo/model/ExposureCategory$Kind" ∧ Sta Z h "com/example/ryudo/ryudo/model/RepoAggregate$Kind" "TRANSACTION" "Lcom/example/ryudo/ryudo/model/RepoAggregate$Kind;" (.ref w_TRANSACTION) ∧ Exa Z h w_TRANSACTION "com/example/ryudo/ryudo/model/RepoAggregate$Kind" ∧ Sta Z h "com/example/ryudo/ryudo/model/ExposureCategory$Kind" "RECEIVABLE" "Lcom/example/ryudo/ryudo/model/ExposureCategory$Kind;" (.ref w_RECEIVABLE) ∧ Exa Z h w_RECEIVABLE "com/example/ryudo/ryudo/model/ExposureCategory$Kind" ∧ Sta Z h "com/example/ryudo/ryudo/model/ExposureCategory$Kind" "PAYABLE" "Lcom/example/ryudo/ryudo/model/ExposureCategory$Kind;" (.ref w_PAYABLE) ∧ Exa Z h w_PAYABLE "com/example/ryudo/ryudo/model/ExposureCategory$Kind" ∧ Sta Z h "com/example/ryudo/ryudo/model/RepoAggregate$Kind" "NETTING_GROUP" "Lcom/example/ryudo/ryudo/model/RepoAggregate$Kind;" (.ref w_NETTING_GROUP) ∧ Exa Z h w_NETTING_GROUP "com/example/ryudo/ryudo/model/RepoAggregate$Kind" ∧ Fld Z h w_ON_ITS_OWN "com/example/ryudo/ryudo/model/ExposureCategory$Kind" "aggregate" "Lcom/example/ryudo/ryudo/model/RepoAggregate$Kind;" .null ∧ Fld Z h w_TRANSACTION_LEG "com/example/ryudo/ryudo/model/ExposureCategory$Kind" "aggregate" "Lcom/example/ryudo/ryudo/model/RepoAggregate$Kind;" (.ref w_TRANSACTION) ∧ Fld Z h w_TRANSACTION_LEG "java/lang/Enum" "ordinal" "I" (.int (3 : Int32)) ∧ Fld Z h w_RECEIVABLE "java/lang/Enum" "ordinal" "I" (.int (1 : Int32)) ∧ Fld Z h w_PAYABLE "com/example/ryudo/ryudo/model/ExposureCategory$Kind" "aggregate" "Lcom/example/ryudo/ryudo/model/RepoAggregate$Kind;" (.ref w_NETTING_GROUP) ∧ Fld Z h w_PAYABLE "java/lang/Enum" "ordinal" "I" (.int (2 : Int32)) ∧ Fld Z h w_RECEIVABLE "com/example/ryudo/ryudo/model/ExposureCategory$Kind" "aggregate" "Lcom/example/ryudo/ryudo/model/RepoAggregate$Kind;" (.ref w_NETTING_GROUP) ∧ w_TRANSACTION_LEG ≠ w_RECEIVABLE ∧ w_TRANSACTION_LEG ≠ w_PAYABLE ∧ w_RECEIVABLE ≠ w_PAYABLE
theorem d1_0 : decode prog_71_method_5_code 0 = .ok (.aload_n 0, 1) := by decide +kernel
theorem d1_1 : decode prog_71_method_5_code 1 = .ok (.getfield 35, 3) := by decide +kernel
theorem d1_4 : decode prog_71_method_5_code 4 = .ok (.ifnull 10, 3) := by decide +kernel
theorem d1_14 : decode prog_71_method_5_code 14 = .ok (.iconst 1, 1) := by decide +kernel
theorem d1_15 : decode prog_71_method_5_code 15 = .ok (.goto 4, 3) := by decide +kernel
theorem d1_19 : decode prog_71_method_5_code 19 = .ok (.ireturn, 1) := by decide +kernel
set_option maxRecDepth 65536 in
set_option maxHeartbeats 40000000 in
theorem rm_ms_ON_ITS_OWN (l : Launch) (Z : State) (a0 : Array Value) (hw : ∀ d ∈ tables_1, d.before a0 Z = true) (ws : List Jvm.Cond) (w_ON_ITS_OWN w_TRANSACTION_LEG w_TRANSACTION w_RECEIVABLE w_PAYABLE w_NETTING_GROUP : Addr) (h0 : Heap) (FX : own_F Z h0 w_ON_ITS_OWN w_TRANSACTION_LEG w_TRANSACTION w_RECEIVABLE w_PAYABLE w_NETTING_GROUP) :
    own_Met l (⟨"com/example/ryudo/ryudo/model/ExposureCategory$Kind", "mayStandAlone", "()Z"⟩ : MethodName) prog_71_method_5_code 1 (some .boolean) ws ({ frames := 0, cells := 0, slots := 0, locals := 0 } : Room) Z #[(.ref w_ON_ITS_OWN)] h0 (fun v h L => v = some (.int (1 : Int32)) ∧ h = h0 ∧ L = []) := by
  refine MetFree.of_bodySF (plainFor_of_name (by first | (simp [plainName, overriddenIn]; done) | decide +kernel)) hisR ?_
  intro p e s m args below meth c s₁ Bd hml0 hP hK
  obtain ⟨rfl, hZ, hh⟩ := hP
  have hx := Bd.exec
  have hby := Bd.bytes
  have hml : c.maxLocals = 1 := hml0
  have hown : s.vm.findClass "com/example/ryudo/ryudo/model/ExposureCategory$Kind" = some m.cls := findClass_of_methodNamed Bd.named
  have hnm := (name_of_methodNamed Bd.named Bd.method).1
  have hlk : meth.locks = false := Bd.notSynchronized
  have hret := Bd.returns
  have X0 : Stand p l e ({ frames := 0, cells := 0, slots := 0, locals := 0 } : Room) s m #[(.ref w_ON_ITS_OWN)] below meth c s₁ [] 0 0 := Stand.of_body Bd
  have e0 : s₁.heap = h0 := by rw [← hh, Bd.state]; rfl
  refine own_in (Q := fun v h L => v = some (.int (1 : Int32)) ∧ h = h0 ∧ L = []) (ef := by first | (simp [entryFrame, mkF, argsToLocals, Value.category, maxLocals]; done) | rfl) (g' := (mkF m 0 #[.val (.ref w_ON_ITS_OWN)] [])) ?_
  obtain ⟨S_ON_ITS_OWN, E_ON_ITS_OWN, S_TRANSACTION_LEG, E_TRANSACTION_LEG, S_TRANSACTION, E_TRANSACTION, S_RECEIVABLE, E_RECEIVABLE, S_PAYABLE, E_PAYABLE, S_NETTING_GROUP, E_NETTING_GROUP, F_ON_ITS_OWN_aggregate, F_TRANSACTION_LEG_aggregate, F_TRANSACTION_LEG_ordinal, F_RECEIVABLE_ordinal, F_PAYABLE_aggregate, F_PAYABLE_ordinal, F_RECEIVABLE_aggregate, ne_TRANSACTION_LEG_RECEIVABLE, ne_TRANSACTION_LEG_PAYABLE, ne_RECEIVABLE_PAYABLE⟩ := id FX
  refine own_go (T' := s₁) (g' := (mkF m 1 #[.val (.ref w_ON_ITS_OWN)] [(.ref w_ON_ITS_OWN)])) (fun t q => XS.aloadN X0.here hx rfl (hb hby d1_0) rfl rfl q) ?_
  obtain ⟨T1, X1, e1, st1⟩ := getF X0 hx hZ hown (host := "") (Or.inl (hw _ (List.mem_of_getElem? (i := 8) rfl))) Via.refl e0 F_ON_ITS_OWN_aggregate (g := (mkF m 1 #[.val (.ref w_ON_ITS_OWN)] [(.ref w_ON_ITS_OWN)])) rfl rfl (hb hby d1_1)
  refine own_go (T' := T1) (g' := (mkF m 4 #[.val (.ref w_ON_ITS_OWN)] [.null])) (fun t q => st1 t q) ?_
  refine own_go (T' := T1) (g' := (mkF m 14 #[.val (.ref w_ON_ITS_OWN)] [])) (fun t q => XS.ifnullYes X1.here hx rfl (pc0 := 4) (pc' := 14) rfl (hb hby d1_4) rfl (by decide) (by decide) q) ?_
  refine own_go (T' := T1) (g' := (mkF m 15 #[.val (.ref w_ON_ITS_OWN)] [(.int (1 : Int32))])) (fun t q => XS.iconst X1.here hx rfl (hb hby d1_14) q) ?_
  refine own_go (T' := T1) (g' := (mkF m 19 #[.val (.ref w_ON_ITS_OWN)] [(.int (1 : Int32))])) (fun t q => XS.goto X1.here hx rfl (pc0 := 15) (pc' := 19) rfl (hb hby d1_15) (by decide) (by decide) q) ?_
  refine own_outN X1 hx hlk hret (t := .boolean) (by simp) (hb hby d1_19) (w := (1 : Int32)) (by decide) ?_ (by decide) (by decide)
  exact ⟨rfl, e1, rfl⟩
theorem d2_0 : decode prog_71_method_4_code 0 = .ok (.aload_n 0, 1) := by decide +kernel
theorem d2_1 : decode prog_71_method_4_code 1 = .ok (.getfield 35, 3) := by decide +kernel
theorem d2_4 : decode prog_71_method_4_code 4 = .ok (.areturn, 1) := by decide +kernel
set_option maxRecDepth 65536 in
set_option maxHeartbeats 40000000 in
theorem rm_ag_ON_ITS_OWN (l : Launch) (Z : State) (a0 : Array Value) (hw : ∀ d ∈ tables_1, d.before a0 Z = true) (ws : List Jvm.Cond) (w_ON_ITS_OWN w_TRANSACTION_LEG w_TRANSACTION w_RECEIVABLE w_PAYABLE w_NETTING_GROUP : Addr) (h0 : Heap) (FX : own_F Z h0 w_ON_ITS_OWN w_TRANSACTION_LEG w_TRANSACTION w_RECEIVABLE w_PAYABLE w_NETTING_GROUP) :
    own_Met l (⟨"com/example/ryudo/ryudo/model/ExposureCategory$Kind", "aggregate", "()Lcom/example/ryudo/ryudo/model/RepoAggregate$Kind;"⟩ : MethodName) prog_71_method_4_code 1 (some (.object "com/example/ryudo/ryudo/model/RepoAggregate$Kind")) ws ({ frames := 0, cells := 0, slots := 0, locals := 0 } : Room) Z #[(.ref w_ON_ITS_OWN)] h0 (fun v h L => v = some .null ∧ h = h0 ∧ L = []) := by
  refine MetFree.of_bodySF (plainFor_of_name (by first | (simp [plainName, overriddenIn]; done) | decide +kernel)) hisR ?_
  intro p e s m args below meth c s₁ Bd hml0 hP hK
  obtain ⟨rfl, hZ, hh⟩ := hP
  have hx := Bd.exec
  have hby := Bd.bytes
  have hml : c.maxLocals = 1 := hml0
  have hown : s.vm.findClass "com/example/ryudo/ryudo/model/ExposureCategory$Kind" = some m.cls := findClass_of_methodNamed Bd.named
  have hnm := (name_of_methodNamed Bd.named Bd.method).1
  have hlk : meth.locks = false := Bd.notSynchronized
  have hret := Bd.returns
  have X0 : Stand p l e ({ frames := 0, cells := 0, slots := 0, locals := 0 } : Room) s m #[(.ref w_ON_ITS_OWN)] below meth c s₁ [] 0 0 := Stand.of_body Bd
  have e0 : s₁.heap = h0 := by rw [← hh, Bd.state]; rfl
  refine own_in (Q := fun v h L => v = some .null ∧ h = h0 ∧ L = []) (ef := by first | (simp [entryFrame, mkF, argsToLocals, Value.category, maxLocals]; done) | rfl) (g' := (mkF m 0 #[.val (.ref w_ON_ITS_OWN)] [])) ?_
  obtain ⟨S_ON_ITS_OWN, E_ON_ITS_OWN, S_TRANSACTION_LEG, E_TRANSACTION_LEG, S_TRANSACTION, E_TRANSACTION, S_RECEIVABLE, E_RECEIVABLE, S_PAYABLE, E_PAYABLE, S_NETTING_GROUP, E_NETTING_GROUP, F_ON_ITS_OWN_aggregate, F_TRANSACTION_LEG_aggregate, F_TRANSACTION_LEG_ordinal, F_RECEIVABLE_ordinal, F_PAYABLE_aggregate, F_PAYABLE_ordinal, F_RECEIVABLE_aggregate, ne_TRANSACTION_LEG_RECEIVABLE, ne_TRANSACTION_LEG_PAYABLE, ne_RECEIVABLE_PAYABLE⟩ := id FX
  refine own_go (T' := s₁) (g' := (mkF m 1 #[.val (.ref w_ON_ITS_OWN)] [(.ref w_ON_ITS_OWN)])) (fun t q => XS.aloadN X0.here hx rfl (hb hby d2_0) rfl rfl q) ?_
  obtain ⟨T1, X1, e1, st1⟩ := getF X0 hx hZ hown (host := "") (Or.inl (hw _ (List.mem_of_getElem? (i := 8) rfl))) Via.refl e0 F_ON_ITS_OWN_aggregate (g := (mkF m 1 #[.val (.ref w_ON_ITS_OWN)] [(.ref w_ON_ITS_OWN)])) rfl rfl (hb hby d2_1)
  refine own_go (T' := T1) (g' := (mkF m 4 #[.val (.ref w_ON_ITS_OWN)] [.null])) (fun t q => st1 t q) ?_
  refine own_outA X1 hx hlk hret rfl rfl (hb hby d2_4) ?_ (by decide) (by decide)
  exact ⟨rfl, e1, rfl⟩
theorem d1_7 : decode prog_71_method_5_code 7 = .ok (.aload_n 0, 1) := by decide +kernel
theorem d1_8 : decode prog_71_method_5_code 8 = .ok (.getstatic 7, 3) := by decide +kernel
theorem d1_11 : decode prog_71_method_5_code 11 = .ok (.if_acmp .ne 7, 3) := by decide +kernel
set_option maxRecDepth 65536 in
set_option maxHeartbeats 40000000 in
theorem rm_ms_RECEIVABLE (l : Launch) (Z : State) (a0 : Array Value) (hw : ∀ d ∈ tables_1, d.before a0 Z = true) (ws : List Jvm.Cond) (w_ON_ITS_OWN w_TRANSACTION_LEG w_TRANSACTION w_RECEIVABLE w_PAYABLE w_NETTING_GROUP : Addr) (h0 : Heap) (FX : own_F Z h0 w_ON_ITS_OWN w_TRANSACTION_LEG w_TRANSACTION w_RECEIVABLE w_PAYABLE w_NETTING_GROUP) :
    own_Met l (⟨"com/example/ryudo/ryudo/model/ExposureCategory$Kind", "mayStandAlone", "()Z"⟩ : MethodName) prog_71_method_5_code 1 (some .boolean) ws ({ frames := 0, cells := 0, slots := 0, locals := 0 } : Room) Z #[(.ref w_RECEIVABLE)] h0 (fun v h L => v = some (.int (1 : Int32)) ∧ h = h0 ∧ L = []) := by
  refine MetFree.of_bodySF (plainFor_of_name (by first | (simp [plainName, overriddenIn]; done) | decide +kernel)) hisR ?_
  intro p e s m args below meth c s₁ Bd hml0 hP hK
  obtain ⟨rfl, hZ, hh⟩ := hP
  have hx := Bd.exec
  have hby := Bd.bytes
  have hml : c.maxLocals = 1 := hml0
  have hown : s.vm.findClass "com/example/ryudo/ryudo/model/ExposureCategory$Kind" = some m.cls := findClass_of_methodNamed Bd.named
  have hnm := (name_of_methodNamed Bd.named Bd.method).1
  have hlk : meth.locks = false := Bd.notSynchronized
  have hret := Bd.returns
  have X0 : Stand p l e ({ frames := 0, cells := 0, slots := 0, locals := 0 } : Room) s m #[(.ref w_RECEIVABLE)] below meth c s₁ [] 0 0 := Stand.of_body Bd
  have e0 : s₁.heap = h0 := by rw [← hh, Bd.state]; rfl
  refine own_in (Q := fun v h L => v = some (.int (1 : Int32)) ∧ h = h0 ∧ L = []) (ef := by first | (simp [entryFrame, mkF, argsToLocals, Value.category, maxLocals]; done) | rfl) (g' := (mkF m 0 #[.val (.ref w_RECEIVABLE)] [])) ?_
  obtain ⟨S_ON_ITS_OWN, E_ON_ITS_OWN, S_TRANSACTION_LEG, E_TRANSACTION_LEG, S_TRANSACTION, E_TRANSACTION, S_RECEIVABLE, E_RECEIVABLE, S_PAYABLE, E_PAYABLE, S_NETTING_GROUP, E_NETTING_GROUP, F_ON_ITS_OWN_aggregate, F_TRANSACTION_LEG_aggregate, F_TRANSACTION_LEG_ordinal, F_RECEIVABLE_ordinal, F_PAYABLE_aggregate, F_PAYABLE_ordinal, F_RECEIVABLE_aggregate, ne_TRANSACTION_LEG_RECEIVABLE, ne_TRANSACTION_LEG_PAYABLE, ne_RECEIVABLE_PAYABLE⟩ := id FX
  refine own_go (T' := s₁) (g' := (mkF m 1 #[.val (.ref w_RECEIVABLE)] [(.ref w_RECEIVABLE)])) (fun t q => XS.aloadN X0.here hx rfl (hb hby d1_0) rfl rfl q) ?_
  obtain ⟨T1, X1, e1, st1⟩ := getF X0 hx hZ hown (host := "") (Or.inl (hw _ (List.mem_of_getElem? (i := 8) rfl))) Via.refl e0 F_RECEIVABLE_aggregate (g := (mkF m 1 #[.val (.ref w_RECEIVABLE)] [(.ref w_RECEIVABLE)])) rfl rfl (hb hby d1_1)
  refine own_go (T' := T1) (g' := (mkF m 4 #[.val (.ref w_RECEIVABLE)] [(.ref w_NETTING_GROUP)])) (fun t q => st1 t q) ?_
  refine own_go (T' := T1) (g' := (mkF m 7 #[.val (.ref w_RECEIVABLE)] [])) (fun t q => XS.ifnullNo X1.here hx rfl (hb hby d1_4) rfl q) ?_
  refine own_go (T' := T1) (g' := (mkF m 8 #[.val (.ref w_RECEIVABLE)] [(.ref w_RECEIVABLE)])) (fun t q => XS.aloadN X1.here hx rfl (hb hby d1_7) rfl rfl q) ?_
  obtain ⟨T2, X2, e2, st2⟩ := getS2 X1 hx hZ hown (host := "") (Or.inl (hw _ (List.mem_of_getElem? (i := 19) rfl))) Via.refl e1 S_RECEIVABLE (g := (mkF m 8 #[.val (.ref w_RECEIVABLE)] [(.ref w_RECEIVABLE)])) rfl (hb hby d1_8)
  refine own_go (T' := T2) (g' := (mkF m 11 #[.val (.ref w_RECEIVABLE)] [(.ref w_RECEIVABLE), (.ref w_RECEIVABLE)])) (fun t q => st2 t q) ?_
  have c3 : (Value.ref w_RECEIVABLE) = (Value.ref w_RECEIVABLE) := rfl
  refine own_go (T' := T2) (g' := (mkF m 14 #[.val (.ref w_RECEIVABLE)] [])) (fun t q => XT.acmpNo X2.here hx rfl (hb hby d1_11) rfl rfl rfl (own_at c3).2 q) ?_
  refine own_go (T' := T2) (g' := (mkF m 15 #[.val (.ref w_RECEIVABLE)] [(.int (1 : Int32))])) (fun t q => XS.iconst X2.here hx rfl (hb hby d1_14) q) ?_
  refine own_go (T' := T2) (g' := (mkF m 19 #[.val (.ref w_RECEIVABLE)] [(.int (1 : Int32))])) (fun t q => XS.goto X2.here hx rfl (pc0 := 15) (pc' := 19) rfl (hb hby d1_15) (by decide) (by decide) q) ?_
  refine own_outN X2 hx hlk hret (t := .boolean) (by simp) (hb hby d1_19) (w := (1 : Int32)) (by decide) ?_ (by decide) (by decide)
  exact ⟨rfl, e2, rfl⟩
set_option maxRecDepth 65536 in
set_option maxHeartbeats 40000000 in
theorem rm_ag_RECEIVABLE (l : Launch) (Z : State) (a0 : Array Value) (hw : ∀ d ∈ tables_1, d.before a0 Z = true) (ws : List Jvm.Cond) (w_ON_ITS_OWN w_TRANSACTION_LEG w_TRANSACTION w_RECEIVABLE w_PAYABLE w_NETTING_GROUP : Addr) (h0 : Heap) (FX : own_F Z h0 w_ON_ITS_OWN w_TRANSACTION_LEG w_TRANSACTION w_RECEIVABLE w_PAYABLE w_NETTING_GROUP) :
    own_Met l (⟨"com/example/ryudo/ryudo/model/ExposureCategory$Kind", "aggregate", "()Lcom/example/ryudo/ryudo/model/RepoAggregate$Kind;"⟩ : MethodName) prog_71_method_4_code 1 (some (.object "com/example/ryudo/ryudo/model/RepoAggregate$Kind")) ws ({ frames := 0, cells := 0, slots := 0, locals := 0 } : Room) Z #[(.ref w_RECEIVABLE)] h0 (fun v h L => v = some (.ref w_NETTING_GROUP) ∧ h = h0 ∧ L = []) := by
  refine MetFree.of_bodySF (plainFor_of_name (by first | (simp [plainName, overriddenIn]; done) | decide +kernel)) hisR ?_
  intro p e s m args below meth c s₁ Bd hml0 hP hK
  obtain ⟨rfl, hZ, hh⟩ := hP
  have hx := Bd.exec
  have hby := Bd.bytes
  have hml : c.maxLocals = 1 := hml0
  have hown : s.vm.findClass "com/example/ryudo/ryudo/model/ExposureCategory$Kind" = some m.cls := findClass_of_methodNamed Bd.named
  have hnm := (name_of_methodNamed Bd.named Bd.method).1
  have hlk : meth.locks = false := Bd.notSynchronized
  have hret := Bd.returns
  have X0 : Stand p l e ({ frames := 0, cells := 0, slots := 0, locals := 0 } : Room) s m #[(.ref w_RECEIVABLE)] below meth c s₁ [] 0 0 := Stand.of_body Bd
  have e0 : s₁.heap = h0 := by rw [← hh, Bd.state]; rfl
  refine own_in (Q := fun v h L => v = some (.ref w_NETTING_GROUP) ∧ h = h0 ∧ L = []) (ef := by first | (simp [entryFrame, mkF, argsToLocals, Value.category, maxLocals]; done) | rfl) (g' := (mkF m 0 #[.val (.ref w_RECEIVABLE)] [])) ?_
  obtain ⟨S_ON_ITS_OWN, E_ON_ITS_OWN, S_TRANSACTION_LEG, E_TRANSACTION_LEG, S_TRANSACTION, E_TRANSACTION, S_RECEIVABLE, E_RECEIVABLE, S_PAYABLE, E_PAYABLE, S_NETTING_GROUP, E_NETTING_GROUP, F_ON_ITS_OWN_aggregate, F_TRANSACTION_LEG_aggregate, F_TRANSACTION_LEG_ordinal, F_RECEIVABLE_ordinal, F_PAYABLE_aggregate, F_PAYABLE_ordinal, F_RECEIVABLE_aggregate, ne_TRANSACTION_LEG_RECEIVABLE, ne_TRANSACTION_LEG_PAYABLE, ne_RECEIVABLE_PAYABLE⟩ := id FX
  refine own_go (T' := s₁) (g' := (mkF m 1 #[.val (.ref w_RECEIVABLE)] [(.ref w_RECEIVABLE)])) (fun t q => XS.aloadN X0.here hx rfl (hb hby d2_0) rfl rfl q) ?_
  obtain ⟨T1, X1, e1, st1⟩ := getF X0 hx hZ hown (host := "") (Or.inl (hw _ (List.mem_of_getElem? (i := 8) rfl))) Via.refl e0 F_RECEIVABLE_aggregate (g := (mkF m 1 #[.val (.ref w_RECEIVABLE)] [(.ref w_RECEIVABLE)])) rfl rfl (hb hby d2_1)
  refine own_go (T' := T1) (g' := (mkF m 4 #[.val (.ref w_RECEIVABLE)] [(.ref w_NETTING_GROUP)])) (fun t q => st1 t q) ?_
  refine own_outA X1 hx hlk hret rfl rfl (hb hby d2_4) ?_ (by decide) (by decide)
  exact ⟨rfl, e1, rfl⟩
theorem d1_18 : decode prog_71_method_5_code 18 = .ok (.iconst 0, 1) := by decide +kernel
set_option maxRecDepth 65536 in
set_option maxHeartbeats 40000000 in
theorem rm_ms_PAYABLE (l : Launch) (Z : State) (a0 : Array Value) (hw : ∀ d ∈ tables_1, d.before a0 Z = true) (ws : List Jvm.Cond) (w_ON_ITS_OWN w_TRANSACTION_LEG w_TRANSACTION w_RECEIVABLE w_PAYABLE w_NETTING_GROUP : Addr) (h0 : Heap) (FX : own_F Z h0 w_ON_ITS_OWN w_TRANSACTION_LEG w_TRANSACTION w_RECEIVABLE w_PAYABLE w_NETTING_GROUP) :
    own_Met l (⟨"com/example/ryudo/ryudo/model/ExposureCategory$Kind", "mayStandAlone", "()Z"⟩ : MethodName) prog_71_method_5_code 1 (some .boolean) ws ({ frames := 0, cells := 0, slots := 0, locals := 0 } : Room) Z #[(.ref w_PAYABLE)] h0 (fun v h L => v = some (.int (0 : Int32)) ∧ h = h0 ∧ L = []) := by
  refine MetFree.of_bodySF (plainFor_of_name (by first | (simp [plainName, overriddenIn]; done) | decide +kernel)) hisR ?_
  intro p e s m args below meth c s₁ Bd hml0 hP hK
  obtain ⟨rfl, hZ, hh⟩ := hP
  have hx := Bd.exec
  have hby := Bd.bytes
  have hml : c.maxLocals = 1 := hml0
  have hown : s.vm.findClass "com/example/ryudo/ryudo/model/ExposureCategory$Kind" = some m.cls := findClass_of_methodNamed Bd.named
  have hnm := (name_of_methodNamed Bd.named Bd.method).1
  have hlk : meth.locks = false := Bd.notSynchronized
  have hret := Bd.returns
  have X0 : Stand p l e ({ frames := 0, cells := 0, slots := 0, locals := 0 } : Room) s m #[(.ref w_PAYABLE)] below meth c s₁ [] 0 0 := Stand.of_body Bd
  have e0 : s₁.heap = h0 := by rw [← hh, Bd.state]; rfl
  refine own_in (Q := fun v h L => v = some (.int (0 : Int32)) ∧ h = h0 ∧ L = []) (ef := by first | (simp [entryFrame, mkF, argsToLocals, Value.category, maxLocals]; done) | rfl) (g' := (mkF m 0 #[.val (.ref w_PAYABLE)] [])) ?_
  obtain ⟨S_ON_ITS_OWN, E_ON_ITS_OWN, S_TRANSACTION_LEG, E_TRANSACTION_LEG, S_TRANSACTION, E_TRANSACTION, S_RECEIVABLE, E_RECEIVABLE, S_PAYABLE, E_PAYABLE, S_NETTING_GROUP, E_NETTING_GROUP, F_ON_ITS_OWN_aggregate, F_TRANSACTION_LEG_aggregate, F_TRANSACTION_LEG_ordinal, F_RECEIVABLE_ordinal, F_PAYABLE_aggregate, F_PAYABLE_ordinal, F_RECEIVABLE_aggregate, ne_TRANSACTION_LEG_RECEIVABLE, ne_TRANSACTION_LEG_PAYABLE, ne_RECEIVABLE_PAYABLE⟩ := id FX
  refine own_go (T' := s₁) (g' := (mkF m 1 #[.val (.ref w_PAYABLE)] [(.ref w_PAYABLE)])) (fun t q => XS.aloadN X0.here hx rfl (hb hby d1_0) rfl rfl q) ?_
  obtain ⟨T1, X1, e1, st1⟩ := getF X0 hx hZ hown (host := "") (Or.inl (hw _ (List.mem_of_getElem? (i := 8) rfl))) Via.refl e0 F_PAYABLE_aggregate (g := (mkF m 1 #[.val (.ref w_PAYABLE)] [(.ref w_PAYABLE)])) rfl rfl (hb hby d1_1)
  refine own_go (T' := T1) (g' := (mkF m 4 #[.val (.ref w_PAYABLE)] [(.ref w_NETTING_GROUP)])) (fun t q => st1 t q) ?_
  refine own_go (T' := T1) (g' := (mkF m 7 #[.val (.ref w_PAYABLE)] [])) (fun t q => XS.ifnullNo X1.here hx rfl (hb hby d1_4) rfl q) ?_
  refine own_go (T' := T1) (g' := (mkF m 8 #[.val (.ref w_PAYABLE)] [(.ref w_PAYABLE)])) (fun t q => XS.aloadN X1.here hx rfl (hb hby d1_7) rfl rfl q) ?_
  obtain ⟨T2, X2, e2, st2⟩ := getS2 X1 hx hZ hown (host := "") (Or.inl (hw _ (List.mem_of_getElem? (i := 19) rfl))) Via.refl e1 S_RECEIVABLE (g := (mkF m 8 #[.val (.ref w_PAYABLE)] [(.ref w_PAYABLE)])) rfl (hb hby d1_8)
  refine own_go (T' := T2) (g' := (mkF m 11 #[.val (.ref w_PAYABLE)] [(.ref w_RECEIVABLE), (.ref w_PAYABLE)])) (fun t q => st2 t q) ?_
  have c3 : ¬ ((Value.ref w_PAYABLE) = (Value.ref w_RECEIVABLE)) := fun z => ne_RECEIVABLE_PAYABLE (Value.ref.inj z).symm
  refine own_go (T' := T2) (g' := (mkF m 18 #[.val (.ref w_PAYABLE)] [])) (fun t q => XT.acmpYes X2.here hx rfl (pc0 := 11) (pc' := 18) rfl (hb hby d1_11) rfl rfl rfl (own_af c3).2 (by decide) (by decide) q) ?_
  refine own_go (T' := T2) (g' := (mkF m 19 #[.val (.ref w_PAYABLE)] [(.int (0 : Int32))])) (fun t q => XS.iconst X2.here hx rfl (hb hby d1_18) q) ?_
  refine own_outN X2 hx hlk hret (t := .boolean) (by simp) (hb hby d1_19) (w := (0 : Int32)) (by decide) ?_ (by decide) (by decide)
  exact ⟨rfl, e2, rfl⟩
set_option maxRecDepth 65536 in
set_option maxHeartbeats 40000000 in
theorem rm_ag_PAYABLE (l : Launch) (Z : State) (a0 : Array Value) (hw : ∀ d ∈ tables_1, d.before a0 Z = true) (ws : List Jvm.Cond) (w_ON_ITS_OWN w_TRANSACTION_LEG w_TRANSACTION w_RECEIVABLE w_PAYABLE w_NETTING_GROUP : Addr) (h0 : Heap) (FX : own_F Z h0 w_ON_ITS_OWN w_TRANSACTION_LEG w_TRANSACTION w_RECEIVABLE w_PAYABLE w_NETTING_GROUP) :
    own_Met l (⟨"com/example/ryudo/ryudo/model/ExposureCategory$Kind", "aggregate", "()Lcom/example/ryudo/ryudo/model/RepoAggregate$Kind;"⟩ : MethodName) prog_71_method_4_code 1 (some (.object "com/example/ryudo/ryudo/model/RepoAggregate$Kind")) ws ({ frames := 0, cells := 0, slots := 0, locals := 0 } : Room) Z #[(.ref w_PAYABLE)] h0 (fun v h L => v = some (.ref w_NETTING_GROUP) ∧ h = h0 ∧ L = []) := by
  refine MetFree.of_bodySF (plainFor_of_name (by first | (simp [plainName, overriddenIn]; done) | decide +kernel)) hisR ?_
  intro p e s m args below meth c s₁ Bd hml0 hP hK
  obtain ⟨rfl, hZ, hh⟩ := hP
  have hx := Bd.exec
  have hby := Bd.bytes
  have hml : c.maxLocals = 1 := hml0
  have hown : s.vm.findClass "com/example/ryudo/ryudo/model/ExposureCategory$Kind" = some m.cls := findClass_of_methodNamed Bd.named
  have hnm := (name_of_methodNamed Bd.named Bd.method).1
  have hlk : meth.locks = false := Bd.notSynchronized
  have hret := Bd.returns
  have X0 : Stand p l e ({ frames := 0, cells := 0, slots := 0, locals := 0 } : Room) s m #[(.ref w_PAYABLE)] below meth c s₁ [] 0 0 := Stand.of_body Bd
  have e0 : s₁.heap = h0 := by rw [← hh, Bd.state]; rfl
  refine own_in (Q := fun v h L => v = some (.ref w_NETTING_GROUP) ∧ h = h0 ∧ L = []) (ef := by first | (simp [entryFrame, mkF, argsToLocals, Value.category, maxLocals]; done) | rfl) (g' := (mkF m 0 #[.val (.ref w_PAYABLE)] [])) ?_
  obtain ⟨S_ON_ITS_OWN, E_ON_ITS_OWN, S_TRANSACTION_LEG, E_TRANSACTION_LEG, S_TRANSACTION, E_TRANSACTION, S_RECEIVABLE, E_RECEIVABLE, S_PAYABLE, E_PAYABLE, S_NETTING_GROUP, E_NETTING_GROUP, F_ON_ITS_OWN_aggregate, F_TRANSACTION_LEG_aggregate, F_TRANSACTION_LEG_ordinal, F_RECEIVABLE_ordinal, F_PAYABLE_aggregate, F_PAYABLE_ordinal, F_RECEIVABLE_aggregate, ne_TRANSACTION_LEG_RECEIVABLE, ne_TRANSACTION_LEG_PAYABLE, ne_RECEIVABLE_PAYABLE⟩ := id FX
  refine own_go (T' := s₁) (g' := (mkF m 1 #[.val (.ref w_PAYABLE)] [(.ref w_PAYABLE)])) (fun t q => XS.aloadN X0.here hx rfl (hb hby d2_0) rfl rfl q) ?_
  obtain ⟨T1, X1, e1, st1⟩ := getF X0 hx hZ hown (host := "") (Or.inl (hw _ (List.mem_of_getElem? (i := 8) rfl))) Via.refl e0 F_PAYABLE_aggregate (g := (mkF m 1 #[.val (.ref w_PAYABLE)] [(.ref w_PAYABLE)])) rfl rfl (hb hby d2_1)
  refine own_go (T' := T1) (g' := (mkF m 4 #[.val (.ref w_PAYABLE)] [(.ref w_NETTING_GROUP)])) (fun t q => st1 t q) ?_
  refine own_outA X1 hx hlk hret rfl rfl (hb hby d2_4) ?_ (by decide) (by decide)
  exact ⟨rfl, e1, rfl⟩
set_option maxRecDepth 65536 in
set_option maxHeartbeats 40000000 in
theorem rm_ms_TRANSACTION_LEG (l : Launch) (Z : State) (a0 : Array Value) (hw : ∀ d ∈ tables_1, d.before a0 Z = true) (ws : List Jvm.Cond) (w_ON_ITS_OWN w_TRANSACTION_LEG w_TRANSACTION w_RECEIVABLE w_PAYABLE w_NETTING_GROUP : Addr) (h0 : Heap) (FX : own_F Z h0 w_ON_ITS_OWN w_TRANSACTION_LEG w_TRANSACTION w_RECEIVABLE w_PAYABLE w_NETTING_GROUP) :
    own_Met l (⟨"com/example/ryudo/ryudo/model/ExposureCategory$Kind", "mayStandAlone", "()Z"⟩ : MethodName) prog_71_method_5_code 1 (some .boolean) ws ({ frames := 0, cells := 0, slots := 0, locals := 0 } : Room) Z #[(.ref w_TRANSACTION_LEG)] h0 (fun v h L => v = some (.int (0 : Int32)) ∧ h = h0 ∧ L = []) := by
  refine MetFree.of_bodySF (plainFor_of_name (by first | (simp [plainName, overriddenIn]; done) | decide +kernel)) hisR ?_
  intro p e s m args below meth c s₁ Bd hml0 hP hK
  obtain ⟨rfl, hZ, hh⟩ := hP
  have hx := Bd.exec
  have hby := Bd.bytes
  have hml : c.maxLocals = 1 := hml0
  have hown : s.vm.findClass "com/example/ryudo/ryudo/model/ExposureCategory$Kind" = some m.cls := findClass_of_methodNamed Bd.named
  have hnm := (name_of_methodNamed Bd.named Bd.method).1
  have hlk : meth.locks = false := Bd.notSynchronized
  have hret := Bd.returns
  have X0 : Stand p l e ({ frames := 0, cells := 0, slots := 0, locals := 0 } : Room) s m #[(.ref w_TRANSACTION_LEG)] below meth c s₁ [] 0 0 := Stand.of_body Bd
  have e0 : s₁.heap = h0 := by rw [← hh, Bd.state]; rfl
  refine own_in (Q := fun v h L => v = some (.int (0 : Int32)) ∧ h = h0 ∧ L = []) (ef := by first | (simp [entryFrame, mkF, argsToLocals, Value.category, maxLocals]; done) | rfl) (g' := (mkF m 0 #[.val (.ref w_TRANSACTION_LEG)] [])) ?_
  obtain ⟨S_ON_ITS_OWN, E_ON_ITS_OWN, S_TRANSACTION_LEG, E_TRANSACTION_LEG, S_TRANSACTION, E_TRANSACTION, S_RECEIVABLE, E_RECEIVABLE, S_PAYABLE, E_PAYABLE, S_NETTING_GROUP, E_NETTING_GROUP, F_ON_ITS_OWN_aggregate, F_TRANSACTION_LEG_aggregate, F_TRANSACTION_LEG_ordinal, F_RECEIVABLE_ordinal, F_PAYABLE_aggregate, F_PAYABLE_ordinal, F_RECEIVABLE_aggregate, ne_TRANSACTION_LEG_RECEIVABLE, ne_TRANSACTION_LEG_PAYABLE, ne_RECEIVABLE_PAYABLE⟩ := id FX
  refine own_go (T' := s₁) (g' := (mkF m 1 #[.val (.ref w_TRANSACTION_LEG)] [(.ref w_TRANSACTION_LEG)])) (fun t q => XS.aloadN X0.here hx rfl (hb hby d1_0) rfl rfl q) ?_
  obtain ⟨T1, X1, e1, st1⟩ := getF X0 hx hZ hown (host := "") (Or.inl (hw _ (List.mem_of_getElem? (i := 8) rfl))) Via.refl e0 F_TRANSACTION_LEG_aggregate (g := (mkF m 1 #[.val (.ref w_TRANSACTION_LEG)] [(.ref w_TRANSACTION_LEG)])) rfl rfl (hb hby d1_1)
  refine own_go (T' := T1) (g' := (mkF m 4 #[.val (.ref w_TRANSACTION_LEG)] [(.ref w_TRANSACTION)])) (fun t q => st1 t q) ?_
  refine own_go (T' := T1) (g' := (mkF m 7 #[.val (.ref w_TRANSACTION_LEG)] [])) (fun t q => XS.ifnullNo X1.here hx rfl (hb hby d1_4) rfl q) ?_
  refine own_go (T' := T1) (g' := (mkF m 8 #[.val (.ref w_TRANSACTION_LEG)] [(.ref w_TRANSACTION_LEG)])) (fun t q => XS.aloadN X1.here hx rfl (hb hby d1_7) rfl rfl q) ?_
  obtain ⟨T2, X2, e2, st2⟩ := getS2 X1 hx hZ hown (host := "") (Or.inl (hw _ (List.mem_of_getElem? (i := 19) rfl))) Via.refl e1 S_RECEIVABLE (g := (mkF m 8 #[.val (.ref w_TRANSACTION_LEG)] [(.ref w_TRANSACTION_LEG)])) rfl (hb hby d1_8)
  refine own_go (T' := T2) (g' := (mkF m 11 #[.val (.ref w_TRANSACTION_LEG)] [(.ref w_RECEIVABLE), (.ref w_TRANSACTION_LEG)])) (fun t q => st2 t q) ?_
  have c3 : ¬ ((Value.ref w_TRANSACTION_LEG) = (Value.ref w_RECEIVABLE)) := fun z => ne_TRANSACTION_LEG_RECEIVABLE (Value.ref.inj z)
  refine own_go (T' := T2) (g' := (mkF m 18 #[.val (.ref w_TRANSACTION_LEG)] [])) (fun t q => XT.acmpYes X2.here hx rfl (pc0 := 11) (pc' := 18) rfl (hb hby d1_11) rfl rfl rfl (own_af c3).2 (by decide) (by decide) q) ?_
  refine own_go (T' := T2) (g' := (mkF m 19 #[.val (.ref w_TRANSACTION_LEG)] [(.int (0 : Int32))])) (fun t q => XS.iconst X2.here hx rfl (hb hby d1_18) q) ?_
  refine own_outN X2 hx hlk hret (t := .boolean) (by simp) (hb hby d1_19) (w := (0 : Int32)) (by decide) ?_ (by decide) (by decide)
  exact ⟨rfl, e2, rfl⟩
set_option maxRecDepth 65536 in
set_option maxHeartbeats 40000000 in
theorem rm_ag_TRANSACTION_LEG (l : Launch) (Z : State) (a0 : Array Value) (hw : ∀ d ∈ tables_1, d.before a0 Z = true) (ws : List Jvm.Cond) (w_ON_ITS_OWN w_TRANSACTION_LEG w_TRANSACTION w_RECEIVABLE w_PAYABLE w_NETTING_GROUP : Addr) (h0 : Heap) (FX : own_F Z h0 w_ON_ITS_OWN w_TRANSACTION_LEG w_TRANSACTION w_RECEIVABLE w_PAYABLE w_NETTING_GROUP) :
    own_Met l (⟨"com/example/ryudo/ryudo/model/ExposureCategory$Kind", "aggregate", "()Lcom/example/ryudo/ryudo/model/RepoAggregate$Kind;"⟩ : MethodName) prog_71_method_4_code 1 (some (.object "com/example/ryudo/ryudo/model/RepoAggregate$Kind")) ws ({ frames := 0, cells := 0, slots := 0, locals := 0 } : Room) Z #[(.ref w_TRANSACTION_LEG)] h0 (fun v h L => v = some (.ref w_TRANSACTION) ∧ h = h0 ∧ L = []) := by
  refine MetFree.of_bodySF (plainFor_of_name (by first | (simp [plainName, overriddenIn]; done) | decide +kernel)) hisR ?_
  intro p e s m args below meth c s₁ Bd hml0 hP hK
  obtain ⟨rfl, hZ, hh⟩ := hP
  have hx := Bd.exec
  have hby := Bd.bytes
  have hml : c.maxLocals = 1 := hml0
  have hown : s.vm.findClass "com/example/ryudo/ryudo/model/ExposureCategory$Kind" = some m.cls := findClass_of_methodNamed Bd.named
  have hnm := (name_of_methodNamed Bd.named Bd.method).1
  have hlk : meth.locks = false := Bd.notSynchronized
  have hret := Bd.returns
  have X0 : Stand p l e ({ frames := 0, cells := 0, slots := 0, locals := 0 } : Room) s m #[(.ref w_TRANSACTION_LEG)] below meth c s₁ [] 0 0 := Stand.of_body Bd
  have e0 : s₁.heap = h0 := by rw [← hh, Bd.state]; rfl
  refine own_in (Q := fun v h L => v = some (.ref w_TRANSACTION) ∧ h = h0 ∧ L = []) (ef := by first | (simp [entryFrame, mkF, argsToLocals, Value.category, maxLocals]; done) | rfl) (g' := (mkF m 0 #[.val (.ref w_TRANSACTION_LEG)] [])) ?_
  obtain ⟨S_ON_ITS_OWN, E_ON_ITS_OWN, S_TRANSACTION_LEG, E_TRANSACTION_LEG, S_TRANSACTION, E_TRANSACTION, S_RECEIVABLE, E_RECEIVABLE, S_PAYABLE, E_PAYABLE, S_NETTING_GROUP, E_NETTING_GROUP, F_ON_ITS_OWN_aggregate, F_TRANSACTION_LEG_aggregate, F_TRANSACTION_LEG_ordinal, F_RECEIVABLE_ordinal, F_PAYABLE_aggregate, F_PAYABLE_ordinal, F_RECEIVABLE_aggregate, ne_TRANSACTION_LEG_RECEIVABLE, ne_TRANSACTION_LEG_PAYABLE, ne_RECEIVABLE_PAYABLE⟩ := id FX
  refine own_go (T' := s₁) (g' := (mkF m 1 #[.val (.ref w_TRANSACTION_LEG)] [(.ref w_TRANSACTION_LEG)])) (fun t q => XS.aloadN X0.here hx rfl (hb hby d2_0) rfl rfl q) ?_
  obtain ⟨T1, X1, e1, st1⟩ := getF X0 hx hZ hown (host := "") (Or.inl (hw _ (List.mem_of_getElem? (i := 8) rfl))) Via.refl e0 F_TRANSACTION_LEG_aggregate (g := (mkF m 1 #[.val (.ref w_TRANSACTION_LEG)] [(.ref w_TRANSACTION_LEG)])) rfl rfl (hb hby d2_1)
  refine own_go (T' := T1) (g' := (mkF m 4 #[.val (.ref w_TRANSACTION_LEG)] [(.ref w_TRANSACTION)])) (fun t q => st1 t q) ?_
  refine own_outA X1 hx hlk hret rfl rfl (hb hby d2_4) ?_ (by decide) (by decide)
  exact ⟨rfl, e1, rfl⟩
set_option maxRecDepth 65536 in
set_option maxHeartbeats 40000000 in
theorem rm0 (l : Launch) (Z : State) (a0 : Array Value) (hw : ∀ d ∈ tables_1, d.before a0 Z = true) (ws : List Jvm.Cond) (p1 : Int32) (w_ON_ITS_OWN w_TRANSACTION_LEG w_TRANSACTION w_RECEIVABLE w_PAYABLE w_NETTING_GROUP : Addr) (h0 : Heap) (FX : own_F Z h0 w_ON_ITS_OWN w_TRANSACTION_LEG w_TRANSACTION w_RECEIVABLE w_PAYABLE w_NETTING_GROUP) :
    own_Met l x code maxLocals ret ws room_1 Z #[(.int p1)] h0 (fun v _ L => v = some (.int (1 : Int32)) ∧ Fr h0.size L) := by
  refine MetFree.of_bodySF (plainFor_of_name (by first | (simp [plainName, overriddenIn]; done) | decide +kernel)) hisR ?_
  intro p e s m args below meth c s₁ Bd hml0 hP hK
  obtain ⟨rfl, hZ, hh⟩ := hP
  have hx := Bd.exec
  have hby := Bd.bytes
  have hml : c.maxLocals = 6 := hml0
  have hown : s.vm.findClass "com/example/ryudo/ryudo/model/KindMayStandAlonePinLaw" = some m.cls := findClass_of_methodNamed Bd.named
  have hnm := (name_of_methodNamed Bd.named Bd.method).1
  have hlk : meth.locks = false := Bd.notSynchronized
  have hret := Bd.returns
  have X0 : Stand p l e room_1 s m #[(.int p1)] below meth c s₁ [] 0 0 := Stand.of_body Bd
  have e0 : s₁.heap = h0 := by rw [← hh, Bd.state]; rfl
  refine own_in (Q := fun v _ L => v = some (.int (1 : Int32)) ∧ Fr h0.size L) (ef := by first | (simp [entryFrame, mkF, argsToLocals, Value.category, maxLocals]; done) | rfl) (g' := (mkF m 0 #[.val (.int p1), .unset, .unset, .unset, .unset, .unset] [])) ?_
  obtain ⟨S_ON_ITS_OWN, E_ON_ITS_OWN, S_TRANSACTION_LEG, E_TRANSACTION_LEG, S_TRANSACTION, E_TRANSACTION, S_RECEIVABLE, E_RECEIVABLE, S_PAYABLE, E_PAYABLE, S_NETTING_GROUP, E_NETTING_GROUP, F_ON_ITS_OWN_aggregate, F_TRANSACTION_LEG_aggregate, F_TRANSACTION_LEG_ordinal, F_RECEIVABLE_ordinal, F_PAYABLE_aggregate, F_PAYABLE_ordinal, F_RECEIVABLE_aggregate, ne_TRANSACTION_LEG_RECEIVABLE, ne_TRANSACTION_LEG_PAYABLE, ne_RECEIVABLE_PAYABLE⟩ := id FX
  refine own_go (T' := s₁) (g' := (mkF m 1 #[.val (.int p1), .unset, .unset, .unset, .unset, .unset] [(.int p1)])) (fun t q => XS.iloadN X0.here hx rfl (hb hby at_0) rfl q) ?_
  refine own_go (T' := s₁) (g' := (mkF m 2 #[.val (.int p1), .unset, .unset, .unset, .unset, .unset] [(.int (3 : Int32)), (.int p1)])) (fun t q => XS.iconst X0.here hx rfl (hb hby at_1) q) ?_
  refine own_go (T' := s₁) (g' := (mkF m 3 #[.val (.int p1), .unset, .unset, .unset, .unset, .unset] [(.int (p1 &&& (3 : Int32)))])) (fun t q => XS.iand X0.here hx rfl (hb hby at_2) rfl q) ?_
  obtain ⟨kk, hk0⟩ : ∃ z : Int32, z = (p1 &&& (3 : Int32)) := ⟨_, rfl⟩
  rw [← hk0]
  refine own_go (T' := s₁) (g' := (mkF m 4 #[.val (.int p1), .val (.int kk), .unset, .unset, .unset, .unset] [])) (fun t q => XS.istoreN X0.here hx rfl (hb hby at_3) rfl (l' := #[.val (.int p1), .val (.int kk), .unset, .unset, .unset, .unset]) rfl q) ?_
  refine own_go (T' := s₁) (g' := (mkF m 5 #[.val (.int p1), .val (.int kk), .unset, .unset, .unset, .unset] [(.int kk)])) (fun t q => XS.iloadN X0.here hx rfl (hb hby at_4) rfl q) ?_
  by_cases c1 : kk = (0 : Int32)
  · refine own_go (T' := s₁) (g' := (mkF m 8 #[.val (.int p1), .val (.int kk), .unset, .unset, .unset, .unset] [])) (fun t q => XS.ifNo X0.here hx rfl (hb hby at_5) rfl ((if0 _ _).trans (teq c1).2) q) ?_
    obtain ⟨T2, X2, e2, st2⟩ := getS2 X0 hx hZ hown (host := "") (Or.inl (hw _ (List.mem_of_getElem? (i := 0) rfl))) Via.refl e0 S_ON_ITS_OWN (g := (mkF m 8 #[.val (.int p1), .val (.int kk), .unset, .unset, .unset, .unset] [])) rfl (hb hby at_8)
    refine own_go (T' := T2) (g' := (mkF m 11 #[.val (.int p1), .val (.int kk), .unset, .unset, .unset, .unset] [(.ref w_ON_ITS_OWN)])) (fun t q => st2 t q) ?_
    refine own_go (T' := T2) (g' := (mkF m 12 #[.val (.int p1), .val (.int kk), .val (.ref w_ON_ITS_OWN), .unset, .unset, .unset] [])) (fun t q => XS.astoreN X2.here hx rfl (hb hby at_11) rfl rfl (l' := #[.val (.int p1), .val (.int kk), .val (.ref w_ON_ITS_OWN), .unset, .unset, .unset]) rfl q) ?_
    refine own_go (T' := T2) (g' := (mkF m 13 #[.val (.int p1), .val (.int kk), .val (.ref w_ON_ITS_OWN), .unset, .unset, .unset] [(.int (1 : Int32))])) (fun t q => XS.iconst X2.here hx rfl (hb hby at_12) q) ?_
    refine own_go (T' := T2) (g' := (mkF m 14 #[.val (.int p1), .val (.int kk), .val (.ref w_ON_ITS_OWN), .val (.int (1 : Int32)), .unset, .unset] [])) (fun t q => XS.istoreN X2.here hx rfl (hb hby at_13) rfl (l' := #[.val (.int p1), .val (.int kk), .val (.ref w_ON_ITS_OWN), .val (.int (1 : Int32)), .unset, .unset]) rfl q) ?_
    refine own_go (T' := T2) (g' := (mkF m 51 #[.val (.int p1), .val (.int kk), .val (.ref w_ON_ITS_OWN), .val (.int (1 : Int32)), .unset, .unset] [])) (fun t q => XS.goto X2.here hx rfl (pc0 := 14) (pc' := 51) rfl (hb hby at_14) (by decide) (by decide) q) ?_
    refine own_go (T' := T2) (g' := (mkF m 52 #[.val (.int p1), .val (.int kk), .val (.ref w_ON_ITS_OWN), .val (.int (1 : Int32)), .unset, .unset] [(.ref w_ON_ITS_OWN)])) (fun t q => XS.aloadN X2.here hx rfl (hb hby at_51) rfl rfl q) ?_
    obtain ⟨v3, T3, L3, X3, Q3, st3⟩ := own_callV X2 hx hZ (y := (⟨"com/example/ryudo/ryudo/model/ExposureCategory$Kind", "mayStandAlone", "()Z"⟩ : MethodName)) (b := w_ON_ITS_OWN) (argsL := []) (rest := []) hown (hw _ (List.mem_of_getElem? (i := 3) rfl)) (hw _ (List.mem_of_getElem? (i := 4) rfl)) (hw _ (List.mem_of_getElem? (i := 6) rfl)) (hw _ (List.mem_of_getElem? (i := 5) rfl)) (hw _ (List.mem_of_getElem? (i := 1) rfl)) (hw _ (List.mem_of_getElem? (i := 7) rfl)) (rm_ms_ON_ITS_OWN l Z a0 hw [] w_ON_ITS_OWN w_TRANSACTION_LEG w_TRANSACTION w_RECEIVABLE w_PAYABLE w_NETTING_GROUP h0 FX) e2 E_ON_ITS_OWN (by decide) (by decide) 0 (by decide) (by decide) (by decide) (g := (mkF m 52 #[.val (.int p1), .val (.int kk), .val (.ref w_ON_ITS_OWN), .val (.int (1 : Int32)), .unset, .unset] [(.ref w_ON_ITS_OWN)])) rfl (by rw [hml]; rfl) (lenOf (ps := []) (r := (some .boolean)) (by decide +kernel) rfl) rfl (by show 2 * 0 + _ ≤ _; exact Nat.le_of_eq rfl) (hb hby at_52)
    obtain ⟨rfl, e3, rfl⟩ := Q3
    refine own_go (T' := T3) (g' := (mkF m 55 #[.val (.int p1), .val (.int kk), .val (.ref w_ON_ITS_OWN), .val (.int (1 : Int32)), .unset, .unset] [(.int (1 : Int32))])) (fun t q => st3 t q) ?_
    refine own_go (T' := T3) (g' := (mkF m 57 #[.val (.int p1), .val (.int kk), .val (.ref w_ON_ITS_OWN), .val (.int (1 : Int32)), .val (.int (1 : Int32)), .unset] [])) (fun t q => XS.istore X3.here hx rfl (hb hby at_55) rfl (l' := #[.val (.int p1), .val (.int kk), .val (.ref w_ON_ITS_OWN), .val (.int (1 : Int32)), .val (.int (1 : Int32)), .unset]) rfl q) ?_
    refine own_go (T' := T3) (g' := (mkF m 58 #[.val (.int p1), .val (.int kk), .val (.ref w_ON_ITS_OWN), .val (.int (1 : Int32)), .val (.int (1 : Int32)), .unset] [(.ref w_ON_ITS_OWN)])) (fun t q => XS.aloadN X3.here hx rfl (hb hby at_57) rfl rfl q) ?_
    obtain ⟨v4, T4, L4, X4, Q4, st4⟩ := own_callV X3 hx hZ (y := (⟨"com/example/ryudo/ryudo/model/ExposureCategory$Kind", "aggregate", "()Lcom/example/ryudo/ryudo/model/RepoAggregate$Kind;"⟩ : MethodName)) (b := w_ON_ITS_OWN) (argsL := []) (rest := []) hown (hw _ (List.mem_of_getElem? (i := 10) rfl)) (hw _ (List.mem_of_getElem? (i := 11) rfl)) (hw _ (List.mem_of_getElem? (i := 13) rfl)) (hw _ (List.mem_of_getElem? (i := 12) rfl)) (hw _ (List.mem_of_getElem? (i := 1) rfl)) (hw _ (List.mem_of_getElem? (i := 14) rfl)) (rm_ag_ON_ITS_OWN l Z a0 hw [] w_ON_ITS_OWN w_TRANSACTION_LEG w_TRANSACTION w_RECEIVABLE w_PAYABLE w_NETTING_GROUP h0 FX) e3 E_ON_ITS_OWN (by decide) (by decide) 0 (by decide) (by decide) (by decide) (g := (mkF m 58 #[.val (.int p1), .val (.int kk), .val (.ref w_ON_ITS_OWN), .val (.int (1 : Int32)), .val (.int (1 : Int32)), .unset] [(.ref w_ON_ITS_OWN)])) rfl (by rw [hml]; rfl) (lenOf (ps := []) (r := (some (.object "com/example/ryudo/ryudo/model/RepoAggregate$Kind"))) (by decide +kernel) rfl) rfl (by show 2 * 0 + _ ≤ _; exact Nat.le_of_eq rfl) (hb hby at_58)
    obtain ⟨rfl, e4, rfl⟩ := Q4
    refine own_go (T' := T4) (g' := (mkF m 61 #[.val (.int p1), .val (.int kk), .val (.ref w_ON_ITS_OWN), .val (.int (1 : Int32)), .val (.int (1 : Int32)), .unset] [.null])) (fun t q => st4 t q) ?_
    refine own_go (T' := T4) (g' := (mkF m 64 #[.val (.int p1), .val (.int kk), .val (.ref w_ON_ITS_OWN), .val (.int (1 : Int32)), .val (.int (1 : Int32)), .unset] [])) (fun t q => XT.ifnonnullNo X4.here hx rfl (hb hby at_61) rfl q) ?_
    refine own_go (T' := T4) (g' := (mkF m 66 #[.val (.int p1), .val (.int kk), .val (.ref w_ON_ITS_OWN), .val (.int (1 : Int32)), .val (.int (1 : Int32)), .unset] [(.int (1 : Int32))])) (fun t q => XS.iload X4.here hx rfl (hb hby at_64) rfl q) ?_
    have c5 : ¬ ((1 : Int32) = (0 : Int32)) := by decide
    refine own_go (T' := T4) (g' := (mkF m 69 #[.val (.int p1), .val (.int kk), .val (.ref w_ON_ITS_OWN), .val (.int (1 : Int32)), .val (.int (1 : Int32)), .unset] [])) (fun t q => XS.ifNo X4.here hx rfl (hb hby at_66) rfl ((if0 _ _).trans (feq c5).1) q) ?_
    refine own_go (T' := T4) (g' := (mkF m 70 #[.val (.int p1), .val (.int kk), .val (.ref w_ON_ITS_OWN), .val (.int (1 : Int32)), .val (.int (1 : Int32)), .unset] [(.int (1 : Int32))])) (fun t q => XS.iconst X4.here hx rfl (hb hby at_69) q) ?_
    refine own_go (T' := T4) (g' := (mkF m 74 #[.val (.int p1), .val (.int kk), .val (.ref w_ON_ITS_OWN), .val (.int (1 : Int32)), .val (.int (1 : Int32)), .unset] [(.int (1 : Int32))])) (fun t q => XS.goto X4.here hx rfl (pc0 := 70) (pc' := 74) rfl (hb hby at_70) (by decide) (by decide) q) ?_
    refine own_go (T' := T4) (g' := (mkF m 76 #[.val (.int p1), .val (.int kk), .val (.ref w_ON_ITS_OWN), .val (.int (1 : Int32)), .val (.int (1 : Int32)), .val (.int (1 : Int32))] [])) (fun t q => XS.istore X4.here hx rfl (hb hby at_74) rfl (l' := #[.val (.int p1), .val (.int kk), .val (.ref w_ON_ITS_OWN), .val (.int (1 : Int32)), .val (.int (1 : Int32)), .val (.int (1 : Int32))]) rfl q) ?_
    refine own_go (T' := T4) (g' := (mkF m 78 #[.val (.int p1), .val (.int kk), .val (.ref w_ON_ITS_OWN), .val (.int (1 : Int32)), .val (.int (1 : Int32)), .val (.int (1 : Int32))] [(.int (1 : Int32))])) (fun t q => XS.iload X4.here hx rfl (hb hby at_76) rfl q) ?_
    refine own_go (T' := T4) (g' := (mkF m 79 #[.val (.int p1), .val (.int kk), .val (.ref w_ON_ITS_OWN), .val (.int (1 : Int32)), .val (.int (1 : Int32)), .val (.int (1 : Int32))] [(.int (1 : Int32)), (.int (1 : Int32))])) (fun t q => XS.iloadN X4.here hx rfl (hb hby at_78) rfl q) ?_
    have c6 : (1 : Int32) = (1 : Int32) := by decide
    refine own_go (T' := T4) (g' := (mkF m 82 #[.val (.int p1), .val (.int kk), .val (.ref w_ON_ITS_OWN), .val (.int (1 : Int32)), .val (.int (1 : Int32)), .val (.int (1 : Int32))] [])) (fun t q => XS.icmpNo X4.here hx rfl (hb hby at_79) rfl (teq c6).2 q) ?_
    refine own_go (T' := T4) (g' := (mkF m 84 #[.val (.int p1), .val (.int kk), .val (.ref w_ON_ITS_OWN), .val (.int (1 : Int32)), .val (.int (1 : Int32)), .val (.int (1 : Int32))] [(.int (1 : Int32))])) (fun t q => XS.iload X4.here hx rfl (hb hby at_82) rfl q) ?_
    have c7 : ¬ ((1 : Int32) = (0 : Int32)) := by decide
    refine own_go (T' := T4) (g' := (mkF m 87 #[.val (.int p1), .val (.int kk), .val (.ref w_ON_ITS_OWN), .val (.int (1 : Int32)), .val (.int (1 : Int32)), .val (.int (1 : Int32))] [])) (fun t q => XS.ifNo X4.here hx rfl (hb hby at_84) rfl ((if0 _ _).trans (feq c7).1) q) ?_
    refine own_go (T' := T4) (g' := (mkF m 88 #[.val (.int p1), .val (.int kk), .val (.ref w_ON_ITS_OWN), .val (.int (1 : Int32)), .val (.int (1 : Int32)), .val (.int (1 : Int32))] [(.int (1 : Int32))])) (fun t q => XS.iconst X4.here hx rfl (hb hby at_87) q) ?_
    refine own_go (T' := T4) (g' := (mkF m 92 #[.val (.int p1), .val (.int kk), .val (.ref w_ON_ITS_OWN), .val (.int (1 : Int32)), .val (.int (1 : Int32)), .val (.int (1 : Int32))] [(.int (1 : Int32))])) (fun t q => XS.goto X4.here hx rfl (pc0 := 88) (pc' := 92) rfl (hb hby at_88) (by decide) (by decide) q) ?_
    refine own_outN X4 hx hlk hret (t := .boolean) (by simp) (hb hby at_92) (w := (1 : Int32)) (by decide) ?_ (by decide) (by decide)
    exact ⟨rfl, Fr.nil _⟩
  · refine own_go (T' := s₁) (g' := (mkF m 17 #[.val (.int p1), .val (.int kk), .unset, .unset, .unset, .unset] [])) (fun t q => XS.ifYes X0.here hx rfl (pc0 := 5) (pc' := 17) rfl (hb hby at_5) rfl ((if0 _ _).trans (feq c1).2) (by decide) (by decide) q) ?_
    refine own_go (T' := s₁) (g' := (mkF m 18 #[.val (.int p1), .val (.int kk), .unset, .unset, .unset, .unset] [(.int kk)])) (fun t q => XS.iloadN X0.here hx rfl (hb hby at_17) rfl q) ?_
    refine own_go (T' := s₁) (g' := (mkF m 19 #[.val (.int p1), .val (.int kk), .unset, .unset, .unset, .unset] [(.int (1 : Int32)), (.int kk)])) (fun t q => XS.iconst X0.here hx rfl (hb hby at_18) q) ?_
    by_cases c8 : kk = (1 : Int32)
    · refine own_go (T' := s₁) (g' := (mkF m 22 #[.val (.int p1), .val (.int kk), .unset, .unset, .unset, .unset] [])) (fun t q => XS.icmpNo X0.here hx rfl (hb hby at_19) rfl (teq c8).2 q) ?_
      obtain ⟨T9, X9, e9, st9⟩ := getS2 X0 hx hZ hown (host := "") (Or.inl (hw _ (List.mem_of_getElem? (i := 24) rfl))) Via.refl e0 S_RECEIVABLE (g := (mkF m 22 #[.val (.int p1), .val (.int kk), .unset, .unset, .unset, .unset] [])) rfl (hb hby at_22)
      refine own_go (T' := T9) (g' := (mkF m 25 #[.val (.int p1), .val (.int kk), .unset, .unset, .unset, .unset] [(.ref w_RECEIVABLE)])) (fun t q => st9 t q) ?_
      refine own_go (T' := T9) (g' := (mkF m 26 #[.val (.int p1), .val (.int kk), .val (.ref w_RECEIVABLE), .unset, .unset, .unset] [])) (fun t q => XS.astoreN X9.here hx rfl (hb hby at_25) rfl rfl (l' := #[.val (.int p1), .val (.int kk), .val (.ref w_RECEIVABLE), .unset, .unset, .unset]) rfl q) ?_
      refine own_go (T' := T9) (g' := (mkF m 27 #[.val (.int p1), .val (.int kk), .val (.ref w_RECEIVABLE), .unset, .unset, .unset] [(.int (1 : Int32))])) (fun t q => XS.iconst X9.here hx rfl (hb hby at_26) q) ?_
      refine own_go (T' := T9) (g' := (mkF m 28 #[.val (.int p1), .val (.int kk), .val (.ref w_RECEIVABLE), .val (.int (1 : Int32)), .unset, .unset] [])) (fun t q => XS.istoreN X9.here hx rfl (hb hby at_27) rfl (l' := #[.val (.int p1), .val (.int kk), .val (.ref w_RECEIVABLE), .val (.int (1 : Int32)), .unset, .unset]) rfl q) ?_
      refine own_go (T' := T9) (g' := (mkF m 51 #[.val (.int p1), .val (.int kk), .val (.ref w_RECEIVABLE), .val (.int (1 : Int32)), .unset, .unset] [])) (fun t q => XS.goto X9.here hx rfl (pc0 := 28) (pc' := 51) rfl (hb hby at_28) (by decide) (by decide) q) ?_
      refine own_go (T' := T9) (g' := (mkF m 52 #[.val (.int p1), .val (.int kk), .val (.ref w_RECEIVABLE), .val (.int (1 : Int32)), .unset, .unset] [(.ref w_RECEIVABLE)])) (fun t q => XS.aloadN X9.here hx rfl (hb hby at_51) rfl rfl q) ?_
      obtain ⟨v10, T10, L10, X10, Q10, st10⟩ := own_callV X9 hx hZ (y := (⟨"com/example/ryudo/ryudo/model/ExposureCategory$Kind", "mayStandAlone", "()Z"⟩ : MethodName)) (b := w_RECEIVABLE) (argsL := []) (rest := []) hown (hw _ (List.mem_of_getElem? (i := 3) rfl)) (hw _ (List.mem_of_getElem? (i := 4) rfl)) (hw _ (List.mem_of_getElem? (i := 6) rfl)) (hw _ (List.mem_of_getElem? (i := 5) rfl)) (hw _ (List.mem_of_getElem? (i := 1) rfl)) (hw _ (List.mem_of_getElem? (i := 7) rfl)) (rm_ms_RECEIVABLE l Z a0 hw [] w_ON_ITS_OWN w_TRANSACTION_LEG w_TRANSACTION w_RECEIVABLE w_PAYABLE w_NETTING_GROUP h0 FX) e9 E_RECEIVABLE (by decide) (by decide) 0 (by decide) (by decide) (by decide) (g := (mkF m 52 #[.val (.int p1), .val (.int kk), .val (.ref w_RECEIVABLE), .val (.int (1 : Int32)), .unset, .unset] [(.ref w_RECEIVABLE)])) rfl (by rw [hml]; rfl) (lenOf (ps := []) (r := (some .boolean)) (by decide +kernel) rfl) rfl (by show 2 * 0 + _ ≤ _; exact Nat.le_of_eq rfl) (hb hby at_52)
      obtain ⟨rfl, e10, rfl⟩ := Q10
      refine own_go (T' := T10) (g' := (mkF m 55 #[.val (.int p1), .val (.int kk), .val (.ref w_RECEIVABLE), .val (.int (1 : Int32)), .unset, .unset] [(.int (1 : Int32))])) (fun t q => st10 t q) ?_
      refine own_go (T' := T10) (g' := (mkF m 57 #[.val (.int p1), .val (.int kk), .val (.ref w_RECEIVABLE), .val (.int (1 : Int32)), .val (.int (1 : Int32)), .unset] [])) (fun t q => XS.istore X10.here hx rfl (hb hby at_55) rfl (l' := #[.val (.int p1), .val (.int kk), .val (.ref w_RECEIVABLE), .val (.int (1 : Int32)), .val (.int (1 : Int32)), .unset]) rfl q) ?_
      refine own_go (T' := T10) (g' := (mkF m 58 #[.val (.int p1), .val (.int kk), .val (.ref w_RECEIVABLE), .val (.int (1 : Int32)), .val (.int (1 : Int32)), .unset] [(.ref w_RECEIVABLE)])) (fun t q => XS.aloadN X10.here hx rfl (hb hby at_57) rfl rfl q) ?_
      obtain ⟨v11, T11, L11, X11, Q11, st11⟩ := own_callV X10 hx hZ (y := (⟨"com/example/ryudo/ryudo/model/ExposureCategory$Kind", "aggregate", "()Lcom/example/ryudo/ryudo/model/RepoAggregate$Kind;"⟩ : MethodName)) (b := w_RECEIVABLE) (argsL := []) (rest := []) hown (hw _ (List.mem_of_getElem? (i := 10) rfl)) (hw _ (List.mem_of_getElem? (i := 11) rfl)) (hw _ (List.mem_of_getElem? (i := 13) rfl)) (hw _ (List.mem_of_getElem? (i := 12) rfl)) (hw _ (List.mem_of_getElem? (i := 1) rfl)) (hw _ (List.mem_of_getElem? (i := 14) rfl)) (rm_ag_RECEIVABLE l Z a0 hw [] w_ON_ITS_OWN w_TRANSACTION_LEG w_TRANSACTION w_RECEIVABLE w_PAYABLE w_NETTING_GROUP h0 FX) e10 E_RECEIVABLE (by decide) (by decide) 0 (by decide) (by decide) (by decide) (g := (mkF m 58 #[.val (.int p1), .val (.int kk), .val (.ref w_RECEIVABLE), .val (.int (1 : Int32)), .val (.int (1 : Int32)), .unset] [(.ref w_RECEIVABLE)])) rfl (by rw [hml]; rfl) (lenOf (ps := []) (r := (some (.object "com/example/ryudo/ryudo/model/RepoAggregate$Kind"))) (by decide +kernel) rfl) rfl (by show 2 * 0 + _ ≤ _; exact Nat.le_of_eq rfl) (hb hby at_58)
      obtain ⟨rfl, e11, rfl⟩ := Q11
      refine own_go (T' := T11) (g' := (mkF m 61 #[.val (.int p1), .val (.int kk), .val (.ref w_RECEIVABLE), .val (.int (1 : Int32)), .val (.int (1 : Int32)), .unset] [(.ref w_NETTING_GROUP)])) (fun t q => st11 t q) ?_
      refine own_go (T' := T11) (g' := (mkF m 69 #[.val (.int p1), .val (.int kk), .val (.ref w_RECEIVABLE), .val (.int (1 : Int32)), .val (.int (1 : Int32)), .unset] [])) (fun t q => XT.ifnonnullYes X11.here hx rfl (pc0 := 61) (pc' := 69) rfl (hb hby at_61) rfl (by decide) (by decide) q) ?_
      refine own_go (T' := T11) (g' := (mkF m 70 #[.val (.int p1), .val (.int kk), .val (.ref w_RECEIVABLE), .val (.int (1 : Int32)), .val (.int (1 : Int32)), .unset] [(.int (1 : Int32))])) (fun t q => XS.iconst X11.here hx rfl (hb hby at_69) q) ?_
      refine own_go (T' := T11) (g' := (mkF m 74 #[.val (.int p1), .val (.int kk), .val (.ref w_RECEIVABLE), .val (.int (1 : Int32)), .val (.int (1 : Int32)), .unset] [(.int (1 : Int32))])) (fun t q => XS.goto X11.here hx rfl (pc0 := 70) (pc' := 74) rfl (hb hby at_70) (by decide) (by decide) q) ?_
      refine own_go (T' := T11) (g' := (mkF m 76 #[.val (.int p1), .val (.int kk), .val (.ref w_RECEIVABLE), .val (.int (1 : Int32)), .val (.int (1 : Int32)), .val (.int (1 : Int32))] [])) (fun t q => XS.istore X11.here hx rfl (hb hby at_74) rfl (l' := #[.val (.int p1), .val (.int kk), .val (.ref w_RECEIVABLE), .val (.int (1 : Int32)), .val (.int (1 : Int32)), .val (.int (1 : Int32))]) rfl q) ?_
      refine own_go (T' := T11) (g' := (mkF m 78 #[.val (.int p1), .val (.int kk), .val (.ref w_RECEIVABLE), .val (.int (1 : Int32)), .val (.int (1 : Int32)), .val (.int (1 : Int32))] [(.int (1 : Int32))])) (fun t q => XS.iload X11.here hx rfl (hb hby at_76) rfl q) ?_
      refine own_go (T' := T11) (g' := (mkF m 79 #[.val (.int p1), .val (.int kk), .val (.ref w_RECEIVABLE), .val (.int (1 : Int32)), .val (.int (1 : Int32)), .val (.int (1 : Int32))] [(.int (1 : Int32)), (.int (1 : Int32))])) (fun t q => XS.iloadN X11.here hx rfl (hb hby at_78) rfl q) ?_
      have c12 : (1 : Int32) = (1 : Int32) := by decide
      refine own_go (T' := T11) (g' := (mkF m 82 #[.val (.int p1), .val (.int kk), .val (.ref w_RECEIVABLE), .val (.int (1 : Int32)), .val (.int (1 : Int32)), .val (.int (1 : Int32))] [])) (fun t q => XS.icmpNo X11.here hx rfl (hb hby at_79) rfl (teq c12).2 q) ?_
      refine own_go (T' := T11) (g' := (mkF m 84 #[.val (.int p1), .val (.int kk), .val (.ref w_RECEIVABLE), .val (.int (1 : Int32)), .val (.int (1 : Int32)), .val (.int (1 : Int32))] [(.int (1 : Int32))])) (fun t q => XS.iload X11.here hx rfl (hb hby at_82) rfl q) ?_
      have c13 : ¬ ((1 : Int32) = (0 : Int32)) := by decide
      refine own_go (T' := T11) (g' := (mkF m 87 #[.val (.int p1), .val (.int kk), .val (.ref w_RECEIVABLE), .val (.int (1 : Int32)), .val (.int (1 : Int32)), .val (.int (1 : Int32))] [])) (fun t q => XS.ifNo X11.here hx rfl (hb hby at_84) rfl ((if0 _ _).trans (feq c13).1) q) ?_
      refine own_go (T' := T11) (g' := (mkF m 88 #[.val (.int p1), .val (.int kk), .val (.ref w_RECEIVABLE), .val (.int (1 : Int32)), .val (.int (1 : Int32)), .val (.int (1 : Int32))] [(.int (1 : Int32))])) (fun t q => XS.iconst X11.here hx rfl (hb hby at_87) q) ?_
      refine own_go (T' := T11) (g' := (mkF m 92 #[.val (.int p1), .val (.int kk), .val (.ref w_RECEIVABLE), .val (.int (1 : Int32)), .val (.int (1 : Int32)), .val (.int (1 : Int32))] [(.int (1 : Int32))])) (fun t q => XS.goto X11.here hx rfl (pc0 := 88) (pc' := 92) rfl (hb hby at_88) (by decide) (by decide) q) ?_
      refine own_outN X11 hx hlk hret (t := .boolean) (by simp) (hb hby at_92) (w := (1 : Int32)) (by decide) ?_ (by decide) (by decide)
      exact ⟨rfl, Fr.nil _⟩
    · refine own_go (T' := s₁) (g' := (mkF m 31 #[.val (.int p1), .val (.int kk), .unset, .unset, .unset, .unset] [])) (fun t q => XS.icmpYes X0.here hx rfl (pc0 := 19) (pc' := 31) rfl (hb hby at_19) rfl (feq c8).2 (by decide) (by decide) q) ?_
      refine own_go (T' := s₁) (g' := (mkF m 32 #[.val (.int p1), .val (.int kk), .unset, .unset, .unset, .unset] [(.int kk)])) (fun t q => XS.iloadN X0.here hx rfl (hb hby at_31) rfl q) ?_
      refine own_go (T' := s₁) (g' := (mkF m 33 #[.val (.int p1), .val (.int kk), .unset, .unset, .unset, .unset] [(.int (2 : Int32)), (.int kk)])) (fun t q => XS.iconst X0.here hx rfl (hb hby at_32) q) ?_
      by_cases c14 : kk = (2 : Int32)
      · refine own_go (T' := s₁) (g' := (mkF m 36 #[.val (.int p1), .val (.int kk), .unset, .unset, .unset, .unset] [])) (fun t q => XS.icmpNo X0.here hx rfl (hb hby at_33) rfl (teq c14).2 q) ?_
        obtain ⟨T15, X15, e15, st15⟩ := getS2 X0 hx hZ hown (host := "") (Or.inl (hw _ (List.mem_of_getElem? (i := 21) rfl))) Via.refl e0 S_PAYABLE (g := (mkF m 36 #[.val (.int p1), .val (.int kk), .unset, .unset, .unset, .unset] [])) rfl (hb hby at_36)
        refine own_go (T' := T15) (g' := (mkF m 39 #[.val (.int p1), .val (.int kk), .unset, .unset, .unset, .unset] [(.ref w_PAYABLE)])) (fun t q => st15 t q) ?_
        refine own_go (T' := T15) (g' := (mkF m 40 #[.val (.int p1), .val (.int kk), .val (.ref w_PAYABLE), .unset, .unset, .unset] [])) (fun t q => XS.astoreN X15.here hx rfl (hb hby at_39) rfl rfl (l' := #[.val (.int p1), .val (.int kk), .val (.ref w_PAYABLE), .unset, .unset, .unset]) rfl q) ?_
        refine own_go (T' := T15) (g' := (mkF m 41 #[.val (.int p1), .val (.int kk), .val (.ref w_PAYABLE), .unset, .unset, .unset] [(.int (0 : Int32))])) (fun t q => XS.iconst X15.here hx rfl (hb hby at_40) q) ?_
        refine own_go (T' := T15) (g' := (mkF m 42 #[.val (.int p1), .val (.int kk), .val (.ref w_PAYABLE), .val (.int (0 : Int32)), .unset, .unset] [])) (fun t q => XS.istoreN X15.here hx rfl (hb hby at_41) rfl (l' := #[.val (.int p1), .val (.int kk), .val (.ref w_PAYABLE), .val (.int (0 : Int32)), .unset, .unset]) rfl q) ?_
        refine own_go (T' := T15) (g' := (mkF m 51 #[.val (.int p1), .val (.int kk), .val (.ref w_PAYABLE), .val (.int (0 : Int32)), .unset, .unset] [])) (fun t q => XS.goto X15.here hx rfl (pc0 := 42) (pc' := 51) rfl (hb hby at_42) (by decide) (by decide) q) ?_
        refine own_go (T' := T15) (g' := (mkF m 52 #[.val (.int p1), .val (.int kk), .val (.ref w_PAYABLE), .val (.int (0 : Int32)), .unset, .unset] [(.ref w_PAYABLE)])) (fun t q => XS.aloadN X15.here hx rfl (hb hby at_51) rfl rfl q) ?_
        obtain ⟨v16, T16, L16, X16, Q16, st16⟩ := own_callV X15 hx hZ (y := (⟨"com/example/ryudo/ryudo/model/ExposureCategory$Kind", "mayStandAlone", "()Z"⟩ : MethodName)) (b := w_PAYABLE) (argsL := []) (rest := []) hown (hw _ (List.mem_of_getElem? (i := 3) rfl)) (hw _ (List.mem_of_getElem? (i := 4) rfl)) (hw _ (List.mem_of_getElem? (i := 6) rfl)) (hw _ (List.mem_of_getElem? (i := 5) rfl)) (hw _ (List.mem_of_getElem? (i := 1) rfl)) (hw _ (List.mem_of_getElem? (i := 7) rfl)) (rm_ms_PAYABLE l Z a0 hw [] w_ON_ITS_OWN w_TRANSACTION_LEG w_TRANSACTION w_RECEIVABLE w_PAYABLE w_NETTING_GROUP h0 FX) e15 E_PAYABLE (by decide) (by decide) 0 (by decide) (by decide) (by decide) (g := (mkF m 52 #[.val (.int p1), .val (.int kk), .val (.ref w_PAYABLE), .val (.int (0 : Int32)), .unset, .unset] [(.ref w_PAYABLE)])) rfl (by rw [hml]; rfl) (lenOf (ps := []) (r := (some .boolean)) (by decide +kernel) rfl) rfl (by show 2 * 0 + _ ≤ _; exact Nat.le_of_eq rfl) (hb hby at_52)
        obtain ⟨rfl, e16, rfl⟩ := Q16
        refine own_go (T' := T16) (g' := (mkF m 55 #[.val (.int p1), .val (.int kk), .val (.ref w_PAYABLE), .val (.int (0 : Int32)), .unset, .unset] [(.int (0 : Int32))])) (fun t q => st16 t q) ?_
        refine own_go (T' := T16) (g' := (mkF m 57 #[.val (.int p1), .val (.int kk), .val (.ref w_PAYABLE), .val (.int (0 : Int32)), .val (.int (0 : Int32)), .unset] [])) (fun t q => XS.istore X16.here hx rfl (hb hby at_55) rfl (l' := #[.val (.int p1), .val (.int kk), .val (.ref w_PAYABLE), .val (.int (0 : Int32)), .val (.int (0 : Int32)), .unset]) rfl q) ?_
        refine own_go (T' := T16) (g' := (mkF m 58 #[.val (.int p1), .val (.int kk), .val (.ref w_PAYABLE), .val (.int (0 : Int32)), .val (.int (0 : Int32)), .unset] [(.ref w_PAYABLE)])) (fun t q => XS.aloadN X16.here hx rfl (hb hby at_57) rfl rfl q) ?_
        obtain ⟨v17, T17, L17, X17, Q17, st17⟩ := own_callV X16 hx hZ (y := (⟨"com/example/ryudo/ryudo/model/ExposureCategory$Kind", "aggregate", "()Lcom/example/ryudo/ryudo/model/RepoAggregate$Kind;"⟩ : MethodName)) (b := w_PAYABLE) (argsL := []) (rest := []) hown (hw _ (List.mem_of_getElem? (i := 10) rfl)) (hw _ (List.mem_of_getElem? (i := 11) rfl)) (hw _ (List.mem_of_getElem? (i := 13) rfl)) (hw _ (List.mem_of_getElem? (i := 12) rfl)) (hw _ (List.mem_of_getElem? (i := 1) rfl)) (hw _ (List.mem_of_getElem? (i := 14) rfl)) (rm_ag_PAYABLE l Z a0 hw [] w_ON_ITS_OWN w_TRANSACTION_LEG w_TRANSACTION w_RECEIVABLE w_PAYABLE w_NETTING_GROUP h0 FX) e16 E_PAYABLE (by decide) (by decide) 0 (by decide) (by decide) (by decide) (g := (mkF m 58 #[.val (.int p1), .val (.int kk), .val (.ref w_PAYABLE), .val (.int (0 : Int32)), .val (.int (0 : Int32)), .unset] [(.ref w_PAYABLE)])) rfl (by rw [hml]; rfl) (lenOf (ps := []) (r := (some (.object "com/example/ryudo/ryudo/model/RepoAggregate$Kind"))) (by decide +kernel) rfl) rfl (by show 2 * 0 + _ ≤ _; exact Nat.le_of_eq rfl) (hb hby at_58)
        obtain ⟨rfl, e17, rfl⟩ := Q17
        refine own_go (T' := T17) (g' := (mkF m 61 #[.val (.int p1), .val (.int kk), .val (.ref w_PAYABLE), .val (.int (0 : Int32)), .val (.int (0 : Int32)), .unset] [(.ref w_NETTING_GROUP)])) (fun t q => st17 t q) ?_
        refine own_go (T' := T17) (g' := (mkF m 69 #[.val (.int p1), .val (.int kk), .val (.ref w_PAYABLE), .val (.int (0 : Int32)), .val (.int (0 : Int32)), .unset] [])) (fun t q => XT.ifnonnullYes X17.here hx rfl (pc0 := 61) (pc' := 69) rfl (hb hby at_61) rfl (by decide) (by decide) q) ?_
        refine own_go (T' := T17) (g' := (mkF m 70 #[.val (.int p1), .val (.int kk), .val (.ref w_PAYABLE), .val (.int (0 : Int32)), .val (.int (0 : Int32)), .unset] [(.int (1 : Int32))])) (fun t q => XS.iconst X17.here hx rfl (hb hby at_69) q) ?_
        refine own_go (T' := T17) (g' := (mkF m 74 #[.val (.int p1), .val (.int kk), .val (.ref w_PAYABLE), .val (.int (0 : Int32)), .val (.int (0 : Int32)), .unset] [(.int (1 : Int32))])) (fun t q => XS.goto X17.here hx rfl (pc0 := 70) (pc' := 74) rfl (hb hby at_70) (by decide) (by decide) q) ?_
        refine own_go (T' := T17) (g' := (mkF m 76 #[.val (.int p1), .val (.int kk), .val (.ref w_PAYABLE), .val (.int (0 : Int32)), .val (.int (0 : Int32)), .val (.int (1 : Int32))] [])) (fun t q => XS.istore X17.here hx rfl (hb hby at_74) rfl (l' := #[.val (.int p1), .val (.int kk), .val (.ref w_PAYABLE), .val (.int (0 : Int32)), .val (.int (0 : Int32)), .val (.int (1 : Int32))]) rfl q) ?_
        refine own_go (T' := T17) (g' := (mkF m 78 #[.val (.int p1), .val (.int kk), .val (.ref w_PAYABLE), .val (.int (0 : Int32)), .val (.int (0 : Int32)), .val (.int (1 : Int32))] [(.int (0 : Int32))])) (fun t q => XS.iload X17.here hx rfl (hb hby at_76) rfl q) ?_
        refine own_go (T' := T17) (g' := (mkF m 79 #[.val (.int p1), .val (.int kk), .val (.ref w_PAYABLE), .val (.int (0 : Int32)), .val (.int (0 : Int32)), .val (.int (1 : Int32))] [(.int (0 : Int32)), (.int (0 : Int32))])) (fun t q => XS.iloadN X17.here hx rfl (hb hby at_78) rfl q) ?_
        have c18 : (0 : Int32) = (0 : Int32) := by decide
        refine own_go (T' := T17) (g' := (mkF m 82 #[.val (.int p1), .val (.int kk), .val (.ref w_PAYABLE), .val (.int (0 : Int32)), .val (.int (0 : Int32)), .val (.int (1 : Int32))] [])) (fun t q => XS.icmpNo X17.here hx rfl (hb hby at_79) rfl (teq c18).2 q) ?_
        refine own_go (T' := T17) (g' := (mkF m 84 #[.val (.int p1), .val (.int kk), .val (.ref w_PAYABLE), .val (.int (0 : Int32)), .val (.int (0 : Int32)), .val (.int (1 : Int32))] [(.int (1 : Int32))])) (fun t q => XS.iload X17.here hx rfl (hb hby at_82) rfl q) ?_
        have c19 : ¬ ((1 : Int32) = (0 : Int32)) := by decide
        refine own_go (T' := T17) (g' := (mkF m 87 #[.val (.int p1), .val (.int kk), .val (.ref w_PAYABLE), .val (.int (0 : Int32)), .val (.int (0 : Int32)), .val (.int (1 : Int32))] [])) (fun t q => XS.ifNo X17.here hx rfl (hb hby at_84) rfl ((if0 _ _).trans (feq c19).1) q) ?_
        refine own_go (T' := T17) (g' := (mkF m 88 #[.val (.int p1), .val (.int kk), .val (.ref w_PAYABLE), .val (.int (0 : Int32)), .val (.int (0 : Int32)), .val (.int (1 : Int32))] [(.int (1 : Int32))])) (fun t q => XS.iconst X17.here hx rfl (hb hby at_87) q) ?_
        refine own_go (T' := T17) (g' := (mkF m 92 #[.val (.int p1), .val (.int kk), .val (.ref w_PAYABLE), .val (.int (0 : Int32)), .val (.int (0 : Int32)), .val (.int (1 : Int32))] [(.int (1 : Int32))])) (fun t q => XS.goto X17.here hx rfl (pc0 := 88) (pc' := 92) rfl (hb hby at_88) (by decide) (by decide) q) ?_
        refine own_outN X17 hx hlk hret (t := .boolean) (by simp) (hb hby at_92) (w := (1 : Int32)) (by decide) ?_ (by decide) (by decide)
        exact ⟨rfl, Fr.nil _⟩
      · refine own_go (T' := s₁) (g' := (mkF m 45 #[.val (.int p1), .val (.int kk), .unset, .unset, .unset, .unset] [])) (fun t q => XS.icmpYes X0.here hx rfl (pc0 := 33) (pc' := 45) rfl (hb hby at_33) rfl (feq c14).2 (by decide) (by decide) q) ?_
        obtain ⟨T20, X20, e20, st20⟩ := getS2 X0 hx hZ hown (host := "") (Or.inl (hw _ (List.mem_of_getElem? (i := 15) rfl))) Via.refl e0 S_TRANSACTION_LEG (g := (mkF m 45 #[.val (.int p1), .val (.int kk), .unset, .unset, .unset, .unset] [])) rfl (hb hby at_45)
        refine own_go (T' := T20) (g' := (mkF m 48 #[.val (.int p1), .val (.int kk), .unset, .unset, .unset, .unset] [(.ref w_TRANSACTION_LEG)])) (fun t q => st20 t q) ?_
        refine own_go (T' := T20) (g' := (mkF m 49 #[.val (.int p1), .val (.int kk), .val (.ref w_TRANSACTION_LEG), .unset, .unset, .unset] [])) (fun t q => XS.astoreN X20.here hx rfl (hb hby at_48) rfl rfl (l' := #[.val (.int p1), .val (.int kk), .val (.ref w_TRANSACTION_LEG), .unset, .unset, .unset]) rfl q) ?_
        refine own_go (T' := T20) (g' := (mkF m 50 #[.val (.int p1), .val (.int kk), .val (.ref w_TRANSACTION_LEG), .unset, .unset, .unset] [(.int (0 : Int32))])) (fun t q => XS.iconst X20.here hx rfl (hb hby at_49) q) ?_
        refine own_go (T' := T20) (g' := (mkF m 51 #[.val (.int p1), .val (.int kk), .val (.ref w_TRANSACTION_LEG), .val (.int (0 : Int32)), .unset, .unset] [])) (fun t q => XS.istoreN X20.here hx rfl (hb hby at_50) rfl (l' := #[.val (.int p1), .val (.int kk), .val (.ref w_TRANSACTION_LEG), .val (.int (0 : Int32)), .unset, .unset]) rfl q) ?_
        refine own_go (T' := T20) (g' := (mkF m 52 #[.val (.int p1), .val (.int kk), .val (.ref w_TRANSACTION_LEG), .val (.int (0 : Int32)), .unset, .unset] [(.ref w_TRANSACTION_LEG)])) (fun t q => XS.aloadN X20.here hx rfl (hb hby at_51) rfl rfl q) ?_
        obtain ⟨v21, T21, L21, X21, Q21, st21⟩ := own_callV X20 hx hZ (y := (⟨"com/example/ryudo/ryudo/model/ExposureCategory$Kind", "mayStandAlone", "()Z"⟩ : MethodName)) (b := w_TRANSACTION_LEG) (argsL := []) (rest := []) hown (hw _ (List.mem_of_getElem? (i := 3) rfl)) (hw _ (List.mem_of_getElem? (i := 4) rfl)) (hw _ (List.mem_of_getElem? (i := 6) rfl)) (hw _ (List.mem_of_getElem? (i := 5) rfl)) (hw _ (List.mem_of_getElem? (i := 1) rfl)) (hw _ (List.mem_of_getElem? (i := 7) rfl)) (rm_ms_TRANSACTION_LEG l Z a0 hw [] w_ON_ITS_OWN w_TRANSACTION_LEG w_TRANSACTION w_RECEIVABLE w_PAYABLE w_NETTING_GROUP h0 FX) e20 E_TRANSACTION_LEG (by decide) (by decide) 0 (by decide) (by decide) (by decide) (g := (mkF m 52 #[.val (.int p1), .val (.int kk), .val (.ref w_TRANSACTION_LEG), .val (.int (0 : Int32)), .unset, .unset] [(.ref w_TRANSACTION_LEG)])) rfl (by rw [hml]; rfl) (lenOf (ps := []) (r := (some .boolean)) (by decide +kernel) rfl) rfl (by show 2 * 0 + _ ≤ _; exact Nat.le_of_eq rfl) (hb hby at_52)
        obtain ⟨rfl, e21, rfl⟩ := Q21
        refine own_go (T' := T21) (g' := (mkF m 55 #[.val (.int p1), .val (.int kk), .val (.ref w_TRANSACTION_LEG), .val (.int (0 : Int32)), .unset, .unset] [(.int (0 : Int32))])) (fun t q => st21 t q) ?_
        refine own_go (T' := T21) (g' := (mkF m 57 #[.val (.int p1), .val (.int kk), .val (.ref w_TRANSACTION_LEG), .val (.int (0 : Int32)), .val (.int (0 : Int32)), .unset] [])) (fun t q => XS.istore X21.here hx rfl (hb hby at_55) rfl (l' := #[.val (.int p1), .val (.int kk), .val (.ref w_TRANSACTION_LEG), .val (.int (0 : Int32)), .val (.int (0 : Int32)), .unset]) rfl q) ?_
        refine own_go (T' := T21) (g' := (mkF m 58 #[.val (.int p1), .val (.int kk), .val (.ref w_TRANSACTION_LEG), .val (.int (0 : Int32)), .val (.int (0 : Int32)), .unset] [(.ref w_TRANSACTION_LEG)])) (fun t q => XS.aloadN X21.here hx rfl (hb hby at_57) rfl rfl q) ?_
        obtain ⟨v22, T22, L22, X22, Q22, st22⟩ := own_callV X21 hx hZ (y := (⟨"com/example/ryudo/ryudo/model/ExposureCategory$Kind", "aggregate", "()Lcom/example/ryudo/ryudo/model/RepoAggregate$Kind;"⟩ : MethodName)) (b := w_TRANSACTION_LEG) (argsL := []) (rest := []) hown (hw _ (List.mem_of_getElem? (i := 10) rfl)) (hw _ (List.mem_of_getElem? (i := 11) rfl)) (hw _ (List.mem_of_getElem? (i := 13) rfl)) (hw _ (List.mem_of_getElem? (i := 12) rfl)) (hw _ (List.mem_of_getElem? (i := 1) rfl)) (hw _ (List.mem_of_getElem? (i := 14) rfl)) (rm_ag_TRANSACTION_LEG l Z a0 hw [] w_ON_ITS_OWN w_TRANSACTION_LEG w_TRANSACTION w_RECEIVABLE w_PAYABLE w_NETTING_GROUP h0 FX) e21 E_TRANSACTION_LEG (by decide) (by decide) 0 (by decide) (by decide) (by decide) (g := (mkF m 58 #[.val (.int p1), .val (.int kk), .val (.ref w_TRANSACTION_LEG), .val (.int (0 : Int32)), .val (.int (0 : Int32)), .unset] [(.ref w_TRANSACTION_LEG)])) rfl (by rw [hml]; rfl) (lenOf (ps := []) (r := (some (.object "com/example/ryudo/ryudo/model/RepoAggregate$Kind"))) (by decide +kernel) rfl) rfl (by show 2 * 0 + _ ≤ _; exact Nat.le_of_eq rfl) (hb hby at_58)
        obtain ⟨rfl, e22, rfl⟩ := Q22
        refine own_go (T' := T22) (g' := (mkF m 61 #[.val (.int p1), .val (.int kk), .val (.ref w_TRANSACTION_LEG), .val (.int (0 : Int32)), .val (.int (0 : Int32)), .unset] [(.ref w_TRANSACTION)])) (fun t q => st22 t q) ?_
        refine own_go (T' := T22) (g' := (mkF m 69 #[.val (.int p1), .val (.int kk), .val (.ref w_TRANSACTION_LEG), .val (.int (0 : Int32)), .val (.int (0 : Int32)), .unset] [])) (fun t q => XT.ifnonnullYes X22.here hx rfl (pc0 := 61) (pc' := 69) rfl (hb hby at_61) rfl (by decide) (by decide) q) ?_
        refine own_go (T' := T22) (g' := (mkF m 70 #[.val (.int p1), .val (.int kk), .val (.ref w_TRANSACTION_LEG), .val (.int (0 : Int32)), .val (.int (0 : Int32)), .unset] [(.int (1 : Int32))])) (fun t q => XS.iconst X22.here hx rfl (hb hby at_69) q) ?_
        refine own_go (T' := T22) (g' := (mkF m 74 #[.val (.int p1), .val (.int kk), .val (.ref w_TRANSACTION_LEG), .val (.int (0 : Int32)), .val (.int (0 : Int32)), .unset] [(.int (1 : Int32))])) (fun t q => XS.goto X22.here hx rfl (pc0 := 70) (pc' := 74) rfl (hb hby at_70) (by decide) (by decide) q) ?_
        refine own_go (T' := T22) (g' := (mkF m 76 #[.val (.int p1), .val (.int kk), .val (.ref w_TRANSACTION_LEG), .val (.int (0 : Int32)), .val (.int (0 : Int32)), .val (.int (1 : Int32))] [])) (fun t q => XS.istore X22.here hx rfl (hb hby at_74) rfl (l' := #[.val (.int p1), .val (.int kk), .val (.ref w_TRANSACTION_LEG), .val (.int (0 : Int32)), .val (.int (0 : Int32)), .val (.int (1 : Int32))]) rfl q) ?_
        refine own_go (T' := T22) (g' := (mkF m 78 #[.val (.int p1), .val (.int kk), .val (.ref w_TRANSACTION_LEG), .val (.int (0 : Int32)), .val (.int (0 : Int32)), .val (.int (1 : Int32))] [(.int (0 : Int32))])) (fun t q => XS.iload X22.here hx rfl (hb hby at_76) rfl q) ?_
        refine own_go (T' := T22) (g' := (mkF m 79 #[.val (.int p1), .val (.int kk), .val (.ref w_TRANSACTION_LEG), .val (.int (0 : Int32)), .val (.int (0 : Int32)), .val (.int (1 : Int32))] [(.int (0 : Int32)), (.int (0 : Int32))])) (fun t q => XS.iloadN X22.here hx rfl (hb hby at_78) rfl q) ?_
        have c23 : (0 : Int32) = (0 : Int32) := by decide
        refine own_go (T' := T22) (g' := (mkF m 82 #[.val (.int p1), .val (.int kk), .val (.ref w_TRANSACTION_LEG), .val (.int (0 : Int32)), .val (.int (0 : Int32)), .val (.int (1 : Int32))] [])) (fun t q => XS.icmpNo X22.here hx rfl (hb hby at_79) rfl (teq c23).2 q) ?_
        refine own_go (T' := T22) (g' := (mkF m 84 #[.val (.int p1), .val (.int kk), .val (.ref w_TRANSACTION_LEG), .val (.int (0 : Int32)), .val (.int (0 : Int32)), .val (.int (1 : Int32))] [(.int (1 : Int32))])) (fun t q => XS.iload X22.here hx rfl (hb hby at_82) rfl q) ?_
        have c24 : ¬ ((1 : Int32) = (0 : Int32)) := by decide
        refine own_go (T' := T22) (g' := (mkF m 87 #[.val (.int p1), .val (.int kk), .val (.ref w_TRANSACTION_LEG), .val (.int (0 : Int32)), .val (.int (0 : Int32)), .val (.int (1 : Int32))] [])) (fun t q => XS.ifNo X22.here hx rfl (hb hby at_84) rfl ((if0 _ _).trans (feq c24).1) q) ?_
        refine own_go (T' := T22) (g' := (mkF m 88 #[.val (.int p1), .val (.int kk), .val (.ref w_TRANSACTION_LEG), .val (.int (0 : Int32)), .val (.int (0 : Int32)), .val (.int (1 : Int32))] [(.int (1 : Int32))])) (fun t q => XS.iconst X22.here hx rfl (hb hby at_87) q) ?_
        refine own_go (T' := T22) (g' := (mkF m 92 #[.val (.int p1), .val (.int kk), .val (.ref w_TRANSACTION_LEG), .val (.int (0 : Int32)), .val (.int (0 : Int32)), .val (.int (1 : Int32))] [(.int (1 : Int32))])) (fun t q => XS.goto X22.here hx rfl (pc0 := 88) (pc' := 92) rfl (hb hby at_88) (by decide) (by decide) q) ?_
        refine own_outN X22 hx hlk hret (t := .boolean) (by simp) (hb hby at_92) (w := (1 : Int32)) (by decide) ?_ (by decide) (by decide)
        exact ⟨rfl, Fr.nil _⟩
set_option maxRecDepth 65536 in
set_option maxHeartbeats 40000000 in
theorem comes_1 {Post : Tables → Env → Array Value → State → Outcome → State → Prop} (hpost : ∀ tb e args s v u, (limb_1_1.after args s (.returned v) u = true ∧ limb_1_2.after args s (.returned v) u = true ∧ True) → FrameEnd s (.returned v) u (Jvm.fieldLocs frame_1_writes args s ++ Jvm.arrayLocs frame_1_arrays args s ++ Jvm.staticLocs frame_1_statics s) 0 0 → Post tb e args s (.returned v) u) :
    ArmFor flags0 classFile x code maxLocals ret World_1 tables_1 room_1 Calls_1 rest_1 Pre_1 Post := by
  intro l hfl _ _ p e ha hc hk s m args below hf hA hF happ hP
  obtain ⟨hcalls, hrest, hpre⟩ := hP
  obtain ⟨-, -, -, hnamed, -, -, -, hat⟩ := (Spec.applies_iff hf).mp happ
  obtain ⟨hg, hn⟩ := and_e (Cond.before_iff.mp (show (Jvm.Cond.and given_1 narrow_1).before args s = true from hpre))
  obtain ⟨h1, hg⟩ := and_e hg
  have g0 := hg
  obtain ⟨w0, rfl⟩ : ∃ w0 : Value, args = #[w0] := by
    have hs : args.size = 1 := by simpa [Cond.value, given_1] using h1
    obtain ⟨L⟩ := args
    match L, hs with
    | [w0], _ => exact ⟨w0, rfl⟩
  have hw := fun d (hd : d ∈ tables_1) => atoms_spec (ws := Jvm.Cond.code x code maxLocals ret :: tables_1) hat d (List.mem_cons_of_mem _ hd)
  have hfit : Fit s := fun {y c} hc i hi => by
    obtain ⟨ha, rfl⟩ := Array.getElem?_eq_some_iff.mp hc
    have q := List.all_eq_true.mp ((Array.all_eq_true_iff_forall_mem.mp hF) _ (Array.getElem_mem ha)) i (List.mem_range.mpr hi)
    simpa [Array.getElem?_eq_getElem hi] using q
  obtain ⟨i0, b0⟩ := is_v g0
  obtain rfl : w0 = (.int i0) := Option.some.inj b0
  obtain ⟨n0, hn⟩ := and_e hn
  obtain ⟨n1, hn⟩ := and_e hn
  obtain ⟨n2, hn⟩ := and_e hn
  obtain ⟨n3, hn⟩ := and_e hn
  obtain ⟨n4, hn⟩ := and_e hn
  obtain ⟨n5, hn⟩ := and_e hn
  obtain ⟨n6, hn⟩ := and_e hn
  obtain ⟨n7, hn⟩ := and_e hn
  obtain ⟨n8, hn⟩ := and_e hn
  obtain ⟨n9, hn⟩ := and_e hn
  obtain ⟨n10, hn⟩ := and_e hn
  obtain ⟨n11, hn⟩ := and_e hn
  have n12 := hn
  obtain ⟨w_ON_ITS_OWN, ev_ON_ITS_OWN⟩ := exa_v n0
  have S_ON_ITS_OWN := Sta.start ev_ON_ITS_OWN (Or.inr ⟨(hw _ (List.mem_of_getElem? (i := 1) rfl)), (hw _ (List.mem_of_getElem? (i := 2) rfl))⟩)
  have E_ON_ITS_OWN := Exa.start ev_ON_ITS_OWN n0
  obtain ⟨w_TRANSACTION_LEG, ev_TRANSACTION_LEG⟩ := exa_v n2
  have S_TRANSACTION_LEG := Sta.start ev_TRANSACTION_LEG (Or.inr ⟨(hw _ (List.mem_of_getElem? (i := 1) rfl)), (hw _ (List.mem_of_getElem? (i := 16) rfl))⟩)
  have E_TRANSACTION_LEG := Exa.start ev_TRANSACTION_LEG n2
  obtain ⟨w_TRANSACTION, ev_TRANSACTION⟩ := exa_v n3
  have S_TRANSACTION := Sta.start ev_TRANSACTION (Or.inr ⟨(hw _ (List.mem_of_getElem? (i := 17) rfl)), (hw _ (List.mem_of_getElem? (i := 18) rfl))⟩)
  have E_TRANSACTION := Exa.start ev_TRANSACTION n3
  obtain ⟨w_RECEIVABLE, ev_RECEIVABLE⟩ := exa_v n5
  have S_RECEIVABLE := Sta.start ev_RECEIVABLE (Or.inr ⟨(hw _ (List.mem_of_getElem? (i := 1) rfl)), (hw _ (List.mem_of_getElem? (i := 20) rfl))⟩)
  have E_RECEIVABLE := Exa.start ev_RECEIVABLE n5
  obtain ⟨w_PAYABLE, ev_PAYABLE⟩ := exa_v n8
  have S_PAYABLE := Sta.start ev_PAYABLE (Or.inr ⟨(hw _ (List.mem_of_getElem? (i := 1) rfl)), (hw _ (List.mem_of_getElem? (i := 22) rfl))⟩)
  have E_PAYABLE := Exa.start ev_PAYABLE n8
  obtain ⟨w_NETTING_GROUP, ev_NETTING_GROUP⟩ := exa_v n9
  have S_NETTING_GROUP := Sta.start ev_NETTING_GROUP (Or.inr ⟨(hw _ (List.mem_of_getElem? (i := 17) rfl)), (hw _ (List.mem_of_getElem? (i := 23) rfl))⟩)
  have E_NETTING_GROUP := Exa.start ev_NETTING_GROUP n9
  have F_ON_ITS_OWN_aggregate := own_fld ev_ON_ITS_OWN (by rfl) n1
  have F_TRANSACTION_LEG_aggregate := own_fld ev_TRANSACTION_LEG ev_TRANSACTION n4
  have F_TRANSACTION_LEG_ordinal := own_fld ev_TRANSACTION_LEG (Term.int_eval _) n6
  have F_RECEIVABLE_ordinal := own_fld ev_RECEIVABLE (Term.int_eval _) n7
  have F_PAYABLE_aggregate := own_fld ev_PAYABLE ev_NETTING_GROUP n10
  have F_PAYABLE_ordinal := own_fld ev_PAYABLE (Term.int_eval _) n11
  have F_RECEIVABLE_aggregate := own_fld ev_RECEIVABLE ev_NETTING_GROUP n12
  have ne_TRANSACTION_LEG_RECEIVABLE := Fld.ne F_TRANSACTION_LEG_ordinal F_RECEIVABLE_ordinal (by decide)
  have ne_TRANSACTION_LEG_PAYABLE := Fld.ne F_TRANSACTION_LEG_ordinal F_PAYABLE_ordinal (by decide)
  have ne_RECEIVABLE_PAYABLE := Fld.ne F_RECEIVABLE_ordinal F_PAYABLE_ordinal (by decide)
  have FX : own_F s s.heap w_ON_ITS_OWN w_TRANSACTION_LEG w_TRANSACTION w_RECEIVABLE w_PAYABLE w_NETTING_GROUP := ⟨S_ON_ITS_OWN, E_ON_ITS_OWN, S_TRANSACTION_LEG, E_TRANSACTION_LEG, S_TRANSACTION, E_TRANSACTION, S_RECEIVABLE, E_RECEIVABLE, S_PAYABLE, E_PAYABLE, S_NETTING_GROUP, E_NETTING_GROUP, F_ON_ITS_OWN_aggregate, F_TRANSACTION_LEG_aggregate, F_TRANSACTION_LEG_ordinal, F_RECEIVABLE_ordinal, F_PAYABLE_aggregate, F_PAYABLE_ordinal, F_RECEIVABLE_aggregate, ne_TRANSACTION_LEG_RECEIVABLE, ne_TRANSACTION_LEG_PAYABLE, ne_RECEIVABLE_PAYABLE⟩
  obtain ⟨n, o, h1, h2, h3, _, L, rfl, ⟨rfl, N⟩, hq⟩ := rm0 l s _ hw tables_1 i0 w_ON_ITS_OWN w_TRANSACTION_LEG w_TRANSACTION w_RECEIVABLE w_PAYABLE w_NETTING_GROUP s.heap FX p e ha hc hk s m _ below hf ((Spec.applies_iff_loose hf).mp happ).1 ⟨rfl, State.Warmed39.refl s, rfl⟩ trivial
  refine ⟨n, _, h1, h2, h3, hpost _ _ _ _ _ _ ⟨Cond.after_iff.mpr rfl, Cond.after_iff.mpr (eq_i res_at (Term.int_eval (1)) rfl), trivial⟩ ⟨hq.1, hq.2.1, (hq.2.2.sift fun y hy => Or.inr (N y hy)).mono (by decide) (by decide)⟩⟩
theorem main_1_1 : Claimed_1_1 := comes_1 fun _ _ _ _ _ _ h hF => ⟨h.1, hF⟩
theorem main_1_2 : Claimed_1_2 := comes_1 fun _ _ _ _ _ _ h hF => ⟨h.2.1, hF⟩
end Jvm.Pilot.@@N@@
namespace Jvm.Pilot.@@N@@
open Jvm Jvm.ClassFile Sem Op Lib Jvm.Free Jvm.Stand Jvm.Pilot.@@N@@.Jvm.D
/-! MADE BY PROGRAM (witnessworld.py) out of the Statement's table words and the real class files: 13 classes; the members and pool entries that the words name. The judged class is class 1, her method 1. -/
namespace start1
open Jvm.ClassFile
def u (s : String) : CpInfo := .utf8 (stringToUtf16 s)
/-- a pool by its gaps: so many unusable entries, then the entry; so many at the end -/
def gap : Nat → List CpInfo → List CpInfo
  | 0, r => r
  | n + 1, r => .unusable :: gap n r
def poolList (es : List (Nat × CpInfo)) (last : Nat) : List CpInfo := es.foldr (fun e r => gap e.1 (e.2 :: r)) (gap last [])
def pool (es : List (Nat × CpInfo)) (last : Nat) : Array CpInfo := ⟨poolList es last⟩
def fileOf (pool : Array CpInfo) (this : Nat) (attrs : Array Attribute := #[]) (ms : Array MethodInfo := #[]) (fl : Nat := 33) (sup : Nat := 0) (ifs : Array Nat := #[]) (fds : Array FieldInfo := #[]) : ClassFile where
  minorVersion := 0
  majorVersion := 65
  constantPool := pool
  accessFlags := fl
  thisClass := this
  superClass := sup
  interfaces := ifs
  fields := fds
  methods := ms
  attributes := attrs
def plain (name : String) (sup : Option ClassId) : Class where
  name := name
  kind := .ordinary
  loader := none
  accessFlags := 33
  super := sup
  interfaces := #[]
  cf := none
  fields := #[]
  methods := #[]
  instanceTypes := #[]
  staticTypes := #[]
  resolved := #[]
  callSites := []
  init := .initialized
  statics := none
  mirror := none

def pool0 : Array CpInfo := pool [(5, u "<init>"), (0, u "()V"), (1, .class_ 10), (1, u "java/lang/Object")] 113

def k0m0 : Method := { name := "<init>", desc := "()V", sig := { parameters := [], returnType := none }, accessFlags := 1, code := none }
/-- java/lang/Object -/
def k0 : Class := { plain "java/lang/Object" none with
  accessFlags := 33
  interfaces := #[]
  cf := some (fileOf pool0 8 #[] #[{ accessFlags := 1, nameIndex := 5, descriptorIndex := 6, attributes := #[] }] 33 0 #[] #[])
  fields := #[]
  methods := #[k0m0]
  instanceTypes := #[]
  staticTypes := #[]
  resolved := Array.replicate 124 none
  statics := none }

def pool1 : Array CpInfo := pool [(2, .class_ 4), (1, u "java/lang/Object"), (0, u "<init>"), (0, u "()V"), (0, .fieldref 8 9), (0, .class_ 10), (0, .nameAndType 11 12), (0, u "com/example/ryudo/ryudo/model/ExposureCategory$Kind"), (0, u "ON_ITS_OWN"), (0, u "Lcom/example/ryudo/ryudo/model/ExposureCategory$Kind;"), (0, .fieldref 8 14), (0, .nameAndType 15 12), (0, u "RECEIVABLE"), (0, .fieldref 8 17), (0, .nameAndType 18 12), (0, u "PAYABLE"), (0, .fieldref 8 20), (0, .nameAndType 21 12), (0, u "TRANSACTION_LEG"), (0, .methodref 8 23), (0, .nameAndType 24 25), (0, u "mayStandAlone"), (0, u "()Z"), (0, .methodref 8 27), (0, .nameAndType 28 29), (0, u "aggregate"), (0, u "()Lcom/example/ryudo/ryudo/model/RepoAggregate$Kind;"), (0, .class_ 31), (0, u "com/example/ryudo/ryudo/model/KindMayStandAlonePinLaw"), (2, u "law"), (0, u "(I)Z")] 11

def k1m0 : Method := { name := "<init>", desc := "()V", sig := { parameters := [], returnType := none }, accessFlags := 2, code := none }
def k1c1 : Code := { maxStack := 2, maxLocals := 6, code := code, exceptionTable := #[], attributes := #[] }
def k1m1 : Method := { name := "law", desc := "(I)Z", sig := { parameters := [.int], returnType := some .boolean }, accessFlags := 9, code := some k1c1 }
/-- com/example/ryudo/ryudo/model/KindMayStandAlonePinLaw -/
def k1 : Class := { plain "com/example/ryudo/ryudo/model/KindMayStandAlonePinLaw" (some 0) with
  accessFlags := 49
  interfaces := #[]
  cf := some (fileOf pool1 30 #[] #[{ accessFlags := 2, nameIndex := 5, descriptorIndex := 6, attributes := #[] }, { accessFlags := 9, nameIndex := 34, descriptorIndex := 35, attributes := #[] }] 49 2 #[] #[])
  fields := #[]
  methods := #[k1m0, k1m1]
  instanceTypes := #[]
  staticTypes := #[]
  resolved := Array.replicate 47 none
  statics := none }

def pool2 : Array CpInfo := pool [(1, .class_ 2), (0, u "java/lang/constant/Constable"), (0, .class_ 4), (0, u "java/lang/Object")] 6

/-- java/lang/constant/Constable -/
def k2 : Class := { plain "java/lang/constant/Constable" (some 0) with
  accessFlags := 1537
  interfaces := #[]
  cf := some (fileOf pool2 1 #[] #[] 1537 3 #[] #[])
  fields := #[]
  methods := #[]
  instanceTypes := #[]
  staticTypes := #[]
  resolved := Array.replicate 11 none
  statics := none }

def pool3 : Array CpInfo := pool [(1, .class_ 2), (0, u "java/lang/Comparable"), (0, .class_ 4), (0, u "java/lang/Object")] 7

/-- java/lang/Comparable -/
def k3 : Class := { plain "java/lang/Comparable" (some 0) with
  accessFlags := 1537
  interfaces := #[]
  cf := some (fileOf pool3 1 #[] #[] 1537 3 #[] #[])
  fields := #[]
  methods := #[]
  instanceTypes := #[]
  staticTypes := #[]
  resolved := Array.replicate 12 none
  statics := none }

def pool4 : Array CpInfo := pool [(1, .class_ 2), (0, u "java/io/Serializable"), (0, .class_ 4), (0, u "java/lang/Object")] 2

/-- java/io/Serializable -/
def k4 : Class := { plain "java/io/Serializable" (some 0) with
  accessFlags := 1537
  interfaces := #[]
  cf := some (fileOf pool4 1 #[] #[] 1537 3 #[] #[])
  fields := #[]
  methods := #[]
  instanceTypes := #[]
  staticTypes := #[]
  resolved := Array.replicate 7 none
  statics := none }

def pool5 : Array CpInfo := pool [(2, .class_ 4), (1, u "java/lang/Enum"), (0, u "name"), (0, u "Ljava/lang/String;"), (2, u "ordinal"), (0, u "I"), (1, .class_ 14), (1, u "java/lang/Object"), (4, u "hash"), (86, .class_ 108), (1, u "java/lang/Enum$EnumDesc"), (2, .class_ 112), (0, u "java/lang/constant/Constable"), (0, .class_ 114), (0, u "java/lang/Comparable"), (0, .class_ 116), (0, u "java/io/Serializable")] 87

/-- java/lang/Enum -/
def k5 : Class := { plain "java/lang/Enum" (some 0) with
  accessFlags := 1057
  interfaces := #[2, 3, 4]
  cf := some (fileOf pool5 2 #[.nestMembers #[106]] #[] 1057 12 #[111, 113, 115] #[{ accessFlags := 18, nameIndex := 5, descriptorIndex := 6, attributes := #[] }, { accessFlags := 18, nameIndex := 9, descriptorIndex := 10, attributes := #[] }, { accessFlags := 2, nameIndex := 19, descriptorIndex := 10, attributes := #[] }])
  fields := #[{ name := "name", type := (.object "java/lang/String"), accessFlags := 18, slot := 0, constantValue := 0 }, { name := "ordinal", type := .int, accessFlags := 18, slot := 1, constantValue := 0 }, { name := "hash", type := .int, accessFlags := 2, slot := 2, constantValue := 0 }]
  methods := #[]
  instanceTypes := #[(.object "java/lang/String"), .int, .int]
  staticTypes := #[]
  resolved := Array.replicate 204 none
  statics := none }

def pool6 : Array CpInfo := pool [(1, .class_ 2), (0, u "com/example/ryudo/ryudo/model/ExposureCategory$Kind"), (2, u "ON_ITS_OWN"), (0, u "Lcom/example/ryudo/ryudo/model/ExposureCategory$Kind;"), (0, .fieldref 1 8), (0, .nameAndType 9 6), (0, u "RECEIVABLE"), (2, u "PAYABLE"), (2, u "TRANSACTION_LEG"), (2, u "$VALUES"), (0, u "[Lcom/example/ryudo/ryudo/model/ExposureCategory$Kind;"), (6, .class_ 28), (1, u "java/lang/Enum"), (6, .fieldref 1 36), (0, .nameAndType 37 38), (0, u "aggregate"), (0, u "Lcom/example/ryudo/ryudo/model/RepoAggregate$Kind;"), (2, u "mayStandAlone"), (0, u "()Z"), (5, u "()Lcom/example/ryudo/ryudo/model/RepoAggregate$Kind;"), (35, .class_ 85), (0, u "com/example/ryudo/ryudo/model/ExposureCategory")] 2

def k6c0 : Code := { maxStack := 1, maxLocals := 1, code := prog_71_method_4_code, exceptionTable := #[], attributes := #[] }
def k6m0 : Method := { name := "aggregate", desc := "()Lcom/example/ryudo/ryudo/model/RepoAggregate$Kind;", sig := { parameters := [], returnType := some (.object "com/example/ryudo/ryudo/model/RepoAggregate$Kind") }, accessFlags := 1, code := some k6c0 }
def k6c1 : Code := { maxStack := 2, maxLocals := 1, code := prog_71_method_5_code, exceptionTable := #[], attributes := #[] }
def k6m1 : Method := { name := "mayStandAlone", desc := "()Z", sig := { parameters := [], returnType := some .boolean }, accessFlags := 1, code := some k6c1 }
/-- com/example/ryudo/ryudo/model/ExposureCategory$Kind -/
def k6 : Class := { plain "com/example/ryudo/ryudo/model/ExposureCategory$Kind" (some 5) with
  accessFlags := 16433
  interfaces := #[]
  cf := some (fileOf pool6 1 #[.nestHost 84] #[{ accessFlags := 1, nameIndex := 37, descriptorIndex := 48, attributes := #[] }, { accessFlags := 1, nameIndex := 41, descriptorIndex := 42, attributes := #[] }] 16433 26 #[] #[{ accessFlags := 16409, nameIndex := 5, descriptorIndex := 6, attributes := #[] }, { accessFlags := 16409, nameIndex := 9, descriptorIndex := 6, attributes := #[] }, { accessFlags := 16409, nameIndex := 12, descriptorIndex := 6, attributes := #[] }, { accessFlags := 16409, nameIndex := 15, descriptorIndex := 6, attributes := #[] }, { accessFlags := 18, nameIndex := 37, descriptorIndex := 38, attributes := #[] }, { accessFlags := 4122, nameIndex := 18, descriptorIndex := 19, attributes := #[] }])
  fields := #[{ name := "ON_ITS_OWN", type := (.object "com/example/ryudo/ryudo/model/ExposureCategory$Kind"), accessFlags := 16409, slot := 0, constantValue := 0 }, { name := "RECEIVABLE", type := (.object "com/example/ryudo/ryudo/model/ExposureCategory$Kind"), accessFlags := 16409, slot := 1, constantValue := 0 }, { name := "PAYABLE", type := (.object "com/example/ryudo/ryudo/model/ExposureCategory$Kind"), accessFlags := 16409, slot := 2, constantValue := 0 }, { name := "TRANSACTION_LEG", type := (.object "com/example/ryudo/ryudo/model/ExposureCategory$Kind"), accessFlags := 16409, slot := 3, constantValue := 0 }, { name := "aggregate", type := (.object "com/example/ryudo/ryudo/model/RepoAggregate$Kind"), accessFlags := 18, slot := 3, constantValue := 0 }, { name := "$VALUES", type := (.array (.object "com/example/ryudo/ryudo/model/ExposureCategory$Kind")), accessFlags := 4122, slot := 4, constantValue := 0 }]
  methods := #[k6m0, k6m1]
  instanceTypes := #[(.object "java/lang/String"), .int, .int, (.object "com/example/ryudo/ryudo/model/RepoAggregate$Kind")]
  staticTypes := #[(.object "com/example/ryudo/ryudo/model/ExposureCategory$Kind"), (.object "com/example/ryudo/ryudo/model/ExposureCategory$Kind"), (.object "com/example/ryudo/ryudo/model/ExposureCategory$Kind"), (.object "com/example/ryudo/ryudo/model/ExposureCategory$Kind"), (.array (.object "com/example/ryudo/ryudo/model/ExposureCategory$Kind"))]
  resolved := Array.replicate 88 none
  statics := some 0 }

def pool7 : Array CpInfo := pool [(1, .class_ 2), (0, u "com/example/ryudo/ryudo/model/RepoAggregate$Kind"), (2, u "NETTING_GROUP"), (0, u "Lcom/example/ryudo/ryudo/model/RepoAggregate$Kind;"), (2, u "TRANSACTION"), (2, u "$VALUES"), (0, u "[Lcom/example/ryudo/ryudo/model/RepoAggregate$Kind;"), (6, .class_ 22), (1, u "java/lang/Enum"), (8, u "code"), (0, u "Ljava/lang/String;"), (2, u "citation"), (31, .class_ 68), (0, u "com/example/ryudo/ryudo/model/RepoAggregate")] 2

/-- com/example/ryudo/ryudo/model/RepoAggregate$Kind -/
def k7 : Class := { plain "com/example/ryudo/ryudo/model/RepoAggregate$Kind" (some 5) with
  accessFlags := 16433
  interfaces := #[]
  cf := some (fileOf pool7 1 #[.nestHost 67] #[] 16433 20 #[] #[{ accessFlags := 16409, nameIndex := 5, descriptorIndex := 6, attributes := #[] }, { accessFlags := 16409, nameIndex := 9, descriptorIndex := 6, attributes := #[] }, { accessFlags := 18, nameIndex := 31, descriptorIndex := 32, attributes := #[] }, { accessFlags := 18, nameIndex := 35, descriptorIndex := 32, attributes := #[] }, { accessFlags := 4122, nameIndex := 12, descriptorIndex := 13, attributes := #[] }])
  fields := #[{ name := "NETTING_GROUP", type := (.object "com/example/ryudo/ryudo/model/RepoAggregate$Kind"), accessFlags := 16409, slot := 0, constantValue := 0 }, { name := "TRANSACTION", type := (.object "com/example/ryudo/ryudo/model/RepoAggregate$Kind"), accessFlags := 16409, slot := 1, constantValue := 0 }, { name := "code", type := (.object "java/lang/String"), accessFlags := 18, slot := 3, constantValue := 0 }, { name := "citation", type := (.object "java/lang/String"), accessFlags := 18, slot := 4, constantValue := 0 }, { name := "$VALUES", type := (.array (.object "com/example/ryudo/ryudo/model/RepoAggregate$Kind")), accessFlags := 4122, slot := 2, constantValue := 0 }]
  methods := #[]
  instanceTypes := #[(.object "java/lang/String"), .int, .int, (.object "java/lang/String"), (.object "java/lang/String")]
  staticTypes := #[(.object "com/example/ryudo/ryudo/model/RepoAggregate$Kind"), (.object "com/example/ryudo/ryudo/model/RepoAggregate$Kind"), (.array (.object "com/example/ryudo/ryudo/model/RepoAggregate$Kind"))]
  resolved := Array.replicate 71 none
  statics := some 1 }

def pool8 : Array CpInfo := pool [(1, u "java/lang/Cloneable"), (0, .class_ 1), (0, u "java/lang/Object"), (0, .class_ 3)] 3

/-- java/lang/Cloneable -/
def k8 : Class := { plain "java/lang/Cloneable" (some 0) with
  accessFlags := 1537
  interfaces := #[]
  cf := some (fileOf pool8 2 #[] #[] 1537 4 #[] #[])
  fields := #[]
  methods := #[]
  instanceTypes := #[]
  staticTypes := #[]
  resolved := Array.replicate 8 none
  statics := none }

/-- the primitive byte -/
def k9 : Class := { plain "byte" none with kind := .primitive 'B', accessFlags := 0x411 }
/-- [B -/
def k10 : Class := { plain "[B" (some 0) with kind := .array 9 .byte, interfaces := #[8, 4], accessFlags := 1041 }

/-- the primitive int -/
def k11 : Class := { plain "int" none with kind := .primitive 'I', accessFlags := 0x411 }
/-- [I -/
def k12 : Class := { plain "[I" (some 0) with kind := .array 11 .int, interfaces := #[8, 4], accessFlags := 1041 }

def heap : Heap := #[{ cls := 6, slots := #[.ref 2, .ref 5, .ref 6, .ref 3, .null], vm := .statics 6 },
  { cls := 7, slots := #[.ref 7, .ref 4, .null], vm := .statics 7 },
  { cls := 6, slots := #[.null, .int 0, .int 0, .null], vm := .none },
  { cls := 6, slots := #[.null, .int 3, .int 0, .ref 4], vm := .none },
  { cls := 7, slots := #[.null, .int 0, .int 0, .null, .null], vm := .none },
  { cls := 6, slots := #[.null, .int 1, .int 0, .ref 7], vm := .none },
  { cls := 6, slots := #[.null, .int 2, .int 0, .ref 7], vm := .none },
  { cls := 7, slots := #[.null, .int 0, .int 0, .null, .null], vm := .none }]
def classes : Array Class := #[k0, k1, k2, k3, k4, k5, k6, k7, k8, k9, k10, k11, k12]
def interned : List (Array UInt16 × Addr) := []
def slotsUsed : Nat := 34
def theMethod : MethodId := ⟨1, 1⟩
def args0 : Array Value := #[.int 5]
def aboutOver (below : List Frame) : State where
  vm := { classes := classes, interned := interned.toArray }
  heap := heap
  slotsUsed := slotsUsed
  threads := #[{ frames := .invoking theMethod args0 :: below }]
def below0 : List Frame := [.native { method := ⟨0, 0⟩, args := #[] }]
def about1 : State := aboutOver below0
def p0 : Program := .bare "" "" ""
def e0 : Env := launch0.env 0 0 0
theorem w_frames : about1.frames = Frame.invoking theMethod args0 :: below0 := rfl
set_option maxRecDepth 65536 in
theorem w_args : argsFit about1.vm theMethod args0 = true := by decide +kernel
set_option maxRecDepth 65536 in
theorem w_heap : heapFits about1 = true := by decide +kernel
set_option maxRecDepth 65536 in
theorem w_runnable : about1.curStatus? = some .runnable := by decide +kernel
set_option maxRecDepth 65536 in
theorem w_alone : about1.alone = true := by decide +kernel
set_option maxRecDepth 65536 in
theorem w_named : about1.methodNamed? x = some theMethod := by decide +kernel
set_option maxRecDepth 65536 in
theorem w_hears : about1.hears theMethod below0 = true := by decide +kernel
set_option maxRecDepth 65536 in
theorem w_ripe : about1.ripe theMethod args0 below0 = true := by decide +kernel
theorem w_running : about1.status = .running := rfl
set_option maxRecDepth 65536 in
theorem w_room : about1.hasRoom e0.platform room_1 = true :=
  launch0.hasRoom_least _ room_1 (by decide +kernel) (by decide +kernel) (by decide +kernel) (by decide +kernel) (by decide +kernel) (by decide +kernel)
theorem allAtoms_all (ts : List Jvm.Cond) (a : Array Jvm.Value) (st : Jvm.State) : (allAtoms ts).before a st = ts.all (fun c => c.before a st) := by
  induction ts with
  | nil => rfl
  | cons c t ih =>
    show (Jvm.Cond.and c (allAtoms t)).before a st = _
    rw [Jvm.Cond.before_and, ih, List.all_cons]
def words1 : List Jvm.Cond := Jvm.Cond.code x code maxLocals ret :: tables_1
/-- a 'code' word, met by the world's own term for the bytes: nothing is compared byte by byte -/
theorem code_word {y : MethodName} {bytes : ByteArray} {mx : Nat} {rt : Option FieldType} {a : Array Value} {s : State} {m : MethodId} {meth : Method} {c : Code} (h1 : s.methodNamed? y = some m) (h2 : s.vm.method? m = some meth) (h3 : meth.code = some c) (h4 : c.code = bytes)
    (h5 : (c.maxLocals == mx && c.exceptionTable.isEmpty && decide (c.maxStack ≤ mostOperands) && decide (meth.sig.returnType = rt) && !meth.locks && decide (parseMethodDescriptor y.desc = some meth.sig)) = true) : (Jvm.Cond.code y bytes mx rt).before a s = true := by
  simp only [Bool.and_eq_true, beq_iff_eq, Bool.not_eq_true', decide_eq_true_eq] at h5
  obtain ⟨⟨⟨⟨⟨g1, g2⟩, g3⟩, g4⟩, g5⟩, g6⟩ := h5
  simp [Cond.before, Cond.holds, Cond.value, h1, h2, h3, h4, g1, g2, g3, g4, g5, g6]
def isCode : Jvm.Cond → Bool
  | .code _ _ _ _ => true
  | _ => false
theorem all_split {L : List Jvm.Cond} {P : Jvm.Cond → Bool} (h1 : L.all (fun c => isCode c || P c) = true) (h2 : ∀ c ∈ L.filter isCode, P c = true) : L.all P = true := by
  refine List.all_eq_true.mpr fun c hc => ?_
  have h := List.all_eq_true.mp h1 c hc
  rcases Bool.eq_false_or_eq_true (isCode c) with hi | hi
  · exact h2 c (List.mem_filter.mpr ⟨hc, hi⟩)
  · simpa [hi] using h
set_option maxRecDepth 65536 in
theorem w_c0 : (Jvm.Cond.code x code maxLocals ret).before args0 about1 = true := code_word (m := ⟨1, 1⟩) (meth := k1m1) (c := k1c1) (by decide +kernel) rfl rfl rfl (by decide +kernel)
set_option maxRecDepth 65536 in
theorem w_c1 : (Jvm.Cond.code ({ cls := "com/example/ryudo/ryudo/model/ExposureCategory$Kind", name := "mayStandAlone", desc := "()Z" } : Jvm.MethodName) prog_71_method_5_code (1 : Nat) (Option.some Jvm.ClassFile.FieldType.boolean)).before args0 about1 = true := code_word (m := ⟨6, 1⟩) (meth := k6m1) (c := k6c1) (by decide +kernel) rfl rfl rfl (by decide +kernel)
set_option maxRecDepth 65536 in
theorem w_c2 : (Jvm.Cond.code ({ cls := "com/example/ryudo/ryudo/model/ExposureCategory$Kind", name := "aggregate", desc := "()Lcom/example/ryudo/ryudo/model/RepoAggregate$Kind;" } : Jvm.MethodName) prog_71_method_4_code (1 : Nat) (Option.some (Jvm.ClassFile.FieldType.object "com/example/ryudo/ryudo/model/RepoAggregate$Kind"))).before args0 about1 = true := code_word (m := ⟨6, 0⟩) (meth := k6m0) (c := k6c0) (by decide +kernel) rfl rfl rfl (by decide +kernel)
def codes1 : List Jvm.Cond := [Jvm.Cond.code x code maxLocals ret, Jvm.Cond.code ({ cls := "com/example/ryudo/ryudo/model/ExposureCategory$Kind", name := "mayStandAlone", desc := "()Z" } : Jvm.MethodName) prog_71_method_5_code (1 : Nat) (Option.some Jvm.ClassFile.FieldType.boolean), Jvm.Cond.code ({ cls := "com/example/ryudo/ryudo/model/ExposureCategory$Kind", name := "aggregate", desc := "()Lcom/example/ryudo/ryudo/model/RepoAggregate$Kind;" } : Jvm.MethodName) prog_71_method_4_code (1 : Nat) (Option.some (Jvm.ClassFile.FieldType.object "com/example/ryudo/ryudo/model/RepoAggregate$Kind"))]
set_option maxRecDepth 65536 in
theorem codes_eq : words1.filter isCode = codes1 := rfl
theorem w_codes : ∀ c ∈ words1.filter isCode, c.before args0 about1 = true := by
  rw [codes_eq]
  intro c hc
  simp only [codes1, List.mem_cons, List.not_mem_nil, or_false] at hc
  rcases hc with rfl | rfl | rfl
  · exact w_c0
  · exact w_c1
  · exact w_c2
set_option maxRecDepth 65536 in
theorem w_t1 : (words1.take 24).all (fun c => isCode c || c.before args0 about1) = true := by decide +kernel
set_option maxRecDepth 65536 in
theorem w_t2 : (words1.drop 24).all (fun c => isCode c || c.before args0 about1) = true := by decide +kernel
theorem w_tables : (allAtoms (Jvm.Cond.code x code maxLocals ret :: tables_1)).before args0 about1 = true := by
  rw [allAtoms_all]
  show words1.all (fun c => c.before args0 about1) = true
  refine all_split ?_ w_codes
  rw [← List.take_append_drop 24 words1, List.all_append, w_t1, w_t2]
  rfl
set_option maxRecDepth 65536 in
theorem w_case : (Jvm.Cond.and given_1 narrow_1).before args0 about1 = true := by decide +kernel
theorem w_applies : (headSpec (Jvm.Cond.code x code maxLocals ret :: tables_1) room_1).applies x e0.platform about1 = true :=
  (Spec.applies_iff w_frames).mpr ⟨w_running, w_runnable, w_alone, w_named, w_hears, w_ripe, w_room, w_tables⟩
theorem atStart : AtStart classFile x code maxLocals ret World_1 tables_1 room_1 Calls_1 rest_1 Pre_1 launch0 p0 e0 about1 theMethod args0 below0 :=
  ⟨lists_1, trivial, launch0.admits_env _ _ _, launch0.least_env, fairChoices_fair.cas, fairChoices_fair.clock, w_frames, w_args, w_heap, w_applies, trivial, trivial, w_case⟩
end start1
theorem witness_1 : WitnessClaimed_1 := ⟨start1.p0, start1.e0, start1.about1, start1.theMethod, start1.args0, start1.below0, start1.atStart⟩
end Jvm.Pilot.@@N@@
