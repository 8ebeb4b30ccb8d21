import JvmDerived
import JvmDerived.Pilot.@@N@@Statement
import JvmDerived.Pilot.@@N@@Code
set_option linter.unusedVariables false
set_option linter.unusedSimpArgs false
namespace Jvm.RoadKit
open Sem ClassFile Op Lib Jvm.Stand Jvm.Free Jvm.LawKit
section OwnWalk
variable {p : Program} {l : Launch} {e : Env} {R : Room} {s : State} {m : MethodId} {args : Array Value} {below : List Frame} {meth : Method} {c : Code} {T : State} {locs : List Loc} {cells slots : Nat} {Z : State} {a0 : Array Value} {h : Heap}
theorem retI (X : Stand p l e R s m args below meth c T locs cells slots) (hx : p.tables.exec = Jvm.exec) {pc : Nat} {Ls : Array Slot} {z : Int32} {rest : List Value} (hret : meth.sig.returnType = some .int) (hd : decode c.code pc = .ok (.ireturn, 1)) {fs : List Frame}
    (hl : ∀ (f : JFrame) (acts : List Action), f.method = m → f.locked = none → f.entered = [] → (doReturn e (T.setTop f) acts (some (.int z))).1 = T.setFrames fs) : Steps p.tables e below (T.setTop (mkF m pc Ls (.int z :: rest))) (T.setFrames fs) := by
  have hm' : T.vm.method? m = some meth := X.method'
  have hn : narrow .int (.int z) = .int z := rfl
  show Steps p.tables e below (T.setTop { method := m, pc := pc, locals := Ls, stack := _ :: rest, locked := none }) _
  jvm_step X.here [X.here.top, hx, hd, hm', hret, hn]
  first | (intro acts; rw [hl _ acts rfl rfl rfl]) | rw [hl _ _ rfl rfl rfl]
  exact Steps.refl _
/-- a body's contract at given arguments and a given heap -/
abbrev own_Met (l : Launch) (y : MethodName) (bytes : ByteArray) (maxL : Nat) (ret : Option FieldType) (ws : List Cond) (rm : Room) (Z : State) (as' : Array Value) (h : Heap) (Q : Option Value → Heap → List Loc → Prop) : Prop :=
  MetFree l y (head1 (Cond.code y bytes maxL ret :: ws) rm) (fun a U => a = as' ∧ Z.Warmed39 U.vm ∧ U.heap = h) (fun _ _ _ _ _ => True) (fun _ U o U' => ∃ v L, o = .returned v ∧ Q v U'.heap L ∧ FrameEnd U o U' L rm.cells rm.slots)
/-- from here the walk comes to its end, and Q holds there -/
def own_Go (p : Program) (e : Env) (below : List Frame) (s T : State) (g : JFrame) (k n : Nat) (Q : Option Value → Heap → List Loc → Prop) : Prop :=
  ∃ s₂ o, Steps p.tables e below (T.setTop g) s₂ ∧ s₂.status = .running ∧ Ended s₂ below o ∧ ∃ v L, o = .returned v ∧ Q v s₂.heap L ∧ FrameEnd s o s₂ L k n
variable {k n : Nat} {Q : Option Value → Heap → List Loc → Prop}
theorem own_in {g g' : JFrame} (ef : g = g') (q : own_Go p e below s T g' k n Q) : ∃ s₂ o, Steps p.tables e below (T.setTop g) s₂ ∧ s₂.status = .running ∧ Ended s₂ below o ∧ ∃ v L, o = .returned v ∧ Q v s₂.heap L ∧ FrameEnd s o s₂ L k n := by
  subst ef; exact q
theorem own_go {T' : State} {g g' : JFrame} (f : ∀ t, Steps p.tables e below (T'.setTop g') t → Steps p.tables e below (T.setTop g) t) (q : own_Go p e below s T' g' k n Q) : own_Go p e below s T g k n Q := by
  obtain ⟨s₂, o, h1, h2⟩ := q; exact ⟨s₂, o, f _ h1, h2⟩
theorem own_outI (X : Stand p l e R s m args below meth c T locs cells slots) (hx : p.tables.exec = Jvm.exec) (hlk : meth.locks = false) (hret : meth.sig.returnType = some .int) {pc : Nat} {Ls : Array Slot} {z : Int32} {rest : List Value} (hd : decode c.code pc = .ok (.ireturn, 1))
    (q : Q (some (.int z)) T.heap locs) (hk : cells ≤ k) (hn : slots ≤ n) : own_Go p e below s T (mkF m pc Ls (.int z :: rest)) k n Q := by
  obtain ⟨fs, hr, hrun, hended, hW, hsame⟩ := X.leave (v := some (.int z)) (fun h => by rw [hret] at h; cases h) hlk
  exact ⟨_, _, retI X hx hret hd hr, hrun, hended, _, _, rfl, q, ⟨_, rfl⟩, hW, hsame.mono hk hn⟩
theorem own_outN (X : Stand p l e R s m args below meth c T locs cells slots) (hx : p.tables.exec = Jvm.exec) (hlk : meth.locks = false) {t : FieldType} (hret : meth.sig.returnType = some t) (ht : t = .boolean ∨ t = .byte ∨ t = .char ∨ t = .short) {pc : Nat} {Ls : Array Slot} {z w : Int32} {rest : List Value} (hd : decode c.code pc = .ok (.ireturn, 1))
    (hw : nar t z = w) (q : Q (some (.int w)) T.heap locs) (hk : cells ≤ k) (hn : slots ≤ n) : own_Go p e below s T (mkF m pc Ls (.int z :: rest)) k n Q := by
  subst hw
  obtain ⟨fs, hr, hrun, hended, hW, hsame⟩ := X.leave (v := some (.int (nar t z))) (fun h => by rw [hret] at h; cases h) hlk
  exact ⟨_, _, retN X hx hret ht hd hr, hrun, hended, _, _, rfl, q, ⟨_, rfl⟩, hW, hsame.mono hk hn⟩
theorem own_outJ (X : Stand p l e R s m args below meth c T locs cells slots) (hx : p.tables.exec = Jvm.exec) (hlk : meth.locks = false) (hret : meth.sig.returnType = some .long) {pc : Nat} {Ls : Array Slot} {z : Int64} {rest : List Value} (hd : decode c.code pc = .ok (.lreturn, 1))
    (q : Q (some (.long z)) T.heap locs) (hk : cells ≤ k) (hn : slots ≤ n) : own_Go p e below s T (mkF m pc Ls (.long z :: rest)) k n Q := by
  obtain ⟨fs, hr, hrun, hended, hW, hsame⟩ := X.leave (v := some (.long z)) (fun h => by rw [hret] at h; cases h) hlk
  exact ⟨_, _, retOut X hx hret rfl (Or.inr (Or.inl ⟨rfl, rfl, _, rfl⟩)) hd hr, hrun, hended, _, _, rfl, q, ⟨_, rfl⟩, hW, hsame.mono hk hn⟩
theorem own_outD (X : Stand p l e R s m args below meth c T locs cells slots) (hx : p.tables.exec = Jvm.exec) (hlk : meth.locks = false) (hret : meth.sig.returnType = some .double) {pc : Nat} {Ls : Array Slot} {z : UInt64} {rest : List Value} (hd : decode c.code pc = .ok (.dreturn, 1))
    (q : Q (some (.double z)) T.heap locs) (hk : cells ≤ k) (hn : slots ≤ n) : own_Go p e below s T (mkF m pc Ls (.double z :: rest)) k n Q := by
  obtain ⟨fs, hr, hrun, hended, hW, hsame⟩ := X.leave (v := some (.double z)) (fun h => by rw [hret] at h; cases h) hlk
  exact ⟨_, _, retOut X hx hret rfl (Or.inr (Or.inr (Or.inl ⟨rfl, rfl, _, rfl⟩))) hd hr, hrun, hended, _, _, rfl, q, ⟨_, rfl⟩, hW, hsame.mono hk hn⟩
theorem own_outA (X : Stand p l e R s m args below meth c T locs cells slots) (hx : p.tables.exec = Jvm.exec) (hlk : meth.locks = false) {t : FieldType} (hret : meth.sig.returnType = some t) (ht : t.isReference = true) {pc : Nat} {Ls : Array Slot} {w : Value} {rest : List Value} (hwr : w.isRef = true) (hd : decode c.code pc = .ok (.areturn, 1))
    (q : Q (some w) T.heap locs) (hk : cells ≤ k) (hn : slots ≤ n) : own_Go p e below s T (mkF m pc Ls (w :: rest)) k n Q := by
  obtain ⟨fs, hr, hrun, hended, hW, hsame⟩ := X.leave (v := some w) (fun h => by rw [hret] at h; cases h) hlk
  have hnw : narrow t w = w := by rcases ref_cases hwr with rfl | ⟨a, rfl⟩ <;> cases t <;> first | rfl | cases ht
  exact ⟨_, _, retOut X hx hret hnw (Or.inr (Or.inr (Or.inr (Or.inr ⟨rfl, ht, hwr⟩)))) hd hr, hrun, hended, _, _, rfl, q, ⟨_, rfl⟩, hW, hsame.mono hk hn⟩
theorem own_outV (X : Stand p l e R s m args below meth c T locs cells slots) (hx : p.tables.exec = Jvm.exec) (hlk : meth.locks = false) (hret : meth.sig.returnType = none) {pc : Nat} {Ls : Array Slot} (hd : decode c.code pc = .ok (.return_, 1))
    (q : Q none T.heap locs) (hk : cells ≤ k) (hn : slots ≤ n) : own_Go p e below s T (mkF m pc Ls []) k n Q := by
  obtain ⟨fs, hr, hrun, hended, hW, hsame⟩ := X.leave (v := none) (fun _ => rfl) hlk
  exact ⟨_, _, X.returnOut hx hret hd hr, hrun, hended, _, _, rfl, q, ⟨_, rfl⟩, hW, hsame.mono hk hn⟩
theorem own_callS (X : Stand p l e R s m args below meth c T locs cells slots) (hx : p.tables.exec = Jvm.exec) (hZ : Z.Warmed39 s.vm) {own : String} {index : Nat} {y : MethodName} {bytes : ByteArray} {maxL : Nat} {ret : Option FieldType} {rm : Room} {argsL rest : List Value}
    (hown : s.vm.findClass own = some m.cls) (w1 : (Cond.methodLink own index y).before a0 Z = true) (w2 : (Cond.static y).before a0 Z = true) (w3 : (Cond.initialized y.cls).before a0 Z = true) (w4 : (Cond.code y bytes maxL ret).before a0 Z = true)
    (hM : own_Met l y bytes maxL ret [] rm Z argsL.toArray h Q) (eT : T.heap = h) (hy : y.cls ≠ "java/lang/invoke/MethodHandle" ∧ y.cls ≠ "java/lang/invoke/VarHandle") (hf : rm.frames + 1 ≤ R.frames) (W : Nat) (hl : W + (maxL + 11) + rm.locals ≤ R.locals) (hc : cells + rm.cells ≤ R.cells) (hs : slots + rm.slots ≤ R.slots)
    {g : JFrame} (hg : g.method = m) (hsize : g.locals.size = c.maxLocals) (hlen : ∀ sig, parseMethodDescriptor y.desc = some sig → argsL.length = sig.parameters.length) (hstack : g.stack = argsL.reverse ++ rest) (hW : 2 * g.monitorRoom + (rest.map fun v => v.category).sum ≤ W) (hd : decode c.code g.pc = .ok (.invokestatic index, 3)) :
    ∃ v T' L, Stand p l e R s m args below meth c T' (locs ++ L) (cells + rm.cells) (slots + rm.slots) ∧ Q v T'.heap L ∧ ∀ t, Steps p.tables e below (T'.setTop { g with pc := g.pc + 3, stack := v.toList ++ rest }) t → Steps p.tables e below (T.setTop g) t := by
  obtain ⟨v, _, ⟨T', L', k', n'⟩, -, X', ⟨Lc, hQ, l1, l2, l3⟩, st⟩ := Jvm.LawKit.callS X hx (y := y) hown (mvT hZ w1) (mvT hZ w2) (mvT hZ w3) (mvT hZ w4) hy (backOf (W := W) hM hZ w4 w3 hf hl) hg hsize (argsL := argsL) (rest := rest) hlen hstack hW hd (fun _ _ => ⟨rfl, eT, hc, hs⟩)
  dsimp only [Pt.U, Pt.locs, Pt.cells, Pt.slots] at X' l1 l2 l3 st hQ
  subst l1 l2 l3
  exact ⟨v, T', Lc, X', hQ, st⟩
theorem own_callV (X : Stand p l e R s m args below meth c T locs cells slots) (hx : p.tables.exec = Jvm.exec) (hZ : Z.Warmed39 s.vm) {own C : String} {index : Nat} {y : MethodName} {bytes : ByteArray} {maxL : Nat} {ret : Option FieldType} {rm : Room} {b : Addr} {argsL rest : List Value}
    (hown : s.vm.findClass own = some m.cls) (w1 : (Cond.methodLink own index y).before a0 Z = true) (w2 : (Cond.declares y).before a0 Z = true) (w3 : (Cond.selects C y y).before a0 Z = true) (w4 : (Cond.instanceMethod y).before a0 Z = true) (w5 : (Cond.initialized y.cls).before a0 Z = true) (w6 : (Cond.code y bytes maxL ret).before a0 Z = true)
    (hM : own_Met l y bytes maxL ret [] rm Z (.ref b :: argsL).toArray h Q) (eT : T.heap = h) (E : Exa Z h b C) (hy : y.cls ≠ "java/lang/invoke/MethodHandle" ∧ y.cls ≠ "java/lang/invoke/VarHandle") (hf : rm.frames + 1 ≤ R.frames) (W : Nat) (hl : W + (maxL + 11) + rm.locals ≤ R.locals) (hc : cells + rm.cells ≤ R.cells) (hs : slots + rm.slots ≤ R.slots)
    {g : JFrame} (hg : g.method = m) (hsize : g.locals.size = c.maxLocals) (hlen : ∀ sig, parseMethodDescriptor y.desc = some sig → argsL.length = sig.parameters.length) (hstack : g.stack = argsL.reverse ++ .ref b :: rest) (hW : 2 * g.monitorRoom + (rest.map fun v => v.category).sum ≤ W) (hd : decode c.code g.pc = .ok (.invokevirtual index, 3)) :
    ∃ v T' L, Stand p l e R s m args below meth c T' (locs ++ L) (cells + rm.cells) (slots + rm.slots) ∧ Q v T'.heap L ∧ ∀ t, Steps p.tables e below (T'.setTop { g with pc := g.pc + 3, stack := v.toList ++ rest }) t → Steps p.tables e below (T.setTop g) t := by
  obtain ⟨cq, kq, qa, qb, qc⟩ := isOf hZ eT E
  obtain ⟨v, _, ⟨T', L', k', n'⟩, -, X', ⟨Lc, hQ, l1, l2, l3⟩, st⟩ := X.virtualBack hx (y := y) (z := y) hown (mvT hZ w1) (mvT hZ w2) (notFace_of_selects (args := #[]) (mvT hZ w3)) (mvT hZ w3) (mvT hZ w4) hy (backOf (W := W) hM hZ w6 w5 hf hl) qa qc hg hsize (Steps.refl _) (argsL := argsL) (rest := rest) hlen hstack hW hd (fun _ _ => ⟨rfl, eT, hc, hs⟩)
  dsimp only [Pt.U, Pt.locs, Pt.cells, Pt.slots] at X' l1 l2 l3 st hQ
  subst l1 l2 l3
  exact ⟨v, T', Lc, X', hQ, fun t q => st.trans q⟩
theorem own_callP (X : Stand p l e R s m args below meth c T locs cells slots) (hx : p.tables.exec = Jvm.exec) (hZ : Z.Warmed39 s.vm) {own : String} {index : Nat} {y : MethodName} {bytes : ByteArray} {maxL : Nat} {rm : Room} {a : Addr} {argsL rest : List Value}
    (hown : s.vm.findClass own = some m.cls) (hy1 : y.name = "<init>") (w1 : (Cond.methodLink own index y).before a0 Z = true) (w2 : (Cond.instanceMethod y).before a0 Z = true) (w3 : (Cond.initialized y.cls).before a0 Z = true) (w4 : (Cond.code y bytes maxL none).before a0 Z = true)
    (hM : own_Met l y bytes maxL none [] rm Z (.ref a :: argsL).toArray h Q) (eT : T.heap = h) (hy : y.cls ≠ "java/lang/invoke/MethodHandle" ∧ y.cls ≠ "java/lang/invoke/VarHandle") (hf : rm.frames + 1 ≤ R.frames) (W : Nat) (hl : W + (maxL + 11) + rm.locals ≤ R.locals) (hc : cells + rm.cells ≤ R.cells) (hs : slots + rm.slots ≤ R.slots)
    {g : JFrame} (hg : g.method = m) (hsize : g.locals.size = c.maxLocals) (hlen : ∀ sig, parseMethodDescriptor y.desc = some sig → argsL.length = sig.parameters.length) (hstack : g.stack = argsL.reverse ++ .ref a :: rest) (hW : 2 * g.monitorRoom + (rest.map fun v => v.category).sum ≤ W) (hd : decode c.code g.pc = .ok (.invokespecial index, 3)) :
    ∃ v T' L, Stand p l e R s m args below meth c T' (locs ++ L) (cells + rm.cells) (slots + rm.slots) ∧ Q v T'.heap L ∧ ∀ t, Steps p.tables e below (T'.setTop { g with pc := g.pc + 3, stack := v.toList ++ rest }) t → Steps p.tables e below (T.setTop g) t := by
  obtain ⟨v, _, ⟨T', L', k', n'⟩, -, X', ⟨Lc, hQ, l1, l2, l3⟩, st⟩ := X.specialBack hx (y := y) hy1 hown (mvT hZ w1) (mvT hZ w2) (mvT hZ w4) hy (backOf (W := W) hM hZ w4 w3 hf hl) hg hsize (Steps.refl _) (a := a) (argsL := argsL) (rest := rest) hlen hstack hW hd (fun _ _ => ⟨rfl, eT, hc, hs⟩)
  dsimp only [Pt.U, Pt.locs, Pt.cells, Pt.slots] at X' l1 l2 l3 st hQ
  subst l1 l2 l3
  exact ⟨v, T', Lc, X', hQ, fun t q => st.trans q⟩
end OwnWalk
theorem own_llt (x y : Int64) : XT.cmpL x y < 0 ↔ x < y := by
  show (if y < x then (1 : Int32) else if x = y then 0 else -1) < 0 ↔ _
  split
  · rename_i h; exact ⟨fun q => absurd q (by decide), fun q => by rw [Int64.lt_iff_toInt_lt] at h q; omega⟩
  · rename_i h; split
    · rename_i h2; subst h2; exact ⟨fun q => absurd q (by decide), fun q => absurd q h⟩
    · rename_i h2; refine ⟨fun _ => ?_, fun _ => by decide⟩
      rw [← Int64.toInt_inj] at h2; rw [Int64.lt_iff_toInt_lt] at h ⊢; omega
theorem own_lgt (x y : Int64) : 0 < XT.cmpL x y ↔ y < x := by
  show 0 < (if y < x then (1 : Int32) else if x = y then 0 else -1) ↔ _
  split
  · rename_i h; exact ⟨fun _ => h, fun _ => by decide⟩
  · rename_i h; split
    · exact ⟨fun q => absurd q (by decide), fun q => absurd q h⟩
    · exact ⟨fun q => absurd q (by decide), fun q => absurd q h⟩
theorem own_leq (x y : Int64) : XT.cmpL x y = 0 ↔ x = y := by
  show (if y < x then (1 : Int32) else if x = y then 0 else -1) = 0 ↔ _
  split
  · rename_i h; refine ⟨fun q => absurd q (by decide), fun q => ?_⟩; subst q; exact absurd h (by simp only [Int64.lt_iff_toInt_lt]; omega)
  · split
    · rename_i h; exact ⟨fun _ => h, fun _ => rfl⟩
    · rename_i h; exact ⟨fun q => absurd q (by decide), fun q => absurd q h⟩
theorem own_at {x y : Value} (h : x = y) : XT.acmp .eq x y = true ∧ XT.acmp .ne x y = false := by subst h; exact ⟨decide_eq_true rfl, decide_eq_false fun q => q rfl⟩
theorem own_af {x y : Value} (h : ¬ (x = y)) : XT.acmp .eq x y = false ∧ XT.acmp .ne x y = true := ⟨decide_eq_false h, decide_eq_true h⟩
theorem own_fld {s : State} {args : Array Value} {t u : Term} {C n d : String} {a : Addr} {v : Value} (ev : t.eval args s none [] s = some (.ref a)) (hu : u.eval args s none [] s = some v) (hq : (Cond.eq (.field t C n d) u).value args s none s [] = some true) : Fld s s.heap a C n d v := by
  refine Fld.start ?_
  obtain ⟨x, y, h1, h2, -, -⟩ := cmp_v (Or.inl hq)
  cases hu.symm.trans h2
  have h3 := h1
  rw [fld_at ev] at h3
  simp only [Cond.value, h1, h2] at hq
  rw [h3]
  cases x <;> cases v <;> simp at hq ⊢ <;> exact hq
end Jvm.RoadKit
namespace Jvm.Pilot.@@N@@
open Jvm Jvm.ClassFile Sem Op Lib Jvm.Free Jvm.Stand Jvm.LawKit Jvm.RoadKit Bundle Jvm.Pilot.@@N@@.Jvm.D
def own_F (Z : State) (h : Heap) (w_READ w_BROWSE w_READ_ROLE_PERMISSIONS : Addr) : Prop := Sta Z h "com/example/dvarapala/dvarapala/engine/PermissionType" "READ" "Lcom/example/dvarapala/dvarapala/engine/PermissionType;" (.ref w_READ) ∧ Exa Z h w_READ "com/example/dvarapala/dvarapala/engine/PermissionType" ∧ Sta Z h "com/example/dvarapala/dvarapala/engine/PermissionType" "BROWSE" "Lcom/example/dvarapala/dvarapala/engine/PermissionType;" (.ref w_BROWSE) ∧ Exa Z h w_BROWSE "com/example/dvarapala/dvarapala/engine/PermissionType" ∧ Sta Z h "com/example/dvarapala/dvarapala/engine/PermissionType" "READ_ROLE_PERMISSIONS" "Lcom/example/dvarapala/dvarapala/engine/PermissionType;" (.ref w_READ_ROLE_PERMISSIONS) ∧ Exa Z h w_READ_ROLE_PERMISSIONS "com/example/dvarapala/dvarapala/engine/PermissionType" ∧ Fld Z h w_READ "com/example/dvarapala/dvarapala/engine/PermissionType" "bit" "I" (.int (5 : Int32)) ∧ Fld Z h w_BROWSE "com/example/dvarapala/dvarapala/engine/PermissionType" "bit" "I" (.int (0 : Int32)) ∧ Fld Z h w_READ_ROLE_PERMISSIONS "com/example/dvarapala/dvarapala/engine/PermissionType" "bit" "I" (.int (1 : Int32)) ∧ w_READ ≠ w_BROWSE ∧ w_READ ≠ w_READ_ROLE_PERMISSIONS ∧ w_BROWSE ≠ w_READ_ROLE_PERMISSIONS
theorem d1_0 : decode prog_15_method_6_code 0 = .ok (.iload_n 0, 1) := by decide +kernel
theorem d1_1 : decode prog_15_method_6_code 1 = .ok (.bipush 13, 2) := by decide +kernel
theorem d1_3 : decode prog_15_method_6_code 3 = .ok (.if_icmp .ne 10, 3) := by decide +kernel
theorem d1_6 : decode prog_15_method_6_code 6 = .ok (.getstatic 19, 3) := by decide +kernel
theorem d1_9 : decode prog_15_method_6_code 9 = .ok (.astore_n 1, 1) := by decide +kernel
theorem d1_10 : decode prog_15_method_6_code 10 = .ok (.goto 20, 3) := by decide +kernel
theorem d1_13 : decode prog_15_method_6_code 13 = .ok (.iload_n 0, 1) := by decide +kernel
theorem d1_14 : decode prog_15_method_6_code 14 = .ok (.bipush 24, 2) := by decide +kernel
theorem d1_16 : decode prog_15_method_6_code 16 = .ok (.if_icmp .ne 10, 3) := by decide +kernel
theorem d1_19 : decode prog_15_method_6_code 19 = .ok (.getstatic 7, 3) := by decide +kernel
theorem d1_22 : decode prog_15_method_6_code 22 = .ok (.astore_n 1, 1) := by decide +kernel
theorem d1_23 : decode prog_15_method_6_code 23 = .ok (.goto 7, 3) := by decide +kernel
theorem d1_26 : decode prog_15_method_6_code 26 = .ok (.getstatic 3, 3) := by decide +kernel
theorem d1_29 : decode prog_15_method_6_code 29 = .ok (.astore_n 1, 1) := by decide +kernel
theorem d1_30 : decode prog_15_method_6_code 30 = .ok (.aload_n 1, 1) := by decide +kernel
theorem d1_31 : decode prog_15_method_6_code 31 = .ok (.areturn, 1) := by decide +kernel
set_option maxRecDepth 65536 in
set_option maxHeartbeats 40000000 in
theorem rm_n (l : Launch) (Z : State) (a0 : Array Value) (hw : ∀ d ∈ tables_1, d.before a0 Z = true) (ws : List Jvm.Cond) (p1 : Int32) (w_READ w_BROWSE w_READ_ROLE_PERMISSIONS : Addr) (h0 : Heap) (FX : own_F Z h0 w_READ w_BROWSE w_READ_ROLE_PERMISSIONS) :
    own_Met l (⟨"com/example/dvarapala/dvarapala/engine/PermissionType", "neededToRead", "(I)Lcom/example/dvarapala/dvarapala/engine/PermissionType;"⟩ : MethodName) prog_15_method_6_code 2 (some (.object "com/example/dvarapala/dvarapala/engine/PermissionType")) ws ({ frames := 0, cells := 0, slots := 0, locals := 0 } : Room) Z #[(.int p1)] h0 (fun v h L => ((p1 = 13 ∧ v = some (.ref w_READ)) ∨ (p1 = 24 ∧ v = some (.ref w_READ_ROLE_PERMISSIONS)) ∨ ((p1 ≠ 13 ∧ p1 ≠ 24) ∧ v = some (.ref w_BROWSE))) ∧ h = h0 ∧ L = []) := by
  refine MetFree.of_bodySF (plainFor_of_name (by first | (simp [plainName, overriddenIn]; done) | decide +kernel)) hisR ?_
  intro p e s m args below meth c s₁ Bd hml0 hP hK
  obtain ⟨rfl, hZ, hh⟩ := hP
  have hx := Bd.exec
  have hby := Bd.bytes
  have hml : c.maxLocals = 2 := hml0
  have hown : s.vm.findClass "com/example/dvarapala/dvarapala/engine/PermissionType" = some m.cls := findClass_of_methodNamed Bd.named
  have hnm := (name_of_methodNamed Bd.named Bd.method).1
  have hlk : meth.locks = false := Bd.notSynchronized
  have hret := Bd.returns
  have X0 : Stand p l e ({ frames := 0, cells := 0, slots := 0, locals := 0 } : Room) s m #[(.int p1)] below meth c s₁ [] 0 0 := Stand.of_body Bd
  have e0 : s₁.heap = h0 := by rw [← hh, Bd.state]; rfl
  refine own_in (Q := fun v h L => ((p1 = 13 ∧ v = some (.ref w_READ)) ∨ (p1 = 24 ∧ v = some (.ref w_READ_ROLE_PERMISSIONS)) ∨ ((p1 ≠ 13 ∧ p1 ≠ 24) ∧ v = some (.ref w_BROWSE))) ∧ h = h0 ∧ L = []) (ef := by first | (simp [entryFrame, mkF, argsToLocals, Value.category, maxLocals]; done) | rfl) (g' := (mkF m 0 #[.val (.int p1), .unset] [])) ?_
  obtain ⟨S_READ, E_READ, S_BROWSE, E_BROWSE, S_READ_ROLE_PERMISSIONS, E_READ_ROLE_PERMISSIONS, F_READ_bit, F_BROWSE_bit, F_READ_ROLE_PERMISSIONS_bit, ne_READ_BROWSE, ne_READ_READ_ROLE_PERMISSIONS, ne_BROWSE_READ_ROLE_PERMISSIONS⟩ := id FX
  refine own_go (T' := s₁) (g' := (mkF m 1 #[.val (.int p1), .unset] [(.int p1)])) (fun t q => XS.iloadN X0.here hx rfl (hb hby d1_0) rfl q) ?_
  refine own_go (T' := s₁) (g' := (mkF m 3 #[.val (.int p1), .unset] [(.int (13 : Int32)), (.int p1)])) (fun t q => XS.bipush X0.here hx rfl (hb hby d1_1) q) ?_
  by_cases c1 : p1 = (13 : Int32)
  · refine own_go (T' := s₁) (g' := (mkF m 6 #[.val (.int p1), .unset] [])) (fun t q => XS.icmpNo X0.here hx rfl (hb hby d1_3) rfl (teq c1).2 q) ?_
    obtain ⟨T2, X2, e2, st2⟩ := getS2 X0 hx hZ hown (host := "") (Or.inl (hw _ (List.mem_of_getElem? (i := 4) rfl))) Via.refl e0 S_READ (g := (mkF m 6 #[.val (.int p1), .unset] [])) rfl (hb hby d1_6)
    refine own_go (T' := T2) (g' := (mkF m 9 #[.val (.int p1), .unset] [(.ref w_READ)])) (fun t q => st2 t q) ?_
    refine own_go (T' := T2) (g' := (mkF m 10 #[.val (.int p1), .val (.ref w_READ)] [])) (fun t q => XS.astoreN X2.here hx rfl (hb hby d1_9) rfl rfl (l' := #[.val (.int p1), .val (.ref w_READ)]) rfl q) ?_
    refine own_go (T' := T2) (g' := (mkF m 30 #[.val (.int p1), .val (.ref w_READ)] [])) (fun t q => XS.goto X2.here hx rfl (pc0 := 10) (pc' := 30) rfl (hb hby d1_10) (by decide) (by decide) q) ?_
    refine own_go (T' := T2) (g' := (mkF m 31 #[.val (.int p1), .val (.ref w_READ)] [(.ref w_READ)])) (fun t q => XS.aloadN X2.here hx rfl (hb hby d1_30) rfl rfl q) ?_
    refine own_outA X2 hx hlk hret rfl rfl (hb hby d1_31) ?_ (by decide) (by decide)
    exact ⟨Or.inl ⟨c1, rfl⟩, e2, rfl⟩
  · refine own_go (T' := s₁) (g' := (mkF m 13 #[.val (.int p1), .unset] [])) (fun t q => XS.icmpYes X0.here hx rfl (pc0 := 3) (pc' := 13) rfl (hb hby d1_3) rfl (feq c1).2 (by decide) (by decide) q) ?_
    refine own_go (T' := s₁) (g' := (mkF m 14 #[.val (.int p1), .unset] [(.int p1)])) (fun t q => XS.iloadN X0.here hx rfl (hb hby d1_13) rfl q) ?_
    refine own_go (T' := s₁) (g' := (mkF m 16 #[.val (.int p1), .unset] [(.int (24 : Int32)), (.int p1)])) (fun t q => XS.bipush X0.here hx rfl (hb hby d1_14) q) ?_
    by_cases c3 : p1 = (24 : Int32)
    · refine own_go (T' := s₁) (g' := (mkF m 19 #[.val (.int p1), .unset] [])) (fun t q => XS.icmpNo X0.here hx rfl (hb hby d1_16) rfl (teq c3).2 q) ?_
      obtain ⟨T4, X4, e4, st4⟩ := getS2 X0 hx hZ hown (host := "") (Or.inl (hw _ (List.mem_of_getElem? (i := 18) rfl))) Via.refl e0 S_READ_ROLE_PERMISSIONS (g := (mkF m 19 #[.val (.int p1), .unset] [])) rfl (hb hby d1_19)
      refine own_go (T' := T4) (g' := (mkF m 22 #[.val (.int p1), .unset] [(.ref w_READ_ROLE_PERMISSIONS)])) (fun t q => st4 t q) ?_
      refine own_go (T' := T4) (g' := (mkF m 23 #[.val (.int p1), .val (.ref w_READ_ROLE_PERMISSIONS)] [])) (fun t q => XS.astoreN X4.here hx rfl (hb hby d1_22) rfl rfl (l' := #[.val (.int p1), .val (.ref w_READ_ROLE_PERMISSIONS)]) rfl q) ?_
      refine own_go (T' := T4) (g' := (mkF m 30 #[.val (.int p1), .val (.ref w_READ_ROLE_PERMISSIONS)] [])) (fun t q => XS.goto X4.here hx rfl (pc0 := 23) (pc' := 30) rfl (hb hby d1_23) (by decide) (by decide) q) ?_
      refine own_go (T' := T4) (g' := (mkF m 31 #[.val (.int p1), .val (.ref w_READ_ROLE_PERMISSIONS)] [(.ref w_READ_ROLE_PERMISSIONS)])) (fun t q => XS.aloadN X4.here hx rfl (hb hby d1_30) rfl rfl q) ?_
      refine own_outA X4 hx hlk hret rfl rfl (hb hby d1_31) ?_ (by decide) (by decide)
      exact ⟨Or.inr (Or.inl ⟨c3, rfl⟩), e4, rfl⟩
    · refine own_go (T' := s₁) (g' := (mkF m 26 #[.val (.int p1), .unset] [])) (fun t q => XS.icmpYes X0.here hx rfl (pc0 := 16) (pc' := 26) rfl (hb hby d1_16) rfl (feq c3).2 (by decide) (by decide) q) ?_
      obtain ⟨T5, X5, e5, st5⟩ := getS2 X0 hx hZ hown (host := "") (Or.inl (hw _ (List.mem_of_getElem? (i := 15) rfl))) Via.refl e0 S_BROWSE (g := (mkF m 26 #[.val (.int p1), .unset] [])) rfl (hb hby d1_26)
      refine own_go (T' := T5) (g' := (mkF m 29 #[.val (.int p1), .unset] [(.ref w_BROWSE)])) (fun t q => st5 t q) ?_
      refine own_go (T' := T5) (g' := (mkF m 30 #[.val (.int p1), .val (.ref w_BROWSE)] [])) (fun t q => XS.astoreN X5.here hx rfl (hb hby d1_29) rfl rfl (l' := #[.val (.int p1), .val (.ref w_BROWSE)]) rfl q) ?_
      refine own_go (T' := T5) (g' := (mkF m 31 #[.val (.int p1), .val (.ref w_BROWSE)] [(.ref w_BROWSE)])) (fun t q => XS.aloadN X5.here hx rfl (hb hby d1_30) rfl rfl q) ?_
      refine own_outA X5 hx hlk hret rfl rfl (hb hby d1_31) ?_ (by decide) (by decide)
      exact ⟨Or.inr (Or.inr (⟨⟨c1, c3⟩, rfl⟩)), e5, rfl⟩
theorem d2_0 : decode prog_15_method_5_code 0 = .ok (.lconst 1, 1) := by decide +kernel
theorem d2_1 : decode prog_15_method_5_code 1 = .ok (.aload_n 0, 1) := by decide +kernel
theorem d2_2 : decode prog_15_method_5_code 2 = .ok (.getfield 74, 3) := by decide +kernel
theorem d2_5 : decode prog_15_method_5_code 5 = .ok (.lshl, 1) := by decide +kernel
theorem d2_6 : decode prog_15_method_5_code 6 = .ok (.lreturn, 1) := by decide +kernel
set_option maxRecDepth 65536 in
set_option maxHeartbeats 40000000 in
theorem rm_mask_READ (l : Launch) (Z : State) (a0 : Array Value) (hw : ∀ d ∈ tables_1, d.before a0 Z = true) (ws : List Jvm.Cond) (w_READ w_BROWSE w_READ_ROLE_PERMISSIONS : Addr) (h0 : Heap) (FX : own_F Z h0 w_READ w_BROWSE w_READ_ROLE_PERMISSIONS) :
    own_Met l (⟨"com/example/dvarapala/dvarapala/engine/PermissionType", "mask", "()J"⟩ : MethodName) prog_15_method_5_code 1 (some .long) ws ({ frames := 0, cells := 0, slots := 0, locals := 0 } : Room) Z #[(.ref w_READ)] h0 (fun v h L => v = some (.long (32 : Int64)) ∧ h = h0 ∧ L = []) := by
  refine MetFree.of_bodySF (plainFor_of_name (by first | (simp [plainName, overriddenIn]; done) | decide +kernel)) hisR ?_
  intro p e s m args below meth c s₁ Bd hml0 hP hK
  obtain ⟨rfl, hZ, hh⟩ := hP
  have hx := Bd.exec
  have hby := Bd.bytes
  have hml : c.maxLocals = 1 := hml0
  have hown : s.vm.findClass "com/example/dvarapala/dvarapala/engine/PermissionType" = some m.cls := findClass_of_methodNamed Bd.named
  have hnm := (name_of_methodNamed Bd.named Bd.method).1
  have hlk : meth.locks = false := Bd.notSynchronized
  have hret := Bd.returns
  have X0 : Stand p l e ({ frames := 0, cells := 0, slots := 0, locals := 0 } : Room) s m #[(.ref w_READ)] below meth c s₁ [] 0 0 := Stand.of_body Bd
  have e0 : s₁.heap = h0 := by rw [← hh, Bd.state]; rfl
  refine own_in (Q := fun v h L => v = some (.long (32 : Int64)) ∧ h = h0 ∧ L = []) (ef := by first | (simp [entryFrame, mkF, argsToLocals, Value.category, maxLocals]; done) | rfl) (g' := (mkF m 0 #[.val (.ref w_READ)] [])) ?_
  obtain ⟨S_READ, E_READ, S_BROWSE, E_BROWSE, S_READ_ROLE_PERMISSIONS, E_READ_ROLE_PERMISSIONS, F_READ_bit, F_BROWSE_bit, F_READ_ROLE_PERMISSIONS_bit, ne_READ_BROWSE, ne_READ_READ_ROLE_PERMISSIONS, ne_BROWSE_READ_ROLE_PERMISSIONS⟩ := id FX
  refine own_go (T' := s₁) (g' := (mkF m 1 #[.val (.ref w_READ)] [(.long (1 : Int64))])) (fun t q => XT.lconst X0.here hx rfl (hb hby d2_0) q) ?_
  refine own_go (T' := s₁) (g' := (mkF m 2 #[.val (.ref w_READ)] [(.ref w_READ), (.long (1 : Int64))])) (fun t q => XS.aloadN X0.here hx rfl (hb hby d2_1) rfl rfl q) ?_
  obtain ⟨T1, X1, e1, st1⟩ := getF X0 hx hZ hown (host := "") (Or.inl (hw _ (List.mem_of_getElem? (i := 13) rfl))) Via.refl e0 F_READ_bit (g := (mkF m 2 #[.val (.ref w_READ)] [(.ref w_READ), (.long (1 : Int64))])) rfl rfl (hb hby d2_2)
  refine own_go (T' := T1) (g' := (mkF m 5 #[.val (.ref w_READ)] [(.int (5 : Int32)), (.long (1 : Int64))])) (fun t q => st1 t q) ?_
  refine own_go (T' := T1) (g' := (mkF m 6 #[.val (.ref w_READ)] [(.long ((1 : Int64) <<< (((5 : Int32)).toInt64 &&& 63)))])) (fun t q => XT.lshl X1.here hx rfl (hb hby d2_5) rfl q) ?_
  refine own_outJ X1 hx hlk hret (hb hby d2_6) ?_ (by decide) (by decide)
  exact ⟨congrArg (fun z => some (Value.long z)) (by decide), e1, rfl⟩
set_option maxRecDepth 65536 in
set_option maxHeartbeats 40000000 in
theorem rm_mask_BROWSE (l : Launch) (Z : State) (a0 : Array Value) (hw : ∀ d ∈ tables_1, d.before a0 Z = true) (ws : List Jvm.Cond) (w_READ w_BROWSE w_READ_ROLE_PERMISSIONS : Addr) (h0 : Heap) (FX : own_F Z h0 w_READ w_BROWSE w_READ_ROLE_PERMISSIONS) :
    own_Met l (⟨"com/example/dvarapala/dvarapala/engine/PermissionType", "mask", "()J"⟩ : MethodName) prog_15_method_5_code 1 (some .long) ws ({ frames := 0, cells := 0, slots := 0, locals := 0 } : Room) Z #[(.ref w_BROWSE)] h0 (fun v h L => v = some (.long (1 : Int64)) ∧ h = h0 ∧ L = []) := by
  refine MetFree.of_bodySF (plainFor_of_name (by first | (simp [plainName, overriddenIn]; done) | decide +kernel)) hisR ?_
  intro p e s m args below meth c s₁ Bd hml0 hP hK
  obtain ⟨rfl, hZ, hh⟩ := hP
  have hx := Bd.exec
  have hby := Bd.bytes
  have hml : c.maxLocals = 1 := hml0
  have hown : s.vm.findClass "com/example/dvarapala/dvarapala/engine/PermissionType" = some m.cls := findClass_of_methodNamed Bd.named
  have hnm := (name_of_methodNamed Bd.named Bd.method).1
  have hlk : meth.locks = false := Bd.notSynchronized
  have hret := Bd.returns
  have X0 : Stand p l e ({ frames := 0, cells := 0, slots := 0, locals := 0 } : Room) s m #[(.ref w_BROWSE)] below meth c s₁ [] 0 0 := Stand.of_body Bd
  have e0 : s₁.heap = h0 := by rw [← hh, Bd.state]; rfl
  refine own_in (Q := fun v h L => v = some (.long (1 : Int64)) ∧ h = h0 ∧ L = []) (ef := by first | (simp [entryFrame, mkF, argsToLocals, Value.category, maxLocals]; done) | rfl) (g' := (mkF m 0 #[.val (.ref w_BROWSE)] [])) ?_
  obtain ⟨S_READ, E_READ, S_BROWSE, E_BROWSE, S_READ_ROLE_PERMISSIONS, E_READ_ROLE_PERMISSIONS, F_READ_bit, F_BROWSE_bit, F_READ_ROLE_PERMISSIONS_bit, ne_READ_BROWSE, ne_READ_READ_ROLE_PERMISSIONS, ne_BROWSE_READ_ROLE_PERMISSIONS⟩ := id FX
  refine own_go (T' := s₁) (g' := (mkF m 1 #[.val (.ref w_BROWSE)] [(.long (1 : Int64))])) (fun t q => XT.lconst X0.here hx rfl (hb hby d2_0) q) ?_
  refine own_go (T' := s₁) (g' := (mkF m 2 #[.val (.ref w_BROWSE)] [(.ref w_BROWSE), (.long (1 : Int64))])) (fun t q => XS.aloadN X0.here hx rfl (hb hby d2_1) rfl rfl q) ?_
  obtain ⟨T1, X1, e1, st1⟩ := getF X0 hx hZ hown (host := "") (Or.inl (hw _ (List.mem_of_getElem? (i := 13) rfl))) Via.refl e0 F_BROWSE_bit (g := (mkF m 2 #[.val (.ref w_BROWSE)] [(.ref w_BROWSE), (.long (1 : Int64))])) rfl rfl (hb hby d2_2)
  refine own_go (T' := T1) (g' := (mkF m 5 #[.val (.ref w_BROWSE)] [(.int (0 : Int32)), (.long (1 : Int64))])) (fun t q => st1 t q) ?_
  refine own_go (T' := T1) (g' := (mkF m 6 #[.val (.ref w_BROWSE)] [(.long ((1 : Int64) <<< (((0 : Int32)).toInt64 &&& 63)))])) (fun t q => XT.lshl X1.here hx rfl (hb hby d2_5) rfl q) ?_
  refine own_outJ X1 hx hlk hret (hb hby d2_6) ?_ (by decide) (by decide)
  exact ⟨congrArg (fun z => some (Value.long z)) (by decide), e1, rfl⟩
set_option maxRecDepth 65536 in
set_option maxHeartbeats 40000000 in
theorem rm_mask_READ_ROLE_PERMISSIONS (l : Launch) (Z : State) (a0 : Array Value) (hw : ∀ d ∈ tables_1, d.before a0 Z = true) (ws : List Jvm.Cond) (w_READ w_BROWSE w_READ_ROLE_PERMISSIONS : Addr) (h0 : Heap) (FX : own_F Z h0 w_READ w_BROWSE w_READ_ROLE_PERMISSIONS) :
    own_Met l (⟨"com/example/dvarapala/dvarapala/engine/PermissionType", "mask", "()J"⟩ : MethodName) prog_15_method_5_code 1 (some .long) ws ({ frames := 0, cells := 0, slots := 0, locals := 0 } : Room) Z #[(.ref w_READ_ROLE_PERMISSIONS)] h0 (fun v h L => v = some (.long (2 : Int64)) ∧ h = h0 ∧ L = []) := by
  refine MetFree.of_bodySF (plainFor_of_name (by first | (simp [plainName, overriddenIn]; done) | decide +kernel)) hisR ?_
  intro p e s m args below meth c s₁ Bd hml0 hP hK
  obtain ⟨rfl, hZ, hh⟩ := hP
  have hx := Bd.exec
  have hby := Bd.bytes
  have hml : c.maxLocals = 1 := hml0
  have hown : s.vm.findClass "com/example/dvarapala/dvarapala/engine/PermissionType" = some m.cls := findClass_of_methodNamed Bd.named
  have hnm := (name_of_methodNamed Bd.named Bd.method).1
  have hlk : meth.locks = false := Bd.notSynchronized
  have hret := Bd.returns
  have X0 : Stand p l e ({ frames := 0, cells := 0, slots := 0, locals := 0 } : Room) s m #[(.ref w_READ_ROLE_PERMISSIONS)] below meth c s₁ [] 0 0 := Stand.of_body Bd
  have e0 : s₁.heap = h0 := by rw [← hh, Bd.state]; rfl
  refine own_in (Q := fun v h L => v = some (.long (2 : Int64)) ∧ h = h0 ∧ L = []) (ef := by first | (simp [entryFrame, mkF, argsToLocals, Value.category, maxLocals]; done) | rfl) (g' := (mkF m 0 #[.val (.ref w_READ_ROLE_PERMISSIONS)] [])) ?_
  obtain ⟨S_READ, E_READ, S_BROWSE, E_BROWSE, S_READ_ROLE_PERMISSIONS, E_READ_ROLE_PERMISSIONS, F_READ_bit, F_BROWSE_bit, F_READ_ROLE_PERMISSIONS_bit, ne_READ_BROWSE, ne_READ_READ_ROLE_PERMISSIONS, ne_BROWSE_READ_ROLE_PERMISSIONS⟩ := id FX
  refine own_go (T' := s₁) (g' := (mkF m 1 #[.val (.ref w_READ_ROLE_PERMISSIONS)] [(.long (1 : Int64))])) (fun t q => XT.lconst X0.here hx rfl (hb hby d2_0) q) ?_
  refine own_go (T' := s₁) (g' := (mkF m 2 #[.val (.ref w_READ_ROLE_PERMISSIONS)] [(.ref w_READ_ROLE_PERMISSIONS), (.long (1 : Int64))])) (fun t q => XS.aloadN X0.here hx rfl (hb hby d2_1) rfl rfl q) ?_
  obtain ⟨T1, X1, e1, st1⟩ := getF X0 hx hZ hown (host := "") (Or.inl (hw _ (List.mem_of_getElem? (i := 13) rfl))) Via.refl e0 F_READ_ROLE_PERMISSIONS_bit (g := (mkF m 2 #[.val (.ref w_READ_ROLE_PERMISSIONS)] [(.ref w_READ_ROLE_PERMISSIONS), (.long (1 : Int64))])) rfl rfl (hb hby d2_2)
  refine own_go (T' := T1) (g' := (mkF m 5 #[.val (.ref w_READ_ROLE_PERMISSIONS)] [(.int (1 : Int32)), (.long (1 : Int64))])) (fun t q => st1 t q) ?_
  refine own_go (T' := T1) (g' := (mkF m 6 #[.val (.ref w_READ_ROLE_PERMISSIONS)] [(.long ((1 : Int64) <<< (((1 : Int32)).toInt64 &&& 63)))])) (fun t q => XT.lshl X1.here hx rfl (hb hby d2_5) rfl q) ?_
  refine own_outJ X1 hx hlk hret (hb hby d2_6) ?_ (by decide) (by decide)
  exact ⟨congrArg (fun z => some (Value.long z)) (by decide), e1, rfl⟩
set_option maxRecDepth 65536 in
set_option maxHeartbeats 40000000 in
theorem rm0 (l : Launch) (Z : State) (a0 : Array Value) (hw : ∀ d ∈ tables_1, d.before a0 Z = true) (ws : List Jvm.Cond) (p1 p2 : Int32) (w_READ w_BROWSE w_READ_ROLE_PERMISSIONS : Addr) (h0 : Heap) (FX : own_F Z h0 w_READ w_BROWSE w_READ_ROLE_PERMISSIONS) :
    own_Met l x code maxLocals ret ws room_1 Z #[(.int p1), (.int p2)] h0 (fun v _ L => v = some (.int (1 : Int32)) ∧ Fr h0.size L) := by
  refine MetFree.of_bodySF (plainFor_of_name (by first | (simp [plainName, overriddenIn]; done) | decide +kernel)) hisR ?_
  intro p e s m args below meth c s₁ Bd hml0 hP hK
  obtain ⟨rfl, hZ, hh⟩ := hP
  have hx := Bd.exec
  have hby := Bd.bytes
  have hml : c.maxLocals = 8 := hml0
  have hown : s.vm.findClass "com/example/dvarapala/dvarapala/engine/PermissionTypeNeededToReadPinLaw" = some m.cls := findClass_of_methodNamed Bd.named
  have hnm := (name_of_methodNamed Bd.named Bd.method).1
  have hlk : meth.locks = false := Bd.notSynchronized
  have hret := Bd.returns
  have X0 : Stand p l e room_1 s m #[(.int p1), (.int p2)] below meth c s₁ [] 0 0 := Stand.of_body Bd
  have e0 : s₁.heap = h0 := by rw [← hh, Bd.state]; rfl
  refine own_in (Q := fun v _ L => v = some (.int (1 : Int32)) ∧ Fr h0.size L) (ef := by first | (simp [entryFrame, mkF, argsToLocals, Value.category, maxLocals]; done) | rfl) (g' := (mkF m 0 #[.val (.int p1), .val (.int p2), .unset, .unset, .unset, .unset, .unset, .unset] [])) ?_
  obtain ⟨S_READ, E_READ, S_BROWSE, E_BROWSE, S_READ_ROLE_PERMISSIONS, E_READ_ROLE_PERMISSIONS, F_READ_bit, F_BROWSE_bit, F_READ_ROLE_PERMISSIONS_bit, ne_READ_BROWSE, ne_READ_READ_ROLE_PERMISSIONS, ne_BROWSE_READ_ROLE_PERMISSIONS⟩ := id FX
  refine own_go (T' := s₁) (g' := (mkF m 1 #[.val (.int p1), .val (.int p2), .unset, .unset, .unset, .unset, .unset, .unset] [(.int p1)])) (fun t q => XS.iloadN X0.here hx rfl (hb hby at_0) rfl q) ?_
  refine own_go (T' := s₁) (g' := (mkF m 3 #[.val (.int p1), .val (.int p2), .unset, .unset, .unset, .unset, .unset, .unset] [(.int (7 : Int32)), (.int p1)])) (fun t q => XS.bipush X0.here hx rfl (hb hby at_1) q) ?_
  refine own_go (T' := s₁) (g' := (mkF m 4 #[.val (.int p1), .val (.int p2), .unset, .unset, .unset, .unset, .unset, .unset] [(.int (p1 &&& (7 : Int32)))])) (fun t q => XS.iand X0.here hx rfl (hb hby at_3) rfl q) ?_
  obtain ⟨kk, hk0⟩ : ∃ z : Int32, z = (p1 &&& (7 : Int32)) := ⟨_, rfl⟩
  rw [← hk0]
  refine own_go (T' := s₁) (g' := (mkF m 5 #[.val (.int p1), .val (.int p2), .val (.int kk), .unset, .unset, .unset, .unset, .unset] [])) (fun t q => XS.istoreN X0.here hx rfl (hb hby at_4) rfl (l' := #[.val (.int p1), .val (.int p2), .val (.int kk), .unset, .unset, .unset, .unset, .unset]) rfl q) ?_
  refine own_go (T' := s₁) (g' := (mkF m 6 #[.val (.int p1), .val (.int p2), .val (.int kk), .unset, .unset, .unset, .unset, .unset] [(.int kk)])) (fun t q => XS.iloadN X0.here hx rfl (hb hby at_5) rfl q) ?_
  by_cases c1 : kk = (0 : Int32)
  · refine own_go (T' := s₁) (g' := (mkF m 9 #[.val (.int p1), .val (.int p2), .val (.int kk), .unset, .unset, .unset, .unset, .unset] [])) (fun t q => XS.ifNo X0.here hx rfl (hb hby at_6) rfl ((if0 _ _).trans (teq c1).2) q) ?_
    refine own_go (T' := s₁) (g' := (mkF m 11 #[.val (.int p1), .val (.int p2), .val (.int kk), .unset, .unset, .unset, .unset, .unset] [(.int (13 : Int32))])) (fun t q => XS.bipush X0.here hx rfl (hb hby at_9) q) ?_
    refine own_go (T' := s₁) (g' := (mkF m 12 #[.val (.int p1), .val (.int p2), .val (.int kk), .val (.int (13 : Int32)), .unset, .unset, .unset, .unset] [])) (fun t q => XS.istoreN X0.here hx rfl (hb hby at_11) rfl (l' := #[.val (.int p1), .val (.int p2), .val (.int kk), .val (.int (13 : Int32)), .unset, .unset, .unset, .unset]) rfl q) ?_
    refine own_go (T' := s₁) (g' := (mkF m 84 #[.val (.int p1), .val (.int p2), .val (.int kk), .val (.int (13 : Int32)), .unset, .unset, .unset, .unset] [])) (fun t q => XS.goto X0.here hx rfl (pc0 := 12) (pc' := 84) rfl (hb hby at_12) (by decide) (by decide) q) ?_
    refine own_go (T' := s₁) (g' := (mkF m 85 #[.val (.int p1), .val (.int p2), .val (.int kk), .val (.int (13 : Int32)), .unset, .unset, .unset, .unset] [(.int (13 : Int32))])) (fun t q => XS.iloadN X0.here hx rfl (hb hby at_84) rfl q) ?_
    obtain ⟨v2, T2, L2, X2, Q2, st2⟩ := own_callS X0 hx hZ (y := (⟨"com/example/dvarapala/dvarapala/engine/PermissionType", "neededToRead", "(I)Lcom/example/dvarapala/dvarapala/engine/PermissionType;"⟩ : MethodName)) (argsL := [(.int (13 : Int32))]) (rest := []) hown (hw _ (List.mem_of_getElem? (i := 0) rfl)) (hw _ (List.mem_of_getElem? (i := 1) rfl)) (hw _ (List.mem_of_getElem? (i := 2) rfl)) (hw _ (List.mem_of_getElem? (i := 3) rfl)) (rm_n l Z a0 hw [] (13 : Int32) w_READ w_BROWSE w_READ_ROLE_PERMISSIONS h0 FX) e0 (by decide) (by decide) 0 (by decide) (by decide) (by decide) (g := (mkF m 85 #[.val (.int p1), .val (.int p2), .val (.int kk), .val (.int (13 : Int32)), .unset, .unset, .unset, .unset] [(.int (13 : Int32))])) rfl (by rw [hml]; rfl) (lenOf (ps := [.int]) (r := (some (.object "com/example/dvarapala/dvarapala/engine/PermissionType"))) (by decide +kernel) rfl) rfl (by show 2 * 0 + _ ≤ _; exact Nat.le_of_eq rfl) (hb hby at_85)
    obtain ⟨Q2, e2, rfl⟩ := Q2
    rcases Q2 with ⟨hk, rfl⟩ | ⟨hk, rfl⟩ | ⟨hk, rfl⟩
    · refine own_go (T' := T2) (g' := (mkF m 88 #[.val (.int p1), .val (.int p2), .val (.int kk), .val (.int (13 : Int32)), .unset, .unset, .unset, .unset] [(.ref w_READ)])) (fun t q => st2 t q) ?_
      refine own_go (T' := T2) (g' := (mkF m 90 #[.val (.int p1), .val (.int p2), .val (.int kk), .val (.int (13 : Int32)), .val (.ref w_READ), .unset, .unset, .unset] [])) (fun t q => XS.astore X2.here hx rfl (hb hby at_88) rfl rfl (l' := #[.val (.int p1), .val (.int p2), .val (.int kk), .val (.int (13 : Int32)), .val (.ref w_READ), .unset, .unset, .unset]) rfl q) ?_
      refine own_go (T' := T2) (g' := (mkF m 92 #[.val (.int p1), .val (.int p2), .val (.int kk), .val (.int (13 : Int32)), .val (.ref w_READ), .unset, .unset, .unset] [(.ref w_READ)])) (fun t q => XS.aload X2.here hx rfl (hb hby at_90) rfl rfl q) ?_
      refine own_go (T' := T2) (g' := (mkF m 97 #[.val (.int p1), .val (.int p2), .val (.int kk), .val (.int (13 : Int32)), .val (.ref w_READ), .unset, .unset, .unset] [])) (fun t q => XT.ifnonnullYes X2.here hx rfl (pc0 := 92) (pc' := 97) rfl (hb hby at_92) rfl (by decide) (by decide) q) ?_
      refine own_go (T' := T2) (g' := (mkF m 98 #[.val (.int p1), .val (.int p2), .val (.int kk), .val (.int (13 : Int32)), .val (.ref w_READ), .unset, .unset, .unset] [(.int (13 : Int32))])) (fun t q => XS.iloadN X2.here hx rfl (hb hby at_97) rfl q) ?_
      refine own_go (T' := T2) (g' := (mkF m 100 #[.val (.int p1), .val (.int p2), .val (.int kk), .val (.int (13 : Int32)), .val (.ref w_READ), .unset, .unset, .unset] [(.int (13 : Int32)), (.int (13 : Int32))])) (fun t q => XS.bipush X2.here hx rfl (hb hby at_98) q) ?_
      have c3 : (13 : Int32) = (13 : Int32) := by decide
      refine own_go (T' := T2) (g' := (mkF m 103 #[.val (.int p1), .val (.int p2), .val (.int kk), .val (.int (13 : Int32)), .val (.ref w_READ), .unset, .unset, .unset] [])) (fun t q => XS.icmpNo X2.here hx rfl (hb hby at_100) rfl (teq c3).2 q) ?_
      obtain ⟨T4, X4, e4, st4⟩ := getS2 X2 hx hZ hown (host := "") (Or.inl (hw _ (List.mem_of_getElem? (i := 6) rfl))) Via.refl e2 S_READ (g := (mkF m 103 #[.val (.int p1), .val (.int p2), .val (.int kk), .val (.int (13 : Int32)), .val (.ref w_READ), .unset, .unset, .unset] [])) rfl (hb hby at_103)
      refine own_go (T' := T4) (g' := (mkF m 106 #[.val (.int p1), .val (.int p2), .val (.int kk), .val (.int (13 : Int32)), .val (.ref w_READ), .unset, .unset, .unset] [(.ref w_READ)])) (fun t q => st4 t q) ?_
      refine own_go (T' := T4) (g' := (mkF m 108 #[.val (.int p1), .val (.int p2), .val (.int kk), .val (.int (13 : Int32)), .val (.ref w_READ), .val (.ref w_READ), .unset, .unset] [])) (fun t q => XS.astore X4.here hx rfl (hb hby at_106) rfl rfl (l' := #[.val (.int p1), .val (.int p2), .val (.int kk), .val (.int (13 : Int32)), .val (.ref w_READ), .val (.ref w_READ), .unset, .unset]) rfl q) ?_
      refine own_go (T' := T4) (g' := (mkF m 111 #[.val (.int p1), .val (.int p2), .val (.int kk), .val (.int (13 : Int32)), .val (.ref w_READ), .val (.ref w_READ), .unset, .unset] [(.long (32 : Int64))])) (fun t q => X4.ldc2Long hx hown (mvT hZ (hw _ (List.mem_of_getElem? (i := 7) rfl))) (g := (mkF m 108 #[.val (.int p1), .val (.int p2), .val (.int kk), .val (.int (13 : Int32)), .val (.ref w_READ), .val (.ref w_READ), .unset, .unset] [])) rfl (hb hby at_108) t q) ?_
      refine own_go (T' := T4) (g' := (mkF m 113 #[.val (.int p1), .val (.int p2), .val (.int kk), .val (.int (13 : Int32)), .val (.ref w_READ), .val (.ref w_READ), .val (.long (32 : Int64)), .second] [])) (fun t q => XT.lstore X4.here hx rfl (hb hby at_111) rfl (l' := #[.val (.int p1), .val (.int p2), .val (.int kk), .val (.int (13 : Int32)), .val (.ref w_READ), .val (.ref w_READ), .val (.long (32 : Int64)), .second]) rfl q) ?_
      refine own_go (T' := T4) (g' := (mkF m 143 #[.val (.int p1), .val (.int p2), .val (.int kk), .val (.int (13 : Int32)), .val (.ref w_READ), .val (.ref w_READ), .val (.long (32 : Int64)), .second] [])) (fun t q => XS.goto X4.here hx rfl (pc0 := 113) (pc' := 143) rfl (hb hby at_113) (by decide) (by decide) q) ?_
      refine own_go (T' := T4) (g' := (mkF m 145 #[.val (.int p1), .val (.int p2), .val (.int kk), .val (.int (13 : Int32)), .val (.ref w_READ), .val (.ref w_READ), .val (.long (32 : Int64)), .second] [(.ref w_READ)])) (fun t q => XS.aload X4.here hx rfl (hb hby at_143) rfl rfl q) ?_
      refine own_go (T' := T4) (g' := (mkF m 147 #[.val (.int p1), .val (.int p2), .val (.int kk), .val (.int (13 : Int32)), .val (.ref w_READ), .val (.ref w_READ), .val (.long (32 : Int64)), .second] [(.ref w_READ), (.ref w_READ)])) (fun t q => XS.aload X4.here hx rfl (hb hby at_145) rfl rfl q) ?_
      have c5 : (Value.ref w_READ) = (Value.ref w_READ) := rfl
      refine own_go (T' := T4) (g' := (mkF m 150 #[.val (.int p1), .val (.int p2), .val (.int kk), .val (.int (13 : Int32)), .val (.ref w_READ), .val (.ref w_READ), .val (.long (32 : Int64)), .second] [])) (fun t q => XT.acmpNo X4.here hx rfl (hb hby at_147) rfl rfl rfl (own_at c5).2 q) ?_
      refine own_go (T' := T4) (g' := (mkF m 152 #[.val (.int p1), .val (.int p2), .val (.int kk), .val (.int (13 : Int32)), .val (.ref w_READ), .val (.ref w_READ), .val (.long (32 : Int64)), .second] [(.ref w_READ)])) (fun t q => XS.aload X4.here hx rfl (hb hby at_150) rfl rfl q) ?_
      obtain ⟨v6, T6, L6, X6, Q6, st6⟩ := own_callV X4 hx hZ (y := (⟨"com/example/dvarapala/dvarapala/engine/PermissionType", "mask", "()J"⟩ : MethodName)) (b := w_READ) (argsL := []) (rest := []) hown (hw _ (List.mem_of_getElem? (i := 8) rfl)) (hw _ (List.mem_of_getElem? (i := 9) rfl)) (hw _ (List.mem_of_getElem? (i := 11) rfl)) (hw _ (List.mem_of_getElem? (i := 10) rfl)) (hw _ (List.mem_of_getElem? (i := 2) rfl)) (hw _ (List.mem_of_getElem? (i := 12) rfl)) (rm_mask_READ l Z a0 hw [] w_READ w_BROWSE w_READ_ROLE_PERMISSIONS h0 FX) e4 E_READ (by decide) (by decide) 0 (by decide) (by decide) (by decide) (g := (mkF m 152 #[.val (.int p1), .val (.int p2), .val (.int kk), .val (.int (13 : Int32)), .val (.ref w_READ), .val (.ref w_READ), .val (.long (32 : Int64)), .second] [(.ref w_READ)])) rfl (by rw [hml]; rfl) (lenOf (ps := []) (r := (some .long)) (by decide +kernel) rfl) rfl (by show 2 * 0 + _ ≤ _; exact Nat.le_of_eq rfl) (hb hby at_152)
      obtain ⟨rfl, e6, rfl⟩ := Q6
      refine own_go (T' := T6) (g' := (mkF m 155 #[.val (.int p1), .val (.int p2), .val (.int kk), .val (.int (13 : Int32)), .val (.ref w_READ), .val (.ref w_READ), .val (.long (32 : Int64)), .second] [(.long (32 : Int64))])) (fun t q => st6 t q) ?_
      refine own_go (T' := T6) (g' := (mkF m 157 #[.val (.int p1), .val (.int p2), .val (.int kk), .val (.int (13 : Int32)), .val (.ref w_READ), .val (.ref w_READ), .val (.long (32 : Int64)), .second] [(.long (32 : Int64)), (.long (32 : Int64))])) (fun t q => XT.lload X6.here hx rfl (hb hby at_155) rfl q) ?_
      refine own_go (T' := T6) (g' := (mkF m 158 #[.val (.int p1), .val (.int p2), .val (.int kk), .val (.int (13 : Int32)), .val (.ref w_READ), .val (.ref w_READ), .val (.long (32 : Int64)), .second] [(.int (XT.cmpL (32 : Int64) (32 : Int64)))])) (fun t q => XT.lcmp X6.here hx rfl (hb hby at_157) rfl q) ?_
      have c7 : (32 : Int64) = (32 : Int64) := by decide
      refine own_go (T' := T6) (g' := (mkF m 161 #[.val (.int p1), .val (.int p2), .val (.int kk), .val (.int (13 : Int32)), .val (.ref w_READ), .val (.ref w_READ), .val (.long (32 : Int64)), .second] [])) (fun t q => XS.ifNo X6.here hx rfl (hb hby at_158) rfl ((if0 _ _).trans (teq ((own_leq (32 : Int64) (32 : Int64)).mpr c7)).2) q) ?_
      refine own_go (T' := T6) (g' := (mkF m 162 #[.val (.int p1), .val (.int p2), .val (.int kk), .val (.int (13 : Int32)), .val (.ref w_READ), .val (.ref w_READ), .val (.long (32 : Int64)), .second] [(.int (1 : Int32))])) (fun t q => XS.iconst X6.here hx rfl (hb hby at_161) q) ?_
      refine own_go (T' := T6) (g' := (mkF m 166 #[.val (.int p1), .val (.int p2), .val (.int kk), .val (.int (13 : Int32)), .val (.ref w_READ), .val (.ref w_READ), .val (.long (32 : Int64)), .second] [(.int (1 : Int32))])) (fun t q => XS.goto X6.here hx rfl (pc0 := 162) (pc' := 166) rfl (hb hby at_162) (by decide) (by decide) q) ?_
      refine own_outN X6 hx hlk hret (t := .boolean) (by simp) (hb hby at_166) (w := (1 : Int32)) (by decide) ?_ (by decide) (by decide)
      exact ⟨rfl, Fr.nil _⟩
    · exact absurd hk (by decide)
    · exact absurd hk (by decide)
  · refine own_go (T' := s₁) (g' := (mkF m 15 #[.val (.int p1), .val (.int p2), .val (.int kk), .unset, .unset, .unset, .unset, .unset] [])) (fun t q => XS.ifYes X0.here hx rfl (pc0 := 6) (pc' := 15) rfl (hb hby at_6) rfl ((if0 _ _).trans (feq c1).2) (by decide) (by decide) q) ?_
    refine own_go (T' := s₁) (g' := (mkF m 16 #[.val (.int p1), .val (.int p2), .val (.int kk), .unset, .unset, .unset, .unset, .unset] [(.int kk)])) (fun t q => XS.iloadN X0.here hx rfl (hb hby at_15) rfl q) ?_
    refine own_go (T' := s₁) (g' := (mkF m 17 #[.val (.int p1), .val (.int p2), .val (.int kk), .unset, .unset, .unset, .unset, .unset] [(.int (1 : Int32)), (.int kk)])) (fun t q => XS.iconst X0.here hx rfl (hb hby at_16) q) ?_
    by_cases c8 : kk = (1 : Int32)
    · refine own_go (T' := s₁) (g' := (mkF m 20 #[.val (.int p1), .val (.int p2), .val (.int kk), .unset, .unset, .unset, .unset, .unset] [])) (fun t q => XS.icmpNo X0.here hx rfl (hb hby at_17) rfl (teq c8).2 q) ?_
      refine own_go (T' := s₁) (g' := (mkF m 22 #[.val (.int p1), .val (.int p2), .val (.int kk), .unset, .unset, .unset, .unset, .unset] [(.int (24 : Int32))])) (fun t q => XS.bipush X0.here hx rfl (hb hby at_20) q) ?_
      refine own_go (T' := s₁) (g' := (mkF m 23 #[.val (.int p1), .val (.int p2), .val (.int kk), .val (.int (24 : Int32)), .unset, .unset, .unset, .unset] [])) (fun t q => XS.istoreN X0.here hx rfl (hb hby at_22) rfl (l' := #[.val (.int p1), .val (.int p2), .val (.int kk), .val (.int (24 : Int32)), .unset, .unset, .unset, .unset]) rfl q) ?_
      refine own_go (T' := s₁) (g' := (mkF m 84 #[.val (.int p1), .val (.int p2), .val (.int kk), .val (.int (24 : Int32)), .unset, .unset, .unset, .unset] [])) (fun t q => XS.goto X0.here hx rfl (pc0 := 23) (pc' := 84) rfl (hb hby at_23) (by decide) (by decide) q) ?_
      refine own_go (T' := s₁) (g' := (mkF m 85 #[.val (.int p1), .val (.int p2), .val (.int kk), .val (.int (24 : Int32)), .unset, .unset, .unset, .unset] [(.int (24 : Int32))])) (fun t q => XS.iloadN X0.here hx rfl (hb hby at_84) rfl q) ?_
      obtain ⟨v9, T9, L9, X9, Q9, st9⟩ := own_callS X0 hx hZ (y := (⟨"com/example/dvarapala/dvarapala/engine/PermissionType", "neededToRead", "(I)Lcom/example/dvarapala/dvarapala/engine/PermissionType;"⟩ : MethodName)) (argsL := [(.int (24 : Int32))]) (rest := []) hown (hw _ (List.mem_of_getElem? (i := 0) rfl)) (hw _ (List.mem_of_getElem? (i := 1) rfl)) (hw _ (List.mem_of_getElem? (i := 2) rfl)) (hw _ (List.mem_of_getElem? (i := 3) rfl)) (rm_n l Z a0 hw [] (24 : Int32) w_READ w_BROWSE w_READ_ROLE_PERMISSIONS h0 FX) e0 (by decide) (by decide) 0 (by decide) (by decide) (by decide) (g := (mkF m 85 #[.val (.int p1), .val (.int p2), .val (.int kk), .val (.int (24 : Int32)), .unset, .unset, .unset, .unset] [(.int (24 : Int32))])) rfl (by rw [hml]; rfl) (lenOf (ps := [.int]) (r := (some (.object "com/example/dvarapala/dvarapala/engine/PermissionType"))) (by decide +kernel) rfl) rfl (by show 2 * 0 + _ ≤ _; exact Nat.le_of_eq rfl) (hb hby at_85)
      obtain ⟨Q9, e9, rfl⟩ := Q9
      rcases Q9 with ⟨hk, rfl⟩ | ⟨hk, rfl⟩ | ⟨hk, rfl⟩
      · exact absurd hk (by decide)
      · refine own_go (T' := T9) (g' := (mkF m 88 #[.val (.int p1), .val (.int p2), .val (.int kk), .val (.int (24 : Int32)), .unset, .unset, .unset, .unset] [(.ref w_READ_ROLE_PERMISSIONS)])) (fun t q => st9 t q) ?_
        refine own_go (T' := T9) (g' := (mkF m 90 #[.val (.int p1), .val (.int p2), .val (.int kk), .val (.int (24 : Int32)), .val (.ref w_READ_ROLE_PERMISSIONS), .unset, .unset, .unset] [])) (fun t q => XS.astore X9.here hx rfl (hb hby at_88) rfl rfl (l' := #[.val (.int p1), .val (.int p2), .val (.int kk), .val (.int (24 : Int32)), .val (.ref w_READ_ROLE_PERMISSIONS), .unset, .unset, .unset]) rfl q) ?_
        refine own_go (T' := T9) (g' := (mkF m 92 #[.val (.int p1), .val (.int p2), .val (.int kk), .val (.int (24 : Int32)), .val (.ref w_READ_ROLE_PERMISSIONS), .unset, .unset, .unset] [(.ref w_READ_ROLE_PERMISSIONS)])) (fun t q => XS.aload X9.here hx rfl (hb hby at_90) rfl rfl q) ?_
        refine own_go (T' := T9) (g' := (mkF m 97 #[.val (.int p1), .val (.int p2), .val (.int kk), .val (.int (24 : Int32)), .val (.ref w_READ_ROLE_PERMISSIONS), .unset, .unset, .unset] [])) (fun t q => XT.ifnonnullYes X9.here hx rfl (pc0 := 92) (pc' := 97) rfl (hb hby at_92) rfl (by decide) (by decide) q) ?_
        refine own_go (T' := T9) (g' := (mkF m 98 #[.val (.int p1), .val (.int p2), .val (.int kk), .val (.int (24 : Int32)), .val (.ref w_READ_ROLE_PERMISSIONS), .unset, .unset, .unset] [(.int (24 : Int32))])) (fun t q => XS.iloadN X9.here hx rfl (hb hby at_97) rfl q) ?_
        refine own_go (T' := T9) (g' := (mkF m 100 #[.val (.int p1), .val (.int p2), .val (.int kk), .val (.int (24 : Int32)), .val (.ref w_READ_ROLE_PERMISSIONS), .unset, .unset, .unset] [(.int (13 : Int32)), (.int (24 : Int32))])) (fun t q => XS.bipush X9.here hx rfl (hb hby at_98) q) ?_
        have c10 : ¬ ((24 : Int32) = (13 : Int32)) := by decide
        refine own_go (T' := T9) (g' := (mkF m 116 #[.val (.int p1), .val (.int p2), .val (.int kk), .val (.int (24 : Int32)), .val (.ref w_READ_ROLE_PERMISSIONS), .unset, .unset, .unset] [])) (fun t q => XS.icmpYes X9.here hx rfl (pc0 := 100) (pc' := 116) rfl (hb hby at_100) rfl (feq c10).2 (by decide) (by decide) q) ?_
        refine own_go (T' := T9) (g' := (mkF m 117 #[.val (.int p1), .val (.int p2), .val (.int kk), .val (.int (24 : Int32)), .val (.ref w_READ_ROLE_PERMISSIONS), .unset, .unset, .unset] [(.int (24 : Int32))])) (fun t q => XS.iloadN X9.here hx rfl (hb hby at_116) rfl q) ?_
        refine own_go (T' := T9) (g' := (mkF m 119 #[.val (.int p1), .val (.int p2), .val (.int kk), .val (.int (24 : Int32)), .val (.ref w_READ_ROLE_PERMISSIONS), .unset, .unset, .unset] [(.int (24 : Int32)), (.int (24 : Int32))])) (fun t q => XS.bipush X9.here hx rfl (hb hby at_117) q) ?_
        have c11 : (24 : Int32) = (24 : Int32) := by decide
        refine own_go (T' := T9) (g' := (mkF m 122 #[.val (.int p1), .val (.int p2), .val (.int kk), .val (.int (24 : Int32)), .val (.ref w_READ_ROLE_PERMISSIONS), .unset, .unset, .unset] [])) (fun t q => XS.icmpNo X9.here hx rfl (hb hby at_119) rfl (teq c11).2 q) ?_
        obtain ⟨T12, X12, e12, st12⟩ := getS2 X9 hx hZ hown (host := "") (Or.inl (hw _ (List.mem_of_getElem? (i := 20) rfl))) Via.refl e9 S_READ_ROLE_PERMISSIONS (g := (mkF m 122 #[.val (.int p1), .val (.int p2), .val (.int kk), .val (.int (24 : Int32)), .val (.ref w_READ_ROLE_PERMISSIONS), .unset, .unset, .unset] [])) rfl (hb hby at_122)
        refine own_go (T' := T12) (g' := (mkF m 125 #[.val (.int p1), .val (.int p2), .val (.int kk), .val (.int (24 : Int32)), .val (.ref w_READ_ROLE_PERMISSIONS), .unset, .unset, .unset] [(.ref w_READ_ROLE_PERMISSIONS)])) (fun t q => st12 t q) ?_
        refine own_go (T' := T12) (g' := (mkF m 127 #[.val (.int p1), .val (.int p2), .val (.int kk), .val (.int (24 : Int32)), .val (.ref w_READ_ROLE_PERMISSIONS), .val (.ref w_READ_ROLE_PERMISSIONS), .unset, .unset] [])) (fun t q => XS.astore X12.here hx rfl (hb hby at_125) rfl rfl (l' := #[.val (.int p1), .val (.int p2), .val (.int kk), .val (.int (24 : Int32)), .val (.ref w_READ_ROLE_PERMISSIONS), .val (.ref w_READ_ROLE_PERMISSIONS), .unset, .unset]) rfl q) ?_
        refine own_go (T' := T12) (g' := (mkF m 130 #[.val (.int p1), .val (.int p2), .val (.int kk), .val (.int (24 : Int32)), .val (.ref w_READ_ROLE_PERMISSIONS), .val (.ref w_READ_ROLE_PERMISSIONS), .unset, .unset] [(.long (2 : Int64))])) (fun t q => X12.ldc2Long hx hown (mvT hZ (hw _ (List.mem_of_getElem? (i := 21) rfl))) (g := (mkF m 127 #[.val (.int p1), .val (.int p2), .val (.int kk), .val (.int (24 : Int32)), .val (.ref w_READ_ROLE_PERMISSIONS), .val (.ref w_READ_ROLE_PERMISSIONS), .unset, .unset] [])) rfl (hb hby at_127) t q) ?_
        refine own_go (T' := T12) (g' := (mkF m 132 #[.val (.int p1), .val (.int p2), .val (.int kk), .val (.int (24 : Int32)), .val (.ref w_READ_ROLE_PERMISSIONS), .val (.ref w_READ_ROLE_PERMISSIONS), .val (.long (2 : Int64)), .second] [])) (fun t q => XT.lstore X12.here hx rfl (hb hby at_130) rfl (l' := #[.val (.int p1), .val (.int p2), .val (.int kk), .val (.int (24 : Int32)), .val (.ref w_READ_ROLE_PERMISSIONS), .val (.ref w_READ_ROLE_PERMISSIONS), .val (.long (2 : Int64)), .second]) rfl q) ?_
        refine own_go (T' := T12) (g' := (mkF m 143 #[.val (.int p1), .val (.int p2), .val (.int kk), .val (.int (24 : Int32)), .val (.ref w_READ_ROLE_PERMISSIONS), .val (.ref w_READ_ROLE_PERMISSIONS), .val (.long (2 : Int64)), .second] [])) (fun t q => XS.goto X12.here hx rfl (pc0 := 132) (pc' := 143) rfl (hb hby at_132) (by decide) (by decide) q) ?_
        refine own_go (T' := T12) (g' := (mkF m 145 #[.val (.int p1), .val (.int p2), .val (.int kk), .val (.int (24 : Int32)), .val (.ref w_READ_ROLE_PERMISSIONS), .val (.ref w_READ_ROLE_PERMISSIONS), .val (.long (2 : Int64)), .second] [(.ref w_READ_ROLE_PERMISSIONS)])) (fun t q => XS.aload X12.here hx rfl (hb hby at_143) rfl rfl q) ?_
        refine own_go (T' := T12) (g' := (mkF m 147 #[.val (.int p1), .val (.int p2), .val (.int kk), .val (.int (24 : Int32)), .val (.ref w_READ_ROLE_PERMISSIONS), .val (.ref w_READ_ROLE_PERMISSIONS), .val (.long (2 : Int64)), .second] [(.ref w_READ_ROLE_PERMISSIONS), (.ref w_READ_ROLE_PERMISSIONS)])) (fun t q => XS.aload X12.here hx rfl (hb hby at_145) rfl rfl q) ?_
        have c13 : (Value.ref w_READ_ROLE_PERMISSIONS) = (Value.ref w_READ_ROLE_PERMISSIONS) := rfl
        refine own_go (T' := T12) (g' := (mkF m 150 #[.val (.int p1), .val (.int p2), .val (.int kk), .val (.int (24 : Int32)), .val (.ref w_READ_ROLE_PERMISSIONS), .val (.ref w_READ_ROLE_PERMISSIONS), .val (.long (2 : Int64)), .second] [])) (fun t q => XT.acmpNo X12.here hx rfl (hb hby at_147) rfl rfl rfl (own_at c13).2 q) ?_
        refine own_go (T' := T12) (g' := (mkF m 152 #[.val (.int p1), .val (.int p2), .val (.int kk), .val (.int (24 : Int32)), .val (.ref w_READ_ROLE_PERMISSIONS), .val (.ref w_READ_ROLE_PERMISSIONS), .val (.long (2 : Int64)), .second] [(.ref w_READ_ROLE_PERMISSIONS)])) (fun t q => XS.aload X12.here hx rfl (hb hby at_150) rfl rfl q) ?_
        obtain ⟨v14, T14, L14, X14, Q14, st14⟩ := own_callV X12 hx hZ (y := (⟨"com/example/dvarapala/dvarapala/engine/PermissionType", "mask", "()J"⟩ : MethodName)) (b := w_READ_ROLE_PERMISSIONS) (argsL := []) (rest := []) hown (hw _ (List.mem_of_getElem? (i := 8) rfl)) (hw _ (List.mem_of_getElem? (i := 9) rfl)) (hw _ (List.mem_of_getElem? (i := 11) rfl)) (hw _ (List.mem_of_getElem? (i := 10) rfl)) (hw _ (List.mem_of_getElem? (i := 2) rfl)) (hw _ (List.mem_of_getElem? (i := 12) rfl)) (rm_mask_READ_ROLE_PERMISSIONS l Z a0 hw [] w_READ w_BROWSE w_READ_ROLE_PERMISSIONS h0 FX) e12 E_READ_ROLE_PERMISSIONS (by decide) (by decide) 0 (by decide) (by decide) (by decide) (g := (mkF m 152 #[.val (.int p1), .val (.int p2), .val (.int kk), .val (.int (24 : Int32)), .val (.ref w_READ_ROLE_PERMISSIONS), .val (.ref w_READ_ROLE_PERMISSIONS), .val (.long (2 : Int64)), .second] [(.ref w_READ_ROLE_PERMISSIONS)])) rfl (by rw [hml]; rfl) (lenOf (ps := []) (r := (some .long)) (by decide +kernel) rfl) rfl (by show 2 * 0 + _ ≤ _; exact Nat.le_of_eq rfl) (hb hby at_152)
        obtain ⟨rfl, e14, rfl⟩ := Q14
        refine own_go (T' := T14) (g' := (mkF m 155 #[.val (.int p1), .val (.int p2), .val (.int kk), .val (.int (24 : Int32)), .val (.ref w_READ_ROLE_PERMISSIONS), .val (.ref w_READ_ROLE_PERMISSIONS), .val (.long (2 : Int64)), .second] [(.long (2 : Int64))])) (fun t q => st14 t q) ?_
        refine own_go (T' := T14) (g' := (mkF m 157 #[.val (.int p1), .val (.int p2), .val (.int kk), .val (.int (24 : Int32)), .val (.ref w_READ_ROLE_PERMISSIONS), .val (.ref w_READ_ROLE_PERMISSIONS), .val (.long (2 : Int64)), .second] [(.long (2 : Int64)), (.long (2 : Int64))])) (fun t q => XT.lload X14.here hx rfl (hb hby at_155) rfl q) ?_
        refine own_go (T' := T14) (g' := (mkF m 158 #[.val (.int p1), .val (.int p2), .val (.int kk), .val (.int (24 : Int32)), .val (.ref w_READ_ROLE_PERMISSIONS), .val (.ref w_READ_ROLE_PERMISSIONS), .val (.long (2 : Int64)), .second] [(.int (XT.cmpL (2 : Int64) (2 : Int64)))])) (fun t q => XT.lcmp X14.here hx rfl (hb hby at_157) rfl q) ?_
        have c15 : (2 : Int64) = (2 : Int64) := by decide
        refine own_go (T' := T14) (g' := (mkF m 161 #[.val (.int p1), .val (.int p2), .val (.int kk), .val (.int (24 : Int32)), .val (.ref w_READ_ROLE_PERMISSIONS), .val (.ref w_READ_ROLE_PERMISSIONS), .val (.long (2 : Int64)), .second] [])) (fun t q => XS.ifNo X14.here hx rfl (hb hby at_158) rfl ((if0 _ _).trans (teq ((own_leq (2 : Int64) (2 : Int64)).mpr c15)).2) q) ?_
        refine own_go (T' := T14) (g' := (mkF m 162 #[.val (.int p1), .val (.int p2), .val (.int kk), .val (.int (24 : Int32)), .val (.ref w_READ_ROLE_PERMISSIONS), .val (.ref w_READ_ROLE_PERMISSIONS), .val (.long (2 : Int64)), .second] [(.int (1 : Int32))])) (fun t q => XS.iconst X14.here hx rfl (hb hby at_161) q) ?_
        refine own_go (T' := T14) (g' := (mkF m 166 #[.val (.int p1), .val (.int p2), .val (.int kk), .val (.int (24 : Int32)), .val (.ref w_READ_ROLE_PERMISSIONS), .val (.ref w_READ_ROLE_PERMISSIONS), .val (.long (2 : Int64)), .second] [(.int (1 : Int32))])) (fun t q => XS.goto X14.here hx rfl (pc0 := 162) (pc' := 166) rfl (hb hby at_162) (by decide) (by decide) q) ?_
        refine own_outN X14 hx hlk hret (t := .boolean) (by simp) (hb hby at_166) (w := (1 : Int32)) (by decide) ?_ (by decide) (by decide)
        exact ⟨rfl, Fr.nil _⟩
      · exact absurd hk (by decide)
    · refine own_go (T' := s₁) (g' := (mkF m 26 #[.val (.int p1), .val (.int p2), .val (.int kk), .unset, .unset, .unset, .unset, .unset] [])) (fun t q => XS.icmpYes X0.here hx rfl (pc0 := 17) (pc' := 26) rfl (hb hby at_17) rfl (feq c8).2 (by decide) (by decide) q) ?_
      refine own_go (T' := s₁) (g' := (mkF m 27 #[.val (.int p1), .val (.int p2), .val (.int kk), .unset, .unset, .unset, .unset, .unset] [(.int kk)])) (fun t q => XS.iloadN X0.here hx rfl (hb hby at_26) rfl q) ?_
      refine own_go (T' := s₁) (g' := (mkF m 28 #[.val (.int p1), .val (.int p2), .val (.int kk), .unset, .unset, .unset, .unset, .unset] [(.int (2 : Int32)), (.int kk)])) (fun t q => XS.iconst X0.here hx rfl (hb hby at_27) q) ?_
      by_cases c16 : kk = (2 : Int32)
      · refine own_go (T' := s₁) (g' := (mkF m 31 #[.val (.int p1), .val (.int p2), .val (.int kk), .unset, .unset, .unset, .unset, .unset] [])) (fun t q => XS.icmpNo X0.here hx rfl (hb hby at_28) rfl (teq c16).2 q) ?_
        refine own_go (T' := s₁) (g' := (mkF m 33 #[.val (.int p1), .val (.int p2), .val (.int kk), .unset, .unset, .unset, .unset, .unset] [(.int (20 : Int32))])) (fun t q => XS.bipush X0.here hx rfl (hb hby at_31) q) ?_
        refine own_go (T' := s₁) (g' := (mkF m 34 #[.val (.int p1), .val (.int p2), .val (.int kk), .val (.int (20 : Int32)), .unset, .unset, .unset, .unset] [])) (fun t q => XS.istoreN X0.here hx rfl (hb hby at_33) rfl (l' := #[.val (.int p1), .val (.int p2), .val (.int kk), .val (.int (20 : Int32)), .unset, .unset, .unset, .unset]) rfl q) ?_
        refine own_go (T' := s₁) (g' := (mkF m 84 #[.val (.int p1), .val (.int p2), .val (.int kk), .val (.int (20 : Int32)), .unset, .unset, .unset, .unset] [])) (fun t q => XS.goto X0.here hx rfl (pc0 := 34) (pc' := 84) rfl (hb hby at_34) (by decide) (by decide) q) ?_
        refine own_go (T' := s₁) (g' := (mkF m 85 #[.val (.int p1), .val (.int p2), .val (.int kk), .val (.int (20 : Int32)), .unset, .unset, .unset, .unset] [(.int (20 : Int32))])) (fun t q => XS.iloadN X0.here hx rfl (hb hby at_84) rfl q) ?_
        obtain ⟨v17, T17, L17, X17, Q17, st17⟩ := own_callS X0 hx hZ (y := (⟨"com/example/dvarapala/dvarapala/engine/PermissionType", "neededToRead", "(I)Lcom/example/dvarapala/dvarapala/engine/PermissionType;"⟩ : MethodName)) (argsL := [(.int (20 : Int32))]) (rest := []) hown (hw _ (List.mem_of_getElem? (i := 0) rfl)) (hw _ (List.mem_of_getElem? (i := 1) rfl)) (hw _ (List.mem_of_getElem? (i := 2) rfl)) (hw _ (List.mem_of_getElem? (i := 3) rfl)) (rm_n l Z a0 hw [] (20 : Int32) w_READ w_BROWSE w_READ_ROLE_PERMISSIONS h0 FX) e0 (by decide) (by decide) 0 (by decide) (by decide) (by decide) (g := (mkF m 85 #[.val (.int p1), .val (.int p2), .val (.int kk), .val (.int (20 : Int32)), .unset, .unset, .unset, .unset] [(.int (20 : Int32))])) rfl (by rw [hml]; rfl) (lenOf (ps := [.int]) (r := (some (.object "com/example/dvarapala/dvarapala/engine/PermissionType"))) (by decide +kernel) rfl) rfl (by show 2 * 0 + _ ≤ _; exact Nat.le_of_eq rfl) (hb hby at_85)
        obtain ⟨Q17, e17, rfl⟩ := Q17
        rcases Q17 with ⟨hk, rfl⟩ | ⟨hk, rfl⟩ | ⟨hk, rfl⟩
        · exact absurd hk (by decide)
        · exact absurd hk (by decide)
        · refine own_go (T' := T17) (g' := (mkF m 88 #[.val (.int p1), .val (.int p2), .val (.int kk), .val (.int (20 : Int32)), .unset, .unset, .unset, .unset] [(.ref w_BROWSE)])) (fun t q => st17 t q) ?_
          refine own_go (T' := T17) (g' := (mkF m 90 #[.val (.int p1), .val (.int p2), .val (.int kk), .val (.int (20 : Int32)), .val (.ref w_BROWSE), .unset, .unset, .unset] [])) (fun t q => XS.astore X17.here hx rfl (hb hby at_88) rfl rfl (l' := #[.val (.int p1), .val (.int p2), .val (.int kk), .val (.int (20 : Int32)), .val (.ref w_BROWSE), .unset, .unset, .unset]) rfl q) ?_
          refine own_go (T' := T17) (g' := (mkF m 92 #[.val (.int p1), .val (.int p2), .val (.int kk), .val (.int (20 : Int32)), .val (.ref w_BROWSE), .unset, .unset, .unset] [(.ref w_BROWSE)])) (fun t q => XS.aload X17.here hx rfl (hb hby at_90) rfl rfl q) ?_
          refine own_go (T' := T17) (g' := (mkF m 97 #[.val (.int p1), .val (.int p2), .val (.int kk), .val (.int (20 : Int32)), .val (.ref w_BROWSE), .unset, .unset, .unset] [])) (fun t q => XT.ifnonnullYes X17.here hx rfl (pc0 := 92) (pc' := 97) rfl (hb hby at_92) rfl (by decide) (by decide) q) ?_
          refine own_go (T' := T17) (g' := (mkF m 98 #[.val (.int p1), .val (.int p2), .val (.int kk), .val (.int (20 : Int32)), .val (.ref w_BROWSE), .unset, .unset, .unset] [(.int (20 : Int32))])) (fun t q => XS.iloadN X17.here hx rfl (hb hby at_97) rfl q) ?_
          refine own_go (T' := T17) (g' := (mkF m 100 #[.val (.int p1), .val (.int p2), .val (.int kk), .val (.int (20 : Int32)), .val (.ref w_BROWSE), .unset, .unset, .unset] [(.int (13 : Int32)), (.int (20 : Int32))])) (fun t q => XS.bipush X17.here hx rfl (hb hby at_98) q) ?_
          have c18 : ¬ ((20 : Int32) = (13 : Int32)) := by decide
          refine own_go (T' := T17) (g' := (mkF m 116 #[.val (.int p1), .val (.int p2), .val (.int kk), .val (.int (20 : Int32)), .val (.ref w_BROWSE), .unset, .unset, .unset] [])) (fun t q => XS.icmpYes X17.here hx rfl (pc0 := 100) (pc' := 116) rfl (hb hby at_100) rfl (feq c18).2 (by decide) (by decide) q) ?_
          refine own_go (T' := T17) (g' := (mkF m 117 #[.val (.int p1), .val (.int p2), .val (.int kk), .val (.int (20 : Int32)), .val (.ref w_BROWSE), .unset, .unset, .unset] [(.int (20 : Int32))])) (fun t q => XS.iloadN X17.here hx rfl (hb hby at_116) rfl q) ?_
          refine own_go (T' := T17) (g' := (mkF m 119 #[.val (.int p1), .val (.int p2), .val (.int kk), .val (.int (20 : Int32)), .val (.ref w_BROWSE), .unset, .unset, .unset] [(.int (24 : Int32)), (.int (20 : Int32))])) (fun t q => XS.bipush X17.here hx rfl (hb hby at_117) q) ?_
          have c19 : ¬ ((20 : Int32) = (24 : Int32)) := by decide
          refine own_go (T' := T17) (g' := (mkF m 135 #[.val (.int p1), .val (.int p2), .val (.int kk), .val (.int (20 : Int32)), .val (.ref w_BROWSE), .unset, .unset, .unset] [])) (fun t q => XS.icmpYes X17.here hx rfl (pc0 := 119) (pc' := 135) rfl (hb hby at_119) rfl (feq c19).2 (by decide) (by decide) q) ?_
          obtain ⟨T20, X20, e20, st20⟩ := getS2 X17 hx hZ hown (host := "") (Or.inl (hw _ (List.mem_of_getElem? (i := 17) rfl))) Via.refl e17 S_BROWSE (g := (mkF m 135 #[.val (.int p1), .val (.int p2), .val (.int kk), .val (.int (20 : Int32)), .val (.ref w_BROWSE), .unset, .unset, .unset] [])) rfl (hb hby at_135)
          refine own_go (T' := T20) (g' := (mkF m 138 #[.val (.int p1), .val (.int p2), .val (.int kk), .val (.int (20 : Int32)), .val (.ref w_BROWSE), .unset, .unset, .unset] [(.ref w_BROWSE)])) (fun t q => st20 t q) ?_
          refine own_go (T' := T20) (g' := (mkF m 140 #[.val (.int p1), .val (.int p2), .val (.int kk), .val (.int (20 : Int32)), .val (.ref w_BROWSE), .val (.ref w_BROWSE), .unset, .unset] [])) (fun t q => XS.astore X20.here hx rfl (hb hby at_138) rfl rfl (l' := #[.val (.int p1), .val (.int p2), .val (.int kk), .val (.int (20 : Int32)), .val (.ref w_BROWSE), .val (.ref w_BROWSE), .unset, .unset]) rfl q) ?_
          refine own_go (T' := T20) (g' := (mkF m 141 #[.val (.int p1), .val (.int p2), .val (.int kk), .val (.int (20 : Int32)), .val (.ref w_BROWSE), .val (.ref w_BROWSE), .unset, .unset] [(.long (1 : Int64))])) (fun t q => XT.lconst X20.here hx rfl (hb hby at_140) q) ?_
          refine own_go (T' := T20) (g' := (mkF m 143 #[.val (.int p1), .val (.int p2), .val (.int kk), .val (.int (20 : Int32)), .val (.ref w_BROWSE), .val (.ref w_BROWSE), .val (.long (1 : Int64)), .second] [])) (fun t q => XT.lstore X20.here hx rfl (hb hby at_141) rfl (l' := #[.val (.int p1), .val (.int p2), .val (.int kk), .val (.int (20 : Int32)), .val (.ref w_BROWSE), .val (.ref w_BROWSE), .val (.long (1 : Int64)), .second]) rfl q) ?_
          refine own_go (T' := T20) (g' := (mkF m 145 #[.val (.int p1), .val (.int p2), .val (.int kk), .val (.int (20 : Int32)), .val (.ref w_BROWSE), .val (.ref w_BROWSE), .val (.long (1 : Int64)), .second] [(.ref w_BROWSE)])) (fun t q => XS.aload X20.here hx rfl (hb hby at_143) rfl rfl q) ?_
          refine own_go (T' := T20) (g' := (mkF m 147 #[.val (.int p1), .val (.int p2), .val (.int kk), .val (.int (20 : Int32)), .val (.ref w_BROWSE), .val (.ref w_BROWSE), .val (.long (1 : Int64)), .second] [(.ref w_BROWSE), (.ref w_BROWSE)])) (fun t q => XS.aload X20.here hx rfl (hb hby at_145) rfl rfl q) ?_
          have c21 : (Value.ref w_BROWSE) = (Value.ref w_BROWSE) := rfl
          refine own_go (T' := T20) (g' := (mkF m 150 #[.val (.int p1), .val (.int p2), .val (.int kk), .val (.int (20 : Int32)), .val (.ref w_BROWSE), .val (.ref w_BROWSE), .val (.long (1 : Int64)), .second] [])) (fun t q => XT.acmpNo X20.here hx rfl (hb hby at_147) rfl rfl rfl (own_at c21).2 q) ?_
          refine own_go (T' := T20) (g' := (mkF m 152 #[.val (.int p1), .val (.int p2), .val (.int kk), .val (.int (20 : Int32)), .val (.ref w_BROWSE), .val (.ref w_BROWSE), .val (.long (1 : Int64)), .second] [(.ref w_BROWSE)])) (fun t q => XS.aload X20.here hx rfl (hb hby at_150) rfl rfl q) ?_
          obtain ⟨v22, T22, L22, X22, Q22, st22⟩ := own_callV X20 hx hZ (y := (⟨"com/example/dvarapala/dvarapala/engine/PermissionType", "mask", "()J"⟩ : MethodName)) (b := w_BROWSE) (argsL := []) (rest := []) hown (hw _ (List.mem_of_getElem? (i := 8) rfl)) (hw _ (List.mem_of_getElem? (i := 9) rfl)) (hw _ (List.mem_of_getElem? (i := 11) rfl)) (hw _ (List.mem_of_getElem? (i := 10) rfl)) (hw _ (List.mem_of_getElem? (i := 2) rfl)) (hw _ (List.mem_of_getElem? (i := 12) rfl)) (rm_mask_BROWSE l Z a0 hw [] w_READ w_BROWSE w_READ_ROLE_PERMISSIONS h0 FX) e20 E_BROWSE (by decide) (by decide) 0 (by decide) (by decide) (by decide) (g := (mkF m 152 #[.val (.int p1), .val (.int p2), .val (.int kk), .val (.int (20 : Int32)), .val (.ref w_BROWSE), .val (.ref w_BROWSE), .val (.long (1 : Int64)), .second] [(.ref w_BROWSE)])) rfl (by rw [hml]; rfl) (lenOf (ps := []) (r := (some .long)) (by decide +kernel) rfl) rfl (by show 2 * 0 + _ ≤ _; exact Nat.le_of_eq rfl) (hb hby at_152)
          obtain ⟨rfl, e22, rfl⟩ := Q22
          refine own_go (T' := T22) (g' := (mkF m 155 #[.val (.int p1), .val (.int p2), .val (.int kk), .val (.int (20 : Int32)), .val (.ref w_BROWSE), .val (.ref w_BROWSE), .val (.long (1 : Int64)), .second] [(.long (1 : Int64))])) (fun t q => st22 t q) ?_
          refine own_go (T' := T22) (g' := (mkF m 157 #[.val (.int p1), .val (.int p2), .val (.int kk), .val (.int (20 : Int32)), .val (.ref w_BROWSE), .val (.ref w_BROWSE), .val (.long (1 : Int64)), .second] [(.long (1 : Int64)), (.long (1 : Int64))])) (fun t q => XT.lload X22.here hx rfl (hb hby at_155) rfl q) ?_
          refine own_go (T' := T22) (g' := (mkF m 158 #[.val (.int p1), .val (.int p2), .val (.int kk), .val (.int (20 : Int32)), .val (.ref w_BROWSE), .val (.ref w_BROWSE), .val (.long (1 : Int64)), .second] [(.int (XT.cmpL (1 : Int64) (1 : Int64)))])) (fun t q => XT.lcmp X22.here hx rfl (hb hby at_157) rfl q) ?_
          have c23 : (1 : Int64) = (1 : Int64) := by decide
          refine own_go (T' := T22) (g' := (mkF m 161 #[.val (.int p1), .val (.int p2), .val (.int kk), .val (.int (20 : Int32)), .val (.ref w_BROWSE), .val (.ref w_BROWSE), .val (.long (1 : Int64)), .second] [])) (fun t q => XS.ifNo X22.here hx rfl (hb hby at_158) rfl ((if0 _ _).trans (teq ((own_leq (1 : Int64) (1 : Int64)).mpr c23)).2) q) ?_
          refine own_go (T' := T22) (g' := (mkF m 162 #[.val (.int p1), .val (.int p2), .val (.int kk), .val (.int (20 : Int32)), .val (.ref w_BROWSE), .val (.ref w_BROWSE), .val (.long (1 : Int64)), .second] [(.int (1 : Int32))])) (fun t q => XS.iconst X22.here hx rfl (hb hby at_161) q) ?_
          refine own_go (T' := T22) (g' := (mkF m 166 #[.val (.int p1), .val (.int p2), .val (.int kk), .val (.int (20 : Int32)), .val (.ref w_BROWSE), .val (.ref w_BROWSE), .val (.long (1 : Int64)), .second] [(.int (1 : Int32))])) (fun t q => XS.goto X22.here hx rfl (pc0 := 162) (pc' := 166) rfl (hb hby at_162) (by decide) (by decide) q) ?_
          refine own_outN X22 hx hlk hret (t := .boolean) (by simp) (hb hby at_166) (w := (1 : Int32)) (by decide) ?_ (by decide) (by decide)
          exact ⟨rfl, Fr.nil _⟩
      · refine own_go (T' := s₁) (g' := (mkF m 37 #[.val (.int p1), .val (.int p2), .val (.int kk), .unset, .unset, .unset, .unset, .unset] [])) (fun t q => XS.icmpYes X0.here hx rfl (pc0 := 28) (pc' := 37) rfl (hb hby at_28) rfl (feq c16).2 (by decide) (by decide) q) ?_
        refine own_go (T' := s₁) (g' := (mkF m 38 #[.val (.int p1), .val (.int p2), .val (.int kk), .unset, .unset, .unset, .unset, .unset] [(.int kk)])) (fun t q => XS.iloadN X0.here hx rfl (hb hby at_37) rfl q) ?_
        refine own_go (T' := s₁) (g' := (mkF m 39 #[.val (.int p1), .val (.int p2), .val (.int kk), .unset, .unset, .unset, .unset, .unset] [(.int (3 : Int32)), (.int kk)])) (fun t q => XS.iconst X0.here hx rfl (hb hby at_38) q) ?_
        by_cases c24 : kk = (3 : Int32)
        · refine own_go (T' := s₁) (g' := (mkF m 42 #[.val (.int p1), .val (.int p2), .val (.int kk), .unset, .unset, .unset, .unset, .unset] [])) (fun t q => XS.icmpNo X0.here hx rfl (hb hby at_39) rfl (teq c24).2 q) ?_
          refine own_go (T' := s₁) (g' := (mkF m 44 #[.val (.int p1), .val (.int p2), .val (.int kk), .unset, .unset, .unset, .unset, .unset] [(.int (12 : Int32))])) (fun t q => XS.bipush X0.here hx rfl (hb hby at_42) q) ?_
          refine own_go (T' := s₁) (g' := (mkF m 45 #[.val (.int p1), .val (.int p2), .val (.int kk), .val (.int (12 : Int32)), .unset, .unset, .unset, .unset] [])) (fun t q => XS.istoreN X0.here hx rfl (hb hby at_44) rfl (l' := #[.val (.int p1), .val (.int p2), .val (.int kk), .val (.int (12 : Int32)), .unset, .unset, .unset, .unset]) rfl q) ?_
          refine own_go (T' := s₁) (g' := (mkF m 84 #[.val (.int p1), .val (.int p2), .val (.int kk), .val (.int (12 : Int32)), .unset, .unset, .unset, .unset] [])) (fun t q => XS.goto X0.here hx rfl (pc0 := 45) (pc' := 84) rfl (hb hby at_45) (by decide) (by decide) q) ?_
          refine own_go (T' := s₁) (g' := (mkF m 85 #[.val (.int p1), .val (.int p2), .val (.int kk), .val (.int (12 : Int32)), .unset, .unset, .unset, .unset] [(.int (12 : Int32))])) (fun t q => XS.iloadN X0.here hx rfl (hb hby at_84) rfl q) ?_
          obtain ⟨v25, T25, L25, X25, Q25, st25⟩ := own_callS X0 hx hZ (y := (⟨"com/example/dvarapala/dvarapala/engine/PermissionType", "neededToRead", "(I)Lcom/example/dvarapala/dvarapala/engine/PermissionType;"⟩ : MethodName)) (argsL := [(.int (12 : Int32))]) (rest := []) hown (hw _ (List.mem_of_getElem? (i := 0) rfl)) (hw _ (List.mem_of_getElem? (i := 1) rfl)) (hw _ (List.mem_of_getElem? (i := 2) rfl)) (hw _ (List.mem_of_getElem? (i := 3) rfl)) (rm_n l Z a0 hw [] (12 : Int32) w_READ w_BROWSE w_READ_ROLE_PERMISSIONS h0 FX) e0 (by decide) (by decide) 0 (by decide) (by decide) (by decide) (g := (mkF m 85 #[.val (.int p1), .val (.int p2), .val (.int kk), .val (.int (12 : Int32)), .unset, .unset, .unset, .unset] [(.int (12 : Int32))])) rfl (by rw [hml]; rfl) (lenOf (ps := [.int]) (r := (some (.object "com/example/dvarapala/dvarapala/engine/PermissionType"))) (by decide +kernel) rfl) rfl (by show 2 * 0 + _ ≤ _; exact Nat.le_of_eq rfl) (hb hby at_85)
          obtain ⟨Q25, e25, rfl⟩ := Q25
          rcases Q25 with ⟨hk, rfl⟩ | ⟨hk, rfl⟩ | ⟨hk, rfl⟩
          · exact absurd hk (by decide)
          · exact absurd hk (by decide)
          · refine own_go (T' := T25) (g' := (mkF m 88 #[.val (.int p1), .val (.int p2), .val (.int kk), .val (.int (12 : Int32)), .unset, .unset, .unset, .unset] [(.ref w_BROWSE)])) (fun t q => st25 t q) ?_
            refine own_go (T' := T25) (g' := (mkF m 90 #[.val (.int p1), .val (.int p2), .val (.int kk), .val (.int (12 : Int32)), .val (.ref w_BROWSE), .unset, .unset, .unset] [])) (fun t q => XS.astore X25.here hx rfl (hb hby at_88) rfl rfl (l' := #[.val (.int p1), .val (.int p2), .val (.int kk), .val (.int (12 : Int32)), .val (.ref w_BROWSE), .unset, .unset, .unset]) rfl q) ?_
            refine own_go (T' := T25) (g' := (mkF m 92 #[.val (.int p1), .val (.int p2), .val (.int kk), .val (.int (12 : Int32)), .val (.ref w_BROWSE), .unset, .unset, .unset] [(.ref w_BROWSE)])) (fun t q => XS.aload X25.here hx rfl (hb hby at_90) rfl rfl q) ?_
            refine own_go (T' := T25) (g' := (mkF m 97 #[.val (.int p1), .val (.int p2), .val (.int kk), .val (.int (12 : Int32)), .val (.ref w_BROWSE), .unset, .unset, .unset] [])) (fun t q => XT.ifnonnullYes X25.here hx rfl (pc0 := 92) (pc' := 97) rfl (hb hby at_92) rfl (by decide) (by decide) q) ?_
            refine own_go (T' := T25) (g' := (mkF m 98 #[.val (.int p1), .val (.int p2), .val (.int kk), .val (.int (12 : Int32)), .val (.ref w_BROWSE), .unset, .unset, .unset] [(.int (12 : Int32))])) (fun t q => XS.iloadN X25.here hx rfl (hb hby at_97) rfl q) ?_
            refine own_go (T' := T25) (g' := (mkF m 100 #[.val (.int p1), .val (.int p2), .val (.int kk), .val (.int (12 : Int32)), .val (.ref w_BROWSE), .unset, .unset, .unset] [(.int (13 : Int32)), (.int (12 : Int32))])) (fun t q => XS.bipush X25.here hx rfl (hb hby at_98) q) ?_
            have c26 : ¬ ((12 : Int32) = (13 : Int32)) := by decide
            refine own_go (T' := T25) (g' := (mkF m 116 #[.val (.int p1), .val (.int p2), .val (.int kk), .val (.int (12 : Int32)), .val (.ref w_BROWSE), .unset, .unset, .unset] [])) (fun t q => XS.icmpYes X25.here hx rfl (pc0 := 100) (pc' := 116) rfl (hb hby at_100) rfl (feq c26).2 (by decide) (by decide) q) ?_
            refine own_go (T' := T25) (g' := (mkF m 117 #[.val (.int p1), .val (.int p2), .val (.int kk), .val (.int (12 : Int32)), .val (.ref w_BROWSE), .unset, .unset, .unset] [(.int (12 : Int32))])) (fun t q => XS.iloadN X25.here hx rfl (hb hby at_116) rfl q) ?_
            refine own_go (T' := T25) (g' := (mkF m 119 #[.val (.int p1), .val (.int p2), .val (.int kk), .val (.int (12 : Int32)), .val (.ref w_BROWSE), .unset, .unset, .unset] [(.int (24 : Int32)), (.int (12 : Int32))])) (fun t q => XS.bipush X25.here hx rfl (hb hby at_117) q) ?_
            have c27 : ¬ ((12 : Int32) = (24 : Int32)) := by decide
            refine own_go (T' := T25) (g' := (mkF m 135 #[.val (.int p1), .val (.int p2), .val (.int kk), .val (.int (12 : Int32)), .val (.ref w_BROWSE), .unset, .unset, .unset] [])) (fun t q => XS.icmpYes X25.here hx rfl (pc0 := 119) (pc' := 135) rfl (hb hby at_119) rfl (feq c27).2 (by decide) (by decide) q) ?_
            obtain ⟨T28, X28, e28, st28⟩ := getS2 X25 hx hZ hown (host := "") (Or.inl (hw _ (List.mem_of_getElem? (i := 17) rfl))) Via.refl e25 S_BROWSE (g := (mkF m 135 #[.val (.int p1), .val (.int p2), .val (.int kk), .val (.int (12 : Int32)), .val (.ref w_BROWSE), .unset, .unset, .unset] [])) rfl (hb hby at_135)
            refine own_go (T' := T28) (g' := (mkF m 138 #[.val (.int p1), .val (.int p2), .val (.int kk), .val (.int (12 : Int32)), .val (.ref w_BROWSE), .unset, .unset, .unset] [(.ref w_BROWSE)])) (fun t q => st28 t q) ?_
            refine own_go (T' := T28) (g' := (mkF m 140 #[.val (.int p1), .val (.int p2), .val (.int kk), .val (.int (12 : Int32)), .val (.ref w_BROWSE), .val (.ref w_BROWSE), .unset, .unset] [])) (fun t q => XS.astore X28.here hx rfl (hb hby at_138) rfl rfl (l' := #[.val (.int p1), .val (.int p2), .val (.int kk), .val (.int (12 : Int32)), .val (.ref w_BROWSE), .val (.ref w_BROWSE), .unset, .unset]) rfl q) ?_
            refine own_go (T' := T28) (g' := (mkF m 141 #[.val (.int p1), .val (.int p2), .val (.int kk), .val (.int (12 : Int32)), .val (.ref w_BROWSE), .val (.ref w_BROWSE), .unset, .unset] [(.long (1 : Int64))])) (fun t q => XT.lconst X28.here hx rfl (hb hby at_140) q) ?_
            refine own_go (T' := T28) (g' := (mkF m 143 #[.val (.int p1), .val (.int p2), .val (.int kk), .val (.int (12 : Int32)), .val (.ref w_BROWSE), .val (.ref w_BROWSE), .val (.long (1 : Int64)), .second] [])) (fun t q => XT.lstore X28.here hx rfl (hb hby at_141) rfl (l' := #[.val (.int p1), .val (.int p2), .val (.int kk), .val (.int (12 : Int32)), .val (.ref w_BROWSE), .val (.ref w_BROWSE), .val (.long (1 : Int64)), .second]) rfl q) ?_
            refine own_go (T' := T28) (g' := (mkF m 145 #[.val (.int p1), .val (.int p2), .val (.int kk), .val (.int (12 : Int32)), .val (.ref w_BROWSE), .val (.ref w_BROWSE), .val (.long (1 : Int64)), .second] [(.ref w_BROWSE)])) (fun t q => XS.aload X28.here hx rfl (hb hby at_143) rfl rfl q) ?_
            refine own_go (T' := T28) (g' := (mkF m 147 #[.val (.int p1), .val (.int p2), .val (.int kk), .val (.int (12 : Int32)), .val (.ref w_BROWSE), .val (.ref w_BROWSE), .val (.long (1 : Int64)), .second] [(.ref w_BROWSE), (.ref w_BROWSE)])) (fun t q => XS.aload X28.here hx rfl (hb hby at_145) rfl rfl q) ?_
            have c29 : (Value.ref w_BROWSE) = (Value.ref w_BROWSE) := rfl
            refine own_go (T' := T28) (g' := (mkF m 150 #[.val (.int p1), .val (.int p2), .val (.int kk), .val (.int (12 : Int32)), .val (.ref w_BROWSE), .val (.ref w_BROWSE), .val (.long (1 : Int64)), .second] [])) (fun t q => XT.acmpNo X28.here hx rfl (hb hby at_147) rfl rfl rfl (own_at c29).2 q) ?_
            refine own_go (T' := T28) (g' := (mkF m 152 #[.val (.int p1), .val (.int p2), .val (.int kk), .val (.int (12 : Int32)), .val (.ref w_BROWSE), .val (.ref w_BROWSE), .val (.long (1 : Int64)), .second] [(.ref w_BROWSE)])) (fun t q => XS.aload X28.here hx rfl (hb hby at_150) rfl rfl q) ?_
            obtain ⟨v30, T30, L30, X30, Q30, st30⟩ := own_callV X28 hx hZ (y := (⟨"com/example/dvarapala/dvarapala/engine/PermissionType", "mask", "()J"⟩ : MethodName)) (b := w_BROWSE) (argsL := []) (rest := []) hown (hw _ (List.mem_of_getElem? (i := 8) rfl)) (hw _ (List.mem_of_getElem? (i := 9) rfl)) (hw _ (List.mem_of_getElem? (i := 11) rfl)) (hw _ (List.mem_of_getElem? (i := 10) rfl)) (hw _ (List.mem_of_getElem? (i := 2) rfl)) (hw _ (List.mem_of_getElem? (i := 12) rfl)) (rm_mask_BROWSE l Z a0 hw [] w_READ w_BROWSE w_READ_ROLE_PERMISSIONS h0 FX) e28 E_BROWSE (by decide) (by decide) 0 (by decide) (by decide) (by decide) (g := (mkF m 152 #[.val (.int p1), .val (.int p2), .val (.int kk), .val (.int (12 : Int32)), .val (.ref w_BROWSE), .val (.ref w_BROWSE), .val (.long (1 : Int64)), .second] [(.ref w_BROWSE)])) rfl (by rw [hml]; rfl) (lenOf (ps := []) (r := (some .long)) (by decide +kernel) rfl) rfl (by show 2 * 0 + _ ≤ _; exact Nat.le_of_eq rfl) (hb hby at_152)
            obtain ⟨rfl, e30, rfl⟩ := Q30
            refine own_go (T' := T30) (g' := (mkF m 155 #[.val (.int p1), .val (.int p2), .val (.int kk), .val (.int (12 : Int32)), .val (.ref w_BROWSE), .val (.ref w_BROWSE), .val (.long (1 : Int64)), .second] [(.long (1 : Int64))])) (fun t q => st30 t q) ?_
            refine own_go (T' := T30) (g' := (mkF m 157 #[.val (.int p1), .val (.int p2), .val (.int kk), .val (.int (12 : Int32)), .val (.ref w_BROWSE), .val (.ref w_BROWSE), .val (.long (1 : Int64)), .second] [(.long (1 : Int64)), (.long (1 : Int64))])) (fun t q => XT.lload X30.here hx rfl (hb hby at_155) rfl q) ?_
            refine own_go (T' := T30) (g' := (mkF m 158 #[.val (.int p1), .val (.int p2), .val (.int kk), .val (.int (12 : Int32)), .val (.ref w_BROWSE), .val (.ref w_BROWSE), .val (.long (1 : Int64)), .second] [(.int (XT.cmpL (1 : Int64) (1 : Int64)))])) (fun t q => XT.lcmp X30.here hx rfl (hb hby at_157) rfl q) ?_
            have c31 : (1 : Int64) = (1 : Int64) := by decide
            refine own_go (T' := T30) (g' := (mkF m 161 #[.val (.int p1), .val (.int p2), .val (.int kk), .val (.int (12 : Int32)), .val (.ref w_BROWSE), .val (.ref w_BROWSE), .val (.long (1 : Int64)), .second] [])) (fun t q => XS.ifNo X30.here hx rfl (hb hby at_158) rfl ((if0 _ _).trans (teq ((own_leq (1 : Int64) (1 : Int64)).mpr c31)).2) q) ?_
            refine own_go (T' := T30) (g' := (mkF m 162 #[.val (.int p1), .val (.int p2), .val (.int kk), .val (.int (12 : Int32)), .val (.ref w_BROWSE), .val (.ref w_BROWSE), .val (.long (1 : Int64)), .second] [(.int (1 : Int32))])) (fun t q => XS.iconst X30.here hx rfl (hb hby at_161) q) ?_
            refine own_go (T' := T30) (g' := (mkF m 166 #[.val (.int p1), .val (.int p2), .val (.int kk), .val (.int (12 : Int32)), .val (.ref w_BROWSE), .val (.ref w_BROWSE), .val (.long (1 : Int64)), .second] [(.int (1 : Int32))])) (fun t q => XS.goto X30.here hx rfl (pc0 := 162) (pc' := 166) rfl (hb hby at_162) (by decide) (by decide) q) ?_
            refine own_outN X30 hx hlk hret (t := .boolean) (by simp) (hb hby at_166) (w := (1 : Int32)) (by decide) ?_ (by decide) (by decide)
            exact ⟨rfl, Fr.nil _⟩
        · refine own_go (T' := s₁) (g' := (mkF m 48 #[.val (.int p1), .val (.int p2), .val (.int kk), .unset, .unset, .unset, .unset, .unset] [])) (fun t q => XS.icmpYes X0.here hx rfl (pc0 := 39) (pc' := 48) rfl (hb hby at_39) rfl (feq c24).2 (by decide) (by decide) q) ?_
          refine own_go (T' := s₁) (g' := (mkF m 49 #[.val (.int p1), .val (.int p2), .val (.int kk), .unset, .unset, .unset, .unset, .unset] [(.int kk)])) (fun t q => XS.iloadN X0.here hx rfl (hb hby at_48) rfl q) ?_
          refine own_go (T' := s₁) (g' := (mkF m 50 #[.val (.int p1), .val (.int p2), .val (.int kk), .unset, .unset, .unset, .unset, .unset] [(.int (4 : Int32)), (.int kk)])) (fun t q => XS.iconst X0.here hx rfl (hb hby at_49) q) ?_
          by_cases c32 : kk = (4 : Int32)
          · refine own_go (T' := s₁) (g' := (mkF m 53 #[.val (.int p1), .val (.int p2), .val (.int kk), .unset, .unset, .unset, .unset, .unset] [])) (fun t q => XS.icmpNo X0.here hx rfl (hb hby at_50) rfl (teq c32).2 q) ?_
            refine own_go (T' := s₁) (g' := (mkF m 55 #[.val (.int p1), .val (.int p2), .val (.int kk), .unset, .unset, .unset, .unset, .unset] [(.int (14 : Int32))])) (fun t q => XS.bipush X0.here hx rfl (hb hby at_53) q) ?_
            refine own_go (T' := s₁) (g' := (mkF m 56 #[.val (.int p1), .val (.int p2), .val (.int kk), .val (.int (14 : Int32)), .unset, .unset, .unset, .unset] [])) (fun t q => XS.istoreN X0.here hx rfl (hb hby at_55) rfl (l' := #[.val (.int p1), .val (.int p2), .val (.int kk), .val (.int (14 : Int32)), .unset, .unset, .unset, .unset]) rfl q) ?_
            refine own_go (T' := s₁) (g' := (mkF m 84 #[.val (.int p1), .val (.int p2), .val (.int kk), .val (.int (14 : Int32)), .unset, .unset, .unset, .unset] [])) (fun t q => XS.goto X0.here hx rfl (pc0 := 56) (pc' := 84) rfl (hb hby at_56) (by decide) (by decide) q) ?_
            refine own_go (T' := s₁) (g' := (mkF m 85 #[.val (.int p1), .val (.int p2), .val (.int kk), .val (.int (14 : Int32)), .unset, .unset, .unset, .unset] [(.int (14 : Int32))])) (fun t q => XS.iloadN X0.here hx rfl (hb hby at_84) rfl q) ?_
            obtain ⟨v33, T33, L33, X33, Q33, st33⟩ := own_callS X0 hx hZ (y := (⟨"com/example/dvarapala/dvarapala/engine/PermissionType", "neededToRead", "(I)Lcom/example/dvarapala/dvarapala/engine/PermissionType;"⟩ : MethodName)) (argsL := [(.int (14 : Int32))]) (rest := []) hown (hw _ (List.mem_of_getElem? (i := 0) rfl)) (hw _ (List.mem_of_getElem? (i := 1) rfl)) (hw _ (List.mem_of_getElem? (i := 2) rfl)) (hw _ (List.mem_of_getElem? (i := 3) rfl)) (rm_n l Z a0 hw [] (14 : Int32) w_READ w_BROWSE w_READ_ROLE_PERMISSIONS h0 FX) e0 (by decide) (by decide) 0 (by decide) (by decide) (by decide) (g := (mkF m 85 #[.val (.int p1), .val (.int p2), .val (.int kk), .val (.int (14 : Int32)), .unset, .unset, .unset, .unset] [(.int (14 : Int32))])) rfl (by rw [hml]; rfl) (lenOf (ps := [.int]) (r := (some (.object "com/example/dvarapala/dvarapala/engine/PermissionType"))) (by decide +kernel) rfl) rfl (by show 2 * 0 + _ ≤ _; exact Nat.le_of_eq rfl) (hb hby at_85)
            obtain ⟨Q33, e33, rfl⟩ := Q33
            rcases Q33 with ⟨hk, rfl⟩ | ⟨hk, rfl⟩ | ⟨hk, rfl⟩
            · exact absurd hk (by decide)
            · exact absurd hk (by decide)
            · refine own_go (T' := T33) (g' := (mkF m 88 #[.val (.int p1), .val (.int p2), .val (.int kk), .val (.int (14 : Int32)), .unset, .unset, .unset, .unset] [(.ref w_BROWSE)])) (fun t q => st33 t q) ?_
              refine own_go (T' := T33) (g' := (mkF m 90 #[.val (.int p1), .val (.int p2), .val (.int kk), .val (.int (14 : Int32)), .val (.ref w_BROWSE), .unset, .unset, .unset] [])) (fun t q => XS.astore X33.here hx rfl (hb hby at_88) rfl rfl (l' := #[.val (.int p1), .val (.int p2), .val (.int kk), .val (.int (14 : Int32)), .val (.ref w_BROWSE), .unset, .unset, .unset]) rfl q) ?_
              refine own_go (T' := T33) (g' := (mkF m 92 #[.val (.int p1), .val (.int p2), .val (.int kk), .val (.int (14 : Int32)), .val (.ref w_BROWSE), .unset, .unset, .unset] [(.ref w_BROWSE)])) (fun t q => XS.aload X33.here hx rfl (hb hby at_90) rfl rfl q) ?_
              refine own_go (T' := T33) (g' := (mkF m 97 #[.val (.int p1), .val (.int p2), .val (.int kk), .val (.int (14 : Int32)), .val (.ref w_BROWSE), .unset, .unset, .unset] [])) (fun t q => XT.ifnonnullYes X33.here hx rfl (pc0 := 92) (pc' := 97) rfl (hb hby at_92) rfl (by decide) (by decide) q) ?_
              refine own_go (T' := T33) (g' := (mkF m 98 #[.val (.int p1), .val (.int p2), .val (.int kk), .val (.int (14 : Int32)), .val (.ref w_BROWSE), .unset, .unset, .unset] [(.int (14 : Int32))])) (fun t q => XS.iloadN X33.here hx rfl (hb hby at_97) rfl q) ?_
              refine own_go (T' := T33) (g' := (mkF m 100 #[.val (.int p1), .val (.int p2), .val (.int kk), .val (.int (14 : Int32)), .val (.ref w_BROWSE), .unset, .unset, .unset] [(.int (13 : Int32)), (.int (14 : Int32))])) (fun t q => XS.bipush X33.here hx rfl (hb hby at_98) q) ?_
              have c34 : ¬ ((14 : Int32) = (13 : Int32)) := by decide
              refine own_go (T' := T33) (g' := (mkF m 116 #[.val (.int p1), .val (.int p2), .val (.int kk), .val (.int (14 : Int32)), .val (.ref w_BROWSE), .unset, .unset, .unset] [])) (fun t q => XS.icmpYes X33.here hx rfl (pc0 := 100) (pc' := 116) rfl (hb hby at_100) rfl (feq c34).2 (by decide) (by decide) q) ?_
              refine own_go (T' := T33) (g' := (mkF m 117 #[.val (.int p1), .val (.int p2), .val (.int kk), .val (.int (14 : Int32)), .val (.ref w_BROWSE), .unset, .unset, .unset] [(.int (14 : Int32))])) (fun t q => XS.iloadN X33.here hx rfl (hb hby at_116) rfl q) ?_
              refine own_go (T' := T33) (g' := (mkF m 119 #[.val (.int p1), .val (.int p2), .val (.int kk), .val (.int (14 : Int32)), .val (.ref w_BROWSE), .unset, .unset, .unset] [(.int (24 : Int32)), (.int (14 : Int32))])) (fun t q => XS.bipush X33.here hx rfl (hb hby at_117) q) ?_
              have c35 : ¬ ((14 : Int32) = (24 : Int32)) := by decide
              refine own_go (T' := T33) (g' := (mkF m 135 #[.val (.int p1), .val (.int p2), .val (.int kk), .val (.int (14 : Int32)), .val (.ref w_BROWSE), .unset, .unset, .unset] [])) (fun t q => XS.icmpYes X33.here hx rfl (pc0 := 119) (pc' := 135) rfl (hb hby at_119) rfl (feq c35).2 (by decide) (by decide) q) ?_
              obtain ⟨T36, X36, e36, st36⟩ := getS2 X33 hx hZ hown (host := "") (Or.inl (hw _ (List.mem_of_getElem? (i := 17) rfl))) Via.refl e33 S_BROWSE (g := (mkF m 135 #[.val (.int p1), .val (.int p2), .val (.int kk), .val (.int (14 : Int32)), .val (.ref w_BROWSE), .unset, .unset, .unset] [])) rfl (hb hby at_135)
              refine own_go (T' := T36) (g' := (mkF m 138 #[.val (.int p1), .val (.int p2), .val (.int kk), .val (.int (14 : Int32)), .val (.ref w_BROWSE), .unset, .unset, .unset] [(.ref w_BROWSE)])) (fun t q => st36 t q) ?_
              refine own_go (T' := T36) (g' := (mkF m 140 #[.val (.int p1), .val (.int p2), .val (.int kk), .val (.int (14 : Int32)), .val (.ref w_BROWSE), .val (.ref w_BROWSE), .unset, .unset] [])) (fun t q => XS.astore X36.here hx rfl (hb hby at_138) rfl rfl (l' := #[.val (.int p1), .val (.int p2), .val (.int kk), .val (.int (14 : Int32)), .val (.ref w_BROWSE), .val (.ref w_BROWSE), .unset, .unset]) rfl q) ?_
              refine own_go (T' := T36) (g' := (mkF m 141 #[.val (.int p1), .val (.int p2), .val (.int kk), .val (.int (14 : Int32)), .val (.ref w_BROWSE), .val (.ref w_BROWSE), .unset, .unset] [(.long (1 : Int64))])) (fun t q => XT.lconst X36.here hx rfl (hb hby at_140) q) ?_
              refine own_go (T' := T36) (g' := (mkF m 143 #[.val (.int p1), .val (.int p2), .val (.int kk), .val (.int (14 : Int32)), .val (.ref w_BROWSE), .val (.ref w_BROWSE), .val (.long (1 : Int64)), .second] [])) (fun t q => XT.lstore X36.here hx rfl (hb hby at_141) rfl (l' := #[.val (.int p1), .val (.int p2), .val (.int kk), .val (.int (14 : Int32)), .val (.ref w_BROWSE), .val (.ref w_BROWSE), .val (.long (1 : Int64)), .second]) rfl q) ?_
              refine own_go (T' := T36) (g' := (mkF m 145 #[.val (.int p1), .val (.int p2), .val (.int kk), .val (.int (14 : Int32)), .val (.ref w_BROWSE), .val (.ref w_BROWSE), .val (.long (1 : Int64)), .second] [(.ref w_BROWSE)])) (fun t q => XS.aload X36.here hx rfl (hb hby at_143) rfl rfl q) ?_
              refine own_go (T' := T36) (g' := (mkF m 147 #[.val (.int p1), .val (.int p2), .val (.int kk), .val (.int (14 : Int32)), .val (.ref w_BROWSE), .val (.ref w_BROWSE), .val (.long (1 : Int64)), .second] [(.ref w_BROWSE), (.ref w_BROWSE)])) (fun t q => XS.aload X36.here hx rfl (hb hby at_145) rfl rfl q) ?_
              have c37 : (Value.ref w_BROWSE) = (Value.ref w_BROWSE) := rfl
              refine own_go (T' := T36) (g' := (mkF m 150 #[.val (.int p1), .val (.int p2), .val (.int kk), .val (.int (14 : Int32)), .val (.ref w_BROWSE), .val (.ref w_BROWSE), .val (.long (1 : Int64)), .second] [])) (fun t q => XT.acmpNo X36.here hx rfl (hb hby at_147) rfl rfl rfl (own_at c37).2 q) ?_
              refine own_go (T' := T36) (g' := (mkF m 152 #[.val (.int p1), .val (.int p2), .val (.int kk), .val (.int (14 : Int32)), .val (.ref w_BROWSE), .val (.ref w_BROWSE), .val (.long (1 : Int64)), .second] [(.ref w_BROWSE)])) (fun t q => XS.aload X36.here hx rfl (hb hby at_150) rfl rfl q) ?_
              obtain ⟨v38, T38, L38, X38, Q38, st38⟩ := own_callV X36 hx hZ (y := (⟨"com/example/dvarapala/dvarapala/engine/PermissionType", "mask", "()J"⟩ : MethodName)) (b := w_BROWSE) (argsL := []) (rest := []) hown (hw _ (List.mem_of_getElem? (i := 8) rfl)) (hw _ (List.mem_of_getElem? (i := 9) rfl)) (hw _ (List.mem_of_getElem? (i := 11) rfl)) (hw _ (List.mem_of_getElem? (i := 10) rfl)) (hw _ (List.mem_of_getElem? (i := 2) rfl)) (hw _ (List.mem_of_getElem? (i := 12) rfl)) (rm_mask_BROWSE l Z a0 hw [] w_READ w_BROWSE w_READ_ROLE_PERMISSIONS h0 FX) e36 E_BROWSE (by decide) (by decide) 0 (by decide) (by decide) (by decide) (g := (mkF m 152 #[.val (.int p1), .val (.int p2), .val (.int kk), .val (.int (14 : Int32)), .val (.ref w_BROWSE), .val (.ref w_BROWSE), .val (.long (1 : Int64)), .second] [(.ref w_BROWSE)])) rfl (by rw [hml]; rfl) (lenOf (ps := []) (r := (some .long)) (by decide +kernel) rfl) rfl (by show 2 * 0 + _ ≤ _; exact Nat.le_of_eq rfl) (hb hby at_152)
              obtain ⟨rfl, e38, rfl⟩ := Q38
              refine own_go (T' := T38) (g' := (mkF m 155 #[.val (.int p1), .val (.int p2), .val (.int kk), .val (.int (14 : Int32)), .val (.ref w_BROWSE), .val (.ref w_BROWSE), .val (.long (1 : Int64)), .second] [(.long (1 : Int64))])) (fun t q => st38 t q) ?_
              refine own_go (T' := T38) (g' := (mkF m 157 #[.val (.int p1), .val (.int p2), .val (.int kk), .val (.int (14 : Int32)), .val (.ref w_BROWSE), .val (.ref w_BROWSE), .val (.long (1 : Int64)), .second] [(.long (1 : Int64)), (.long (1 : Int64))])) (fun t q => XT.lload X38.here hx rfl (hb hby at_155) rfl q) ?_
              refine own_go (T' := T38) (g' := (mkF m 158 #[.val (.int p1), .val (.int p2), .val (.int kk), .val (.int (14 : Int32)), .val (.ref w_BROWSE), .val (.ref w_BROWSE), .val (.long (1 : Int64)), .second] [(.int (XT.cmpL (1 : Int64) (1 : Int64)))])) (fun t q => XT.lcmp X38.here hx rfl (hb hby at_157) rfl q) ?_
              have c39 : (1 : Int64) = (1 : Int64) := by decide
              refine own_go (T' := T38) (g' := (mkF m 161 #[.val (.int p1), .val (.int p2), .val (.int kk), .val (.int (14 : Int32)), .val (.ref w_BROWSE), .val (.ref w_BROWSE), .val (.long (1 : Int64)), .second] [])) (fun t q => XS.ifNo X38.here hx rfl (hb hby at_158) rfl ((if0 _ _).trans (teq ((own_leq (1 : Int64) (1 : Int64)).mpr c39)).2) q) ?_
              refine own_go (T' := T38) (g' := (mkF m 162 #[.val (.int p1), .val (.int p2), .val (.int kk), .val (.int (14 : Int32)), .val (.ref w_BROWSE), .val (.ref w_BROWSE), .val (.long (1 : Int64)), .second] [(.int (1 : Int32))])) (fun t q => XS.iconst X38.here hx rfl (hb hby at_161) q) ?_
              refine own_go (T' := T38) (g' := (mkF m 166 #[.val (.int p1), .val (.int p2), .val (.int kk), .val (.int (14 : Int32)), .val (.ref w_BROWSE), .val (.ref w_BROWSE), .val (.long (1 : Int64)), .second] [(.int (1 : Int32))])) (fun t q => XS.goto X38.here hx rfl (pc0 := 162) (pc' := 166) rfl (hb hby at_162) (by decide) (by decide) q) ?_
              refine own_outN X38 hx hlk hret (t := .boolean) (by simp) (hb hby at_166) (w := (1 : Int32)) (by decide) ?_ (by decide) (by decide)
              exact ⟨rfl, Fr.nil _⟩
          · refine own_go (T' := s₁) (g' := (mkF m 59 #[.val (.int p1), .val (.int p2), .val (.int kk), .unset, .unset, .unset, .unset, .unset] [])) (fun t q => XS.icmpYes X0.here hx rfl (pc0 := 50) (pc' := 59) rfl (hb hby at_50) rfl (feq c32).2 (by decide) (by decide) q) ?_
            refine own_go (T' := s₁) (g' := (mkF m 60 #[.val (.int p1), .val (.int p2), .val (.int kk), .unset, .unset, .unset, .unset, .unset] [(.int kk)])) (fun t q => XS.iloadN X0.here hx rfl (hb hby at_59) rfl q) ?_
            refine own_go (T' := s₁) (g' := (mkF m 61 #[.val (.int p1), .val (.int p2), .val (.int kk), .unset, .unset, .unset, .unset, .unset] [(.int (5 : Int32)), (.int kk)])) (fun t q => XS.iconst X0.here hx rfl (hb hby at_60) q) ?_
            by_cases c40 : kk = (5 : Int32)
            · refine own_go (T' := s₁) (g' := (mkF m 64 #[.val (.int p1), .val (.int p2), .val (.int kk), .unset, .unset, .unset, .unset, .unset] [])) (fun t q => XS.icmpNo X0.here hx rfl (hb hby at_61) rfl (teq c40).2 q) ?_
              refine own_go (T' := s₁) (g' := (mkF m 66 #[.val (.int p1), .val (.int p2), .val (.int kk), .unset, .unset, .unset, .unset, .unset] [(.int (23 : Int32))])) (fun t q => XS.bipush X0.here hx rfl (hb hby at_64) q) ?_
              refine own_go (T' := s₁) (g' := (mkF m 67 #[.val (.int p1), .val (.int p2), .val (.int kk), .val (.int (23 : Int32)), .unset, .unset, .unset, .unset] [])) (fun t q => XS.istoreN X0.here hx rfl (hb hby at_66) rfl (l' := #[.val (.int p1), .val (.int p2), .val (.int kk), .val (.int (23 : Int32)), .unset, .unset, .unset, .unset]) rfl q) ?_
              refine own_go (T' := s₁) (g' := (mkF m 84 #[.val (.int p1), .val (.int p2), .val (.int kk), .val (.int (23 : Int32)), .unset, .unset, .unset, .unset] [])) (fun t q => XS.goto X0.here hx rfl (pc0 := 67) (pc' := 84) rfl (hb hby at_67) (by decide) (by decide) q) ?_
              refine own_go (T' := s₁) (g' := (mkF m 85 #[.val (.int p1), .val (.int p2), .val (.int kk), .val (.int (23 : Int32)), .unset, .unset, .unset, .unset] [(.int (23 : Int32))])) (fun t q => XS.iloadN X0.here hx rfl (hb hby at_84) rfl q) ?_
              obtain ⟨v41, T41, L41, X41, Q41, st41⟩ := own_callS X0 hx hZ (y := (⟨"com/example/dvarapala/dvarapala/engine/PermissionType", "neededToRead", "(I)Lcom/example/dvarapala/dvarapala/engine/PermissionType;"⟩ : MethodName)) (argsL := [(.int (23 : Int32))]) (rest := []) hown (hw _ (List.mem_of_getElem? (i := 0) rfl)) (hw _ (List.mem_of_getElem? (i := 1) rfl)) (hw _ (List.mem_of_getElem? (i := 2) rfl)) (hw _ (List.mem_of_getElem? (i := 3) rfl)) (rm_n l Z a0 hw [] (23 : Int32) w_READ w_BROWSE w_READ_ROLE_PERMISSIONS h0 FX) e0 (by decide) (by decide) 0 (by decide) (by decide) (by decide) (g := (mkF m 85 #[.val (.int p1), .val (.int p2), .val (.int kk), .val (.int (23 : Int32)), .unset, .unset, .unset, .unset] [(.int (23 : Int32))])) rfl (by rw [hml]; rfl) (lenOf (ps := [.int]) (r := (some (.object "com/example/dvarapala/dvarapala/engine/PermissionType"))) (by decide +kernel) rfl) rfl (by show 2 * 0 + _ ≤ _; exact Nat.le_of_eq rfl) (hb hby at_85)
              obtain ⟨Q41, e41, rfl⟩ := Q41
              rcases Q41 with ⟨hk, rfl⟩ | ⟨hk, rfl⟩ | ⟨hk, rfl⟩
              · exact absurd hk (by decide)
              · exact absurd hk (by decide)
              · refine own_go (T' := T41) (g' := (mkF m 88 #[.val (.int p1), .val (.int p2), .val (.int kk), .val (.int (23 : Int32)), .unset, .unset, .unset, .unset] [(.ref w_BROWSE)])) (fun t q => st41 t q) ?_
                refine own_go (T' := T41) (g' := (mkF m 90 #[.val (.int p1), .val (.int p2), .val (.int kk), .val (.int (23 : Int32)), .val (.ref w_BROWSE), .unset, .unset, .unset] [])) (fun t q => XS.astore X41.here hx rfl (hb hby at_88) rfl rfl (l' := #[.val (.int p1), .val (.int p2), .val (.int kk), .val (.int (23 : Int32)), .val (.ref w_BROWSE), .unset, .unset, .unset]) rfl q) ?_
                refine own_go (T' := T41) (g' := (mkF m 92 #[.val (.int p1), .val (.int p2), .val (.int kk), .val (.int (23 : Int32)), .val (.ref w_BROWSE), .unset, .unset, .unset] [(.ref w_BROWSE)])) (fun t q => XS.aload X41.here hx rfl (hb hby at_90) rfl rfl q) ?_
                refine own_go (T' := T41) (g' := (mkF m 97 #[.val (.int p1), .val (.int p2), .val (.int kk), .val (.int (23 : Int32)), .val (.ref w_BROWSE), .unset, .unset, .unset] [])) (fun t q => XT.ifnonnullYes X41.here hx rfl (pc0 := 92) (pc' := 97) rfl (hb hby at_92) rfl (by decide) (by decide) q) ?_
                refine own_go (T' := T41) (g' := (mkF m 98 #[.val (.int p1), .val (.int p2), .val (.int kk), .val (.int (23 : Int32)), .val (.ref w_BROWSE), .unset, .unset, .unset] [(.int (23 : Int32))])) (fun t q => XS.iloadN X41.here hx rfl (hb hby at_97) rfl q) ?_
                refine own_go (T' := T41) (g' := (mkF m 100 #[.val (.int p1), .val (.int p2), .val (.int kk), .val (.int (23 : Int32)), .val (.ref w_BROWSE), .unset, .unset, .unset] [(.int (13 : Int32)), (.int (23 : Int32))])) (fun t q => XS.bipush X41.here hx rfl (hb hby at_98) q) ?_
                have c42 : ¬ ((23 : Int32) = (13 : Int32)) := by decide
                refine own_go (T' := T41) (g' := (mkF m 116 #[.val (.int p1), .val (.int p2), .val (.int kk), .val (.int (23 : Int32)), .val (.ref w_BROWSE), .unset, .unset, .unset] [])) (fun t q => XS.icmpYes X41.here hx rfl (pc0 := 100) (pc' := 116) rfl (hb hby at_100) rfl (feq c42).2 (by decide) (by decide) q) ?_
                refine own_go (T' := T41) (g' := (mkF m 117 #[.val (.int p1), .val (.int p2), .val (.int kk), .val (.int (23 : Int32)), .val (.ref w_BROWSE), .unset, .unset, .unset] [(.int (23 : Int32))])) (fun t q => XS.iloadN X41.here hx rfl (hb hby at_116) rfl q) ?_
                refine own_go (T' := T41) (g' := (mkF m 119 #[.val (.int p1), .val (.int p2), .val (.int kk), .val (.int (23 : Int32)), .val (.ref w_BROWSE), .unset, .unset, .unset] [(.int (24 : Int32)), (.int (23 : Int32))])) (fun t q => XS.bipush X41.here hx rfl (hb hby at_117) q) ?_
                have c43 : ¬ ((23 : Int32) = (24 : Int32)) := by decide
                refine own_go (T' := T41) (g' := (mkF m 135 #[.val (.int p1), .val (.int p2), .val (.int kk), .val (.int (23 : Int32)), .val (.ref w_BROWSE), .unset, .unset, .unset] [])) (fun t q => XS.icmpYes X41.here hx rfl (pc0 := 119) (pc' := 135) rfl (hb hby at_119) rfl (feq c43).2 (by decide) (by decide) q) ?_
                obtain ⟨T44, X44, e44, st44⟩ := getS2 X41 hx hZ hown (host := "") (Or.inl (hw _ (List.mem_of_getElem? (i := 17) rfl))) Via.refl e41 S_BROWSE (g := (mkF m 135 #[.val (.int p1), .val (.int p2), .val (.int kk), .val (.int (23 : Int32)), .val (.ref w_BROWSE), .unset, .unset, .unset] [])) rfl (hb hby at_135)
                refine own_go (T' := T44) (g' := (mkF m 138 #[.val (.int p1), .val (.int p2), .val (.int kk), .val (.int (23 : Int32)), .val (.ref w_BROWSE), .unset, .unset, .unset] [(.ref w_BROWSE)])) (fun t q => st44 t q) ?_
                refine own_go (T' := T44) (g' := (mkF m 140 #[.val (.int p1), .val (.int p2), .val (.int kk), .val (.int (23 : Int32)), .val (.ref w_BROWSE), .val (.ref w_BROWSE), .unset, .unset] [])) (fun t q => XS.astore X44.here hx rfl (hb hby at_138) rfl rfl (l' := #[.val (.int p1), .val (.int p2), .val (.int kk), .val (.int (23 : Int32)), .val (.ref w_BROWSE), .val (.ref w_BROWSE), .unset, .unset]) rfl q) ?_
                refine own_go (T' := T44) (g' := (mkF m 141 #[.val (.int p1), .val (.int p2), .val (.int kk), .val (.int (23 : Int32)), .val (.ref w_BROWSE), .val (.ref w_BROWSE), .unset, .unset] [(.long (1 : Int64))])) (fun t q => XT.lconst X44.here hx rfl (hb hby at_140) q) ?_
                refine own_go (T' := T44) (g' := (mkF m 143 #[.val (.int p1), .val (.int p2), .val (.int kk), .val (.int (23 : Int32)), .val (.ref w_BROWSE), .val (.ref w_BROWSE), .val (.long (1 : Int64)), .second] [])) (fun t q => XT.lstore X44.here hx rfl (hb hby at_141) rfl (l' := #[.val (.int p1), .val (.int p2), .val (.int kk), .val (.int (23 : Int32)), .val (.ref w_BROWSE), .val (.ref w_BROWSE), .val (.long (1 : Int64)), .second]) rfl q) ?_
                refine own_go (T' := T44) (g' := (mkF m 145 #[.val (.int p1), .val (.int p2), .val (.int kk), .val (.int (23 : Int32)), .val (.ref w_BROWSE), .val (.ref w_BROWSE), .val (.long (1 : Int64)), .second] [(.ref w_BROWSE)])) (fun t q => XS.aload X44.here hx rfl (hb hby at_143) rfl rfl q) ?_
                refine own_go (T' := T44) (g' := (mkF m 147 #[.val (.int p1), .val (.int p2), .val (.int kk), .val (.int (23 : Int32)), .val (.ref w_BROWSE), .val (.ref w_BROWSE), .val (.long (1 : Int64)), .second] [(.ref w_BROWSE), (.ref w_BROWSE)])) (fun t q => XS.aload X44.here hx rfl (hb hby at_145) rfl rfl q) ?_
                have c45 : (Value.ref w_BROWSE) = (Value.ref w_BROWSE) := rfl
                refine own_go (T' := T44) (g' := (mkF m 150 #[.val (.int p1), .val (.int p2), .val (.int kk), .val (.int (23 : Int32)), .val (.ref w_BROWSE), .val (.ref w_BROWSE), .val (.long (1 : Int64)), .second] [])) (fun t q => XT.acmpNo X44.here hx rfl (hb hby at_147) rfl rfl rfl (own_at c45).2 q) ?_
                refine own_go (T' := T44) (g' := (mkF m 152 #[.val (.int p1), .val (.int p2), .val (.int kk), .val (.int (23 : Int32)), .val (.ref w_BROWSE), .val (.ref w_BROWSE), .val (.long (1 : Int64)), .second] [(.ref w_BROWSE)])) (fun t q => XS.aload X44.here hx rfl (hb hby at_150) rfl rfl q) ?_
                obtain ⟨v46, T46, L46, X46, Q46, st46⟩ := own_callV X44 hx hZ (y := (⟨"com/example/dvarapala/dvarapala/engine/PermissionType", "mask", "()J"⟩ : MethodName)) (b := w_BROWSE) (argsL := []) (rest := []) hown (hw _ (List.mem_of_getElem? (i := 8) rfl)) (hw _ (List.mem_of_getElem? (i := 9) rfl)) (hw _ (List.mem_of_getElem? (i := 11) rfl)) (hw _ (List.mem_of_getElem? (i := 10) rfl)) (hw _ (List.mem_of_getElem? (i := 2) rfl)) (hw _ (List.mem_of_getElem? (i := 12) rfl)) (rm_mask_BROWSE l Z a0 hw [] w_READ w_BROWSE w_READ_ROLE_PERMISSIONS h0 FX) e44 E_BROWSE (by decide) (by decide) 0 (by decide) (by decide) (by decide) (g := (mkF m 152 #[.val (.int p1), .val (.int p2), .val (.int kk), .val (.int (23 : Int32)), .val (.ref w_BROWSE), .val (.ref w_BROWSE), .val (.long (1 : Int64)), .second] [(.ref w_BROWSE)])) rfl (by rw [hml]; rfl) (lenOf (ps := []) (r := (some .long)) (by decide +kernel) rfl) rfl (by show 2 * 0 + _ ≤ _; exact Nat.le_of_eq rfl) (hb hby at_152)
                obtain ⟨rfl, e46, rfl⟩ := Q46
                refine own_go (T' := T46) (g' := (mkF m 155 #[.val (.int p1), .val (.int p2), .val (.int kk), .val (.int (23 : Int32)), .val (.ref w_BROWSE), .val (.ref w_BROWSE), .val (.long (1 : Int64)), .second] [(.long (1 : Int64))])) (fun t q => st46 t q) ?_
                refine own_go (T' := T46) (g' := (mkF m 157 #[.val (.int p1), .val (.int p2), .val (.int kk), .val (.int (23 : Int32)), .val (.ref w_BROWSE), .val (.ref w_BROWSE), .val (.long (1 : Int64)), .second] [(.long (1 : Int64)), (.long (1 : Int64))])) (fun t q => XT.lload X46.here hx rfl (hb hby at_155) rfl q) ?_
                refine own_go (T' := T46) (g' := (mkF m 158 #[.val (.int p1), .val (.int p2), .val (.int kk), .val (.int (23 : Int32)), .val (.ref w_BROWSE), .val (.ref w_BROWSE), .val (.long (1 : Int64)), .second] [(.int (XT.cmpL (1 : Int64) (1 : Int64)))])) (fun t q => XT.lcmp X46.here hx rfl (hb hby at_157) rfl q) ?_
                have c47 : (1 : Int64) = (1 : Int64) := by decide
                refine own_go (T' := T46) (g' := (mkF m 161 #[.val (.int p1), .val (.int p2), .val (.int kk), .val (.int (23 : Int32)), .val (.ref w_BROWSE), .val (.ref w_BROWSE), .val (.long (1 : Int64)), .second] [])) (fun t q => XS.ifNo X46.here hx rfl (hb hby at_158) rfl ((if0 _ _).trans (teq ((own_leq (1 : Int64) (1 : Int64)).mpr c47)).2) q) ?_
                refine own_go (T' := T46) (g' := (mkF m 162 #[.val (.int p1), .val (.int p2), .val (.int kk), .val (.int (23 : Int32)), .val (.ref w_BROWSE), .val (.ref w_BROWSE), .val (.long (1 : Int64)), .second] [(.int (1 : Int32))])) (fun t q => XS.iconst X46.here hx rfl (hb hby at_161) q) ?_
                refine own_go (T' := T46) (g' := (mkF m 166 #[.val (.int p1), .val (.int p2), .val (.int kk), .val (.int (23 : Int32)), .val (.ref w_BROWSE), .val (.ref w_BROWSE), .val (.long (1 : Int64)), .second] [(.int (1 : Int32))])) (fun t q => XS.goto X46.here hx rfl (pc0 := 162) (pc' := 166) rfl (hb hby at_162) (by decide) (by decide) q) ?_
                refine own_outN X46 hx hlk hret (t := .boolean) (by simp) (hb hby at_166) (w := (1 : Int32)) (by decide) ?_ (by decide) (by decide)
                exact ⟨rfl, Fr.nil _⟩
            · refine own_go (T' := s₁) (g' := (mkF m 70 #[.val (.int p1), .val (.int p2), .val (.int kk), .unset, .unset, .unset, .unset, .unset] [])) (fun t q => XS.icmpYes X0.here hx rfl (pc0 := 61) (pc' := 70) rfl (hb hby at_61) rfl (feq c40).2 (by decide) (by decide) q) ?_
              refine own_go (T' := s₁) (g' := (mkF m 71 #[.val (.int p1), .val (.int p2), .val (.int kk), .unset, .unset, .unset, .unset, .unset] [(.int kk)])) (fun t q => XS.iloadN X0.here hx rfl (hb hby at_70) rfl q) ?_
              refine own_go (T' := s₁) (g' := (mkF m 73 #[.val (.int p1), .val (.int p2), .val (.int kk), .unset, .unset, .unset, .unset, .unset] [(.int (6 : Int32)), (.int kk)])) (fun t q => XS.bipush X0.here hx rfl (hb hby at_71) q) ?_
              by_cases c48 : kk = (6 : Int32)
              · refine own_go (T' := s₁) (g' := (mkF m 76 #[.val (.int p1), .val (.int p2), .val (.int kk), .unset, .unset, .unset, .unset, .unset] [])) (fun t q => XS.icmpNo X0.here hx rfl (hb hby at_73) rfl (teq c48).2 q) ?_
                refine own_go (T' := s₁) (g' := (mkF m 78 #[.val (.int p1), .val (.int p2), .val (.int kk), .unset, .unset, .unset, .unset, .unset] [(.int (25 : Int32))])) (fun t q => XS.bipush X0.here hx rfl (hb hby at_76) q) ?_
                refine own_go (T' := s₁) (g' := (mkF m 79 #[.val (.int p1), .val (.int p2), .val (.int kk), .val (.int (25 : Int32)), .unset, .unset, .unset, .unset] [])) (fun t q => XS.istoreN X0.here hx rfl (hb hby at_78) rfl (l' := #[.val (.int p1), .val (.int p2), .val (.int kk), .val (.int (25 : Int32)), .unset, .unset, .unset, .unset]) rfl q) ?_
                refine own_go (T' := s₁) (g' := (mkF m 84 #[.val (.int p1), .val (.int p2), .val (.int kk), .val (.int (25 : Int32)), .unset, .unset, .unset, .unset] [])) (fun t q => XS.goto X0.here hx rfl (pc0 := 79) (pc' := 84) rfl (hb hby at_79) (by decide) (by decide) q) ?_
                refine own_go (T' := s₁) (g' := (mkF m 85 #[.val (.int p1), .val (.int p2), .val (.int kk), .val (.int (25 : Int32)), .unset, .unset, .unset, .unset] [(.int (25 : Int32))])) (fun t q => XS.iloadN X0.here hx rfl (hb hby at_84) rfl q) ?_
                obtain ⟨v49, T49, L49, X49, Q49, st49⟩ := own_callS X0 hx hZ (y := (⟨"com/example/dvarapala/dvarapala/engine/PermissionType", "neededToRead", "(I)Lcom/example/dvarapala/dvarapala/engine/PermissionType;"⟩ : MethodName)) (argsL := [(.int (25 : Int32))]) (rest := []) hown (hw _ (List.mem_of_getElem? (i := 0) rfl)) (hw _ (List.mem_of_getElem? (i := 1) rfl)) (hw _ (List.mem_of_getElem? (i := 2) rfl)) (hw _ (List.mem_of_getElem? (i := 3) rfl)) (rm_n l Z a0 hw [] (25 : Int32) w_READ w_BROWSE w_READ_ROLE_PERMISSIONS h0 FX) e0 (by decide) (by decide) 0 (by decide) (by decide) (by decide) (g := (mkF m 85 #[.val (.int p1), .val (.int p2), .val (.int kk), .val (.int (25 : Int32)), .unset, .unset, .unset, .unset] [(.int (25 : Int32))])) rfl (by rw [hml]; rfl) (lenOf (ps := [.int]) (r := (some (.object "com/example/dvarapala/dvarapala/engine/PermissionType"))) (by decide +kernel) rfl) rfl (by show 2 * 0 + _ ≤ _; exact Nat.le_of_eq rfl) (hb hby at_85)
                obtain ⟨Q49, e49, rfl⟩ := Q49
                rcases Q49 with ⟨hk, rfl⟩ | ⟨hk, rfl⟩ | ⟨hk, rfl⟩
                · exact absurd hk (by decide)
                · exact absurd hk (by decide)
                · refine own_go (T' := T49) (g' := (mkF m 88 #[.val (.int p1), .val (.int p2), .val (.int kk), .val (.int (25 : Int32)), .unset, .unset, .unset, .unset] [(.ref w_BROWSE)])) (fun t q => st49 t q) ?_
                  refine own_go (T' := T49) (g' := (mkF m 90 #[.val (.int p1), .val (.int p2), .val (.int kk), .val (.int (25 : Int32)), .val (.ref w_BROWSE), .unset, .unset, .unset] [])) (fun t q => XS.astore X49.here hx rfl (hb hby at_88) rfl rfl (l' := #[.val (.int p1), .val (.int p2), .val (.int kk), .val (.int (25 : Int32)), .val (.ref w_BROWSE), .unset, .unset, .unset]) rfl q) ?_
                  refine own_go (T' := T49) (g' := (mkF m 92 #[.val (.int p1), .val (.int p2), .val (.int kk), .val (.int (25 : Int32)), .val (.ref w_BROWSE), .unset, .unset, .unset] [(.ref w_BROWSE)])) (fun t q => XS.aload X49.here hx rfl (hb hby at_90) rfl rfl q) ?_
                  refine own_go (T' := T49) (g' := (mkF m 97 #[.val (.int p1), .val (.int p2), .val (.int kk), .val (.int (25 : Int32)), .val (.ref w_BROWSE), .unset, .unset, .unset] [])) (fun t q => XT.ifnonnullYes X49.here hx rfl (pc0 := 92) (pc' := 97) rfl (hb hby at_92) rfl (by decide) (by decide) q) ?_
                  refine own_go (T' := T49) (g' := (mkF m 98 #[.val (.int p1), .val (.int p2), .val (.int kk), .val (.int (25 : Int32)), .val (.ref w_BROWSE), .unset, .unset, .unset] [(.int (25 : Int32))])) (fun t q => XS.iloadN X49.here hx rfl (hb hby at_97) rfl q) ?_
                  refine own_go (T' := T49) (g' := (mkF m 100 #[.val (.int p1), .val (.int p2), .val (.int kk), .val (.int (25 : Int32)), .val (.ref w_BROWSE), .unset, .unset, .unset] [(.int (13 : Int32)), (.int (25 : Int32))])) (fun t q => XS.bipush X49.here hx rfl (hb hby at_98) q) ?_
                  have c50 : ¬ ((25 : Int32) = (13 : Int32)) := by decide
                  refine own_go (T' := T49) (g' := (mkF m 116 #[.val (.int p1), .val (.int p2), .val (.int kk), .val (.int (25 : Int32)), .val (.ref w_BROWSE), .unset, .unset, .unset] [])) (fun t q => XS.icmpYes X49.here hx rfl (pc0 := 100) (pc' := 116) rfl (hb hby at_100) rfl (feq c50).2 (by decide) (by decide) q) ?_
                  refine own_go (T' := T49) (g' := (mkF m 117 #[.val (.int p1), .val (.int p2), .val (.int kk), .val (.int (25 : Int32)), .val (.ref w_BROWSE), .unset, .unset, .unset] [(.int (25 : Int32))])) (fun t q => XS.iloadN X49.here hx rfl (hb hby at_116) rfl q) ?_
                  refine own_go (T' := T49) (g' := (mkF m 119 #[.val (.int p1), .val (.int p2), .val (.int kk), .val (.int (25 : Int32)), .val (.ref w_BROWSE), .unset, .unset, .unset] [(.int (24 : Int32)), (.int (25 : Int32))])) (fun t q => XS.bipush X49.here hx rfl (hb hby at_117) q) ?_
                  have c51 : ¬ ((25 : Int32) = (24 : Int32)) := by decide
                  refine own_go (T' := T49) (g' := (mkF m 135 #[.val (.int p1), .val (.int p2), .val (.int kk), .val (.int (25 : Int32)), .val (.ref w_BROWSE), .unset, .unset, .unset] [])) (fun t q => XS.icmpYes X49.here hx rfl (pc0 := 119) (pc' := 135) rfl (hb hby at_119) rfl (feq c51).2 (by decide) (by decide) q) ?_
                  obtain ⟨T52, X52, e52, st52⟩ := getS2 X49 hx hZ hown (host := "") (Or.inl (hw _ (List.mem_of_getElem? (i := 17) rfl))) Via.refl e49 S_BROWSE (g := (mkF m 135 #[.val (.int p1), .val (.int p2), .val (.int kk), .val (.int (25 : Int32)), .val (.ref w_BROWSE), .unset, .unset, .unset] [])) rfl (hb hby at_135)
                  refine own_go (T' := T52) (g' := (mkF m 138 #[.val (.int p1), .val (.int p2), .val (.int kk), .val (.int (25 : Int32)), .val (.ref w_BROWSE), .unset, .unset, .unset] [(.ref w_BROWSE)])) (fun t q => st52 t q) ?_
                  refine own_go (T' := T52) (g' := (mkF m 140 #[.val (.int p1), .val (.int p2), .val (.int kk), .val (.int (25 : Int32)), .val (.ref w_BROWSE), .val (.ref w_BROWSE), .unset, .unset] [])) (fun t q => XS.astore X52.here hx rfl (hb hby at_138) rfl rfl (l' := #[.val (.int p1), .val (.int p2), .val (.int kk), .val (.int (25 : Int32)), .val (.ref w_BROWSE), .val (.ref w_BROWSE), .unset, .unset]) rfl q) ?_
                  refine own_go (T' := T52) (g' := (mkF m 141 #[.val (.int p1), .val (.int p2), .val (.int kk), .val (.int (25 : Int32)), .val (.ref w_BROWSE), .val (.ref w_BROWSE), .unset, .unset] [(.long (1 : Int64))])) (fun t q => XT.lconst X52.here hx rfl (hb hby at_140) q) ?_
                  refine own_go (T' := T52) (g' := (mkF m 143 #[.val (.int p1), .val (.int p2), .val (.int kk), .val (.int (25 : Int32)), .val (.ref w_BROWSE), .val (.ref w_BROWSE), .val (.long (1 : Int64)), .second] [])) (fun t q => XT.lstore X52.here hx rfl (hb hby at_141) rfl (l' := #[.val (.int p1), .val (.int p2), .val (.int kk), .val (.int (25 : Int32)), .val (.ref w_BROWSE), .val (.ref w_BROWSE), .val (.long (1 : Int64)), .second]) rfl q) ?_
                  refine own_go (T' := T52) (g' := (mkF m 145 #[.val (.int p1), .val (.int p2), .val (.int kk), .val (.int (25 : Int32)), .val (.ref w_BROWSE), .val (.ref w_BROWSE), .val (.long (1 : Int64)), .second] [(.ref w_BROWSE)])) (fun t q => XS.aload X52.here hx rfl (hb hby at_143) rfl rfl q) ?_
                  refine own_go (T' := T52) (g' := (mkF m 147 #[.val (.int p1), .val (.int p2), .val (.int kk), .val (.int (25 : Int32)), .val (.ref w_BROWSE), .val (.ref w_BROWSE), .val (.long (1 : Int64)), .second] [(.ref w_BROWSE), (.ref w_BROWSE)])) (fun t q => XS.aload X52.here hx rfl (hb hby at_145) rfl rfl q) ?_
                  have c53 : (Value.ref w_BROWSE) = (Value.ref w_BROWSE) := rfl
                  refine own_go (T' := T52) (g' := (mkF m 150 #[.val (.int p1), .val (.int p2), .val (.int kk), .val (.int (25 : Int32)), .val (.ref w_BROWSE), .val (.ref w_BROWSE), .val (.long (1 : Int64)), .second] [])) (fun t q => XT.acmpNo X52.here hx rfl (hb hby at_147) rfl rfl rfl (own_at c53).2 q) ?_
                  refine own_go (T' := T52) (g' := (mkF m 152 #[.val (.int p1), .val (.int p2), .val (.int kk), .val (.int (25 : Int32)), .val (.ref w_BROWSE), .val (.ref w_BROWSE), .val (.long (1 : Int64)), .second] [(.ref w_BROWSE)])) (fun t q => XS.aload X52.here hx rfl (hb hby at_150) rfl rfl q) ?_
                  obtain ⟨v54, T54, L54, X54, Q54, st54⟩ := own_callV X52 hx hZ (y := (⟨"com/example/dvarapala/dvarapala/engine/PermissionType", "mask", "()J"⟩ : MethodName)) (b := w_BROWSE) (argsL := []) (rest := []) hown (hw _ (List.mem_of_getElem? (i := 8) rfl)) (hw _ (List.mem_of_getElem? (i := 9) rfl)) (hw _ (List.mem_of_getElem? (i := 11) rfl)) (hw _ (List.mem_of_getElem? (i := 10) rfl)) (hw _ (List.mem_of_getElem? (i := 2) rfl)) (hw _ (List.mem_of_getElem? (i := 12) rfl)) (rm_mask_BROWSE l Z a0 hw [] w_READ w_BROWSE w_READ_ROLE_PERMISSIONS h0 FX) e52 E_BROWSE (by decide) (by decide) 0 (by decide) (by decide) (by decide) (g := (mkF m 152 #[.val (.int p1), .val (.int p2), .val (.int kk), .val (.int (25 : Int32)), .val (.ref w_BROWSE), .val (.ref w_BROWSE), .val (.long (1 : Int64)), .second] [(.ref w_BROWSE)])) rfl (by rw [hml]; rfl) (lenOf (ps := []) (r := (some .long)) (by decide +kernel) rfl) rfl (by show 2 * 0 + _ ≤ _; exact Nat.le_of_eq rfl) (hb hby at_152)
                  obtain ⟨rfl, e54, rfl⟩ := Q54
                  refine own_go (T' := T54) (g' := (mkF m 155 #[.val (.int p1), .val (.int p2), .val (.int kk), .val (.int (25 : Int32)), .val (.ref w_BROWSE), .val (.ref w_BROWSE), .val (.long (1 : Int64)), .second] [(.long (1 : Int64))])) (fun t q => st54 t q) ?_
                  refine own_go (T' := T54) (g' := (mkF m 157 #[.val (.int p1), .val (.int p2), .val (.int kk), .val (.int (25 : Int32)), .val (.ref w_BROWSE), .val (.ref w_BROWSE), .val (.long (1 : Int64)), .second] [(.long (1 : Int64)), (.long (1 : Int64))])) (fun t q => XT.lload X54.here hx rfl (hb hby at_155) rfl q) ?_
                  refine own_go (T' := T54) (g' := (mkF m 158 #[.val (.int p1), .val (.int p2), .val (.int kk), .val (.int (25 : Int32)), .val (.ref w_BROWSE), .val (.ref w_BROWSE), .val (.long (1 : Int64)), .second] [(.int (XT.cmpL (1 : Int64) (1 : Int64)))])) (fun t q => XT.lcmp X54.here hx rfl (hb hby at_157) rfl q) ?_
                  have c55 : (1 : Int64) = (1 : Int64) := by decide
                  refine own_go (T' := T54) (g' := (mkF m 161 #[.val (.int p1), .val (.int p2), .val (.int kk), .val (.int (25 : Int32)), .val (.ref w_BROWSE), .val (.ref w_BROWSE), .val (.long (1 : Int64)), .second] [])) (fun t q => XS.ifNo X54.here hx rfl (hb hby at_158) rfl ((if0 _ _).trans (teq ((own_leq (1 : Int64) (1 : Int64)).mpr c55)).2) q) ?_
                  refine own_go (T' := T54) (g' := (mkF m 162 #[.val (.int p1), .val (.int p2), .val (.int kk), .val (.int (25 : Int32)), .val (.ref w_BROWSE), .val (.ref w_BROWSE), .val (.long (1 : Int64)), .second] [(.int (1 : Int32))])) (fun t q => XS.iconst X54.here hx rfl (hb hby at_161) q) ?_
                  refine own_go (T' := T54) (g' := (mkF m 166 #[.val (.int p1), .val (.int p2), .val (.int kk), .val (.int (25 : Int32)), .val (.ref w_BROWSE), .val (.ref w_BROWSE), .val (.long (1 : Int64)), .second] [(.int (1 : Int32))])) (fun t q => XS.goto X54.here hx rfl (pc0 := 162) (pc' := 166) rfl (hb hby at_162) (by decide) (by decide) q) ?_
                  refine own_outN X54 hx hlk hret (t := .boolean) (by simp) (hb hby at_166) (w := (1 : Int32)) (by decide) ?_ (by decide) (by decide)
                  exact ⟨rfl, Fr.nil _⟩
              · refine own_go (T' := s₁) (g' := (mkF m 82 #[.val (.int p1), .val (.int p2), .val (.int kk), .unset, .unset, .unset, .unset, .unset] [])) (fun t q => XS.icmpYes X0.here hx rfl (pc0 := 73) (pc' := 82) rfl (hb hby at_73) rfl (feq c48).2 (by decide) (by decide) q) ?_
                refine own_go (T' := s₁) (g' := (mkF m 83 #[.val (.int p1), .val (.int p2), .val (.int kk), .unset, .unset, .unset, .unset, .unset] [(.int p2)])) (fun t q => XS.iloadN X0.here hx rfl (hb hby at_82) rfl q) ?_
                refine own_go (T' := s₁) (g' := (mkF m 84 #[.val (.int p1), .val (.int p2), .val (.int kk), .val (.int p2), .unset, .unset, .unset, .unset] [])) (fun t q => XS.istoreN X0.here hx rfl (hb hby at_83) rfl (l' := #[.val (.int p1), .val (.int p2), .val (.int kk), .val (.int p2), .unset, .unset, .unset, .unset]) rfl q) ?_
                refine own_go (T' := s₁) (g' := (mkF m 85 #[.val (.int p1), .val (.int p2), .val (.int kk), .val (.int p2), .unset, .unset, .unset, .unset] [(.int p2)])) (fun t q => XS.iloadN X0.here hx rfl (hb hby at_84) rfl q) ?_
                obtain ⟨v56, T56, L56, X56, Q56, st56⟩ := own_callS X0 hx hZ (y := (⟨"com/example/dvarapala/dvarapala/engine/PermissionType", "neededToRead", "(I)Lcom/example/dvarapala/dvarapala/engine/PermissionType;"⟩ : MethodName)) (argsL := [(.int p2)]) (rest := []) hown (hw _ (List.mem_of_getElem? (i := 0) rfl)) (hw _ (List.mem_of_getElem? (i := 1) rfl)) (hw _ (List.mem_of_getElem? (i := 2) rfl)) (hw _ (List.mem_of_getElem? (i := 3) rfl)) (rm_n l Z a0 hw [] p2 w_READ w_BROWSE w_READ_ROLE_PERMISSIONS h0 FX) e0 (by decide) (by decide) 0 (by decide) (by decide) (by decide) (g := (mkF m 85 #[.val (.int p1), .val (.int p2), .val (.int kk), .val (.int p2), .unset, .unset, .unset, .unset] [(.int p2)])) rfl (by rw [hml]; rfl) (lenOf (ps := [.int]) (r := (some (.object "com/example/dvarapala/dvarapala/engine/PermissionType"))) (by decide +kernel) rfl) rfl (by show 2 * 0 + _ ≤ _; exact Nat.le_of_eq rfl) (hb hby at_85)
                obtain ⟨Q56, e56, rfl⟩ := Q56
                rcases Q56 with ⟨hk, rfl⟩ | ⟨hk, rfl⟩ | ⟨hk, rfl⟩
                · refine own_go (T' := T56) (g' := (mkF m 88 #[.val (.int p1), .val (.int p2), .val (.int kk), .val (.int p2), .unset, .unset, .unset, .unset] [(.ref w_READ)])) (fun t q => st56 t q) ?_
                  refine own_go (T' := T56) (g' := (mkF m 90 #[.val (.int p1), .val (.int p2), .val (.int kk), .val (.int p2), .val (.ref w_READ), .unset, .unset, .unset] [])) (fun t q => XS.astore X56.here hx rfl (hb hby at_88) rfl rfl (l' := #[.val (.int p1), .val (.int p2), .val (.int kk), .val (.int p2), .val (.ref w_READ), .unset, .unset, .unset]) rfl q) ?_
                  refine own_go (T' := T56) (g' := (mkF m 92 #[.val (.int p1), .val (.int p2), .val (.int kk), .val (.int p2), .val (.ref w_READ), .unset, .unset, .unset] [(.ref w_READ)])) (fun t q => XS.aload X56.here hx rfl (hb hby at_90) rfl rfl q) ?_
                  refine own_go (T' := T56) (g' := (mkF m 97 #[.val (.int p1), .val (.int p2), .val (.int kk), .val (.int p2), .val (.ref w_READ), .unset, .unset, .unset] [])) (fun t q => XT.ifnonnullYes X56.here hx rfl (pc0 := 92) (pc' := 97) rfl (hb hby at_92) rfl (by decide) (by decide) q) ?_
                  refine own_go (T' := T56) (g' := (mkF m 98 #[.val (.int p1), .val (.int p2), .val (.int kk), .val (.int p2), .val (.ref w_READ), .unset, .unset, .unset] [(.int p2)])) (fun t q => XS.iloadN X56.here hx rfl (hb hby at_97) rfl q) ?_
                  refine own_go (T' := T56) (g' := (mkF m 100 #[.val (.int p1), .val (.int p2), .val (.int kk), .val (.int p2), .val (.ref w_READ), .unset, .unset, .unset] [(.int (13 : Int32)), (.int p2)])) (fun t q => XS.bipush X56.here hx rfl (hb hby at_98) q) ?_
                  have c57 : p2 = (13 : Int32) := hk
                  refine own_go (T' := T56) (g' := (mkF m 103 #[.val (.int p1), .val (.int p2), .val (.int kk), .val (.int p2), .val (.ref w_READ), .unset, .unset, .unset] [])) (fun t q => XS.icmpNo X56.here hx rfl (hb hby at_100) rfl (teq c57).2 q) ?_
                  obtain ⟨T58, X58, e58, st58⟩ := getS2 X56 hx hZ hown (host := "") (Or.inl (hw _ (List.mem_of_getElem? (i := 6) rfl))) Via.refl e56 S_READ (g := (mkF m 103 #[.val (.int p1), .val (.int p2), .val (.int kk), .val (.int p2), .val (.ref w_READ), .unset, .unset, .unset] [])) rfl (hb hby at_103)
                  refine own_go (T' := T58) (g' := (mkF m 106 #[.val (.int p1), .val (.int p2), .val (.int kk), .val (.int p2), .val (.ref w_READ), .unset, .unset, .unset] [(.ref w_READ)])) (fun t q => st58 t q) ?_
                  refine own_go (T' := T58) (g' := (mkF m 108 #[.val (.int p1), .val (.int p2), .val (.int kk), .val (.int p2), .val (.ref w_READ), .val (.ref w_READ), .unset, .unset] [])) (fun t q => XS.astore X58.here hx rfl (hb hby at_106) rfl rfl (l' := #[.val (.int p1), .val (.int p2), .val (.int kk), .val (.int p2), .val (.ref w_READ), .val (.ref w_READ), .unset, .unset]) rfl q) ?_
                  refine own_go (T' := T58) (g' := (mkF m 111 #[.val (.int p1), .val (.int p2), .val (.int kk), .val (.int p2), .val (.ref w_READ), .val (.ref w_READ), .unset, .unset] [(.long (32 : Int64))])) (fun t q => X58.ldc2Long hx hown (mvT hZ (hw _ (List.mem_of_getElem? (i := 7) rfl))) (g := (mkF m 108 #[.val (.int p1), .val (.int p2), .val (.int kk), .val (.int p2), .val (.ref w_READ), .val (.ref w_READ), .unset, .unset] [])) rfl (hb hby at_108) t q) ?_
                  refine own_go (T' := T58) (g' := (mkF m 113 #[.val (.int p1), .val (.int p2), .val (.int kk), .val (.int p2), .val (.ref w_READ), .val (.ref w_READ), .val (.long (32 : Int64)), .second] [])) (fun t q => XT.lstore X58.here hx rfl (hb hby at_111) rfl (l' := #[.val (.int p1), .val (.int p2), .val (.int kk), .val (.int p2), .val (.ref w_READ), .val (.ref w_READ), .val (.long (32 : Int64)), .second]) rfl q) ?_
                  refine own_go (T' := T58) (g' := (mkF m 143 #[.val (.int p1), .val (.int p2), .val (.int kk), .val (.int p2), .val (.ref w_READ), .val (.ref w_READ), .val (.long (32 : Int64)), .second] [])) (fun t q => XS.goto X58.here hx rfl (pc0 := 113) (pc' := 143) rfl (hb hby at_113) (by decide) (by decide) q) ?_
                  refine own_go (T' := T58) (g' := (mkF m 145 #[.val (.int p1), .val (.int p2), .val (.int kk), .val (.int p2), .val (.ref w_READ), .val (.ref w_READ), .val (.long (32 : Int64)), .second] [(.ref w_READ)])) (fun t q => XS.aload X58.here hx rfl (hb hby at_143) rfl rfl q) ?_
                  refine own_go (T' := T58) (g' := (mkF m 147 #[.val (.int p1), .val (.int p2), .val (.int kk), .val (.int p2), .val (.ref w_READ), .val (.ref w_READ), .val (.long (32 : Int64)), .second] [(.ref w_READ), (.ref w_READ)])) (fun t q => XS.aload X58.here hx rfl (hb hby at_145) rfl rfl q) ?_
                  have c59 : (Value.ref w_READ) = (Value.ref w_READ) := rfl
                  refine own_go (T' := T58) (g' := (mkF m 150 #[.val (.int p1), .val (.int p2), .val (.int kk), .val (.int p2), .val (.ref w_READ), .val (.ref w_READ), .val (.long (32 : Int64)), .second] [])) (fun t q => XT.acmpNo X58.here hx rfl (hb hby at_147) rfl rfl rfl (own_at c59).2 q) ?_
                  refine own_go (T' := T58) (g' := (mkF m 152 #[.val (.int p1), .val (.int p2), .val (.int kk), .val (.int p2), .val (.ref w_READ), .val (.ref w_READ), .val (.long (32 : Int64)), .second] [(.ref w_READ)])) (fun t q => XS.aload X58.here hx rfl (hb hby at_150) rfl rfl q) ?_
                  obtain ⟨v60, T60, L60, X60, Q60, st60⟩ := own_callV X58 hx hZ (y := (⟨"com/example/dvarapala/dvarapala/engine/PermissionType", "mask", "()J"⟩ : MethodName)) (b := w_READ) (argsL := []) (rest := []) hown (hw _ (List.mem_of_getElem? (i := 8) rfl)) (hw _ (List.mem_of_getElem? (i := 9) rfl)) (hw _ (List.mem_of_getElem? (i := 11) rfl)) (hw _ (List.mem_of_getElem? (i := 10) rfl)) (hw _ (List.mem_of_getElem? (i := 2) rfl)) (hw _ (List.mem_of_getElem? (i := 12) rfl)) (rm_mask_READ l Z a0 hw [] w_READ w_BROWSE w_READ_ROLE_PERMISSIONS h0 FX) e58 E_READ (by decide) (by decide) 0 (by decide) (by decide) (by decide) (g := (mkF m 152 #[.val (.int p1), .val (.int p2), .val (.int kk), .val (.int p2), .val (.ref w_READ), .val (.ref w_READ), .val (.long (32 : Int64)), .second] [(.ref w_READ)])) rfl (by rw [hml]; rfl) (lenOf (ps := []) (r := (some .long)) (by decide +kernel) rfl) rfl (by show 2 * 0 + _ ≤ _; exact Nat.le_of_eq rfl) (hb hby at_152)
                  obtain ⟨rfl, e60, rfl⟩ := Q60
                  refine own_go (T' := T60) (g' := (mkF m 155 #[.val (.int p1), .val (.int p2), .val (.int kk), .val (.int p2), .val (.ref w_READ), .val (.ref w_READ), .val (.long (32 : Int64)), .second] [(.long (32 : Int64))])) (fun t q => st60 t q) ?_
                  refine own_go (T' := T60) (g' := (mkF m 157 #[.val (.int p1), .val (.int p2), .val (.int kk), .val (.int p2), .val (.ref w_READ), .val (.ref w_READ), .val (.long (32 : Int64)), .second] [(.long (32 : Int64)), (.long (32 : Int64))])) (fun t q => XT.lload X60.here hx rfl (hb hby at_155) rfl q) ?_
                  refine own_go (T' := T60) (g' := (mkF m 158 #[.val (.int p1), .val (.int p2), .val (.int kk), .val (.int p2), .val (.ref w_READ), .val (.ref w_READ), .val (.long (32 : Int64)), .second] [(.int (XT.cmpL (32 : Int64) (32 : Int64)))])) (fun t q => XT.lcmp X60.here hx rfl (hb hby at_157) rfl q) ?_
                  have c61 : (32 : Int64) = (32 : Int64) := by decide
                  refine own_go (T' := T60) (g' := (mkF m 161 #[.val (.int p1), .val (.int p2), .val (.int kk), .val (.int p2), .val (.ref w_READ), .val (.ref w_READ), .val (.long (32 : Int64)), .second] [])) (fun t q => XS.ifNo X60.here hx rfl (hb hby at_158) rfl ((if0 _ _).trans (teq ((own_leq (32 : Int64) (32 : Int64)).mpr c61)).2) q) ?_
                  refine own_go (T' := T60) (g' := (mkF m 162 #[.val (.int p1), .val (.int p2), .val (.int kk), .val (.int p2), .val (.ref w_READ), .val (.ref w_READ), .val (.long (32 : Int64)), .second] [(.int (1 : Int32))])) (fun t q => XS.iconst X60.here hx rfl (hb hby at_161) q) ?_
                  refine own_go (T' := T60) (g' := (mkF m 166 #[.val (.int p1), .val (.int p2), .val (.int kk), .val (.int p2), .val (.ref w_READ), .val (.ref w_READ), .val (.long (32 : Int64)), .second] [(.int (1 : Int32))])) (fun t q => XS.goto X60.here hx rfl (pc0 := 162) (pc' := 166) rfl (hb hby at_162) (by decide) (by decide) q) ?_
                  refine own_outN X60 hx hlk hret (t := .boolean) (by simp) (hb hby at_166) (w := (1 : Int32)) (by decide) ?_ (by decide) (by decide)
                  exact ⟨rfl, Fr.nil _⟩
                · refine own_go (T' := T56) (g' := (mkF m 88 #[.val (.int p1), .val (.int p2), .val (.int kk), .val (.int p2), .unset, .unset, .unset, .unset] [(.ref w_READ_ROLE_PERMISSIONS)])) (fun t q => st56 t q) ?_
                  refine own_go (T' := T56) (g' := (mkF m 90 #[.val (.int p1), .val (.int p2), .val (.int kk), .val (.int p2), .val (.ref w_READ_ROLE_PERMISSIONS), .unset, .unset, .unset] [])) (fun t q => XS.astore X56.here hx rfl (hb hby at_88) rfl rfl (l' := #[.val (.int p1), .val (.int p2), .val (.int kk), .val (.int p2), .val (.ref w_READ_ROLE_PERMISSIONS), .unset, .unset, .unset]) rfl q) ?_
                  refine own_go (T' := T56) (g' := (mkF m 92 #[.val (.int p1), .val (.int p2), .val (.int kk), .val (.int p2), .val (.ref w_READ_ROLE_PERMISSIONS), .unset, .unset, .unset] [(.ref w_READ_ROLE_PERMISSIONS)])) (fun t q => XS.aload X56.here hx rfl (hb hby at_90) rfl rfl q) ?_
                  refine own_go (T' := T56) (g' := (mkF m 97 #[.val (.int p1), .val (.int p2), .val (.int kk), .val (.int p2), .val (.ref w_READ_ROLE_PERMISSIONS), .unset, .unset, .unset] [])) (fun t q => XT.ifnonnullYes X56.here hx rfl (pc0 := 92) (pc' := 97) rfl (hb hby at_92) rfl (by decide) (by decide) q) ?_
                  refine own_go (T' := T56) (g' := (mkF m 98 #[.val (.int p1), .val (.int p2), .val (.int kk), .val (.int p2), .val (.ref w_READ_ROLE_PERMISSIONS), .unset, .unset, .unset] [(.int p2)])) (fun t q => XS.iloadN X56.here hx rfl (hb hby at_97) rfl q) ?_
                  refine own_go (T' := T56) (g' := (mkF m 100 #[.val (.int p1), .val (.int p2), .val (.int kk), .val (.int p2), .val (.ref w_READ_ROLE_PERMISSIONS), .unset, .unset, .unset] [(.int (13 : Int32)), (.int p2)])) (fun t q => XS.bipush X56.here hx rfl (hb hby at_98) q) ?_
                  have c62 : ¬ (p2 = (13 : Int32)) := by rw [hk]; decide
                  refine own_go (T' := T56) (g' := (mkF m 116 #[.val (.int p1), .val (.int p2), .val (.int kk), .val (.int p2), .val (.ref w_READ_ROLE_PERMISSIONS), .unset, .unset, .unset] [])) (fun t q => XS.icmpYes X56.here hx rfl (pc0 := 100) (pc' := 116) rfl (hb hby at_100) rfl (feq c62).2 (by decide) (by decide) q) ?_
                  refine own_go (T' := T56) (g' := (mkF m 117 #[.val (.int p1), .val (.int p2), .val (.int kk), .val (.int p2), .val (.ref w_READ_ROLE_PERMISSIONS), .unset, .unset, .unset] [(.int p2)])) (fun t q => XS.iloadN X56.here hx rfl (hb hby at_116) rfl q) ?_
                  refine own_go (T' := T56) (g' := (mkF m 119 #[.val (.int p1), .val (.int p2), .val (.int kk), .val (.int p2), .val (.ref w_READ_ROLE_PERMISSIONS), .unset, .unset, .unset] [(.int (24 : Int32)), (.int p2)])) (fun t q => XS.bipush X56.here hx rfl (hb hby at_117) q) ?_
                  have c63 : p2 = (24 : Int32) := hk
                  refine own_go (T' := T56) (g' := (mkF m 122 #[.val (.int p1), .val (.int p2), .val (.int kk), .val (.int p2), .val (.ref w_READ_ROLE_PERMISSIONS), .unset, .unset, .unset] [])) (fun t q => XS.icmpNo X56.here hx rfl (hb hby at_119) rfl (teq c63).2 q) ?_
                  obtain ⟨T64, X64, e64, st64⟩ := getS2 X56 hx hZ hown (host := "") (Or.inl (hw _ (List.mem_of_getElem? (i := 20) rfl))) Via.refl e56 S_READ_ROLE_PERMISSIONS (g := (mkF m 122 #[.val (.int p1), .val (.int p2), .val (.int kk), .val (.int p2), .val (.ref w_READ_ROLE_PERMISSIONS), .unset, .unset, .unset] [])) rfl (hb hby at_122)
                  refine own_go (T' := T64) (g' := (mkF m 125 #[.val (.int p1), .val (.int p2), .val (.int kk), .val (.int p2), .val (.ref w_READ_ROLE_PERMISSIONS), .unset, .unset, .unset] [(.ref w_READ_ROLE_PERMISSIONS)])) (fun t q => st64 t q) ?_
                  refine own_go (T' := T64) (g' := (mkF m 127 #[.val (.int p1), .val (.int p2), .val (.int kk), .val (.int p2), .val (.ref w_READ_ROLE_PERMISSIONS), .val (.ref w_READ_ROLE_PERMISSIONS), .unset, .unset] [])) (fun t q => XS.astore X64.here hx rfl (hb hby at_125) rfl rfl (l' := #[.val (.int p1), .val (.int p2), .val (.int kk), .val (.int p2), .val (.ref w_READ_ROLE_PERMISSIONS), .val (.ref w_READ_ROLE_PERMISSIONS), .unset, .unset]) rfl q) ?_
                  refine own_go (T' := T64) (g' := (mkF m 130 #[.val (.int p1), .val (.int p2), .val (.int kk), .val (.int p2), .val (.ref w_READ_ROLE_PERMISSIONS), .val (.ref w_READ_ROLE_PERMISSIONS), .unset, .unset] [(.long (2 : Int64))])) (fun t q => X64.ldc2Long hx hown (mvT hZ (hw _ (List.mem_of_getElem? (i := 21) rfl))) (g := (mkF m 127 #[.val (.int p1), .val (.int p2), .val (.int kk), .val (.int p2), .val (.ref w_READ_ROLE_PERMISSIONS), .val (.ref w_READ_ROLE_PERMISSIONS), .unset, .unset] [])) rfl (hb hby at_127) t q) ?_
                  refine own_go (T' := T64) (g' := (mkF m 132 #[.val (.int p1), .val (.int p2), .val (.int kk), .val (.int p2), .val (.ref w_READ_ROLE_PERMISSIONS), .val (.ref w_READ_ROLE_PERMISSIONS), .val (.long (2 : Int64)), .second] [])) (fun t q => XT.lstore X64.here hx rfl (hb hby at_130) rfl (l' := #[.val (.int p1), .val (.int p2), .val (.int kk), .val (.int p2), .val (.ref w_READ_ROLE_PERMISSIONS), .val (.ref w_READ_ROLE_PERMISSIONS), .val (.long (2 : Int64)), .second]) rfl q) ?_
                  refine own_go (T' := T64) (g' := (mkF m 143 #[.val (.int p1), .val (.int p2), .val (.int kk), .val (.int p2), .val (.ref w_READ_ROLE_PERMISSIONS), .val (.ref w_READ_ROLE_PERMISSIONS), .val (.long (2 : Int64)), .second] [])) (fun t q => XS.goto X64.here hx rfl (pc0 := 132) (pc' := 143) rfl (hb hby at_132) (by decide) (by decide) q) ?_
                  refine own_go (T' := T64) (g' := (mkF m 145 #[.val (.int p1), .val (.int p2), .val (.int kk), .val (.int p2), .val (.ref w_READ_ROLE_PERMISSIONS), .val (.ref w_READ_ROLE_PERMISSIONS), .val (.long (2 : Int64)), .second] [(.ref w_READ_ROLE_PERMISSIONS)])) (fun t q => XS.aload X64.here hx rfl (hb hby at_143) rfl rfl q) ?_
                  refine own_go (T' := T64) (g' := (mkF m 147 #[.val (.int p1), .val (.int p2), .val (.int kk), .val (.int p2), .val (.ref w_READ_ROLE_PERMISSIONS), .val (.ref w_READ_ROLE_PERMISSIONS), .val (.long (2 : Int64)), .second] [(.ref w_READ_ROLE_PERMISSIONS), (.ref w_READ_ROLE_PERMISSIONS)])) (fun t q => XS.aload X64.here hx rfl (hb hby at_145) rfl rfl q) ?_
                  have c65 : (Value.ref w_READ_ROLE_PERMISSIONS) = (Value.ref w_READ_ROLE_PERMISSIONS) := rfl
                  refine own_go (T' := T64) (g' := (mkF m 150 #[.val (.int p1), .val (.int p2), .val (.int kk), .val (.int p2), .val (.ref w_READ_ROLE_PERMISSIONS), .val (.ref w_READ_ROLE_PERMISSIONS), .val (.long (2 : Int64)), .second] [])) (fun t q => XT.acmpNo X64.here hx rfl (hb hby at_147) rfl rfl rfl (own_at c65).2 q) ?_
                  refine own_go (T' := T64) (g' := (mkF m 152 #[.val (.int p1), .val (.int p2), .val (.int kk), .val (.int p2), .val (.ref w_READ_ROLE_PERMISSIONS), .val (.ref w_READ_ROLE_PERMISSIONS), .val (.long (2 : Int64)), .second] [(.ref w_READ_ROLE_PERMISSIONS)])) (fun t q => XS.aload X64.here hx rfl (hb hby at_150) rfl rfl q) ?_
                  obtain ⟨v66, T66, L66, X66, Q66, st66⟩ := own_callV X64 hx hZ (y := (⟨"com/example/dvarapala/dvarapala/engine/PermissionType", "mask", "()J"⟩ : MethodName)) (b := w_READ_ROLE_PERMISSIONS) (argsL := []) (rest := []) hown (hw _ (List.mem_of_getElem? (i := 8) rfl)) (hw _ (List.mem_of_getElem? (i := 9) rfl)) (hw _ (List.mem_of_getElem? (i := 11) rfl)) (hw _ (List.mem_of_getElem? (i := 10) rfl)) (hw _ (List.mem_of_getElem? (i := 2) rfl)) (hw _ (List.mem_of_getElem? (i := 12) rfl)) (rm_mask_READ_ROLE_PERMISSIONS l Z a0 hw [] w_READ w_BROWSE w_READ_ROLE_PERMISSIONS h0 FX) e64 E_READ_ROLE_PERMISSIONS (by decide) (by decide) 0 (by decide) (by decide) (by decide) (g := (mkF m 152 #[.val (.int p1), .val (.int p2), .val (.int kk), .val (.int p2), .val (.ref w_READ_ROLE_PERMISSIONS), .val (.ref w_READ_ROLE_PERMISSIONS), .val (.long (2 : Int64)), .second] [(.ref w_READ_ROLE_PERMISSIONS)])) rfl (by rw [hml]; rfl) (lenOf (ps := []) (r := (some .long)) (by decide +kernel) rfl) rfl (by show 2 * 0 + _ ≤ _; exact Nat.le_of_eq rfl) (hb hby at_152)
                  obtain ⟨rfl, e66, rfl⟩ := Q66
                  refine own_go (T' := T66) (g' := (mkF m 155 #[.val (.int p1), .val (.int p2), .val (.int kk), .val (.int p2), .val (.ref w_READ_ROLE_PERMISSIONS), .val (.ref w_READ_ROLE_PERMISSIONS), .val (.long (2 : Int64)), .second] [(.long (2 : Int64))])) (fun t q => st66 t q) ?_
                  refine own_go (T' := T66) (g' := (mkF m 157 #[.val (.int p1), .val (.int p2), .val (.int kk), .val (.int p2), .val (.ref w_READ_ROLE_PERMISSIONS), .val (.ref w_READ_ROLE_PERMISSIONS), .val (.long (2 : Int64)), .second] [(.long (2 : Int64)), (.long (2 : Int64))])) (fun t q => XT.lload X66.here hx rfl (hb hby at_155) rfl q) ?_
                  refine own_go (T' := T66) (g' := (mkF m 158 #[.val (.int p1), .val (.int p2), .val (.int kk), .val (.int p2), .val (.ref w_READ_ROLE_PERMISSIONS), .val (.ref w_READ_ROLE_PERMISSIONS), .val (.long (2 : Int64)), .second] [(.int (XT.cmpL (2 : Int64) (2 : Int64)))])) (fun t q => XT.lcmp X66.here hx rfl (hb hby at_157) rfl q) ?_
                  have c67 : (2 : Int64) = (2 : Int64) := by decide
                  refine own_go (T' := T66) (g' := (mkF m 161 #[.val (.int p1), .val (.int p2), .val (.int kk), .val (.int p2), .val (.ref w_READ_ROLE_PERMISSIONS), .val (.ref w_READ_ROLE_PERMISSIONS), .val (.long (2 : Int64)), .second] [])) (fun t q => XS.ifNo X66.here hx rfl (hb hby at_158) rfl ((if0 _ _).trans (teq ((own_leq (2 : Int64) (2 : Int64)).mpr c67)).2) q) ?_
                  refine own_go (T' := T66) (g' := (mkF m 162 #[.val (.int p1), .val (.int p2), .val (.int kk), .val (.int p2), .val (.ref w_READ_ROLE_PERMISSIONS), .val (.ref w_READ_ROLE_PERMISSIONS), .val (.long (2 : Int64)), .second] [(.int (1 : Int32))])) (fun t q => XS.iconst X66.here hx rfl (hb hby at_161) q) ?_
                  refine own_go (T' := T66) (g' := (mkF m 166 #[.val (.int p1), .val (.int p2), .val (.int kk), .val (.int p2), .val (.ref w_READ_ROLE_PERMISSIONS), .val (.ref w_READ_ROLE_PERMISSIONS), .val (.long (2 : Int64)), .second] [(.int (1 : Int32))])) (fun t q => XS.goto X66.here hx rfl (pc0 := 162) (pc' := 166) rfl (hb hby at_162) (by decide) (by decide) q) ?_
                  refine own_outN X66 hx hlk hret (t := .boolean) (by simp) (hb hby at_166) (w := (1 : Int32)) (by decide) ?_ (by decide) (by decide)
                  exact ⟨rfl, Fr.nil _⟩
                · refine own_go (T' := T56) (g' := (mkF m 88 #[.val (.int p1), .val (.int p2), .val (.int kk), .val (.int p2), .unset, .unset, .unset, .unset] [(.ref w_BROWSE)])) (fun t q => st56 t q) ?_
                  refine own_go (T' := T56) (g' := (mkF m 90 #[.val (.int p1), .val (.int p2), .val (.int kk), .val (.int p2), .val (.ref w_BROWSE), .unset, .unset, .unset] [])) (fun t q => XS.astore X56.here hx rfl (hb hby at_88) rfl rfl (l' := #[.val (.int p1), .val (.int p2), .val (.int kk), .val (.int p2), .val (.ref w_BROWSE), .unset, .unset, .unset]) rfl q) ?_
                  refine own_go (T' := T56) (g' := (mkF m 92 #[.val (.int p1), .val (.int p2), .val (.int kk), .val (.int p2), .val (.ref w_BROWSE), .unset, .unset, .unset] [(.ref w_BROWSE)])) (fun t q => XS.aload X56.here hx rfl (hb hby at_90) rfl rfl q) ?_
                  refine own_go (T' := T56) (g' := (mkF m 97 #[.val (.int p1), .val (.int p2), .val (.int kk), .val (.int p2), .val (.ref w_BROWSE), .unset, .unset, .unset] [])) (fun t q => XT.ifnonnullYes X56.here hx rfl (pc0 := 92) (pc' := 97) rfl (hb hby at_92) rfl (by decide) (by decide) q) ?_
                  refine own_go (T' := T56) (g' := (mkF m 98 #[.val (.int p1), .val (.int p2), .val (.int kk), .val (.int p2), .val (.ref w_BROWSE), .unset, .unset, .unset] [(.int p2)])) (fun t q => XS.iloadN X56.here hx rfl (hb hby at_97) rfl q) ?_
                  refine own_go (T' := T56) (g' := (mkF m 100 #[.val (.int p1), .val (.int p2), .val (.int kk), .val (.int p2), .val (.ref w_BROWSE), .unset, .unset, .unset] [(.int (13 : Int32)), (.int p2)])) (fun t q => XS.bipush X56.here hx rfl (hb hby at_98) q) ?_
                  have c68 : ¬ (p2 = (13 : Int32)) := hk.1
                  refine own_go (T' := T56) (g' := (mkF m 116 #[.val (.int p1), .val (.int p2), .val (.int kk), .val (.int p2), .val (.ref w_BROWSE), .unset, .unset, .unset] [])) (fun t q => XS.icmpYes X56.here hx rfl (pc0 := 100) (pc' := 116) rfl (hb hby at_100) rfl (feq c68).2 (by decide) (by decide) q) ?_
                  refine own_go (T' := T56) (g' := (mkF m 117 #[.val (.int p1), .val (.int p2), .val (.int kk), .val (.int p2), .val (.ref w_BROWSE), .unset, .unset, .unset] [(.int p2)])) (fun t q => XS.iloadN X56.here hx rfl (hb hby at_116) rfl q) ?_
                  refine own_go (T' := T56) (g' := (mkF m 119 #[.val (.int p1), .val (.int p2), .val (.int kk), .val (.int p2), .val (.ref w_BROWSE), .unset, .unset, .unset] [(.int (24 : Int32)), (.int p2)])) (fun t q => XS.bipush X56.here hx rfl (hb hby at_117) q) ?_
                  have c69 : ¬ (p2 = (24 : Int32)) := hk.2
                  refine own_go (T' := T56) (g' := (mkF m 135 #[.val (.int p1), .val (.int p2), .val (.int kk), .val (.int p2), .val (.ref w_BROWSE), .unset, .unset, .unset] [])) (fun t q => XS.icmpYes X56.here hx rfl (pc0 := 119) (pc' := 135) rfl (hb hby at_119) rfl (feq c69).2 (by decide) (by decide) q) ?_
                  obtain ⟨T70, X70, e70, st70⟩ := getS2 X56 hx hZ hown (host := "") (Or.inl (hw _ (List.mem_of_getElem? (i := 17) rfl))) Via.refl e56 S_BROWSE (g := (mkF m 135 #[.val (.int p1), .val (.int p2), .val (.int kk), .val (.int p2), .val (.ref w_BROWSE), .unset, .unset, .unset] [])) rfl (hb hby at_135)
                  refine own_go (T' := T70) (g' := (mkF m 138 #[.val (.int p1), .val (.int p2), .val (.int kk), .val (.int p2), .val (.ref w_BROWSE), .unset, .unset, .unset] [(.ref w_BROWSE)])) (fun t q => st70 t q) ?_
                  refine own_go (T' := T70) (g' := (mkF m 140 #[.val (.int p1), .val (.int p2), .val (.int kk), .val (.int p2), .val (.ref w_BROWSE), .val (.ref w_BROWSE), .unset, .unset] [])) (fun t q => XS.astore X70.here hx rfl (hb hby at_138) rfl rfl (l' := #[.val (.int p1), .val (.int p2), .val (.int kk), .val (.int p2), .val (.ref w_BROWSE), .val (.ref w_BROWSE), .unset, .unset]) rfl q) ?_
                  refine own_go (T' := T70) (g' := (mkF m 141 #[.val (.int p1), .val (.int p2), .val (.int kk), .val (.int p2), .val (.ref w_BROWSE), .val (.ref w_BROWSE), .unset, .unset] [(.long (1 : Int64))])) (fun t q => XT.lconst X70.here hx rfl (hb hby at_140) q) ?_
                  refine own_go (T' := T70) (g' := (mkF m 143 #[.val (.int p1), .val (.int p2), .val (.int kk), .val (.int p2), .val (.ref w_BROWSE), .val (.ref w_BROWSE), .val (.long (1 : Int64)), .second] [])) (fun t q => XT.lstore X70.here hx rfl (hb hby at_141) rfl (l' := #[.val (.int p1), .val (.int p2), .val (.int kk), .val (.int p2), .val (.ref w_BROWSE), .val (.ref w_BROWSE), .val (.long (1 : Int64)), .second]) rfl q) ?_
                  refine own_go (T' := T70) (g' := (mkF m 145 #[.val (.int p1), .val (.int p2), .val (.int kk), .val (.int p2), .val (.ref w_BROWSE), .val (.ref w_BROWSE), .val (.long (1 : Int64)), .second] [(.ref w_BROWSE)])) (fun t q => XS.aload X70.here hx rfl (hb hby at_143) rfl rfl q) ?_
                  refine own_go (T' := T70) (g' := (mkF m 147 #[.val (.int p1), .val (.int p2), .val (.int kk), .val (.int p2), .val (.ref w_BROWSE), .val (.ref w_BROWSE), .val (.long (1 : Int64)), .second] [(.ref w_BROWSE), (.ref w_BROWSE)])) (fun t q => XS.aload X70.here hx rfl (hb hby at_145) rfl rfl q) ?_
                  have c71 : (Value.ref w_BROWSE) = (Value.ref w_BROWSE) := rfl
                  refine own_go (T' := T70) (g' := (mkF m 150 #[.val (.int p1), .val (.int p2), .val (.int kk), .val (.int p2), .val (.ref w_BROWSE), .val (.ref w_BROWSE), .val (.long (1 : Int64)), .second] [])) (fun t q => XT.acmpNo X70.here hx rfl (hb hby at_147) rfl rfl rfl (own_at c71).2 q) ?_
                  refine own_go (T' := T70) (g' := (mkF m 152 #[.val (.int p1), .val (.int p2), .val (.int kk), .val (.int p2), .val (.ref w_BROWSE), .val (.ref w_BROWSE), .val (.long (1 : Int64)), .second] [(.ref w_BROWSE)])) (fun t q => XS.aload X70.here hx rfl (hb hby at_150) rfl rfl q) ?_
                  obtain ⟨v72, T72, L72, X72, Q72, st72⟩ := own_callV X70 hx hZ (y := (⟨"com/example/dvarapala/dvarapala/engine/PermissionType", "mask", "()J"⟩ : MethodName)) (b := w_BROWSE) (argsL := []) (rest := []) hown (hw _ (List.mem_of_getElem? (i := 8) rfl)) (hw _ (List.mem_of_getElem? (i := 9) rfl)) (hw _ (List.mem_of_getElem? (i := 11) rfl)) (hw _ (List.mem_of_getElem? (i := 10) rfl)) (hw _ (List.mem_of_getElem? (i := 2) rfl)) (hw _ (List.mem_of_getElem? (i := 12) rfl)) (rm_mask_BROWSE l Z a0 hw [] w_READ w_BROWSE w_READ_ROLE_PERMISSIONS h0 FX) e70 E_BROWSE (by decide) (by decide) 0 (by decide) (by decide) (by decide) (g := (mkF m 152 #[.val (.int p1), .val (.int p2), .val (.int kk), .val (.int p2), .val (.ref w_BROWSE), .val (.ref w_BROWSE), .val (.long (1 : Int64)), .second] [(.ref w_BROWSE)])) rfl (by rw [hml]; rfl) (lenOf (ps := []) (r := (some .long)) (by decide +kernel) rfl) rfl (by show 2 * 0 + _ ≤ _; exact Nat.le_of_eq rfl) (hb hby at_152)
                  obtain ⟨rfl, e72, rfl⟩ := Q72
                  refine own_go (T' := T72) (g' := (mkF m 155 #[.val (.int p1), .val (.int p2), .val (.int kk), .val (.int p2), .val (.ref w_BROWSE), .val (.ref w_BROWSE), .val (.long (1 : Int64)), .second] [(.long (1 : Int64))])) (fun t q => st72 t q) ?_
                  refine own_go (T' := T72) (g' := (mkF m 157 #[.val (.int p1), .val (.int p2), .val (.int kk), .val (.int p2), .val (.ref w_BROWSE), .val (.ref w_BROWSE), .val (.long (1 : Int64)), .second] [(.long (1 : Int64)), (.long (1 : Int64))])) (fun t q => XT.lload X72.here hx rfl (hb hby at_155) rfl q) ?_
                  refine own_go (T' := T72) (g' := (mkF m 158 #[.val (.int p1), .val (.int p2), .val (.int kk), .val (.int p2), .val (.ref w_BROWSE), .val (.ref w_BROWSE), .val (.long (1 : Int64)), .second] [(.int (XT.cmpL (1 : Int64) (1 : Int64)))])) (fun t q => XT.lcmp X72.here hx rfl (hb hby at_157) rfl q) ?_
                  have c73 : (1 : Int64) = (1 : Int64) := by decide
                  refine own_go (T' := T72) (g' := (mkF m 161 #[.val (.int p1), .val (.int p2), .val (.int kk), .val (.int p2), .val (.ref w_BROWSE), .val (.ref w_BROWSE), .val (.long (1 : Int64)), .second] [])) (fun t q => XS.ifNo X72.here hx rfl (hb hby at_158) rfl ((if0 _ _).trans (teq ((own_leq (1 : Int64) (1 : Int64)).mpr c73)).2) q) ?_
                  refine own_go (T' := T72) (g' := (mkF m 162 #[.val (.int p1), .val (.int p2), .val (.int kk), .val (.int p2), .val (.ref w_BROWSE), .val (.ref w_BROWSE), .val (.long (1 : Int64)), .second] [(.int (1 : Int32))])) (fun t q => XS.iconst X72.here hx rfl (hb hby at_161) q) ?_
                  refine own_go (T' := T72) (g' := (mkF m 166 #[.val (.int p1), .val (.int p2), .val (.int kk), .val (.int p2), .val (.ref w_BROWSE), .val (.ref w_BROWSE), .val (.long (1 : Int64)), .second] [(.int (1 : Int32))])) (fun t q => XS.goto X72.here hx rfl (pc0 := 162) (pc' := 166) rfl (hb hby at_162) (by decide) (by decide) q) ?_
                  refine own_outN X72 hx hlk hret (t := .boolean) (by simp) (hb hby at_166) (w := (1 : Int32)) (by decide) ?_ (by decide) (by decide)
                  exact ⟨rfl, Fr.nil _⟩
set_option maxRecDepth 65536 in
set_option maxHeartbeats 40000000 in
theorem comes_1 {Post : Tables → Env → Array Value → State → Outcome → State → Prop} (hpost : ∀ tb e args s v u, (limb_1_1.after args s (.returned v) u = true ∧ limb_1_2.after args s (.returned v) u = true ∧ True) → FrameEnd s (.returned v) u (Jvm.fieldLocs frame_1_writes args s ++ Jvm.arrayLocs frame_1_arrays args s ++ Jvm.staticLocs frame_1_statics s) 0 0 → Post tb e args s (.returned v) u) :
    ArmFor flags0 classFile x code maxLocals ret World_1 tables_1 room_1 Calls_1 rest_1 Pre_1 Post := by
  intro l hfl _ _ p e ha hc hk s m args below hf hA hF happ hP
  obtain ⟨hcalls, hrest, hpre⟩ := hP
  obtain ⟨-, -, -, hnamed, -, -, -, hat⟩ := (Spec.applies_iff hf).mp happ
  obtain ⟨hg, hn⟩ := and_e (Cond.before_iff.mp (show (Jvm.Cond.and given_1 narrow_1).before args s = true from hpre))
  obtain ⟨h1, hg⟩ := and_e hg
  obtain ⟨g0, hg⟩ := and_e hg
  have g1 := hg
  obtain ⟨w0, w1, rfl⟩ : ∃ w0 w1 : Value, args = #[w0, w1] := by
    have hs : args.size = 2 := by simpa [Cond.value, given_1] using h1
    obtain ⟨L⟩ := args
    match L, hs with
    | [w0, w1], _ => exact ⟨w0, w1, rfl⟩
  have hw := fun d (hd : d ∈ tables_1) => atoms_spec (ws := Jvm.Cond.code x code maxLocals ret :: tables_1) hat d (List.mem_cons_of_mem _ hd)
  have hfit : Fit s := fun {y c} hc i hi => by
    obtain ⟨ha, rfl⟩ := Array.getElem?_eq_some_iff.mp hc
    have q := List.all_eq_true.mp ((Array.all_eq_true_iff_forall_mem.mp hF) _ (Array.getElem_mem ha)) i (List.mem_range.mpr hi)
    simpa [Array.getElem?_eq_getElem hi] using q
  obtain ⟨i0, b0⟩ := is_v g0
  obtain rfl : w0 = (.int i0) := Option.some.inj b0
  obtain ⟨i1, b1⟩ := is_v g1
  obtain rfl : w1 = (.int i1) := Option.some.inj b1
  obtain ⟨n0, hn⟩ := and_e hn
  obtain ⟨n1, hn⟩ := and_e hn
  obtain ⟨n2, hn⟩ := and_e hn
  obtain ⟨n3, hn⟩ := and_e hn
  obtain ⟨n4, hn⟩ := and_e hn
  have n5 := hn
  obtain ⟨w_READ, ev_READ⟩ := exa_v n0
  have S_READ := Sta.start ev_READ (Or.inr ⟨(hw _ (List.mem_of_getElem? (i := 2) rfl)), (hw _ (List.mem_of_getElem? (i := 5) rfl))⟩)
  have E_READ := Exa.start ev_READ n0
  obtain ⟨w_BROWSE, ev_BROWSE⟩ := exa_v n2
  have S_BROWSE := Sta.start ev_BROWSE (Or.inr ⟨(hw _ (List.mem_of_getElem? (i := 2) rfl)), (hw _ (List.mem_of_getElem? (i := 16) rfl))⟩)
  have E_BROWSE := Exa.start ev_BROWSE n2
  obtain ⟨w_READ_ROLE_PERMISSIONS, ev_READ_ROLE_PERMISSIONS⟩ := exa_v n4
  have S_READ_ROLE_PERMISSIONS := Sta.start ev_READ_ROLE_PERMISSIONS (Or.inr ⟨(hw _ (List.mem_of_getElem? (i := 2) rfl)), (hw _ (List.mem_of_getElem? (i := 19) rfl))⟩)
  have E_READ_ROLE_PERMISSIONS := Exa.start ev_READ_ROLE_PERMISSIONS n4
  have F_READ_bit := own_fld ev_READ (Term.int_eval _) n1
  have F_BROWSE_bit := own_fld ev_BROWSE (Term.int_eval _) n3
  have F_READ_ROLE_PERMISSIONS_bit := own_fld ev_READ_ROLE_PERMISSIONS (Term.int_eval _) n5
  have ne_READ_BROWSE := Fld.ne F_READ_bit F_BROWSE_bit (by decide)
  have ne_READ_READ_ROLE_PERMISSIONS := Fld.ne F_READ_bit F_READ_ROLE_PERMISSIONS_bit (by decide)
  have ne_BROWSE_READ_ROLE_PERMISSIONS := Fld.ne F_BROWSE_bit F_READ_ROLE_PERMISSIONS_bit (by decide)
  have FX : own_F s s.heap w_READ w_BROWSE w_READ_ROLE_PERMISSIONS := ⟨S_READ, E_READ, S_BROWSE, E_BROWSE, S_READ_ROLE_PERMISSIONS, E_READ_ROLE_PERMISSIONS, F_READ_bit, F_BROWSE_bit, F_READ_ROLE_PERMISSIONS_bit, ne_READ_BROWSE, ne_READ_READ_ROLE_PERMISSIONS, ne_BROWSE_READ_ROLE_PERMISSIONS⟩
  obtain ⟨n, o, h1, h2, h3, _, L, rfl, ⟨rfl, N⟩, hq⟩ := rm0 l s _ hw tables_1 i0 i1 w_READ w_BROWSE w_READ_ROLE_PERMISSIONS s.heap FX p e ha hc hk s m _ below hf ((Spec.applies_iff_loose hf).mp happ).1 ⟨rfl, State.Warmed39.refl s, rfl⟩ trivial
  refine ⟨n, _, h1, h2, h3, hpost _ _ _ _ _ _ ⟨Cond.after_iff.mpr rfl, Cond.after_iff.mpr (eq_i res_at (Term.int_eval (1)) rfl), trivial⟩ ⟨hq.1, hq.2.1, (hq.2.2.sift fun y hy => Or.inr (N y hy)).mono (by decide) (by decide)⟩⟩
theorem main_1_1 : Claimed_1_1 := comes_1 fun _ _ _ _ _ _ h hF => ⟨h.1, hF⟩
theorem main_1_2 : Claimed_1_2 := comes_1 fun _ _ _ _ _ _ h hF => ⟨h.2.1, hF⟩
end Jvm.Pilot.@@N@@
namespace Jvm.Pilot.@@N@@
open Jvm Jvm.ClassFile Sem Op Lib Jvm.Free Jvm.Stand Jvm.Pilot.@@N@@.Jvm.D
/-! MADE BY PROGRAM (witnessworld.py) out of the Statement's table words and the real class files: 12 classes; the members and pool entries that the words name. The judged class is class 1, her method 1. -/
namespace start1
open Jvm.ClassFile
def u (s : String) : CpInfo := .utf8 (stringToUtf16 s)
/-- a pool by its gaps: so many unusable entries, then the entry; so many at the end -/
def gap : Nat → List CpInfo → List CpInfo
  | 0, r => r
  | n + 1, r => .unusable :: gap n r
def poolList (es : List (Nat × CpInfo)) (last : Nat) : List CpInfo := es.foldr (fun e r => gap e.1 (e.2 :: r)) (gap last [])
def pool (es : List (Nat × CpInfo)) (last : Nat) : Array CpInfo := ⟨poolList es last⟩
def fileOf (pool : Array CpInfo) (this : Nat) (attrs : Array Attribute := #[]) (ms : Array MethodInfo := #[]) (fl : Nat := 33) (sup : Nat := 0) (ifs : Array Nat := #[]) (fds : Array FieldInfo := #[]) : ClassFile where
  minorVersion := 0
  majorVersion := 65
  constantPool := pool
  accessFlags := fl
  thisClass := this
  superClass := sup
  interfaces := ifs
  fields := fds
  methods := ms
  attributes := attrs
def plain (name : String) (sup : Option ClassId) : Class where
  name := name
  kind := .ordinary
  loader := none
  accessFlags := 33
  super := sup
  interfaces := #[]
  cf := none
  fields := #[]
  methods := #[]
  instanceTypes := #[]
  staticTypes := #[]
  resolved := #[]
  callSites := []
  init := .initialized
  statics := none
  mirror := none

def pool0 : Array CpInfo := pool [(5, u "<init>"), (0, u "()V"), (1, .class_ 10), (1, u "java/lang/Object")] 113

def k0m0 : Method := { name := "<init>", desc := "()V", sig := { parameters := [], returnType := none }, accessFlags := 1, code := none }
/-- java/lang/Object -/
def k0 : Class := { plain "java/lang/Object" none with
  accessFlags := 33
  interfaces := #[]
  cf := some (fileOf pool0 8 #[] #[{ accessFlags := 1, nameIndex := 5, descriptorIndex := 6, attributes := #[] }] 33 0 #[] #[])
  fields := #[]
  methods := #[k0m0]
  instanceTypes := #[]
  staticTypes := #[]
  resolved := Array.replicate 124 none
  statics := none }

def pool1 : Array CpInfo := pool [(2, .class_ 4), (1, u "java/lang/Object"), (0, u "<init>"), (0, u "()V"), (0, .methodref 8 9), (0, .class_ 10), (0, .nameAndType 11 12), (0, u "com/example/dvarapala/dvarapala/engine/PermissionType"), (0, u "neededToRead"), (0, u "(I)Lcom/example/dvarapala/dvarapala/engine/PermissionType;"), (0, .fieldref 8 14), (0, .nameAndType 15 16), (0, u "READ"), (0, u "Lcom/example/dvarapala/dvarapala/engine/PermissionType;"), (0, .long 32), (1, .fieldref 8 20), (0, .nameAndType 21 16), (0, u "READ_ROLE_PERMISSIONS"), (0, .long 2), (1, .fieldref 8 25), (0, .nameAndType 26 16), (0, u "BROWSE"), (0, .methodref 8 28), (0, .nameAndType 29 30), (0, u "mask"), (0, u "()J"), (0, .class_ 32), (0, u "com/example/dvarapala/dvarapala/engine/PermissionTypeNeededToReadPinLaw"), (2, u "law"), (0, u "(II)Z")] 3

def k1m0 : Method := { name := "<init>", desc := "()V", sig := { parameters := [], returnType := none }, accessFlags := 1, code := none }
def k1c1 : Code := { maxStack := 4, maxLocals := 8, code := code, exceptionTable := #[], attributes := #[] }
def k1m1 : Method := { name := "law", desc := "(II)Z", sig := { parameters := [.int, .int], returnType := some .boolean }, accessFlags := 9, code := some k1c1 }
/-- com/example/dvarapala/dvarapala/engine/PermissionTypeNeededToReadPinLaw -/
def k1 : Class := { plain "com/example/dvarapala/dvarapala/engine/PermissionTypeNeededToReadPinLaw" (some 0) with
  accessFlags := 49
  interfaces := #[]
  cf := some (fileOf pool1 31 #[] #[{ accessFlags := 1, nameIndex := 5, descriptorIndex := 6, attributes := #[] }, { accessFlags := 9, nameIndex := 35, descriptorIndex := 36, attributes := #[] }] 49 2 #[] #[])
  fields := #[]
  methods := #[k1m0, k1m1]
  instanceTypes := #[]
  staticTypes := #[]
  resolved := Array.replicate 40 none
  statics := none }

def pool2 : Array CpInfo := pool [(1, .class_ 2), (0, u "java/lang/constant/Constable"), (0, .class_ 4), (0, u "java/lang/Object")] 6

/-- java/lang/constant/Constable -/
def k2 : Class := { plain "java/lang/constant/Constable" (some 0) with
  accessFlags := 1537
  interfaces := #[]
  cf := some (fileOf pool2 1 #[] #[] 1537 3 #[] #[])
  fields := #[]
  methods := #[]
  instanceTypes := #[]
  staticTypes := #[]
  resolved := Array.replicate 11 none
  statics := none }

def pool3 : Array CpInfo := pool [(1, .class_ 2), (0, u "java/lang/Comparable"), (0, .class_ 4), (0, u "java/lang/Object")] 7

/-- java/lang/Comparable -/
def k3 : Class := { plain "java/lang/Comparable" (some 0) with
  accessFlags := 1537
  interfaces := #[]
  cf := some (fileOf pool3 1 #[] #[] 1537 3 #[] #[])
  fields := #[]
  methods := #[]
  instanceTypes := #[]
  staticTypes := #[]
  resolved := Array.replicate 12 none
  statics := none }

def pool4 : Array CpInfo := pool [(1, .class_ 2), (0, u "java/io/Serializable"), (0, .class_ 4), (0, u "java/lang/Object")] 2

/-- java/io/Serializable -/
def k4 : Class := { plain "java/io/Serializable" (some 0) with
  accessFlags := 1537
  interfaces := #[]
  cf := some (fileOf pool4 1 #[] #[] 1537 3 #[] #[])
  fields := #[]
  methods := #[]
  instanceTypes := #[]
  staticTypes := #[]
  resolved := Array.replicate 7 none
  statics := none }

def pool5 : Array CpInfo := pool [(2, .class_ 4), (1, u "java/lang/Enum"), (0, u "name"), (0, u "Ljava/lang/String;"), (2, u "ordinal"), (0, u "I"), (1, .class_ 14), (1, u "java/lang/Object"), (4, u "hash"), (86, .class_ 108), (1, u "java/lang/Enum$EnumDesc"), (2, .class_ 112), (0, u "java/lang/constant/Constable"), (0, .class_ 114), (0, u "java/lang/Comparable"), (0, .class_ 116), (0, u "java/io/Serializable")] 87

/-- java/lang/Enum -/
def k5 : Class := { plain "java/lang/Enum" (some 0) with
  accessFlags := 1057
  interfaces := #[2, 3, 4]
  cf := some (fileOf pool5 2 #[.nestMembers #[106]] #[] 1057 12 #[111, 113, 115] #[{ accessFlags := 18, nameIndex := 5, descriptorIndex := 6, attributes := #[] }, { accessFlags := 18, nameIndex := 9, descriptorIndex := 10, attributes := #[] }, { accessFlags := 2, nameIndex := 19, descriptorIndex := 10, attributes := #[] }])
  fields := #[{ name := "name", type := (.object "java/lang/String"), accessFlags := 18, slot := 0, constantValue := 0 }, { name := "ordinal", type := .int, accessFlags := 18, slot := 1, constantValue := 0 }, { name := "hash", type := .int, accessFlags := 2, slot := 2, constantValue := 0 }]
  methods := #[]
  instanceTypes := #[(.object "java/lang/String"), .int, .int]
  staticTypes := #[]
  resolved := Array.replicate 204 none
  statics := none }

def pool6 : Array CpInfo := pool [(1, .class_ 2), (0, u "com/example/dvarapala/dvarapala/engine/PermissionType"), (0, .fieldref 1 4), (0, .nameAndType 5 6), (0, u "BROWSE"), (0, u "Lcom/example/dvarapala/dvarapala/engine/PermissionType;"), (0, .fieldref 1 8), (0, .nameAndType 9 6), (0, u "READ_ROLE_PERMISSIONS"), (2, u "WRITE_ATTRIBUTE"), (2, u "WRITE_ROLE_PERMISSIONS"), (2, u "WRITE_HISTORIZING"), (0, .fieldref 1 20), (0, .nameAndType 21 6), (0, u "READ"), (2, u "WRITE"), (2, u "READ_HISTORY"), (2, u "INSERT_HISTORY"), (2, u "MODIFY_HISTORY"), (2, u "DELETE_HISTORY"), (2, u "RECEIVE_EVENTS"), (2, u "CALL"), (2, u "ADD_REFERENCE"), (2, u "REMOVE_REFERENCE"), (2, u "DELETE_NODE"), (2, u "ADD_NODE"), (2, u "$VALUES"), (0, u "[Lcom/example/dvarapala/dvarapala/engine/PermissionType;"), (6, .class_ 67), (1, u "java/lang/Enum"), (6, .fieldref 1 75), (0, .nameAndType 76 77), (0, u "bit"), (0, u "I"), (2, u "mask"), (0, u "()J"), (24, u "VALUE_ATTRIBUTE"), (2, u "HISTORIZING_ATTRIBUTE"), (1, u "ROLE_PERMISSIONS_ATTRIBUTE"), (11, u "neededToRead"), (0, u "(I)Lcom/example/dvarapala/dvarapala/engine/PermissionType;")] 6

def k6c0 : Code := { maxStack := 3, maxLocals := 1, code := prog_15_method_5_code, exceptionTable := #[], attributes := #[] }
def k6m0 : Method := { name := "mask", desc := "()J", sig := { parameters := [], returnType := some .long }, accessFlags := 1, code := some k6c0 }
def k6c1 : Code := { maxStack := 2, maxLocals := 2, code := prog_15_method_6_code, exceptionTable := #[], attributes := #[] }
def k6m1 : Method := { name := "neededToRead", desc := "(I)Lcom/example/dvarapala/dvarapala/engine/PermissionType;", sig := { parameters := [.int], returnType := some (.object "com/example/dvarapala/dvarapala/engine/PermissionType") }, accessFlags := 9, code := some k6c1 }
/-- com/example/dvarapala/dvarapala/engine/PermissionType -/
def k6 : Class := { plain "com/example/dvarapala/dvarapala/engine/PermissionType" (some 5) with
  accessFlags := 16433
  interfaces := #[]
  cf := some (fileOf pool6 1 #[] #[{ accessFlags := 1, nameIndex := 80, descriptorIndex := 81, attributes := #[] }, { accessFlags := 9, nameIndex := 123, descriptorIndex := 124, attributes := #[] }] 16433 65 #[] #[{ accessFlags := 16409, nameIndex := 5, descriptorIndex := 6, attributes := #[] }, { accessFlags := 16409, nameIndex := 9, descriptorIndex := 6, attributes := #[] }, { accessFlags := 16409, nameIndex := 12, descriptorIndex := 6, attributes := #[] }, { accessFlags := 16409, nameIndex := 15, descriptorIndex := 6, attributes := #[] }, { accessFlags := 16409, nameIndex := 18, descriptorIndex := 6, attributes := #[] }, { accessFlags := 16409, nameIndex := 21, descriptorIndex := 6, attributes := #[] }, { accessFlags := 16409, nameIndex := 24, descriptorIndex := 6, attributes := #[] }, { accessFlags := 16409, nameIndex := 27, descriptorIndex := 6, attributes := #[] }, { accessFlags := 16409, nameIndex := 30, descriptorIndex := 6, attributes := #[] }, { accessFlags := 16409, nameIndex := 33, descriptorIndex := 6, attributes := #[] }, { accessFlags := 16409, nameIndex := 36, descriptorIndex := 6, attributes := #[] }, { accessFlags := 16409, nameIndex := 39, descriptorIndex := 6, attributes := #[] }, { accessFlags := 16409, nameIndex := 42, descriptorIndex := 6, attributes := #[] }, { accessFlags := 16409, nameIndex := 45, descriptorIndex := 6, attributes := #[] }, { accessFlags := 16409, nameIndex := 48, descriptorIndex := 6, attributes := #[] }, { accessFlags := 16409, nameIndex := 51, descriptorIndex := 6, attributes := #[] }, { accessFlags := 16409, nameIndex := 54, descriptorIndex := 6, attributes := #[] }, { accessFlags := 26, nameIndex := 106, descriptorIndex := 77, attributes := #[] }, { accessFlags := 26, nameIndex := 109, descriptorIndex := 77, attributes := #[] }, { accessFlags := 26, nameIndex := 111, descriptorIndex := 77, attributes := #[] }, { accessFlags := 18, nameIndex := 76, descriptorIndex := 77, attributes := #[] }, { accessFlags := 4122, nameIndex := 57, descriptorIndex := 58, attributes := #[] }])
  fields := #[{ name := "BROWSE", type := (.object "com/example/dvarapala/dvarapala/engine/PermissionType"), accessFlags := 16409, slot := 0, constantValue := 0 }, { name := "READ_ROLE_PERMISSIONS", type := (.object "com/example/dvarapala/dvarapala/engine/PermissionType"), accessFlags := 16409, slot := 1, constantValue := 0 }, { name := "WRITE_ATTRIBUTE", type := (.object "com/example/dvarapala/dvarapala/engine/PermissionType"), accessFlags := 16409, slot := 2, constantValue := 0 }, { name := "WRITE_ROLE_PERMISSIONS", type := (.object "com/example/dvarapala/dvarapala/engine/PermissionType"), accessFlags := 16409, slot := 3, constantValue := 0 }, { name := "WRITE_HISTORIZING", type := (.object "com/example/dvarapala/dvarapala/engine/PermissionType"), accessFlags := 16409, slot := 4, constantValue := 0 }, { name := "READ", type := (.object "com/example/dvarapala/dvarapala/engine/PermissionType"), accessFlags := 16409, slot := 5, constantValue := 0 }, { name := "WRITE", type := (.object "com/example/dvarapala/dvarapala/engine/PermissionType"), accessFlags := 16409, slot := 6, constantValue := 0 }, { name := "READ_HISTORY", type := (.object "com/example/dvarapala/dvarapala/engine/PermissionType"), accessFlags := 16409, slot := 7, constantValue := 0 }, { name := "INSERT_HISTORY", type := (.object "com/example/dvarapala/dvarapala/engine/PermissionType"), accessFlags := 16409, slot := 8, constantValue := 0 }, { name := "MODIFY_HISTORY", type := (.object "com/example/dvarapala/dvarapala/engine/PermissionType"), accessFlags := 16409, slot := 9, constantValue := 0 }, { name := "DELETE_HISTORY", type := (.object "com/example/dvarapala/dvarapala/engine/PermissionType"), accessFlags := 16409, slot := 10, constantValue := 0 }, { name := "RECEIVE_EVENTS", type := (.object "com/example/dvarapala/dvarapala/engine/PermissionType"), accessFlags := 16409, slot := 11, constantValue := 0 }, { name := "CALL", type := (.object "com/example/dvarapala/dvarapala/engine/PermissionType"), accessFlags := 16409, slot := 12, constantValue := 0 }, { name := "ADD_REFERENCE", type := (.object "com/example/dvarapala/dvarapala/engine/PermissionType"), accessFlags := 16409, slot := 13, constantValue := 0 }, { name := "REMOVE_REFERENCE", type := (.object "com/example/dvarapala/dvarapala/engine/PermissionType"), accessFlags := 16409, slot := 14, constantValue := 0 }, { name := "DELETE_NODE", type := (.object "com/example/dvarapala/dvarapala/engine/PermissionType"), accessFlags := 16409, slot := 15, constantValue := 0 }, { name := "ADD_NODE", type := (.object "com/example/dvarapala/dvarapala/engine/PermissionType"), accessFlags := 16409, slot := 16, constantValue := 0 }, { name := "VALUE_ATTRIBUTE", type := .int, accessFlags := 26, slot := 17, constantValue := 0 }, { name := "HISTORIZING_ATTRIBUTE", type := .int, accessFlags := 26, slot := 18, constantValue := 0 }, { name := "ROLE_PERMISSIONS_ATTRIBUTE", type := .int, accessFlags := 26, slot := 19, constantValue := 0 }, { name := "bit", type := .int, accessFlags := 18, slot := 3, constantValue := 0 }, { name := "$VALUES", type := (.array (.object "com/example/dvarapala/dvarapala/engine/PermissionType")), accessFlags := 4122, slot := 20, constantValue := 0 }]
  methods := #[k6m0, k6m1]
  instanceTypes := #[(.object "java/lang/String"), .int, .int, .int]
  staticTypes := #[(.object "com/example/dvarapala/dvarapala/engine/PermissionType"), (.object "com/example/dvarapala/dvarapala/engine/PermissionType"), (.object "com/example/dvarapala/dvarapala/engine/PermissionType"), (.object "com/example/dvarapala/dvarapala/engine/PermissionType"), (.object "com/example/dvarapala/dvarapala/engine/PermissionType"), (.object "com/example/dvarapala/dvarapala/engine/PermissionType"), (.object "com/example/dvarapala/dvarapala/engine/PermissionType"), (.object "com/example/dvarapala/dvarapala/engine/PermissionType"), (.object "com/example/dvarapala/dvarapala/engine/PermissionType"), (.object "com/example/dvarapala/dvarapala/engine/PermissionType"), (.object "com/example/dvarapala/dvarapala/engine/PermissionType"), (.object "com/example/dvarapala/dvarapala/engine/PermissionType"), (.object "com/example/dvarapala/dvarapala/engine/PermissionType"), (.object "com/example/dvarapala/dvarapala/engine/PermissionType"), (.object "com/example/dvarapala/dvarapala/engine/PermissionType"), (.object "com/example/dvarapala/dvarapala/engine/PermissionType"), (.object "com/example/dvarapala/dvarapala/engine/PermissionType"), .int, .int, .int, (.array (.object "com/example/dvarapala/dvarapala/engine/PermissionType"))]
  resolved := Array.replicate 131 none
  statics := some 0 }

def pool7 : Array CpInfo := pool [(1, u "java/lang/Cloneable"), (0, .class_ 1), (0, u "java/lang/Object"), (0, .class_ 3)] 3

/-- java/lang/Cloneable -/
def k7 : Class := { plain "java/lang/Cloneable" (some 0) with
  accessFlags := 1537
  interfaces := #[]
  cf := some (fileOf pool7 2 #[] #[] 1537 4 #[] #[])
  fields := #[]
  methods := #[]
  instanceTypes := #[]
  staticTypes := #[]
  resolved := Array.replicate 8 none
  statics := none }

/-- the primitive byte -/
def k8 : Class := { plain "byte" none with kind := .primitive 'B', accessFlags := 0x411 }
/-- [B -/
def k9 : Class := { plain "[B" (some 0) with kind := .array 8 .byte, interfaces := #[7, 4], accessFlags := 1041 }

/-- the primitive int -/
def k10 : Class := { plain "int" none with kind := .primitive 'I', accessFlags := 0x411 }
/-- [I -/
def k11 : Class := { plain "[I" (some 0) with kind := .array 10 .int, interfaces := #[7, 4], accessFlags := 1041 }

def heap : Heap := #[{ cls := 6, slots := #[.ref 2, .ref 3, .null, .null, .null, .ref 1, .null, .null, .null, .null, .null, .null, .null, .null, .null, .null, .null, .int 0, .int 0, .int 0, .null], vm := .statics 6 },
  { cls := 6, slots := #[.null, .int 0, .int 0, .int 5], vm := .none },
  { cls := 6, slots := #[.null, .int 0, .int 0, .int 0], vm := .none },
  { cls := 6, slots := #[.null, .int 0, .int 0, .int 1], vm := .none }]
def classes : Array Class := #[k0, k1, k2, k3, k4, k5, k6, k7, k8, k9, k10, k11]
def interned : List (Array UInt16 × Addr) := []
def slotsUsed : Nat := 33
def theMethod : MethodId := ⟨1, 1⟩
def args0 : Array Value := #[.int 5, .int 7]
def aboutOver (below : List Frame) : State where
  vm := { classes := classes, interned := interned.toArray }
  heap := heap
  slotsUsed := slotsUsed
  threads := #[{ frames := .invoking theMethod args0 :: below }]
def below0 : List Frame := [.native { method := ⟨0, 0⟩, args := #[] }]
def about1 : State := aboutOver below0
def p0 : Program := .bare "" "" ""
def e0 : Env := launch0.env 0 0 0
theorem w_frames : about1.frames = Frame.invoking theMethod args0 :: below0 := rfl
set_option maxRecDepth 65536 in
theorem w_args : argsFit about1.vm theMethod args0 = true := by decide +kernel
set_option maxRecDepth 65536 in
theorem w_heap : heapFits about1 = true := by decide +kernel
set_option maxRecDepth 65536 in
theorem w_runnable : about1.curStatus? = some .runnable := by decide +kernel
set_option maxRecDepth 65536 in
theorem w_alone : about1.alone = true := by decide +kernel
set_option maxRecDepth 65536 in
theorem w_named : about1.methodNamed? x = some theMethod := by decide +kernel
set_option maxRecDepth 65536 in
theorem w_hears : about1.hears theMethod below0 = true := by decide +kernel
set_option maxRecDepth 65536 in
theorem w_ripe : about1.ripe theMethod args0 below0 = true := by decide +kernel
theorem w_running : about1.status = .running := rfl
set_option maxRecDepth 65536 in
theorem w_room : about1.hasRoom e0.platform room_1 = true :=
  launch0.hasRoom_least _ room_1 (by decide +kernel) (by decide +kernel) (by decide +kernel) (by decide +kernel) (by decide +kernel) (by decide +kernel)
theorem allAtoms_all (ts : List Jvm.Cond) (a : Array Jvm.Value) (st : Jvm.State) : (allAtoms ts).before a st = ts.all (fun c => c.before a st) := by
  induction ts with
  | nil => rfl
  | cons c t ih =>
    show (Jvm.Cond.and c (allAtoms t)).before a st = _
    rw [Jvm.Cond.before_and, ih, List.all_cons]
def words1 : List Jvm.Cond := Jvm.Cond.code x code maxLocals ret :: tables_1
/-- a 'code' word, met by the world's own term for the bytes: nothing is compared byte by byte -/
theorem code_word {y : MethodName} {bytes : ByteArray} {mx : Nat} {rt : Option FieldType} {a : Array Value} {s : State} {m : MethodId} {meth : Method} {c : Code} (h1 : s.methodNamed? y = some m) (h2 : s.vm.method? m = some meth) (h3 : meth.code = some c) (h4 : c.code = bytes)
    (h5 : (c.maxLocals == mx && c.exceptionTable.isEmpty && decide (c.maxStack ≤ mostOperands) && decide (meth.sig.returnType = rt) && !meth.locks && decide (parseMethodDescriptor y.desc = some meth.sig)) = true) : (Jvm.Cond.code y bytes mx rt).before a s = true := by
  simp only [Bool.and_eq_true, beq_iff_eq, Bool.not_eq_true', decide_eq_true_eq] at h5
  obtain ⟨⟨⟨⟨⟨g1, g2⟩, g3⟩, g4⟩, g5⟩, g6⟩ := h5
  simp [Cond.before, Cond.holds, Cond.value, h1, h2, h3, h4, g1, g2, g3, g4, g5, g6]
def isCode : Jvm.Cond → Bool
  | .code _ _ _ _ => true
  | _ => false
theorem all_split {L : List Jvm.Cond} {P : Jvm.Cond → Bool} (h1 : L.all (fun c => isCode c || P c) = true) (h2 : ∀ c ∈ L.filter isCode, P c = true) : L.all P = true := by
  refine List.all_eq_true.mpr fun c hc => ?_
  have h := List.all_eq_true.mp h1 c hc
  rcases Bool.eq_false_or_eq_true (isCode c) with hi | hi
  · exact h2 c (List.mem_filter.mpr ⟨hc, hi⟩)
  · simpa [hi] using h
set_option maxRecDepth 65536 in
theorem w_c0 : (Jvm.Cond.code x code maxLocals ret).before args0 about1 = true := code_word (m := ⟨1, 1⟩) (meth := k1m1) (c := k1c1) (by decide +kernel) rfl rfl rfl (by decide +kernel)
set_option maxRecDepth 65536 in
theorem w_c1 : (Jvm.Cond.code ({ cls := "com/example/dvarapala/dvarapala/engine/PermissionType", name := "neededToRead", desc := "(I)Lcom/example/dvarapala/dvarapala/engine/PermissionType;" } : Jvm.MethodName) prog_15_method_6_code (2 : Nat) (Option.some (Jvm.ClassFile.FieldType.object "com/example/dvarapala/dvarapala/engine/PermissionType"))).before args0 about1 = true := code_word (m := ⟨6, 1⟩) (meth := k6m1) (c := k6c1) (by decide +kernel) rfl rfl rfl (by decide +kernel)
set_option maxRecDepth 65536 in
theorem w_c2 : (Jvm.Cond.code ({ cls := "com/example/dvarapala/dvarapala/engine/PermissionType", name := "mask", desc := "()J" } : Jvm.MethodName) prog_15_method_5_code (1 : Nat) (Option.some Jvm.ClassFile.FieldType.long)).before args0 about1 = true := code_word (m := ⟨6, 0⟩) (meth := k6m0) (c := k6c0) (by decide +kernel) rfl rfl rfl (by decide +kernel)
def codes1 : List Jvm.Cond := [Jvm.Cond.code x code maxLocals ret, Jvm.Cond.code ({ cls := "com/example/dvarapala/dvarapala/engine/PermissionType", name := "neededToRead", desc := "(I)Lcom/example/dvarapala/dvarapala/engine/PermissionType;" } : Jvm.MethodName) prog_15_method_6_code (2 : Nat) (Option.some (Jvm.ClassFile.FieldType.object "com/example/dvarapala/dvarapala/engine/PermissionType")), Jvm.Cond.code ({ cls := "com/example/dvarapala/dvarapala/engine/PermissionType", name := "mask", desc := "()J" } : Jvm.MethodName) prog_15_method_5_code (1 : Nat) (Option.some Jvm.ClassFile.FieldType.long)]
set_option maxRecDepth 65536 in
theorem codes_eq : words1.filter isCode = codes1 := rfl
theorem w_codes : ∀ c ∈ words1.filter isCode, c.before args0 about1 = true := by
  rw [codes_eq]
  intro c hc
  simp only [codes1, List.mem_cons, List.not_mem_nil, or_false] at hc
  rcases hc with rfl | rfl | rfl
  · exact w_c0
  · exact w_c1
  · exact w_c2
set_option maxRecDepth 65536 in
theorem w_t1 : words1.all (fun c => isCode c || c.before args0 about1) = true := by decide +kernel
theorem w_tables : (allAtoms (Jvm.Cond.code x code maxLocals ret :: tables_1)).before args0 about1 = true := by
  rw [allAtoms_all]
  show words1.all (fun c => c.before args0 about1) = true
  refine all_split ?_ w_codes
  rw [w_t1]
set_option maxRecDepth 65536 in
theorem w_case : (Jvm.Cond.and given_1 narrow_1).before args0 about1 = true := by decide +kernel
theorem w_applies : (headSpec (Jvm.Cond.code x code maxLocals ret :: tables_1) room_1).applies x e0.platform about1 = true :=
  (Spec.applies_iff w_frames).mpr ⟨w_running, w_runnable, w_alone, w_named, w_hears, w_ripe, w_room, w_tables⟩
theorem atStart : AtStart classFile x code maxLocals ret World_1 tables_1 room_1 Calls_1 rest_1 Pre_1 launch0 p0 e0 about1 theMethod args0 below0 :=
  ⟨lists_1, trivial, launch0.admits_env _ _ _, launch0.least_env, fairChoices_fair.cas, fairChoices_fair.clock, w_frames, w_args, w_heap, w_applies, trivial, trivial, w_case⟩
end start1
theorem witness_1 : WitnessClaimed_1 := ⟨start1.p0, start1.e0, start1.about1, start1.theMethod, start1.args0, start1.below0, start1.atStart⟩
end Jvm.Pilot.@@N@@
