import JvmDerived
import JvmDerived.Pilot.@@N@@Statement
import JvmDerived.Pilot.@@N@@Code
set_option linter.unusedVariables false
set_option linter.unusedSimpArgs false
namespace Jvm.RoadKit
open Sem ClassFile Op Lib Jvm.Stand Jvm.Free Jvm.LawKit
section OwnWalk
variable {p : Program} {l : Launch} {e : Env} {R : Room} {s : State} {m : MethodId} {args : Array Value} {below : List Frame} {meth : Method} {c : Code} {T : State} {locs : List Loc} {cells slots : Nat} {Z : State} {a0 : Array Value} {h : Heap}
theorem retI (X : Stand p l e R s m args below meth c T locs cells slots) (hx : p.tables.exec = Jvm.exec) {pc : Nat} {Ls : Array Slot} {z : Int32} {rest : List Value} (hret : meth.sig.returnType = some .int) (hd : decode c.code pc = .ok (.ireturn, 1)) {fs : List Frame}
    (hl : ∀ (f : JFrame) (acts : List Action), f.method = m → f.locked = none → f.entered = [] → (doReturn e (T.setTop f) acts (some (.int z))).1 = T.setFrames fs) : Steps p.tables e below (T.setTop (mkF m pc Ls (.int z :: rest))) (T.setFrames fs) := by
  have hm' : T.vm.method? m = some meth := X.method'
  have hn : narrow .int (.int z) = .int z := rfl
  show Steps p.tables e below (T.setTop { method := m, pc := pc, locals := Ls, stack := _ :: rest, locked := none }) _
  jvm_step X.here [X.here.top, hx, hd, hm', hret, hn]
  first | (intro acts; rw [hl _ acts rfl rfl rfl]) | rw [hl _ _ rfl rfl rfl]
  exact Steps.refl _
/-- a body's contract at given arguments and a given heap -/
abbrev own_Met (l : Launch) (y : MethodName) (bytes : ByteArray) (maxL : Nat) (ret : Option FieldType) (ws : List Cond) (rm : Room) (Z : State) (as' : Array Value) (h : Heap) (Q : Option Value → Heap → List Loc → Prop) : Prop :=
  MetFree l y (head1 (Cond.code y bytes maxL ret :: ws) rm) (fun a U => a = as' ∧ Z.Warmed39 U.vm ∧ U.heap = h) (fun _ _ _ _ _ => True) (fun _ U o U' => ∃ v L, o = .returned v ∧ Q v U'.heap L ∧ FrameEnd U o U' L rm.cells rm.slots)
/-- from here the walk comes to its end, and Q holds there -/
def own_Go (p : Program) (e : Env) (below : List Frame) (s T : State) (g : JFrame) (k n : Nat) (Q : Option Value → Heap → List Loc → Prop) : Prop :=
  ∃ s₂ o, Steps p.tables e below (T.setTop g) s₂ ∧ s₂.status = .running ∧ Ended s₂ below o ∧ ∃ v L, o = .returned v ∧ Q v s₂.heap L ∧ FrameEnd s o s₂ L k n
variable {k n : Nat} {Q : Option Value → Heap → List Loc → Prop}
theorem own_in {g g' : JFrame} (ef : g = g') (q : own_Go p e below s T g' k n Q) : ∃ s₂ o, Steps p.tables e below (T.setTop g) s₂ ∧ s₂.status = .running ∧ Ended s₂ below o ∧ ∃ v L, o = .returned v ∧ Q v s₂.heap L ∧ FrameEnd s o s₂ L k n := by
  subst ef; exact q
theorem own_go {T' : State} {g g' : JFrame} (f : ∀ t, Steps p.tables e below (T'.setTop g') t → Steps p.tables e below (T.setTop g) t) (q : own_Go p e below s T' g' k n Q) : own_Go p e below s T g k n Q := by
  obtain ⟨s₂, o, h1, h2⟩ := q; exact ⟨s₂, o, f _ h1, h2⟩
theorem own_outI (X : Stand p l e R s m args below meth c T locs cells slots) (hx : p.tables.exec = Jvm.exec) (hlk : meth.locks = false) (hret : meth.sig.returnType = some .int) {pc : Nat} {Ls : Array Slot} {z : Int32} {rest : List Value} (hd : decode c.code pc = .ok (.ireturn, 1))
    (q : Q (some (.int z)) T.heap locs) (hk : cells ≤ k) (hn : slots ≤ n) : own_Go p e below s T (mkF m pc Ls (.int z :: rest)) k n Q := by
  obtain ⟨fs, hr, hrun, hended, hW, hsame⟩ := X.leave (v := some (.int z)) (fun h => by rw [hret] at h; cases h) hlk
  exact ⟨_, _, retI X hx hret hd hr, hrun, hended, _, _, rfl, q, ⟨_, rfl⟩, hW, hsame.mono hk hn⟩
theorem own_outN (X : Stand p l e R s m args below meth c T locs cells slots) (hx : p.tables.exec = Jvm.exec) (hlk : meth.locks = false) {t : FieldType} (hret : meth.sig.returnType = some t) (ht : t = .boolean ∨ t = .byte ∨ t = .char ∨ t = .short) {pc : Nat} {Ls : Array Slot} {z w : Int32} {rest : List Value} (hd : decode c.code pc = .ok (.ireturn, 1))
    (hw : nar t z = w) (q : Q (some (.int w)) T.heap locs) (hk : cells ≤ k) (hn : slots ≤ n) : own_Go p e below s T (mkF m pc Ls (.int z :: rest)) k n Q := by
  subst hw
  obtain ⟨fs, hr, hrun, hended, hW, hsame⟩ := X.leave (v := some (.int (nar t z))) (fun h => by rw [hret] at h; cases h) hlk
  exact ⟨_, _, retN X hx hret ht hd hr, hrun, hended, _, _, rfl, q, ⟨_, rfl⟩, hW, hsame.mono hk hn⟩
theorem own_outJ (X : Stand p l e R s m args below meth c T locs cells slots) (hx : p.tables.exec = Jvm.exec) (hlk : meth.locks = false) (hret : meth.sig.returnType = some .long) {pc : Nat} {Ls : Array Slot} {z : Int64} {rest : List Value} (hd : decode c.code pc = .ok (.lreturn, 1))
    (q : Q (some (.long z)) T.heap locs) (hk : cells ≤ k) (hn : slots ≤ n) : own_Go p e below s T (mkF m pc Ls (.long z :: rest)) k n Q := by
  obtain ⟨fs, hr, hrun, hended, hW, hsame⟩ := X.leave (v := some (.long z)) (fun h => by rw [hret] at h; cases h) hlk
  exact ⟨_, _, retOut X hx hret rfl (Or.inr (Or.inl ⟨rfl, rfl, _, rfl⟩)) hd hr, hrun, hended, _, _, rfl, q, ⟨_, rfl⟩, hW, hsame.mono hk hn⟩
theorem own_outD (X : Stand p l e R s m args below meth c T locs cells slots) (hx : p.tables.exec = Jvm.exec) (hlk : meth.locks = false) (hret : meth.sig.returnType = some .double) {pc : Nat} {Ls : Array Slot} {z : UInt64} {rest : List Value} (hd : decode c.code pc = .ok (.dreturn, 1))
    (q : Q (some (.double z)) T.heap locs) (hk : cells ≤ k) (hn : slots ≤ n) : own_Go p e below s T (mkF m pc Ls (.double z :: rest)) k n Q := by
  obtain ⟨fs, hr, hrun, hended, hW, hsame⟩ := X.leave (v := some (.double z)) (fun h => by rw [hret] at h; cases h) hlk
  exact ⟨_, _, retOut X hx hret rfl (Or.inr (Or.inr (Or.inl ⟨rfl, rfl, _, rfl⟩))) hd hr, hrun, hended, _, _, rfl, q, ⟨_, rfl⟩, hW, hsame.mono hk hn⟩
theorem own_outA (X : Stand p l e R s m args below meth c T locs cells slots) (hx : p.tables.exec = Jvm.exec) (hlk : meth.locks = false) {t : FieldType} (hret : meth.sig.returnType = some t) (ht : t.isReference = true) {pc : Nat} {Ls : Array Slot} {w : Value} {rest : List Value} (hwr : w.isRef = true) (hd : decode c.code pc = .ok (.areturn, 1))
    (q : Q (some w) T.heap locs) (hk : cells ≤ k) (hn : slots ≤ n) : own_Go p e below s T (mkF m pc Ls (w :: rest)) k n Q := by
  obtain ⟨fs, hr, hrun, hended, hW, hsame⟩ := X.leave (v := some w) (fun h => by rw [hret] at h; cases h) hlk
  have hnw : narrow t w = w := by rcases ref_cases hwr with rfl | ⟨a, rfl⟩ <;> cases t <;> first | rfl | cases ht
  exact ⟨_, _, retOut X hx hret hnw (Or.inr (Or.inr (Or.inr (Or.inr ⟨rfl, ht, hwr⟩)))) hd hr, hrun, hended, _, _, rfl, q, ⟨_, rfl⟩, hW, hsame.mono hk hn⟩
theorem own_outV (X : Stand p l e R s m args below meth c T locs cells slots) (hx : p.tables.exec = Jvm.exec) (hlk : meth.locks = false) (hret : meth.sig.returnType = none) {pc : Nat} {Ls : Array Slot} (hd : decode c.code pc = .ok (.return_, 1))
    (q : Q none T.heap locs) (hk : cells ≤ k) (hn : slots ≤ n) : own_Go p e below s T (mkF m pc Ls []) k n Q := by
  obtain ⟨fs, hr, hrun, hended, hW, hsame⟩ := X.leave (v := none) (fun _ => rfl) hlk
  exact ⟨_, _, X.returnOut hx hret hd hr, hrun, hended, _, _, rfl, q, ⟨_, rfl⟩, hW, hsame.mono hk hn⟩
theorem own_callS (X : Stand p l e R s m args below meth c T locs cells slots) (hx : p.tables.exec = Jvm.exec) (hZ : Z.Warmed39 s.vm) {own : String} {index : Nat} {y : MethodName} {bytes : ByteArray} {maxL : Nat} {ret : Option FieldType} {rm : Room} {argsL rest : List Value}
    (hown : s.vm.findClass own = some m.cls) (w1 : (Cond.methodLink own index y).before a0 Z = true) (w2 : (Cond.static y).before a0 Z = true) (w3 : (Cond.initialized y.cls).before a0 Z = true) (w4 : (Cond.code y bytes maxL ret).before a0 Z = true)
    (hM : own_Met l y bytes maxL ret [] rm Z argsL.toArray h Q) (eT : T.heap = h) (hy : y.cls ≠ "java/lang/invoke/MethodHandle" ∧ y.cls ≠ "java/lang/invoke/VarHandle") (hf : rm.frames + 1 ≤ R.frames) (W : Nat) (hl : W + (maxL + 11) + rm.locals ≤ R.locals) (hc : cells + rm.cells ≤ R.cells) (hs : slots + rm.slots ≤ R.slots)
    {g : JFrame} (hg : g.method = m) (hsize : g.locals.size = c.maxLocals) (hlen : ∀ sig, parseMethodDescriptor y.desc = some sig → argsL.length = sig.parameters.length) (hstack : g.stack = argsL.reverse ++ rest) (hW : 2 * g.monitorRoom + (rest.map fun v => v.category).sum ≤ W) (hd : decode c.code g.pc = .ok (.invokestatic index, 3)) :
    ∃ v T' L, Stand p l e R s m args below meth c T' (locs ++ L) (cells + rm.cells) (slots + rm.slots) ∧ Q v T'.heap L ∧ ∀ t, Steps p.tables e below (T'.setTop { g with pc := g.pc + 3, stack := v.toList ++ rest }) t → Steps p.tables e below (T.setTop g) t := by
  obtain ⟨v, _, ⟨T', L', k', n'⟩, -, X', ⟨Lc, hQ, l1, l2, l3⟩, st⟩ := Jvm.LawKit.callS X hx (y := y) hown (mvT hZ w1) (mvT hZ w2) (mvT hZ w3) (mvT hZ w4) hy (backOf (W := W) hM hZ w4 w3 hf hl) hg hsize (argsL := argsL) (rest := rest) hlen hstack hW hd (fun _ _ => ⟨rfl, eT, hc, hs⟩)
  dsimp only [Pt.U, Pt.locs, Pt.cells, Pt.slots] at X' l1 l2 l3 st hQ
  subst l1 l2 l3
  exact ⟨v, T', Lc, X', hQ, st⟩
theorem own_callV (X : Stand p l e R s m args below meth c T locs cells slots) (hx : p.tables.exec = Jvm.exec) (hZ : Z.Warmed39 s.vm) {own C : String} {index : Nat} {y : MethodName} {bytes : ByteArray} {maxL : Nat} {ret : Option FieldType} {rm : Room} {b : Addr} {argsL rest : List Value}
    (hown : s.vm.findClass own = some m.cls) (w1 : (Cond.methodLink own index y).before a0 Z = true) (w2 : (Cond.declares y).before a0 Z = true) (w3 : (Cond.selects C y y).before a0 Z = true) (w4 : (Cond.instanceMethod y).before a0 Z = true) (w5 : (Cond.initialized y.cls).before a0 Z = true) (w6 : (Cond.code y bytes maxL ret).before a0 Z = true)
    (hM : own_Met l y bytes maxL ret [] rm Z (.ref b :: argsL).toArray h Q) (eT : T.heap = h) (E : Exa Z h b C) (hy : y.cls ≠ "java/lang/invoke/MethodHandle" ∧ y.cls ≠ "java/lang/invoke/VarHandle") (hf : rm.frames + 1 ≤ R.frames) (W : Nat) (hl : W + (maxL + 11) + rm.locals ≤ R.locals) (hc : cells + rm.cells ≤ R.cells) (hs : slots + rm.slots ≤ R.slots)
    {g : JFrame} (hg : g.method = m) (hsize : g.locals.size = c.maxLocals) (hlen : ∀ sig, parseMethodDescriptor y.desc = some sig → argsL.length = sig.parameters.length) (hstack : g.stack = argsL.reverse ++ .ref b :: rest) (hW : 2 * g.monitorRoom + (rest.map fun v => v.category).sum ≤ W) (hd : decode c.code g.pc = .ok (.invokevirtual index, 3)) :
    ∃ v T' L, Stand p l e R s m args below meth c T' (locs ++ L) (cells + rm.cells) (slots + rm.slots) ∧ Q v T'.heap L ∧ ∀ t, Steps p.tables e below (T'.setTop { g with pc := g.pc + 3, stack := v.toList ++ rest }) t → Steps p.tables e below (T.setTop g) t := by
  obtain ⟨cq, kq, qa, qb, qc⟩ := isOf hZ eT E
  obtain ⟨v, _, ⟨T', L', k', n'⟩, -, X', ⟨Lc, hQ, l1, l2, l3⟩, st⟩ := X.virtualBack hx (y := y) (z := y) hown (mvT hZ w1) (mvT hZ w2) (notFace_of_selects (args := #[]) (mvT hZ w3)) (mvT hZ w3) (mvT hZ w4) hy (backOf (W := W) hM hZ w6 w5 hf hl) qa qc hg hsize (Steps.refl _) (argsL := argsL) (rest := rest) hlen hstack hW hd (fun _ _ => ⟨rfl, eT, hc, hs⟩)
  dsimp only [Pt.U, Pt.locs, Pt.cells, Pt.slots] at X' l1 l2 l3 st hQ
  subst l1 l2 l3
  exact ⟨v, T', Lc, X', hQ, fun t q => st.trans q⟩
theorem own_callP (X : Stand p l e R s m args below meth c T locs cells slots) (hx : p.tables.exec = Jvm.exec) (hZ : Z.Warmed39 s.vm) {own : String} {index : Nat} {y : MethodName} {bytes : ByteArray} {maxL : Nat} {rm : Room} {a : Addr} {argsL rest : List Value}
    (hown : s.vm.findClass own = some m.cls) (hy1 : y.name = "<init>") (w1 : (Cond.methodLink own index y).before a0 Z = true) (w2 : (Cond.instanceMethod y).before a0 Z = true) (w3 : (Cond.initialized y.cls).before a0 Z = true) (w4 : (Cond.code y bytes maxL none).before a0 Z = true)
    (hM : own_Met l y bytes maxL none [] rm Z (.ref a :: argsL).toArray h Q) (eT : T.heap = h) (hy : y.cls ≠ "java/lang/invoke/MethodHandle" ∧ y.cls ≠ "java/lang/invoke/VarHandle") (hf : rm.frames + 1 ≤ R.frames) (W : Nat) (hl : W + (maxL + 11) + rm.locals ≤ R.locals) (hc : cells + rm.cells ≤ R.cells) (hs : slots + rm.slots ≤ R.slots)
    {g : JFrame} (hg : g.method = m) (hsize : g.locals.size = c.maxLocals) (hlen : ∀ sig, parseMethodDescriptor y.desc = some sig → argsL.length = sig.parameters.length) (hstack : g.stack = argsL.reverse ++ .ref a :: rest) (hW : 2 * g.monitorRoom + (rest.map fun v => v.category).sum ≤ W) (hd : decode c.code g.pc = .ok (.invokespecial index, 3)) :
    ∃ v T' L, Stand p l e R s m args below meth c T' (locs ++ L) (cells + rm.cells) (slots + rm.slots) ∧ Q v T'.heap L ∧ ∀ t, Steps p.tables e below (T'.setTop { g with pc := g.pc + 3, stack := v.toList ++ rest }) t → Steps p.tables e below (T.setTop g) t := by
  obtain ⟨v, _, ⟨T', L', k', n'⟩, -, X', ⟨Lc, hQ, l1, l2, l3⟩, st⟩ := X.specialBack hx (y := y) hy1 hown (mvT hZ w1) (mvT hZ w2) (mvT hZ w4) hy (backOf (W := W) hM hZ w4 w3 hf hl) hg hsize (Steps.refl _) (a := a) (argsL := argsL) (rest := rest) hlen hstack hW hd (fun _ _ => ⟨rfl, eT, hc, hs⟩)
  dsimp only [Pt.U, Pt.locs, Pt.cells, Pt.slots] at X' l1 l2 l3 st hQ
  subst l1 l2 l3
  exact ⟨v, T', Lc, X', hQ, fun t q => st.trans q⟩
end OwnWalk
theorem own_llt (x y : Int64) : XT.cmpL x y < 0 ↔ x < y := by
  show (if y < x then (1 : Int32) else if x = y then 0 else -1) < 0 ↔ _
  split
  · rename_i h; exact ⟨fun q => absurd q (by decide), fun q => by rw [Int64.lt_iff_toInt_lt] at h q; omega⟩
  · rename_i h; split
    · rename_i h2; subst h2; exact ⟨fun q => absurd q (by decide), fun q => absurd q h⟩
    · rename_i h2; refine ⟨fun _ => ?_, fun _ => by decide⟩
      rw [← Int64.toInt_inj] at h2; rw [Int64.lt_iff_toInt_lt] at h ⊢; omega
theorem own_lgt (x y : Int64) : 0 < XT.cmpL x y ↔ y < x := by
  show 0 < (if y < x then (1 : Int32) else if x = y then 0 else -1) ↔ _
  split
  · rename_i h; exact ⟨fun _ => h, fun _ => by decide⟩
  · rename_i h; split
    · exact ⟨fun q => absurd q (by decide), fun q => absurd q h⟩
    · exact ⟨fun q => absurd q (by decide), fun q => absurd q h⟩
theorem own_leq (x y : Int64) : XT.cmpL x y = 0 ↔ x = y := by
  show (if y < x then (1 : Int32) else if x = y then 0 else -1) = 0 ↔ _
  split
  · rename_i h; refine ⟨fun q => absurd q (by decide), fun q => ?_⟩; subst q; exact absurd h (by simp only [Int64.lt_iff_toInt_lt]; omega)
  · split
    · rename_i h; exact ⟨fun _ => h, fun _ => rfl⟩
    · rename_i h; exact ⟨fun q => absurd q (by decide), fun q => absurd q h⟩
theorem own_at {x y : Value} (h : x = y) : XT.acmp .eq x y = true ∧ XT.acmp .ne x y = false := by subst h; exact ⟨decide_eq_true rfl, decide_eq_false fun q => q rfl⟩
theorem own_af {x y : Value} (h : ¬ (x = y)) : XT.acmp .eq x y = false ∧ XT.acmp .ne x y = true := ⟨decide_eq_false h, decide_eq_true h⟩
theorem own_fld {s : State} {args : Array Value} {t u : Term} {C n d : String} {a : Addr} {v : Value} (ev : t.eval args s none [] s = some (.ref a)) (hu : u.eval args s none [] s = some v) (hq : (Cond.eq (.field t C n d) u).value args s none s [] = some true) : Fld s s.heap a C n d v := by
  refine Fld.start ?_
  obtain ⟨x, y, h1, h2, -, -⟩ := cmp_v (Or.inl hq)
  cases hu.symm.trans h2
  have h3 := h1
  rw [fld_at ev] at h3
  simp only [Cond.value, h1, h2] at hq
  rw [h3]
  cases x <;> cases v <;> simp at hq ⊢ <;> exact hq
end Jvm.RoadKit
namespace Jvm.Pilot.@@N@@
open Jvm Jvm.ClassFile Sem Op Lib Jvm.Free Jvm.Stand Jvm.LawKit Jvm.RoadKit Bundle Jvm.Pilot.@@N@@.Jvm.D
theorem own_mod (p n : Int32) (hn : 0 < n.toInt) : 0 ≤ ((p &&& 2147483647) % n).toInt ∧ ((p &&& 2147483647) % n).toInt < n.toInt := by
  have h1 : (p &&& 2147483647).toInt = p.toInt % ((2 ^ 31 : Nat) : Int) := c_mask p 2147483647 31 (by decide) (by decide)
  rw [Int32.toInt_mod, h1]
  have h2 : 0 ≤ p.toInt % ((2 ^ 31 : Nat) : Int) := Int.emod_nonneg _ (by decide)
  exact ⟨Int.tmod_nonneg _ h2, Int.tmod_lt_of_pos _ hn⟩
theorem own_ne {k n : Int32} (h : k ≠ n) : k.toInt ≠ n.toInt := fun q => h (Int32.toInt_inj.mp q)
theorem d1_0 : decode prog_78_method_4_code 0 = .ok (.iload_n 0, 1) := by decide +kernel
theorem d1_1 : decode prog_78_method_4_code 1 = .ok (.iconst 2, 1) := by decide +kernel
theorem d1_2 : decode prog_78_method_4_code 2 = .ok (.if_icmp .lt 13, 3) := by decide +kernel
theorem d1_5 : decode prog_78_method_4_code 5 = .ok (.iload_n 0, 1) := by decide +kernel
theorem d1_6 : decode prog_78_method_4_code 6 = .ok (.bipush 8, 2) := by decide +kernel
theorem d1_8 : decode prog_78_method_4_code 8 = .ok (.if_icmp .gt 7, 3) := by decide +kernel
theorem d1_11 : decode prog_78_method_4_code 11 = .ok (.iconst 1, 1) := by decide +kernel
theorem d1_12 : decode prog_78_method_4_code 12 = .ok (.goto 4, 3) := by decide +kernel
theorem d1_15 : decode prog_78_method_4_code 15 = .ok (.iconst 0, 1) := by decide +kernel
theorem d1_16 : decode prog_78_method_4_code 16 = .ok (.ireturn, 1) := by decide +kernel
set_option maxRecDepth 65536 in
set_option maxHeartbeats 40000000 in
theorem rm1 (l : Launch) (Z : State) (a0 : Array Value) (hw : ∀ d ∈ tables_1, d.before a0 Z = true) (ws : List Jvm.Cond) (p1 : Int32) (h0 : Heap)  :
    own_Met l (⟨"com/example/ryudo/ryudo/model/LcrReport", "isUnsecuredFundingRow", "(I)Z"⟩ : MethodName) prog_78_method_4_code 1 (some .boolean) ws ({ frames := 0, cells := 0, slots := 0, locals := 0 } : Room) Z #[(.int p1)] h0 (fun v h L => ((¬ p1 < 2 ∧ ¬ 8 < p1 ∧ v = some (.int (1 : Int32))) ∨ ((p1 < 2 ∨ 8 < p1) ∧ v = some (.int (0 : Int32)))) ∧ h = h0 ∧ L = []) := by
  refine MetFree.of_bodySF (plainFor_of_name (by first | (simp [plainName, overriddenIn]; done) | decide +kernel)) hisR ?_
  intro p e s m args below meth c s₁ Bd hml0 hP hK
  obtain ⟨rfl, hZ, hh⟩ := hP
  have hx := Bd.exec
  have hby := Bd.bytes
  have hml : c.maxLocals = 1 := hml0
  have hown : s.vm.findClass "com/example/ryudo/ryudo/model/LcrReport" = some m.cls := findClass_of_methodNamed Bd.named
  have hnm := (name_of_methodNamed Bd.named Bd.method).1
  have hlk : meth.locks = false := Bd.notSynchronized
  have hret := Bd.returns
  have X0 : Stand p l e ({ frames := 0, cells := 0, slots := 0, locals := 0 } : Room) s m #[(.int p1)] below meth c s₁ [] 0 0 := Stand.of_body Bd
  have e0 : s₁.heap = h0 := by rw [← hh, Bd.state]; rfl
  refine own_in (Q := fun v h L => ((¬ p1 < 2 ∧ ¬ 8 < p1 ∧ v = some (.int (1 : Int32))) ∨ ((p1 < 2 ∨ 8 < p1) ∧ v = some (.int (0 : Int32)))) ∧ h = h0 ∧ L = []) (ef := by first | (simp [entryFrame, mkF, argsToLocals, Value.category, maxLocals]; done) | rfl) (g' := (mkF m 0 #[.val (.int p1)] [])) ?_
  refine own_go (T' := s₁) (g' := (mkF m 1 #[.val (.int p1)] [(.int p1)])) (fun t q => XS.iloadN X0.here hx rfl (hb hby d1_0) rfl q) ?_
  refine own_go (T' := s₁) (g' := (mkF m 2 #[.val (.int p1)] [(.int (2 : Int32)), (.int p1)])) (fun t q => XS.iconst X0.here hx rfl (hb hby d1_1) q) ?_
  by_cases c1 : p1 < (2 : Int32)
  · refine own_go (T' := s₁) (g' := (mkF m 15 #[.val (.int p1)] [])) (fun t q => XS.icmpYes X0.here hx rfl (pc0 := 2) (pc' := 15) rfl (hb hby d1_2) rfl (tlt c1).1 (by decide) (by decide) q) ?_
    refine own_go (T' := s₁) (g' := (mkF m 16 #[.val (.int p1)] [(.int (0 : Int32))])) (fun t q => XS.iconst X0.here hx rfl (hb hby d1_15) q) ?_
    refine own_outN X0 hx hlk hret (t := .boolean) (by simp) (hb hby d1_16) (w := (0 : Int32)) (by decide) ?_ (by decide) (by decide)
    exact ⟨Or.inr ⟨Or.inl c1, rfl⟩, e0, rfl⟩
  · refine own_go (T' := s₁) (g' := (mkF m 5 #[.val (.int p1)] [])) (fun t q => XS.icmpNo X0.here hx rfl (hb hby d1_2) rfl (flt c1).1 q) ?_
    refine own_go (T' := s₁) (g' := (mkF m 6 #[.val (.int p1)] [(.int p1)])) (fun t q => XS.iloadN X0.here hx rfl (hb hby d1_5) rfl q) ?_
    refine own_go (T' := s₁) (g' := (mkF m 8 #[.val (.int p1)] [(.int (8 : Int32)), (.int p1)])) (fun t q => XS.bipush X0.here hx rfl (hb hby d1_6) q) ?_
    by_cases c2 : (8 : Int32) < p1
    · refine own_go (T' := s₁) (g' := (mkF m 15 #[.val (.int p1)] [])) (fun t q => XS.icmpYes X0.here hx rfl (pc0 := 8) (pc' := 15) rfl (hb hby d1_8) rfl (tlt c2).2.2.1 (by decide) (by decide) q) ?_
      refine own_go (T' := s₁) (g' := (mkF m 16 #[.val (.int p1)] [(.int (0 : Int32))])) (fun t q => XS.iconst X0.here hx rfl (hb hby d1_15) q) ?_
      refine own_outN X0 hx hlk hret (t := .boolean) (by simp) (hb hby d1_16) (w := (0 : Int32)) (by decide) ?_ (by decide) (by decide)
      exact ⟨Or.inr ⟨Or.inr c2, rfl⟩, e0, rfl⟩
    · refine own_go (T' := s₁) (g' := (mkF m 11 #[.val (.int p1)] [])) (fun t q => XS.icmpNo X0.here hx rfl (hb hby d1_8) rfl (flt c2).2.2.1 q) ?_
      refine own_go (T' := s₁) (g' := (mkF m 12 #[.val (.int p1)] [(.int (1 : Int32))])) (fun t q => XS.iconst X0.here hx rfl (hb hby d1_11) q) ?_
      refine own_go (T' := s₁) (g' := (mkF m 16 #[.val (.int p1)] [(.int (1 : Int32))])) (fun t q => XS.goto X0.here hx rfl (pc0 := 12) (pc' := 16) rfl (hb hby d1_12) (by decide) (by decide) q) ?_
      refine own_outN X0 hx hlk hret (t := .boolean) (by simp) (hb hby d1_16) (w := (1 : Int32)) (by decide) ?_ (by decide) (by decide)
      exact ⟨Or.inl ⟨c1, c2, rfl⟩, e0, rfl⟩
theorem d2_0 : decode method_2_code 0 = .ok (.iload_n 0, 1) := by decide +kernel
theorem d2_1 : decode method_2_code 1 = .ok (.iconst 2, 1) := by decide +kernel
theorem d2_2 : decode method_2_code 2 = .ok (.if_icmp .eq 36, 3) := by decide +kernel
theorem d2_5 : decode method_2_code 5 = .ok (.iload_n 0, 1) := by decide +kernel
theorem d2_6 : decode method_2_code 6 = .ok (.iconst 3, 1) := by decide +kernel
theorem d2_7 : decode method_2_code 7 = .ok (.if_icmp .eq 31, 3) := by decide +kernel
theorem d2_10 : decode method_2_code 10 = .ok (.iload_n 0, 1) := by decide +kernel
theorem d2_11 : decode method_2_code 11 = .ok (.iconst 4, 1) := by decide +kernel
theorem d2_12 : decode method_2_code 12 = .ok (.if_icmp .eq 26, 3) := by decide +kernel
theorem d2_15 : decode method_2_code 15 = .ok (.iload_n 0, 1) := by decide +kernel
theorem d2_16 : decode method_2_code 16 = .ok (.iconst 5, 1) := by decide +kernel
theorem d2_17 : decode method_2_code 17 = .ok (.if_icmp .eq 21, 3) := by decide +kernel
theorem d2_20 : decode method_2_code 20 = .ok (.iload_n 0, 1) := by decide +kernel
theorem d2_21 : decode method_2_code 21 = .ok (.bipush 6, 2) := by decide +kernel
theorem d2_23 : decode method_2_code 23 = .ok (.if_icmp .eq 15, 3) := by decide +kernel
theorem d2_26 : decode method_2_code 26 = .ok (.iload_n 0, 1) := by decide +kernel
theorem d2_27 : decode method_2_code 27 = .ok (.bipush 7, 2) := by decide +kernel
theorem d2_29 : decode method_2_code 29 = .ok (.if_icmp .eq 9, 3) := by decide +kernel
theorem d2_32 : decode method_2_code 32 = .ok (.iload_n 0, 1) := by decide +kernel
theorem d2_33 : decode method_2_code 33 = .ok (.bipush 8, 2) := by decide +kernel
theorem d2_35 : decode method_2_code 35 = .ok (.if_icmp .ne 7, 3) := by decide +kernel
theorem d2_38 : decode method_2_code 38 = .ok (.iconst 1, 1) := by decide +kernel
theorem d2_39 : decode method_2_code 39 = .ok (.goto 4, 3) := by decide +kernel
theorem d2_42 : decode method_2_code 42 = .ok (.iconst 0, 1) := by decide +kernel
theorem d2_43 : decode method_2_code 43 = .ok (.ireturn, 1) := by decide +kernel
set_option maxRecDepth 65536 in
set_option maxHeartbeats 40000000 in
theorem rm2 (l : Launch) (Z : State) (a0 : Array Value) (hw : ∀ d ∈ tables_1, d.before a0 Z = true) (ws : List Jvm.Cond) (p1 : Int32) (h0 : Heap)  :
    own_Met l (⟨"com/example/ryudo/ryudo/model/LcrReportIsUnsecuredFundingRowPinLaw", "documentedRow", "(I)Z"⟩ : MethodName) method_2_code 1 (some .boolean) ws ({ frames := 0, cells := 0, slots := 0, locals := 0 } : Room) Z #[(.int p1)] h0 (fun v h L => (((p1 = 2 ∨ p1 = 3 ∨ p1 = 4 ∨ p1 = 5 ∨ p1 = 6 ∨ p1 = 7 ∨ p1 = 8) ∧ v = some (.int (1 : Int32))) ∨ ((p1 ≠ 2 ∧ p1 ≠ 3 ∧ p1 ≠ 4 ∧ p1 ≠ 5 ∧ p1 ≠ 6 ∧ p1 ≠ 7 ∧ p1 ≠ 8) ∧ v = some (.int (0 : Int32)))) ∧ h = h0 ∧ L = []) := by
  refine MetFree.of_bodySF (plainFor_of_name (by first | (simp [plainName, overriddenIn]; done) | decide +kernel)) hisR ?_
  intro p e s m args below meth c s₁ Bd hml0 hP hK
  obtain ⟨rfl, hZ, hh⟩ := hP
  have hx := Bd.exec
  have hby := Bd.bytes
  have hml : c.maxLocals = 1 := hml0
  have hown : s.vm.findClass "com/example/ryudo/ryudo/model/LcrReportIsUnsecuredFundingRowPinLaw" = some m.cls := findClass_of_methodNamed Bd.named
  have hnm := (name_of_methodNamed Bd.named Bd.method).1
  have hlk : meth.locks = false := Bd.notSynchronized
  have hret := Bd.returns
  have X0 : Stand p l e ({ frames := 0, cells := 0, slots := 0, locals := 0 } : Room) s m #[(.int p1)] below meth c s₁ [] 0 0 := Stand.of_body Bd
  have e0 : s₁.heap = h0 := by rw [← hh, Bd.state]; rfl
  refine own_in (Q := fun v h L => (((p1 = 2 ∨ p1 = 3 ∨ p1 = 4 ∨ p1 = 5 ∨ p1 = 6 ∨ p1 = 7 ∨ p1 = 8) ∧ v = some (.int (1 : Int32))) ∨ ((p1 ≠ 2 ∧ p1 ≠ 3 ∧ p1 ≠ 4 ∧ p1 ≠ 5 ∧ p1 ≠ 6 ∧ p1 ≠ 7 ∧ p1 ≠ 8) ∧ v = some (.int (0 : Int32)))) ∧ h = h0 ∧ L = []) (ef := by first | (simp [entryFrame, mkF, argsToLocals, Value.category, maxLocals]; done) | rfl) (g' := (mkF m 0 #[.val (.int p1)] [])) ?_
  refine own_go (T' := s₁) (g' := (mkF m 1 #[.val (.int p1)] [(.int p1)])) (fun t q => XS.iloadN X0.here hx rfl (hb hby d2_0) rfl q) ?_
  refine own_go (T' := s₁) (g' := (mkF m 2 #[.val (.int p1)] [(.int (2 : Int32)), (.int p1)])) (fun t q => XS.iconst X0.here hx rfl (hb hby d2_1) q) ?_
  by_cases c1 : p1 = (2 : Int32)
  · refine own_go (T' := s₁) (g' := (mkF m 38 #[.val (.int p1)] [])) (fun t q => XS.icmpYes X0.here hx rfl (pc0 := 2) (pc' := 38) rfl (hb hby d2_2) rfl (teq c1).1 (by decide) (by decide) q) ?_
    refine own_go (T' := s₁) (g' := (mkF m 39 #[.val (.int p1)] [(.int (1 : Int32))])) (fun t q => XS.iconst X0.here hx rfl (hb hby d2_38) q) ?_
    refine own_go (T' := s₁) (g' := (mkF m 43 #[.val (.int p1)] [(.int (1 : Int32))])) (fun t q => XS.goto X0.here hx rfl (pc0 := 39) (pc' := 43) rfl (hb hby d2_39) (by decide) (by decide) q) ?_
    refine own_outN X0 hx hlk hret (t := .boolean) (by simp) (hb hby d2_43) (w := (1 : Int32)) (by decide) ?_ (by decide) (by decide)
    exact ⟨Or.inl ⟨Or.inl c1, rfl⟩, e0, rfl⟩
  · refine own_go (T' := s₁) (g' := (mkF m 5 #[.val (.int p1)] [])) (fun t q => XS.icmpNo X0.here hx rfl (hb hby d2_2) rfl (feq c1).1 q) ?_
    refine own_go (T' := s₁) (g' := (mkF m 6 #[.val (.int p1)] [(.int p1)])) (fun t q => XS.iloadN X0.here hx rfl (hb hby d2_5) rfl q) ?_
    refine own_go (T' := s₁) (g' := (mkF m 7 #[.val (.int p1)] [(.int (3 : Int32)), (.int p1)])) (fun t q => XS.iconst X0.here hx rfl (hb hby d2_6) q) ?_
    by_cases c2 : p1 = (3 : Int32)
    · refine own_go (T' := s₁) (g' := (mkF m 38 #[.val (.int p1)] [])) (fun t q => XS.icmpYes X0.here hx rfl (pc0 := 7) (pc' := 38) rfl (hb hby d2_7) rfl (teq c2).1 (by decide) (by decide) q) ?_
      refine own_go (T' := s₁) (g' := (mkF m 39 #[.val (.int p1)] [(.int (1 : Int32))])) (fun t q => XS.iconst X0.here hx rfl (hb hby d2_38) q) ?_
      refine own_go (T' := s₁) (g' := (mkF m 43 #[.val (.int p1)] [(.int (1 : Int32))])) (fun t q => XS.goto X0.here hx rfl (pc0 := 39) (pc' := 43) rfl (hb hby d2_39) (by decide) (by decide) q) ?_
      refine own_outN X0 hx hlk hret (t := .boolean) (by simp) (hb hby d2_43) (w := (1 : Int32)) (by decide) ?_ (by decide) (by decide)
      exact ⟨Or.inl ⟨Or.inr (Or.inl c2), rfl⟩, e0, rfl⟩
    · refine own_go (T' := s₁) (g' := (mkF m 10 #[.val (.int p1)] [])) (fun t q => XS.icmpNo X0.here hx rfl (hb hby d2_7) rfl (feq c2).1 q) ?_
      refine own_go (T' := s₁) (g' := (mkF m 11 #[.val (.int p1)] [(.int p1)])) (fun t q => XS.iloadN X0.here hx rfl (hb hby d2_10) rfl q) ?_
      refine own_go (T' := s₁) (g' := (mkF m 12 #[.val (.int p1)] [(.int (4 : Int32)), (.int p1)])) (fun t q => XS.iconst X0.here hx rfl (hb hby d2_11) q) ?_
      by_cases c3 : p1 = (4 : Int32)
      · refine own_go (T' := s₁) (g' := (mkF m 38 #[.val (.int p1)] [])) (fun t q => XS.icmpYes X0.here hx rfl (pc0 := 12) (pc' := 38) rfl (hb hby d2_12) rfl (teq c3).1 (by decide) (by decide) q) ?_
        refine own_go (T' := s₁) (g' := (mkF m 39 #[.val (.int p1)] [(.int (1 : Int32))])) (fun t q => XS.iconst X0.here hx rfl (hb hby d2_38) q) ?_
        refine own_go (T' := s₁) (g' := (mkF m 43 #[.val (.int p1)] [(.int (1 : Int32))])) (fun t q => XS.goto X0.here hx rfl (pc0 := 39) (pc' := 43) rfl (hb hby d2_39) (by decide) (by decide) q) ?_
        refine own_outN X0 hx hlk hret (t := .boolean) (by simp) (hb hby d2_43) (w := (1 : Int32)) (by decide) ?_ (by decide) (by decide)
        exact ⟨Or.inl ⟨Or.inr (Or.inr (Or.inl c3)), rfl⟩, e0, rfl⟩
      · refine own_go (T' := s₁) (g' := (mkF m 15 #[.val (.int p1)] [])) (fun t q => XS.icmpNo X0.here hx rfl (hb hby d2_12) rfl (feq c3).1 q) ?_
        refine own_go (T' := s₁) (g' := (mkF m 16 #[.val (.int p1)] [(.int p1)])) (fun t q => XS.iloadN X0.here hx rfl (hb hby d2_15) rfl q) ?_
        refine own_go (T' := s₁) (g' := (mkF m 17 #[.val (.int p1)] [(.int (5 : Int32)), (.int p1)])) (fun t q => XS.iconst X0.here hx rfl (hb hby d2_16) q) ?_
        by_cases c4 : p1 = (5 : Int32)
        · refine own_go (T' := s₁) (g' := (mkF m 38 #[.val (.int p1)] [])) (fun t q => XS.icmpYes X0.here hx rfl (pc0 := 17) (pc' := 38) rfl (hb hby d2_17) rfl (teq c4).1 (by decide) (by decide) q) ?_
          refine own_go (T' := s₁) (g' := (mkF m 39 #[.val (.int p1)] [(.int (1 : Int32))])) (fun t q => XS.iconst X0.here hx rfl (hb hby d2_38) q) ?_
          refine own_go (T' := s₁) (g' := (mkF m 43 #[.val (.int p1)] [(.int (1 : Int32))])) (fun t q => XS.goto X0.here hx rfl (pc0 := 39) (pc' := 43) rfl (hb hby d2_39) (by decide) (by decide) q) ?_
          refine own_outN X0 hx hlk hret (t := .boolean) (by simp) (hb hby d2_43) (w := (1 : Int32)) (by decide) ?_ (by decide) (by decide)
          exact ⟨Or.inl ⟨Or.inr (Or.inr (Or.inr (Or.inl c4))), rfl⟩, e0, rfl⟩
        · refine own_go (T' := s₁) (g' := (mkF m 20 #[.val (.int p1)] [])) (fun t q => XS.icmpNo X0.here hx rfl (hb hby d2_17) rfl (feq c4).1 q) ?_
          refine own_go (T' := s₁) (g' := (mkF m 21 #[.val (.int p1)] [(.int p1)])) (fun t q => XS.iloadN X0.here hx rfl (hb hby d2_20) rfl q) ?_
          refine own_go (T' := s₁) (g' := (mkF m 23 #[.val (.int p1)] [(.int (6 : Int32)), (.int p1)])) (fun t q => XS.bipush X0.here hx rfl (hb hby d2_21) q) ?_
          by_cases c5 : p1 = (6 : Int32)
          · refine own_go (T' := s₁) (g' := (mkF m 38 #[.val (.int p1)] [])) (fun t q => XS.icmpYes X0.here hx rfl (pc0 := 23) (pc' := 38) rfl (hb hby d2_23) rfl (teq c5).1 (by decide) (by decide) q) ?_
            refine own_go (T' := s₁) (g' := (mkF m 39 #[.val (.int p1)] [(.int (1 : Int32))])) (fun t q => XS.iconst X0.here hx rfl (hb hby d2_38) q) ?_
            refine own_go (T' := s₁) (g' := (mkF m 43 #[.val (.int p1)] [(.int (1 : Int32))])) (fun t q => XS.goto X0.here hx rfl (pc0 := 39) (pc' := 43) rfl (hb hby d2_39) (by decide) (by decide) q) ?_
            refine own_outN X0 hx hlk hret (t := .boolean) (by simp) (hb hby d2_43) (w := (1 : Int32)) (by decide) ?_ (by decide) (by decide)
            exact ⟨Or.inl ⟨Or.inr (Or.inr (Or.inr (Or.inr (Or.inl c5)))), rfl⟩, e0, rfl⟩
          · refine own_go (T' := s₁) (g' := (mkF m 26 #[.val (.int p1)] [])) (fun t q => XS.icmpNo X0.here hx rfl (hb hby d2_23) rfl (feq c5).1 q) ?_
            refine own_go (T' := s₁) (g' := (mkF m 27 #[.val (.int p1)] [(.int p1)])) (fun t q => XS.iloadN X0.here hx rfl (hb hby d2_26) rfl q) ?_
            refine own_go (T' := s₁) (g' := (mkF m 29 #[.val (.int p1)] [(.int (7 : Int32)), (.int p1)])) (fun t q => XS.bipush X0.here hx rfl (hb hby d2_27) q) ?_
            by_cases c6 : p1 = (7 : Int32)
            · refine own_go (T' := s₁) (g' := (mkF m 38 #[.val (.int p1)] [])) (fun t q => XS.icmpYes X0.here hx rfl (pc0 := 29) (pc' := 38) rfl (hb hby d2_29) rfl (teq c6).1 (by decide) (by decide) q) ?_
              refine own_go (T' := s₁) (g' := (mkF m 39 #[.val (.int p1)] [(.int (1 : Int32))])) (fun t q => XS.iconst X0.here hx rfl (hb hby d2_38) q) ?_
              refine own_go (T' := s₁) (g' := (mkF m 43 #[.val (.int p1)] [(.int (1 : Int32))])) (fun t q => XS.goto X0.here hx rfl (pc0 := 39) (pc' := 43) rfl (hb hby d2_39) (by decide) (by decide) q) ?_
              refine own_outN X0 hx hlk hret (t := .boolean) (by simp) (hb hby d2_43) (w := (1 : Int32)) (by decide) ?_ (by decide) (by decide)
              exact ⟨Or.inl ⟨Or.inr (Or.inr (Or.inr (Or.inr (Or.inr (Or.inl c6))))), rfl⟩, e0, rfl⟩
            · refine own_go (T' := s₁) (g' := (mkF m 32 #[.val (.int p1)] [])) (fun t q => XS.icmpNo X0.here hx rfl (hb hby d2_29) rfl (feq c6).1 q) ?_
              refine own_go (T' := s₁) (g' := (mkF m 33 #[.val (.int p1)] [(.int p1)])) (fun t q => XS.iloadN X0.here hx rfl (hb hby d2_32) rfl q) ?_
              refine own_go (T' := s₁) (g' := (mkF m 35 #[.val (.int p1)] [(.int (8 : Int32)), (.int p1)])) (fun t q => XS.bipush X0.here hx rfl (hb hby d2_33) q) ?_
              by_cases c7 : p1 = (8 : Int32)
              · refine own_go (T' := s₁) (g' := (mkF m 38 #[.val (.int p1)] [])) (fun t q => XS.icmpNo X0.here hx rfl (hb hby d2_35) rfl (teq c7).2 q) ?_
                refine own_go (T' := s₁) (g' := (mkF m 39 #[.val (.int p1)] [(.int (1 : Int32))])) (fun t q => XS.iconst X0.here hx rfl (hb hby d2_38) q) ?_
                refine own_go (T' := s₁) (g' := (mkF m 43 #[.val (.int p1)] [(.int (1 : Int32))])) (fun t q => XS.goto X0.here hx rfl (pc0 := 39) (pc' := 43) rfl (hb hby d2_39) (by decide) (by decide) q) ?_
                refine own_outN X0 hx hlk hret (t := .boolean) (by simp) (hb hby d2_43) (w := (1 : Int32)) (by decide) ?_ (by decide) (by decide)
                exact ⟨Or.inl ⟨Or.inr (Or.inr (Or.inr (Or.inr (Or.inr (Or.inr (c7)))))), rfl⟩, e0, rfl⟩
              · refine own_go (T' := s₁) (g' := (mkF m 42 #[.val (.int p1)] [])) (fun t q => XS.icmpYes X0.here hx rfl (pc0 := 35) (pc' := 42) rfl (hb hby d2_35) rfl (feq c7).2 (by decide) (by decide) q) ?_
                refine own_go (T' := s₁) (g' := (mkF m 43 #[.val (.int p1)] [(.int (0 : Int32))])) (fun t q => XS.iconst X0.here hx rfl (hb hby d2_42) q) ?_
                refine own_outN X0 hx hlk hret (t := .boolean) (by simp) (hb hby d2_43) (w := (0 : Int32)) (by decide) ?_ (by decide) (by decide)
                exact ⟨Or.inr ⟨⟨c1, c2, c3, c4, c5, c6, c7⟩, rfl⟩, e0, rfl⟩
theorem own_in_row {p1 : Int32} (h1 : ¬ p1 < 2) (h2 : ¬ 8 < p1) (h3 : p1 ≠ 2 ∧ p1 ≠ 3 ∧ p1 ≠ 4 ∧ p1 ≠ 5 ∧ p1 ≠ 6 ∧ p1 ≠ 7 ∧ p1 ≠ 8) : False := by
  obtain ⟨q2, q3, q4, q5, q6, q7, q8⟩ := h3
  have r2 : p1.toInt ≠ 2 := fun z => own_ne q2 (z.trans (by decide))
  have r3 : p1.toInt ≠ 3 := fun z => own_ne q3 (z.trans (by decide))
  have r4 : p1.toInt ≠ 4 := fun z => own_ne q4 (z.trans (by decide))
  have r5 : p1.toInt ≠ 5 := fun z => own_ne q5 (z.trans (by decide))
  have r6 : p1.toInt ≠ 6 := fun z => own_ne q6 (z.trans (by decide))
  have r7 : p1.toInt ≠ 7 := fun z => own_ne q7 (z.trans (by decide))
  have r8 : p1.toInt ≠ 8 := fun z => own_ne q8 (z.trans (by decide))
  rw [Int32.lt_iff_toInt_lt] at h1 h2
  have e2 : (2 : Int32).toInt = 2 := by decide
  have e8 : (8 : Int32).toInt = 8 := by decide
  omega
theorem own_out_row {p1 : Int32} (h1 : p1 < 2 ∨ 8 < p1) (h3 : p1 = 2 ∨ p1 = 3 ∨ p1 = 4 ∨ p1 = 5 ∨ p1 = 6 ∨ p1 = 7 ∨ p1 = 8) : False := by
  rcases h3 with rfl | rfl | rfl | rfl | rfl | rfl | rfl <;> revert h1 <;> decide
set_option maxRecDepth 65536 in
set_option maxHeartbeats 40000000 in
theorem rm0 (l : Launch) (Z : State) (a0 : Array Value) (hw : ∀ d ∈ tables_1, d.before a0 Z = true) (ws : List Jvm.Cond) (p1 : Int32) (h0 : Heap)  :
    own_Met l x code maxLocals ret ws room_1 Z #[(.int p1)] h0 (fun v _ L => v = some (.int (1 : Int32)) ∧ Fr h0.size L) := by
  refine MetFree.of_bodySF (plainFor_of_name (by first | (simp [plainName, overriddenIn]; done) | decide +kernel)) hisR ?_
  intro p e s m args below meth c s₁ Bd hml0 hP hK
  obtain ⟨rfl, hZ, hh⟩ := hP
  have hx := Bd.exec
  have hby := Bd.bytes
  have hml : c.maxLocals = 1 := hml0
  have hown : s.vm.findClass "com/example/ryudo/ryudo/model/LcrReportIsUnsecuredFundingRowPinLaw" = some m.cls := findClass_of_methodNamed Bd.named
  have hnm := (name_of_methodNamed Bd.named Bd.method).1
  have hlk : meth.locks = false := Bd.notSynchronized
  have hret := Bd.returns
  have X0 : Stand p l e room_1 s m #[(.int p1)] below meth c s₁ [] 0 0 := Stand.of_body Bd
  have e0 : s₁.heap = h0 := by rw [← hh, Bd.state]; rfl
  refine own_in (Q := fun v _ L => v = some (.int (1 : Int32)) ∧ Fr h0.size L) (ef := by first | (simp [entryFrame, mkF, argsToLocals, Value.category, maxLocals]; done) | rfl) (g' := (mkF m 0 #[.val (.int p1)] [])) ?_
  refine own_go (T' := s₁) (g' := (mkF m 1 #[.val (.int p1)] [(.int p1)])) (fun t q => XS.iloadN X0.here hx rfl (hb hby at_0) rfl q) ?_
  obtain ⟨v1, T1, L1, X1, Q1, st1⟩ := own_callS X0 hx hZ (y := (⟨"com/example/ryudo/ryudo/model/LcrReport", "isUnsecuredFundingRow", "(I)Z"⟩ : MethodName)) (argsL := [(.int p1)]) (rest := []) hown (hw _ (List.mem_of_getElem? (i := 0) rfl)) (hw _ (List.mem_of_getElem? (i := 1) rfl)) (hw _ (List.mem_of_getElem? (i := 2) rfl)) (hw _ (List.mem_of_getElem? (i := 3) rfl)) (rm1 l Z a0 hw [] p1 h0) e0 (by decide) (by decide) 0 (by decide) (by decide) (by decide) (g := (mkF m 1 #[.val (.int p1)] [(.int p1)])) rfl (by rw [hml]; rfl) (lenOf (ps := [.int]) (r := (some .boolean)) (by decide +kernel) rfl) rfl (by show 2 * 0 + _ ≤ _; exact Nat.le_of_eq rfl) (hb hby at_1)
  obtain ⟨Q1, e1, rfl⟩ := Q1
  rcases Q1 with ⟨hA, hB, rfl⟩ | ⟨hA, rfl⟩
  · refine own_go (T' := T1) (g' := (mkF m 4 #[.val (.int p1)] [(.int (1 : Int32))])) (fun t q => st1 t q) ?_
    refine own_go (T' := T1) (g' := (mkF m 5 #[.val (.int p1)] [(.int p1), (.int (1 : Int32))])) (fun t q => XS.iloadN X1.here hx rfl (hb hby at_4) rfl q) ?_
    obtain ⟨v2, T2, L2, X2, Q2, st2⟩ := own_callS X1 hx hZ (y := (⟨"com/example/ryudo/ryudo/model/LcrReportIsUnsecuredFundingRowPinLaw", "documentedRow", "(I)Z"⟩ : MethodName)) (argsL := [(.int p1)]) (rest := [(.int (1 : Int32))]) hown (hw _ (List.mem_of_getElem? (i := 4) rfl)) (hw _ (List.mem_of_getElem? (i := 5) rfl)) (hw _ (List.mem_of_getElem? (i := 6) rfl)) (hw _ (List.mem_of_getElem? (i := 7) rfl)) (rm2 l Z a0 hw [] p1 h0) e1 (by decide) (by decide) 1 (by decide) (by decide) (by decide) (g := (mkF m 5 #[.val (.int p1)] [(.int p1), (.int (1 : Int32))])) rfl (by rw [hml]; rfl) (lenOf (ps := [.int]) (r := (some .boolean)) (by decide +kernel) rfl) rfl (by show 2 * 0 + _ ≤ _; exact Nat.le_of_eq rfl) (hb hby at_5)
    obtain ⟨Q2, e2, rfl⟩ := Q2
    rcases Q2 with ⟨hD, rfl⟩ | ⟨hD, rfl⟩
    · refine own_go (T' := T2) (g' := (mkF m 8 #[.val (.int p1)] [(.int (1 : Int32)), (.int (1 : Int32))])) (fun t q => st2 t q) ?_
      have c3 : (1 : Int32) = (1 : Int32) := by decide
      refine own_go (T' := T2) (g' := (mkF m 11 #[.val (.int p1)] [])) (fun t q => XS.icmpNo X2.here hx rfl (hb hby at_8) rfl (teq c3).2 q) ?_
      refine own_go (T' := T2) (g' := (mkF m 12 #[.val (.int p1)] [(.int (1 : Int32))])) (fun t q => XS.iconst X2.here hx rfl (hb hby at_11) q) ?_
      refine own_go (T' := T2) (g' := (mkF m 16 #[.val (.int p1)] [(.int (1 : Int32))])) (fun t q => XS.goto X2.here hx rfl (pc0 := 12) (pc' := 16) rfl (hb hby at_12) (by decide) (by decide) q) ?_
      refine own_outN X2 hx hlk hret (t := .boolean) (by simp) (hb hby at_16) (w := (1 : Int32)) (by decide) ?_ (by decide) (by decide)
      exact ⟨rfl, Fr.nil _⟩
    · exact (own_in_row hA hB hD).elim
  · refine own_go (T' := T1) (g' := (mkF m 4 #[.val (.int p1)] [(.int (0 : Int32))])) (fun t q => st1 t q) ?_
    refine own_go (T' := T1) (g' := (mkF m 5 #[.val (.int p1)] [(.int p1), (.int (0 : Int32))])) (fun t q => XS.iloadN X1.here hx rfl (hb hby at_4) rfl q) ?_
    obtain ⟨v4, T4, L4, X4, Q4, st4⟩ := own_callS X1 hx hZ (y := (⟨"com/example/ryudo/ryudo/model/LcrReportIsUnsecuredFundingRowPinLaw", "documentedRow", "(I)Z"⟩ : MethodName)) (argsL := [(.int p1)]) (rest := [(.int (0 : Int32))]) hown (hw _ (List.mem_of_getElem? (i := 4) rfl)) (hw _ (List.mem_of_getElem? (i := 5) rfl)) (hw _ (List.mem_of_getElem? (i := 6) rfl)) (hw _ (List.mem_of_getElem? (i := 7) rfl)) (rm2 l Z a0 hw [] p1 h0) e1 (by decide) (by decide) 1 (by decide) (by decide) (by decide) (g := (mkF m 5 #[.val (.int p1)] [(.int p1), (.int (0 : Int32))])) rfl (by rw [hml]; rfl) (lenOf (ps := [.int]) (r := (some .boolean)) (by decide +kernel) rfl) rfl (by show 2 * 0 + _ ≤ _; exact Nat.le_of_eq rfl) (hb hby at_5)
    obtain ⟨Q4, e4, rfl⟩ := Q4
    rcases Q4 with ⟨hD, rfl⟩ | ⟨hD, rfl⟩
    · exact (own_out_row hA hD).elim
    · refine own_go (T' := T4) (g' := (mkF m 8 #[.val (.int p1)] [(.int (0 : Int32)), (.int (0 : Int32))])) (fun t q => st4 t q) ?_
      have c5 : (0 : Int32) = (0 : Int32) := by decide
      refine own_go (T' := T4) (g' := (mkF m 11 #[.val (.int p1)] [])) (fun t q => XS.icmpNo X4.here hx rfl (hb hby at_8) rfl (teq c5).2 q) ?_
      refine own_go (T' := T4) (g' := (mkF m 12 #[.val (.int p1)] [(.int (1 : Int32))])) (fun t q => XS.iconst X4.here hx rfl (hb hby at_11) q) ?_
      refine own_go (T' := T4) (g' := (mkF m 16 #[.val (.int p1)] [(.int (1 : Int32))])) (fun t q => XS.goto X4.here hx rfl (pc0 := 12) (pc' := 16) rfl (hb hby at_12) (by decide) (by decide) q) ?_
      refine own_outN X4 hx hlk hret (t := .boolean) (by simp) (hb hby at_16) (w := (1 : Int32)) (by decide) ?_ (by decide) (by decide)
      exact ⟨rfl, Fr.nil _⟩
set_option maxRecDepth 65536 in
set_option maxHeartbeats 40000000 in
theorem comes_1 {Post : Tables → Env → Array Value → State → Outcome → State → Prop} (hpost : ∀ tb e args s v u, (limb_1_1.after args s (.returned v) u = true ∧ limb_1_2.after args s (.returned v) u = true ∧ True) → FrameEnd s (.returned v) u (Jvm.fieldLocs frame_1_writes args s ++ Jvm.arrayLocs frame_1_arrays args s ++ Jvm.staticLocs frame_1_statics s) 0 0 → Post tb e args s (.returned v) u) :
    ArmFor flags0 classFile x code maxLocals ret World_1 tables_1 room_1 Calls_1 rest_1 Pre_1 Post := by
  intro l hfl _ _ p e ha hc hk s m args below hf hA hF happ hP
  obtain ⟨hcalls, hrest, hpre⟩ := hP
  obtain ⟨-, -, -, hnamed, -, -, -, hat⟩ := (Spec.applies_iff hf).mp happ
  obtain ⟨hg, hn⟩ := and_e (Cond.before_iff.mp (show (Jvm.Cond.and given_1 narrow_1).before args s = true from hpre))
  obtain ⟨h1, hg⟩ := and_e hg
  have g0 := hg
  obtain ⟨w0, rfl⟩ : ∃ w0 : Value, args = #[w0] := by
    have hs : args.size = 1 := by simpa [Cond.value, given_1] using h1
    obtain ⟨L⟩ := args
    match L, hs with
    | [w0], _ => exact ⟨w0, rfl⟩
  have hw := fun d (hd : d ∈ tables_1) => atoms_spec (ws := Jvm.Cond.code x code maxLocals ret :: tables_1) hat d (List.mem_cons_of_mem _ hd)
  have hfit : Fit s := fun {y c} hc i hi => by
    obtain ⟨ha, rfl⟩ := Array.getElem?_eq_some_iff.mp hc
    have q := List.all_eq_true.mp ((Array.all_eq_true_iff_forall_mem.mp hF) _ (Array.getElem_mem ha)) i (List.mem_range.mpr hi)
    simpa [Array.getElem?_eq_getElem hi] using q
  obtain ⟨i0, b0⟩ := is_v g0
  obtain rfl : w0 = (.int i0) := Option.some.inj b0
  obtain ⟨n, o, h1, h2, h3, _, L, rfl, ⟨rfl, N⟩, hq⟩ := rm0 l s _ hw tables_1 i0 s.heap p e ha hc hk s m _ below hf ((Spec.applies_iff_loose hf).mp happ).1 ⟨rfl, State.Warmed39.refl s, rfl⟩ trivial
  refine ⟨n, _, h1, h2, h3, hpost _ _ _ _ _ _ ⟨Cond.after_iff.mpr rfl, Cond.after_iff.mpr (eq_i res_at (Term.int_eval (1)) rfl), trivial⟩ ⟨hq.1, hq.2.1, (hq.2.2.sift fun y hy => Or.inr (N y hy)).mono (by decide) (by decide)⟩⟩
theorem main_1_1 : Claimed_1_1 := comes_1 fun _ _ _ _ _ _ h hF => ⟨h.1, hF⟩
theorem main_1_2 : Claimed_1_2 := comes_1 fun _ _ _ _ _ _ h hF => ⟨h.2.1, hF⟩
end Jvm.Pilot.@@N@@
namespace Jvm.Pilot.@@N@@
open Jvm Jvm.ClassFile Sem Op Lib Jvm.Free Jvm.Stand Jvm.Pilot.@@N@@.Jvm.D
/-! MADE BY PROGRAM (witnessworld.py) out of the Statement's table words and the real class files: 10 classes; the members and pool entries that the words name. The judged class is class 1, her method 2. -/
namespace start1
open Jvm.ClassFile
def u (s : String) : CpInfo := .utf8 (stringToUtf16 s)
/-- a pool by its gaps: so many unusable entries, then the entry; so many at the end -/
def gap : Nat → List CpInfo → List CpInfo
  | 0, r => r
  | n + 1, r => .unusable :: gap n r
def poolList (es : List (Nat × CpInfo)) (last : Nat) : List CpInfo := es.foldr (fun e r => gap e.1 (e.2 :: r)) (gap last [])
def pool (es : List (Nat × CpInfo)) (last : Nat) : Array CpInfo := ⟨poolList es last⟩
def fileOf (pool : Array CpInfo) (this : Nat) (attrs : Array Attribute := #[]) (ms : Array MethodInfo := #[]) (fl : Nat := 33) (sup : Nat := 0) (ifs : Array Nat := #[]) (fds : Array FieldInfo := #[]) : ClassFile where
  minorVersion := 0
  majorVersion := 65
  constantPool := pool
  accessFlags := fl
  thisClass := this
  superClass := sup
  interfaces := ifs
  fields := fds
  methods := ms
  attributes := attrs
def plain (name : String) (sup : Option ClassId) : Class where
  name := name
  kind := .ordinary
  loader := none
  accessFlags := 33
  super := sup
  interfaces := #[]
  cf := none
  fields := #[]
  methods := #[]
  instanceTypes := #[]
  staticTypes := #[]
  resolved := #[]
  callSites := []
  init := .initialized
  statics := none
  mirror := none

def pool0 : Array CpInfo := pool [(5, u "<init>"), (0, u "()V"), (1, .class_ 10), (1, u "java/lang/Object")] 113

def k0m0 : Method := { name := "<init>", desc := "()V", sig := { parameters := [], returnType := none }, accessFlags := 1, code := none }
/-- java/lang/Object -/
def k0 : Class := { plain "java/lang/Object" none with
  accessFlags := 33
  interfaces := #[]
  cf := some (fileOf pool0 8 #[] #[{ accessFlags := 1, nameIndex := 5, descriptorIndex := 6, attributes := #[] }] 33 0 #[] #[])
  fields := #[]
  methods := #[k0m0]
  instanceTypes := #[]
  staticTypes := #[]
  resolved := Array.replicate 124 none
  statics := none }

def pool1 : Array CpInfo := pool [(2, .class_ 4), (1, u "java/lang/Object"), (0, u "<init>"), (0, u "()V"), (0, .methodref 8 9), (0, .class_ 10), (0, .nameAndType 11 12), (0, u "com/example/ryudo/ryudo/model/LcrReport"), (0, u "isUnsecuredFundingRow"), (0, u "(I)Z"), (0, .methodref 14 15), (0, .class_ 16), (0, .nameAndType 17 12), (0, u "com/example/ryudo/ryudo/model/LcrReportIsUnsecuredFundingRowPinLaw"), (0, u "documentedRow"), (3, u "law")] 2

def k1m0 : Method := { name := "<init>", desc := "()V", sig := { parameters := [], returnType := none }, accessFlags := 2, code := none }
def k1c1 : Code := { maxStack := 2, maxLocals := 1, code := method_2_code, exceptionTable := #[], attributes := #[] }
def k1m1 : Method := { name := "documentedRow", desc := "(I)Z", sig := { parameters := [.int], returnType := some .boolean }, accessFlags := 10, code := some k1c1 }
def k1c2 : Code := { maxStack := 2, maxLocals := 1, code := code, exceptionTable := #[], attributes := #[] }
def k1m2 : Method := { name := "law", desc := "(I)Z", sig := { parameters := [.int], returnType := some .boolean }, accessFlags := 9, code := some k1c2 }
/-- com/example/ryudo/ryudo/model/LcrReportIsUnsecuredFundingRowPinLaw -/
def k1 : Class := { plain "com/example/ryudo/ryudo/model/LcrReportIsUnsecuredFundingRowPinLaw" (some 0) with
  accessFlags := 49
  interfaces := #[]
  cf := some (fileOf pool1 14 #[] #[{ accessFlags := 2, nameIndex := 5, descriptorIndex := 6, attributes := #[] }, { accessFlags := 10, nameIndex := 17, descriptorIndex := 12, attributes := #[] }, { accessFlags := 9, nameIndex := 21, descriptorIndex := 12, attributes := #[] }] 49 2 #[] #[])
  fields := #[]
  methods := #[k1m0, k1m1, k1m2]
  instanceTypes := #[]
  staticTypes := #[]
  resolved := Array.replicate 24 none
  statics := none }

def pool2 : Array CpInfo := pool [(2, .class_ 4), (1, u "java/lang/Object"), (0, u "<init>"), (0, u "()V"), (0, .class_ 8), (0, u "java/lang/Record")] 13

def k2m0 : Method := { name := "<init>", desc := "()V", sig := { parameters := [], returnType := none }, accessFlags := 4, code := none }
/-- java/lang/Record -/
def k2 : Class := { plain "java/lang/Record" (some 0) with
  accessFlags := 1057
  interfaces := #[]
  cf := some (fileOf pool2 7 #[] #[{ accessFlags := 4, nameIndex := 5, descriptorIndex := 6, attributes := #[] }] 1057 2 #[] #[])
  fields := #[]
  methods := #[k2m0]
  instanceTypes := #[]
  staticTypes := #[]
  resolved := Array.replicate 22 none
  statics := none }

def pool3 : Array CpInfo := pool [(2, .class_ 4), (1, u "java/lang/Record"), (30, .class_ 36), (0, u "com/example/ryudo/ryudo/model/LcrReport"), (5, u "baseDate"), (0, u "Ljava/time/LocalDate;"), (2, u "rows"), (0, u "Ljava/util/List;"), (2, u "foreignCurrencyLimits"), (2, u "valuationLookback"), (0, u "Lcom/example/ryudo/ryudo/model/ValuationLookback;"), (2, u "level2bCapAdjustment"), (0, u "Lcom/example/ryudo/ryudo/model/Rational;"), (2, u "level2CapAdjustment"), (2, u "AFTER_ONLY_ROWS"), (0, u "Ljava/util/Set;"), (22, u "SUMS"), (0, u "Ljava/util/Map;"), (70, u "LAST_ROW"), (0, u "I"), (2, u "RATIO_ROW"), (0, u "LIQUID_ASSETS_ROW"), (1, u "UNCAPPED_LIQUID_ASSETS_ROW"), (1, u "RETAIL_FUNDING_ROW"), (1, u "LAST_UNSECURED_FUNDING_ROW"), (1, u "OUTFLOWS_ROW"), (1, u "INFLOWS_ROW"), (1, u "NET_CASH_OUTFLOWS_ROW"), (14, u "(I)Z"), (1, u "isUnsecuredFundingRow")] 45

def k3c0 : Code := { maxStack := 2, maxLocals := 1, code := prog_78_method_4_code, exceptionTable := #[], attributes := #[] }
def k3m0 : Method := { name := "isUnsecuredFundingRow", desc := "(I)Z", sig := { parameters := [.int], returnType := some .boolean }, accessFlags := 8, code := some k3c0 }
/-- com/example/ryudo/ryudo/model/LcrReport -/
def k3 : Class := { plain "com/example/ryudo/ryudo/model/LcrReport" (some 2) with
  accessFlags := 49
  interfaces := #[]
  cf := some (fileOf pool3 35 #[] #[{ accessFlags := 8, nameIndex := 194, descriptorIndex := 192, attributes := #[] }] 49 2 #[] #[{ accessFlags := 18, nameIndex := 42, descriptorIndex := 43, attributes := #[] }, { accessFlags := 18, nameIndex := 46, descriptorIndex := 47, attributes := #[] }, { accessFlags := 18, nameIndex := 50, descriptorIndex := 47, attributes := #[] }, { accessFlags := 18, nameIndex := 53, descriptorIndex := 54, attributes := #[] }, { accessFlags := 18, nameIndex := 57, descriptorIndex := 58, attributes := #[] }, { accessFlags := 18, nameIndex := 61, descriptorIndex := 58, attributes := #[] }, { accessFlags := 25, nameIndex := 160, descriptorIndex := 161, attributes := #[] }, { accessFlags := 25, nameIndex := 164, descriptorIndex := 161, attributes := #[] }, { accessFlags := 25, nameIndex := 165, descriptorIndex := 161, attributes := #[] }, { accessFlags := 25, nameIndex := 167, descriptorIndex := 161, attributes := #[] }, { accessFlags := 24, nameIndex := 169, descriptorIndex := 161, attributes := #[] }, { accessFlags := 26, nameIndex := 171, descriptorIndex := 161, attributes := #[] }, { accessFlags := 25, nameIndex := 173, descriptorIndex := 161, attributes := #[] }, { accessFlags := 25, nameIndex := 175, descriptorIndex := 161, attributes := #[] }, { accessFlags := 25, nameIndex := 177, descriptorIndex := 161, attributes := #[] }, { accessFlags := 26, nameIndex := 64, descriptorIndex := 65, attributes := #[] }, { accessFlags := 26, nameIndex := 88, descriptorIndex := 89, attributes := #[] }])
  fields := #[{ name := "baseDate", type := (.object "java/time/LocalDate"), accessFlags := 18, slot := 0, constantValue := 0 }, { name := "rows", type := (.object "java/util/List"), accessFlags := 18, slot := 1, constantValue := 0 }, { name := "foreignCurrencyLimits", type := (.object "java/util/List"), accessFlags := 18, slot := 2, constantValue := 0 }, { name := "valuationLookback", type := (.object "com/example/ryudo/ryudo/model/ValuationLookback"), accessFlags := 18, slot := 3, constantValue := 0 }, { name := "level2bCapAdjustment", type := (.object "com/example/ryudo/ryudo/model/Rational"), accessFlags := 18, slot := 4, constantValue := 0 }, { name := "level2CapAdjustment", type := (.object "com/example/ryudo/ryudo/model/Rational"), accessFlags := 18, slot := 5, constantValue := 0 }, { name := "LAST_ROW", type := .int, accessFlags := 25, slot := 0, constantValue := 0 }, { name := "RATIO_ROW", type := .int, accessFlags := 25, slot := 1, constantValue := 0 }, { name := "LIQUID_ASSETS_ROW", type := .int, accessFlags := 25, slot := 2, constantValue := 0 }, { name := "UNCAPPED_LIQUID_ASSETS_ROW", type := .int, accessFlags := 25, slot := 3, constantValue := 0 }, { name := "RETAIL_FUNDING_ROW", type := .int, accessFlags := 24, slot := 4, constantValue := 0 }, { name := "LAST_UNSECURED_FUNDING_ROW", type := .int, accessFlags := 26, slot := 5, constantValue := 0 }, { name := "OUTFLOWS_ROW", type := .int, accessFlags := 25, slot := 6, constantValue := 0 }, { name := "INFLOWS_ROW", type := .int, accessFlags := 25, slot := 7, constantValue := 0 }, { name := "NET_CASH_OUTFLOWS_ROW", type := .int, accessFlags := 25, slot := 8, constantValue := 0 }, { name := "AFTER_ONLY_ROWS", type := (.object "java/util/Set"), accessFlags := 26, slot := 9, constantValue := 0 }, { name := "SUMS", type := (.object "java/util/Map"), accessFlags := 26, slot := 10, constantValue := 0 }]
  methods := #[k3m0]
  instanceTypes := #[(.object "java/time/LocalDate"), (.object "java/util/List"), (.object "java/util/List"), (.object "com/example/ryudo/ryudo/model/ValuationLookback"), (.object "com/example/ryudo/ryudo/model/Rational"), (.object "com/example/ryudo/ryudo/model/Rational")]
  staticTypes := #[.int, .int, .int, .int, .int, .int, .int, .int, .int, (.object "java/util/Set"), (.object "java/util/Map")]
  resolved := Array.replicate 240 none
  statics := none }

def pool4 : Array CpInfo := pool [(1, u "java/lang/Cloneable"), (0, .class_ 1), (0, u "java/lang/Object"), (0, .class_ 3)] 3

/-- java/lang/Cloneable -/
def k4 : Class := { plain "java/lang/Cloneable" (some 0) with
  accessFlags := 1537
  interfaces := #[]
  cf := some (fileOf pool4 2 #[] #[] 1537 4 #[] #[])
  fields := #[]
  methods := #[]
  instanceTypes := #[]
  staticTypes := #[]
  resolved := Array.replicate 8 none
  statics := none }

def pool5 : Array CpInfo := pool [(1, u "java/io/Serializable"), (0, .class_ 1), (0, u "java/lang/Object"), (0, .class_ 3)] 3

/-- java/io/Serializable -/
def k5 : Class := { plain "java/io/Serializable" (some 0) with
  accessFlags := 1537
  interfaces := #[]
  cf := some (fileOf pool5 2 #[] #[] 1537 4 #[] #[])
  fields := #[]
  methods := #[]
  instanceTypes := #[]
  staticTypes := #[]
  resolved := Array.replicate 8 none
  statics := none }

/-- the primitive byte -/
def k6 : Class := { plain "byte" none with kind := .primitive 'B', accessFlags := 0x411 }
/-- [B -/
def k7 : Class := { plain "[B" (some 0) with kind := .array 6 .byte, interfaces := #[4, 5], accessFlags := 1041 }

/-- the primitive int -/
def k8 : Class := { plain "int" none with kind := .primitive 'I', accessFlags := 0x411 }
/-- [I -/
def k9 : Class := { plain "[I" (some 0) with kind := .array 8 .int, interfaces := #[4, 5], accessFlags := 1041 }

def heap : Heap := #[]
def classes : Array Class := #[k0, k1, k2, k3, k4, k5, k6, k7, k8, k9]
def interned : List (Array UInt16 × Addr) := []
def slotsUsed : Nat := 0
def theMethod : MethodId := ⟨1, 2⟩
def args0 : Array Value := #[.int 5]
def aboutOver (below : List Frame) : State where
  vm := { classes := classes, interned := interned.toArray }
  heap := heap
  slotsUsed := slotsUsed
  threads := #[{ frames := .invoking theMethod args0 :: below }]
def below0 : List Frame := [.native { method := ⟨0, 0⟩, args := #[] }]
def about1 : State := aboutOver below0
def p0 : Program := .bare "" "" ""
def e0 : Env := launch0.env 0 0 0
theorem w_frames : about1.frames = Frame.invoking theMethod args0 :: below0 := rfl
set_option maxRecDepth 65536 in
theorem w_args : argsFit about1.vm theMethod args0 = true := by decide +kernel
set_option maxRecDepth 65536 in
theorem w_heap : heapFits about1 = true := by decide +kernel
set_option maxRecDepth 65536 in
theorem w_runnable : about1.curStatus? = some .runnable := by decide +kernel
set_option maxRecDepth 65536 in
theorem w_alone : about1.alone = true := by decide +kernel
set_option maxRecDepth 65536 in
theorem w_named : about1.methodNamed? x = some theMethod := by decide +kernel
set_option maxRecDepth 65536 in
theorem w_hears : about1.hears theMethod below0 = true := by decide +kernel
set_option maxRecDepth 65536 in
theorem w_ripe : about1.ripe theMethod args0 below0 = true := by decide +kernel
theorem w_running : about1.status = .running := rfl
set_option maxRecDepth 65536 in
theorem w_room : about1.hasRoom e0.platform room_1 = true :=
  launch0.hasRoom_least _ room_1 (by decide +kernel) (by decide +kernel) (by decide +kernel) (by decide +kernel) (by decide +kernel) (by decide +kernel)
theorem allAtoms_all (ts : List Jvm.Cond) (a : Array Jvm.Value) (st : Jvm.State) : (allAtoms ts).before a st = ts.all (fun c => c.before a st) := by
  induction ts with
  | nil => rfl
  | cons c t ih =>
    show (Jvm.Cond.and c (allAtoms t)).before a st = _
    rw [Jvm.Cond.before_and, ih, List.all_cons]
def words1 : List Jvm.Cond := Jvm.Cond.code x code maxLocals ret :: tables_1
/-- a 'code' word, met by the world's own term for the bytes: nothing is compared byte by byte -/
theorem code_word {y : MethodName} {bytes : ByteArray} {mx : Nat} {rt : Option FieldType} {a : Array Value} {s : State} {m : MethodId} {meth : Method} {c : Code} (h1 : s.methodNamed? y = some m) (h2 : s.vm.method? m = some meth) (h3 : meth.code = some c) (h4 : c.code = bytes)
    (h5 : (c.maxLocals == mx && c.exceptionTable.isEmpty && decide (c.maxStack ≤ mostOperands) && decide (meth.sig.returnType = rt) && !meth.locks && decide (parseMethodDescriptor y.desc = some meth.sig)) = true) : (Jvm.Cond.code y bytes mx rt).before a s = true := by
  simp only [Bool.and_eq_true, beq_iff_eq, Bool.not_eq_true', decide_eq_true_eq] at h5
  obtain ⟨⟨⟨⟨⟨g1, g2⟩, g3⟩, g4⟩, g5⟩, g6⟩ := h5
  simp [Cond.before, Cond.holds, Cond.value, h1, h2, h3, h4, g1, g2, g3, g4, g5, g6]
def isCode : Jvm.Cond → Bool
  | .code _ _ _ _ => true
  | _ => false
theorem all_split {L : List Jvm.Cond} {P : Jvm.Cond → Bool} (h1 : L.all (fun c => isCode c || P c) = true) (h2 : ∀ c ∈ L.filter isCode, P c = true) : L.all P = true := by
  refine List.all_eq_true.mpr fun c hc => ?_
  have h := List.all_eq_true.mp h1 c hc
  rcases Bool.eq_false_or_eq_true (isCode c) with hi | hi
  · exact h2 c (List.mem_filter.mpr ⟨hc, hi⟩)
  · simpa [hi] using h
set_option maxRecDepth 65536 in
theorem w_c0 : (Jvm.Cond.code x code maxLocals ret).before args0 about1 = true := code_word (m := ⟨1, 2⟩) (meth := k1m2) (c := k1c2) (by decide +kernel) rfl rfl rfl (by decide +kernel)
set_option maxRecDepth 65536 in
theorem w_c1 : (Jvm.Cond.code ({ cls := "com/example/ryudo/ryudo/model/LcrReport", name := "isUnsecuredFundingRow", desc := "(I)Z" } : Jvm.MethodName) prog_78_method_4_code (1 : Nat) (Option.some Jvm.ClassFile.FieldType.boolean)).before args0 about1 = true := code_word (m := ⟨3, 0⟩) (meth := k3m0) (c := k3c0) (by decide +kernel) rfl rfl rfl (by decide +kernel)
set_option maxRecDepth 65536 in
theorem w_c2 : (Jvm.Cond.code ({ cls := "com/example/ryudo/ryudo/model/LcrReportIsUnsecuredFundingRowPinLaw", name := "documentedRow", desc := "(I)Z" } : Jvm.MethodName) method_2_code (1 : Nat) (Option.some Jvm.ClassFile.FieldType.boolean)).before args0 about1 = true := code_word (m := ⟨1, 1⟩) (meth := k1m1) (c := k1c1) (by decide +kernel) rfl rfl rfl (by decide +kernel)
def codes1 : List Jvm.Cond := [Jvm.Cond.code x code maxLocals ret, Jvm.Cond.code ({ cls := "com/example/ryudo/ryudo/model/LcrReport", name := "isUnsecuredFundingRow", desc := "(I)Z" } : Jvm.MethodName) prog_78_method_4_code (1 : Nat) (Option.some Jvm.ClassFile.FieldType.boolean), Jvm.Cond.code ({ cls := "com/example/ryudo/ryudo/model/LcrReportIsUnsecuredFundingRowPinLaw", name := "documentedRow", desc := "(I)Z" } : Jvm.MethodName) method_2_code (1 : Nat) (Option.some Jvm.ClassFile.FieldType.boolean)]
set_option maxRecDepth 65536 in
theorem codes_eq : words1.filter isCode = codes1 := rfl
theorem w_codes : ∀ c ∈ words1.filter isCode, c.before args0 about1 = true := by
  rw [codes_eq]
  intro c hc
  simp only [codes1, List.mem_cons, List.not_mem_nil, or_false] at hc
  rcases hc with rfl | rfl | rfl
  · exact w_c0
  · exact w_c1
  · exact w_c2
set_option maxRecDepth 65536 in
theorem w_t1 : words1.all (fun c => isCode c || c.before args0 about1) = true := by decide +kernel
theorem w_tables : (allAtoms (Jvm.Cond.code x code maxLocals ret :: tables_1)).before args0 about1 = true := by
  rw [allAtoms_all]
  show words1.all (fun c => c.before args0 about1) = true
  refine all_split ?_ w_codes
  rw [w_t1]
set_option maxRecDepth 65536 in
theorem w_case : (Jvm.Cond.and given_1 narrow_1).before args0 about1 = true := by decide +kernel
theorem w_applies : (headSpec (Jvm.Cond.code x code maxLocals ret :: tables_1) room_1).applies x e0.platform about1 = true :=
  (Spec.applies_iff w_frames).mpr ⟨w_running, w_runnable, w_alone, w_named, w_hears, w_ripe, w_room, w_tables⟩
theorem atStart : AtStart classFile x code maxLocals ret World_1 tables_1 room_1 Calls_1 rest_1 Pre_1 launch0 p0 e0 about1 theMethod args0 below0 :=
  ⟨lists_1, trivial, launch0.admits_env _ _ _, launch0.least_env, fairChoices_fair.cas, fairChoices_fair.clock, w_frames, w_args, w_heap, w_applies, trivial, trivial, w_case⟩
end start1
theorem witness_1 : WitnessClaimed_1 := ⟨start1.p0, start1.e0, start1.about1, start1.theMethod, start1.args0, start1.below0, start1.atStart⟩
end Jvm.Pilot.@@N@@
