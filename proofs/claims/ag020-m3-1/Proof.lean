import JvmDerived
import JvmDerived.Pilot.@@N@@Statement
import JvmDerived.Pilot.@@N@@Code
set_option linter.unusedVariables false
set_option linter.unusedSimpArgs false
namespace Jvm.Pilot.@@N@@
open Jvm Jvm.ClassFile Sem Op Lib Jvm.Free Jvm.Stand Jvm.LawKit Jvm.RoadKit Bundle Jvm.Pilot.@@N@@.Jvm.D
/-! own_..: the walk in goal form: own_Go says that from a frame on the run comes to its end as the contract says; every step turns the goal for one frame into the goal for the next, so a branch is a case split and a join a 'have'. -/
def own_Post (s : State) (Q : Option Value → Heap → List Loc → Prop) (cs ss : Nat) (o : Outcome) (u : State) : Prop := ∃ v L, o = .returned v ∧ Q v u.heap L ∧ FrameEnd s o u L cs ss
def own_Go (p : Program) (e : Env) (below : List Frame) (Qf : Outcome → State → Prop) (T : State) (g : JFrame) : Prop := ∃ s₂ o, Steps p.tables e below (T.setTop g) s₂ ∧ s₂.status = .running ∧ Ended s₂ below o ∧ Qf o s₂
abbrev own_Met (l : Launch) (Z : State) (y : MethodName) (bytes : ByteArray) (maxL : Nat) (ret : Option FieldType) (ws : List Jvm.Cond) (rm : Room) (as' : Array Value) (h0 : Heap) (cs ss : Nat) (Q : Option Value → Heap → List Loc → Prop) : Prop :=
  MetFree l y (head1 (Jvm.Cond.code y bytes maxL ret :: ws) rm) (fun a U => a = as' ∧ Z.Warmed39 U.vm ∧ U.heap = h0) (fun _ _ _ _ _ => True) (fun _ U o U' => ∃ v L, o = .returned v ∧ Q v U'.heap L ∧ FrameEnd U o U' L cs ss)
def own_b (b : Bool) : Int32 := if b then 1 else 0
theorem own_b_t {b : Bool} (h : b = true) : own_b b = 1 := by subst h; rfl
theorem own_b_f {b : Bool} (h : ¬ b = true) : own_b b = 0 := by rw [Bool.eq_false_iff.mpr h]; rfl
theorem own_b_n {b : Bool} (h : b = true) : ¬ own_b b = 0 := by subst h; decide
theorem own_b_nar (b : Bool) : nar .boolean (own_b b) = own_b b := by cases b <;> rfl
theorem own_b_fits (b : Bool) : fits .boolean (.int (own_b b)) = true := by cases b <;> rfl
theorem own_b_inj {a b : Bool} (h : own_b a = own_b b) : a = b := by cases a <;> cases b <;> first | rfl | exact absurd h (by decide)
section Own
variable {p : Program} {l : Launch} {e : Env} {R : Room} {s : State} {m : MethodId} {args : Array Value} {below : List Frame} {meth : Method} {c : Code} {T T' : State} {locs : List Loc} {cells slots : Nat} {Z : State} {a0 : Array Value} {h : Heap}
theorem own_go {Qf : Outcome → State → Prop} {g g' : JFrame} (h : ∀ t, Steps p.tables e below (T'.setTop g') t → Steps p.tables e below (T.setTop g) t) (k : own_Go p e below Qf T' g') : own_Go p e below Qf T g := by
  obtain ⟨s₂, o, h1, h2⟩ := k
  exact ⟨s₂, o, h _ h1, h2⟩
theorem own_cast {Qf : Outcome → State → Prop} {g g' : JFrame} (q : g = g') (k : own_Go p e below Qf T g') : own_Go p e below Qf T g := q ▸ k
theorem own_met {y : MethodName} {bytes : ByteArray} {maxL : Nat} {ret : Option FieldType} {ws : List Jvm.Cond} {rm : Room} {as' : Array Value} {h0 : Heap} {cs ss : Nat} {Q : Option Value → Heap → List Loc → Prop} (hp : plainFor y = true)
    (body : ∀ (p : Program) (e : Env) (s : State) (m : MethodId) (below : List Frame) (meth : Method) (c : Code) (s₁ : State), BodyLoose p l y (head1 (Jvm.Cond.code y bytes maxL ret :: ws) rm) bytes maxL ret e s m as' below meth c s₁ → c.maxLocals = maxL → Z.Warmed39 s.vm →
      Stand p l e rm s m as' below meth c s₁ [] 0 0 → s₁.heap = h0 → own_Go p e below (own_Post s Q cs ss) s₁ (entryFrame m as' maxL)) : own_Met l Z y bytes maxL ret ws rm as' h0 cs ss Q := by
  refine MetFree.of_bodySF hp hisR ?_
  intro p e s m args below meth c s₁ Bd hml0 hP hK
  obtain ⟨rfl, hZ, hh⟩ := hP
  exact body p e s m below meth c s₁ Bd hml0 hZ (Stand.of_body Bd) (by rw [← hh, Bd.state]; rfl)
theorem own_retN (X : Stand p l e R s m args below meth c T locs cells slots) (hx : p.tables.exec = Jvm.exec) (t : FieldType) (hret : meth.sig.returnType = some t) (hlk : meth.locks = false) (ht : t = .boolean ∨ t = .byte ∨ t = .char ∨ t = .short) {pc : Nat} {Ls : Array Slot} {z : Int32} {rest : List Value} (hd : decode c.code pc = .ok (.ireturn, 1))
    {Q : Option Value → Heap → List Loc → Prop} {cs ss : Nat} (hc : cells ≤ cs) (hs : slots ≤ ss) (hQ : Q (some (.int (nar t z))) T.heap locs) : own_Go p e below (own_Post s Q cs ss) T (mkF m pc Ls (.int z :: rest)) := by
  obtain ⟨fs, hr, hrun, hended, hW, hsame⟩ := X.leave (v := some (.int (nar t z))) (fun h => by rw [hret] at h; cases h) hlk
  exact ⟨_, _, retN X hx hret ht hd hr, hrun, hended, _, _, rfl, hQ, ⟨_, rfl⟩, hW, hsame.mono hc hs⟩
theorem own_retI (X : Stand p l e R s m args below meth c T locs cells slots) (hx : p.tables.exec = Jvm.exec) (hret : meth.sig.returnType = some .int) (hlk : meth.locks = false) {pc : Nat} {Ls : Array Slot} {z : Int32} {rest : List Value} (hd : decode c.code pc = .ok (.ireturn, 1))
    {Q : Option Value → Heap → List Loc → Prop} {cs ss : Nat} (hc : cells ≤ cs) (hs : slots ≤ ss) (hQ : Q (some (.int z)) T.heap locs) : own_Go p e below (own_Post s Q cs ss) T (mkF m pc Ls (.int z :: rest)) := by
  obtain ⟨fs, hr, hrun, hended, hW, hsame⟩ := X.leave (v := some (.int z)) (fun h => by rw [hret] at h; cases h) hlk
  exact ⟨_, _, retOut X hx hret rfl (Or.inl ⟨rfl, Or.inl rfl, _, rfl⟩) hd hr, hrun, hended, _, _, rfl, hQ, ⟨_, rfl⟩, hW, hsame.mono hc hs⟩
theorem own_retJ (X : Stand p l e R s m args below meth c T locs cells slots) (hx : p.tables.exec = Jvm.exec) (hret : meth.sig.returnType = some .long) (hlk : meth.locks = false) {pc : Nat} {Ls : Array Slot} {z : Int64} {rest : List Value} (hd : decode c.code pc = .ok (.lreturn, 1))
    {Q : Option Value → Heap → List Loc → Prop} {cs ss : Nat} (hc : cells ≤ cs) (hs : slots ≤ ss) (hQ : Q (some (.long z)) T.heap locs) : own_Go p e below (own_Post s Q cs ss) T (mkF m pc Ls (.long z :: rest)) := by
  obtain ⟨fs, hr, hrun, hended, hW, hsame⟩ := X.leave (v := some (.long z)) (fun h => by rw [hret] at h; cases h) hlk
  exact ⟨_, _, retOut X hx hret rfl (Or.inr (Or.inl ⟨rfl, rfl, _, rfl⟩)) hd hr, hrun, hended, _, _, rfl, hQ, ⟨_, rfl⟩, hW, hsame.mono hc hs⟩
theorem own_retA (X : Stand p l e R s m args below meth c T locs cells slots) (hx : p.tables.exec = Jvm.exec) {t : FieldType} (hret : meth.sig.returnType = some t) (hlk : meth.locks = false) (ht : t.isReference = true) {pc : Nat} {Ls : Array Slot} {w : Value} {rest : List Value} (hw : w.isRef = true) (hd : decode c.code pc = .ok (.areturn, 1))
    {Q : Option Value → Heap → List Loc → Prop} {cs ss : Nat} (hc : cells ≤ cs) (hs : slots ≤ ss) (hQ : Q (some w) T.heap locs) : own_Go p e below (own_Post s Q cs ss) T (mkF m pc Ls (w :: rest)) := by
  obtain ⟨fs, hr, hrun, hended, hW, hsame⟩ := X.leave (v := some w) (fun h => by rw [hret] at h; cases h) hlk
  have hn : narrow t w = w := by rcases ref_cases hw with rfl | ⟨a, rfl⟩ <;> cases t <;> first | rfl | cases ht
  exact ⟨_, _, retOut X hx hret hn (Or.inr (Or.inr (Or.inr (Or.inr ⟨rfl, ht, hw⟩)))) hd hr, hrun, hended, _, _, rfl, hQ, ⟨_, rfl⟩, hW, hsame.mono hc hs⟩
theorem own_retV (X : Stand p l e R s m args below meth c T locs cells slots) (hx : p.tables.exec = Jvm.exec) (hret : meth.sig.returnType = none) (hlk : meth.locks = false) {pc : Nat} {Ls : Array Slot} (hd : decode c.code pc = .ok (.return_, 1))
    {Q : Option Value → Heap → List Loc → Prop} {cs ss : Nat} (hc : cells ≤ cs) (hs : slots ≤ ss) (hQ : Q none T.heap locs) : own_Go p e below (own_Post s Q cs ss) T (mkF m pc Ls []) := by
  obtain ⟨fs, hr, hrun, hended, hW, hsame⟩ := X.leave (v := none) (fun _ => rfl) hlk
  exact ⟨_, _, X.returnOut hx hret hd hr, hrun, hended, _, _, rfl, hQ, ⟨_, rfl⟩, hW, hsame.mono hc hs⟩
theorem own_callS (X : Stand p l e R s m args below meth c T locs cells slots) (hx : p.tables.exec = Jvm.exec) (hZ : Z.Warmed39 s.vm) {own : String} {index : Nat} {y : MethodName} {bytes : ByteArray} {maxL : Nat} {ret : Option FieldType} (hown : s.vm.findClass own = some m.cls)
    (w1 : (Jvm.Cond.methodLink own index y).before a0 Z = true) (w2 : (Jvm.Cond.static y).before a0 Z = true) (w3 : (Jvm.Cond.initialized y.cls).before a0 Z = true) (w4 : (Jvm.Cond.code y bytes maxL ret).before a0 Z = true)
    (hy : y.cls ≠ "java/lang/invoke/MethodHandle" ∧ y.cls ≠ "java/lang/invoke/VarHandle") {rm : Room} {argsL : List Value} {Q : Option Value → Heap → List Loc → Prop} (hM : own_Met l Z y bytes maxL ret [] rm argsL.toArray h rm.cells rm.slots Q) (eT : T.heap = h)
    {g : JFrame} (hg : g.method = m) (hsize : g.locals.size = c.maxLocals) {rest : List Value} (hlen : ∀ sig, parseMethodDescriptor y.desc = some sig → argsL.length = sig.parameters.length) (hstack : g.stack = argsL.reverse ++ rest)
    (hdg : decode c.code g.pc = .ok (.invokestatic index, 3)) {W : Nat} (hW : 2 * g.monitorRoom + (rest.map fun v => v.category).sum ≤ W) (hf : rm.frames + 1 ≤ R.frames) (hl : W + (maxL + 11) + rm.locals ≤ R.locals) (hc : cells + rm.cells ≤ R.cells) (hs : slots + rm.slots ≤ R.slots) :
    ∃ (v : Option Value) (T' : State) (L : List Loc), Q v T'.heap L ∧ Stand p l e R s m args below meth c T' (locs ++ L) (cells + rm.cells) (slots + rm.slots) ∧
      ∀ t, Steps p.tables e below (T'.setTop { g with pc := g.pc + 3, stack := v.toList ++ rest }) t → Steps p.tables e below (T.setTop g) t := by
  obtain ⟨v, _, ⟨T', L', k', n'⟩, -, X', ⟨L, hQ, l1, l2, l3⟩, st⟩ := Jvm.LawKit.callS X hx hown (mvT hZ w1) (mvT hZ w2) (mvT hZ w3) (mvT hZ w4) hy (backOf (W := W) hM hZ w4 w3 hf hl) hg hsize hlen hstack hW hdg (fun _ _ => ⟨rfl, eT, hc, hs⟩)
  dsimp only [Pt.U, Pt.locs, Pt.cells, Pt.slots] at X' l1 l2 l3 st hQ
  subst l1 l2 l3
  exact ⟨v, T', L, hQ, X', st⟩
theorem own_callI (X : Stand p l e R s m args below meth c T locs cells slots) (hx : p.tables.exec = Jvm.exec) (hZ : Z.Warmed39 s.vm) {own : String} {index : Nat} {y : MethodName} {bytes : ByteArray} {maxL : Nat} (hy1 : y.name = "<init>") (hown : s.vm.findClass own = some m.cls)
    (w1 : (Jvm.Cond.methodLink own index y).before a0 Z = true) (w2 : (Jvm.Cond.instanceMethod y).before a0 Z = true) (w3 : (Jvm.Cond.initialized y.cls).before a0 Z = true) (w4 : (Jvm.Cond.code y bytes maxL none).before a0 Z = true)
    (hy : y.cls ≠ "java/lang/invoke/MethodHandle" ∧ y.cls ≠ "java/lang/invoke/VarHandle") {rm : Room} {a : Addr} {argsL : List Value} {Q : Option Value → Heap → List Loc → Prop} (hM : own_Met l Z y bytes maxL none [] rm (.ref a :: argsL).toArray h rm.cells rm.slots Q) (eT : T.heap = h)
    {g : JFrame} (hg : g.method = m) (hsize : g.locals.size = c.maxLocals) {rest : List Value} (hlen : ∀ sig, parseMethodDescriptor y.desc = some sig → argsL.length = sig.parameters.length) (hstack : g.stack = argsL.reverse ++ .ref a :: rest)
    (hdg : decode c.code g.pc = .ok (.invokespecial index, 3)) {W : Nat} (hW : 2 * g.monitorRoom + (rest.map fun v => v.category).sum ≤ W) (hf : rm.frames + 1 ≤ R.frames) (hl : W + (maxL + 11) + rm.locals ≤ R.locals) (hc : cells + rm.cells ≤ R.cells) (hs : slots + rm.slots ≤ R.slots) :
    ∃ (v : Option Value) (T' : State) (L : List Loc), Q v T'.heap L ∧ Stand p l e R s m args below meth c T' (locs ++ L) (cells + rm.cells) (slots + rm.slots) ∧
      ∀ t, Steps p.tables e below (T'.setTop { g with pc := g.pc + 3, stack := v.toList ++ rest }) t → Steps p.tables e below (T.setTop g) t := by
  obtain ⟨v, _, ⟨T', L', k', n'⟩, -, X', ⟨L, hQ, l1, l2, l3⟩, st⟩ := X.specialBack hx hy1 hown (mvT hZ w1) (mvT hZ w2) (mvT hZ w4) hy (backOf (W := W) hM hZ w4 w3 hf hl) hg hsize (Steps.refl _) hlen hstack hW hdg (fun _ _ => ⟨rfl, eT, hc, hs⟩)
  dsimp only [Pt.U, Pt.locs, Pt.cells, Pt.slots] at X' l1 l2 l3 st hQ
  subst l1 l2 l3
  exact ⟨v, T', L, hQ, X', fun _ k => st.trans k⟩
theorem own_callV (X : Stand p l e R s m args below meth c T locs cells slots) (hx : p.tables.exec = Jvm.exec) (hZ : Z.Warmed39 s.vm) {own C : String} {index : Nat} {y z : MethodName} {bytes : ByteArray} {maxL : Nat} {ret : Option FieldType} (hown : s.vm.findClass own = some m.cls)
    (w1 : (Jvm.Cond.methodLink own index y).before a0 Z = true) (w2 : (Jvm.Cond.declares y).before a0 Z = true) (hnf : NotFace s y) (ws : (Jvm.Cond.selects C y z).before a0 Z = true) (wi : (Jvm.Cond.instanceMethod z).before a0 Z = true) (w3 : (Jvm.Cond.initialized z.cls).before a0 Z = true) (w4 : (Jvm.Cond.code z bytes maxL ret).before a0 Z = true)
    (hy : y.cls ≠ "java/lang/invoke/MethodHandle" ∧ y.cls ≠ "java/lang/invoke/VarHandle") {rm : Room} {a : Addr} {argsL : List Value} {Q : Option Value → Heap → List Loc → Prop} (hM : own_Met l Z z bytes maxL ret [] rm (.ref a :: argsL).toArray h rm.cells rm.slots Q) (eT : T.heap = h) (E : Exa Z h a C)
    {g : JFrame} (hg : g.method = m) (hsize : g.locals.size = c.maxLocals) {rest : List Value} (hlen : ∀ sig, parseMethodDescriptor y.desc = some sig → argsL.length = sig.parameters.length) (hstack : g.stack = argsL.reverse ++ .ref a :: rest)
    (hdg : decode c.code g.pc = .ok (.invokevirtual index, 3)) {W : Nat} (hW : 2 * g.monitorRoom + (rest.map fun v => v.category).sum ≤ W) (hf : rm.frames + 1 ≤ R.frames) (hl : W + (maxL + 11) + rm.locals ≤ R.locals) (hc : cells + rm.cells ≤ R.cells) (hs : slots + rm.slots ≤ R.slots) :
    ∃ (v : Option Value) (T' : State) (L : List Loc), Q v T'.heap L ∧ Stand p l e R s m args below meth c T' (locs ++ L) (cells + rm.cells) (slots + rm.slots) ∧
      ∀ t, Steps p.tables e below (T'.setTop { g with pc := g.pc + 3, stack := v.toList ++ rest }) t → Steps p.tables e below (T.setTop g) t := by
  obtain ⟨cq, kq, qa, qb, qc⟩ := isOf hZ eT E
  obtain ⟨v, _, ⟨T', L', k', n'⟩, -, X', ⟨L, hQ, l1, l2, l3⟩, st⟩ := X.virtualBack hx hown (mvT hZ w1) (mvT hZ w2) hnf (mvT hZ ws) (mvT hZ wi) hy (backOf (W := W) hM hZ w4 w3 hf hl) qa qc hg hsize (Steps.refl _) hlen hstack hW hdg (fun _ _ => ⟨rfl, eT, hc, hs⟩)
  dsimp only [Pt.U, Pt.locs, Pt.cells, Pt.slots] at X' l1 l2 l3 st hQ
  subst l1 l2 l3
  exact ⟨v, T', L, hQ, X', fun _ k => st.trans k⟩
theorem own_irem {g : JFrame} {target : State} (X : Stand p l e R s m args below meth c T locs cells slots) (hx : p.tables.exec = Jvm.exec) (hg : g.method = m) {x y : Int32} {rest : List Value} (hd : decode c.code g.pc = .ok (.irem, 1)) (hs : g.stack = .int y :: .int x :: rest) (hy : y ≠ 0)
    (hr : Steps p.tables e below (T.setTop { g with pc := g.pc + 1, stack := .int (x % y) :: rest }) target) : Steps p.tables e below (T.setTop g) target := iremM X hx hg hd hs hy hr
theorem own_lrem {g : JFrame} {target : State} (X : Stand p l e R s m args below meth c T locs cells slots) (hx : p.tables.exec = Jvm.exec) (hg : g.method = m) {x y : Int64} {rest : List Value} (hd : decode c.code g.pc = .ok (.lrem, 1)) (hs : g.stack = .long y :: .long x :: rest) (hy : y ≠ 0)
    (hr : Steps p.tables e below (T.setTop { g with pc := g.pc + 1, stack := .long (x % y) :: rest }) target) : Steps p.tables e below (T.setTop g) target :=
  XS.lrem X.here hx hg hd hs hy (by rw [lrem_mod]; exact hr)
theorem own_fldJ {t : Term} {C n d : String} {a : Addr} {z : Int64} (ht : t.eval args s none [] s = some (.ref a)) (q : (Jvm.Cond.eq (.field t C n d) (.long z)).value args s none s [] = some true) : Fld s s.heap a C n d (.long z) := by
  obtain ⟨x, y, ha, hb, -, k2⟩ := cmp_v (Or.inl q)
  obtain rfl : y = .long z := Option.some.inj (hb.symm.trans (long_at z))
  obtain ⟨w, rfl⟩ := k2
  have e : w = z := gotT (eq_L ha hb) q
  subst e
  exact Fld.start ((fld_at ht).symm.trans ha)
theorem own_staI {C n d : String} {z : Int32} (q : (Jvm.Cond.eq (.static C n d) (.int z)).value args s none s [] = some true) (hi : (Jvm.Cond.initializedFor C n d).before args s = true ∨ ((Jvm.Cond.initialized C).before args s = true ∧ (Jvm.Cond.laysStatic C n d).before args s = true)) : Sta s s.heap C n d (.int z) := by
  obtain ⟨x, y, ha, hb, -, k2⟩ := cmp_v (Or.inl q)
  obtain rfl : y = .int z := Option.some.inj (hb.symm.trans (Term.int_eval z))
  obtain ⟨w, rfl⟩ := k2
  have e : w = z := gotT (Cond.eq_ints ha hb) q
  subst e
  exact Sta.start ha hi
theorem own_ns_exa {a : Addr} {C : String} (E : Exa Z h a C) : ∃ c : Cell, h[a]? = some c ∧ c.vm.isStatics = false := by
  obtain ⟨c, k, h1, -, -, h4, -⟩ := E
  exact ⟨c, h1, h4⟩
theorem own_ns_arv {a : Addr} {k : ClassId} {ty : FieldType} {z : Int32} {vs : List Value} {dv : Value} (F : Arv Z h a k ty z vs dv) : ∃ c : Cell, h[a]? = some c ∧ c.vm.isStatics = false := by
  obtain ⟨c, A, -⟩ := F
  exact ⟨c, A.1, A.plain⟩
theorem own_sta_keep {h' : Heap} {C n d : String} {w : Value} {ws : List Addr} (F : Sta Z h C n d w) (K : Keep h h' ws) (hn : ∀ x ∈ ws, ∃ c : Cell, h[x]? = some c ∧ c.vm.isStatics = false) : Sta Z h' C n d w := by
  obtain ⟨cf, i, k, f, st, cell, h1, h2, h3, h4, h5, h6, h7⟩ := F
  exact ⟨cf, i, k, f, st, cell, h1, h2, h3, h4, K.2.1 st cell h5 (fun q => by obtain ⟨c, e1, e2⟩ := hn st q; cases h5.symm.trans e1; rw [e2] at h6; cases h6), h6, h7⟩
end Own
section OwnS
variable {Z s : State} {a0 args : Array Value}
theorem own_ns_root {O K : String} {n : Nat} (w : (Jvm.Cond.noSuperclass O).before a0 Z = true) (wk : (Jvm.Cond.instantiable K n).before a0 Z = true) (hn : O ≠ K) : NS Z O K := by
  obtain ⟨c, k, h1, h2, h3, -, -⟩ := Cond.noSuperclass_spec w
  obtain ⟨t, k2, g1, -⟩ := Cond.instantiable_spec wk
  have ne := ids_ne h1 g1 hn
  refine ⟨c, t, h1, g1, fun fuel => ?_⟩
  cases fuel with
  | zero => rfl
  | succ f => simp [Vm.isSubclassAux, ne, h2, h3]
theorem own_ns_no {C S K : String} {n : Nat} (w : (Jvm.Cond.superclass C S).before a0 Z = true) (wk : (Jvm.Cond.instantiable K n).before a0 Z = true) (n : NS Z C K) (hn : C ≠ K) : ∃ c t, Z.vm.findClass C = some c ∧ Z.vm.findClass K = some t ∧ Z.vm.assignable c t = false := by
  obtain ⟨c, t, h0, g0, n3⟩ := n
  obtain ⟨p, k, kp, h1, h2, h3, h4, h5, -, h7⟩ := Cond.superclass_spec h0 w
  obtain ⟨t', k', g1, g2, g5, g6, -⟩ := Cond.instantiable_spec wk
  cases g0.symm.trans g1
  have g7 : k'.isInterface = false := by
    cases q : k'.isInterface
    · rfl
    · rw [q] at g6; cases g6
  have ne := ids_ne h0 g0 hn
  refine ⟨c, t, h0, g0, ?_⟩
  show Z.vm.assignableAux (255 + 1) c t = false
  simp [Vm.assignableAux, ne, h2, g2, h5, g5, g7, Vm.isSubclass, n3]
theorem own_cache {t : Term} {d : Jvm.Cond} (h4 : (Jvm.Cond.arrayOf t (.object "java/lang/Integer")).before args s = true) (h6 : (Jvm.Cond.eq (.length t) (.int 256)).before args s = true)
    (h7 : (Jvm.Cond.all t (.and (.exactly (.elem t (.index 0)) "java/lang/Integer") d)).before args s = true) (hst : ∀ idx, t.eval args s none idx s = t.eval args s none [] s) :
    ∃ (ca : Addr) (cl : Cell), t.eval args s none [] s = some (.ref ca) ∧ Arr s s.heap ca cl (.object "java/lang/Integer") ∧ cl.slots.size = 256 ∧ ∀ j, j < 256 → ∃ a, cl.slots[j]? = some (.ref a) ∧ Exa s s.heap a "java/lang/Integer" := by
  have h4' := Cond.before_iff.mp h4
  have h6' := Cond.before_iff.mp h6
  have h7' := Cond.before_iff.mp h7
  obtain ⟨ca, hca⟩ := arr_v h4'
  obtain ⟨cl, A⟩ := Arr.start hca h4'
  have hat := A.fin (Vm.Alike.refl _)
  have hsz : cl.slots.size = 256 := by
    obtain ⟨x, y, ha, hb, -, k2⟩ := cmp_v (Or.inl h6')
    obtain rfl : y = .int 256 := Option.some.inj (hb.symm.trans (Term.int_eval 256))
    obtain ⟨w, rfl⟩ := k2
    have hw : w = 256 := gotT (Cond.eq_ints ha hb) h6'
    subst hw
    by_cases hl : cl.slots.size < 2 ^ 31
    · have e := Option.some.inj ((len_f hca hat hl).symm.trans ha)
      have e1 : cl.slots.size.toInt32 = 256 := Value.int.inj e
      have e2 : cl.slots.size.toInt32.toInt = cl.slots.size := len_toInt hl
      rw [e1] at e2
      have : (256 : Int32).toInt = 256 := by decide
      omega
    · simp [Term.eval, hca, hat, hl] at ha
  refine ⟨ca, cl, hca, A, hsz, fun j hj => ?_⟩
  have hi : (Term.index 0).eval args s none [j] s = some (.int j.toInt32) := Term.index_eval _
  obtain ⟨g1, -⟩ := and_e (Cond.all_elim hca hat h7' j (by omega))
  obtain ⟨a, ha⟩ := exa_v g1
  have hk : j.toInt32.toNatClampNeg = j := by
    have : j.toInt32.toInt = j := len_toInt (by omega)
    simp only [Int32.toNatClampNeg, this]; omega
  have q := elem_in ha ((hst [j]).trans hca) hi A.1
  rw [hk] at q
  exact ⟨a, q.2, exa_at ha g1⟩
end OwnS
def own_min (a b : Int64) : Int64 := if b < a then b else a
theorem own_min_i (a b : Int64) : (own_min a b).toInt = if b.toInt < a.toInt then b.toInt else a.toInt := by
  unfold own_min
  by_cases h : b < a
  · rw [if_pos h, if_pos (Int64.lt_iff_toInt_lt.mp h)]
  · rw [if_neg h, if_neg (fun q => h (Int64.lt_iff_toInt_lt.mpr q))]
theorem own_l2i {x : Int64} (h : -2147483648 ≤ x.toInt ∧ x.toInt < 2147483648) : x.toInt32.toInt = x.toInt := by
  have h1 := c_l2i x
  have h2 := rng32 x.toInt32
  omega
theorem own_mx (x : Int32) (y : Int32) (h : y = x &&& (3 : Int32)) : ((1 : Int32) <<< (((1 : Int32) + y) &&& 31)) - (1 : Int32) = 1 ∨ ((1 : Int32) <<< (((1 : Int32) + y) &&& 31)) - (1 : Int32) = 3 ∨ ((1 : Int32) <<< (((1 : Int32) + y) &&& 31)) - (1 : Int32) = 7 ∨ ((1 : Int32) <<< (((1 : Int32) + y) &&& 31)) - (1 : Int32) = 15 := by
  have h1 := c_mask x (3 : Int32) 2 (by decide) (by decide)
  rw [← h] at h1
  have h2 : y = 0 ∨ y = 1 ∨ y = 2 ∨ y = 3 := by
    simp only [← Int32.toInt_inj, Int32.reduceToInt]
    omega
  rcases h2 with rfl | rfl | rfl | rfl
  · exact Or.inl (by decide)
  · exact Or.inr (Or.inl (by decide))
  · exact Or.inr (Or.inr (Or.inl (by decide)))
  · exact Or.inr (Or.inr (Or.inr (by decide)))
theorem own_cells (c : Int64) : 1 ≤ ((1 : Int64) + (c &&& (17179869183 : Int64))).toInt ∧ ((1 : Int64) + (c &&& (17179869183 : Int64))).toInt ≤ 17179869184 := by
  have h1 := c_maskL c (17179869183 : Int64) 34 (by decide) (by decide)
  have h2 := c_ladd (1 : Int64) (c &&& (17179869183 : Int64))
  have h3 : (1 : Int64).toInt = 1 := by decide
  have h4 := rng64 ((1 : Int64) + (c &&& (17179869183 : Int64)))
  rw [h3] at h2
  omega
theorem own_h0 (x : Int32) : 1 ≤ ((1 : Int64) + (x &&& (63 : Int32)).toInt64).toInt ∧ ((1 : Int64) + (x &&& (63 : Int32)).toInt64).toInt ≤ 64 := by
  have h1 := c_mask x (63 : Int32) 6 (by decide) (by decide)
  have h2 := c_ladd (1 : Int64) (x &&& (63 : Int32)).toInt64
  have h3 : (1 : Int64).toInt = 1 := by decide
  rw [h3, c_i2l] at h2
  have h4 := rng64 ((1 : Int64) + (x &&& (63 : Int32)).toInt64)
  omega
theorem own_d0 (c : Int64) : 0 ≤ ((c.toUInt64 >>> ((34 : Int32) &&& 0x3f).toInt64.toUInt64).toInt64).toInt ∧ ((c.toUInt64 >>> ((34 : Int32) &&& 0x3f).toInt64.toUInt64).toInt64).toInt ≤ 1073741823 := by
  have h1 := c_lushr c (34 : Int32) 34 (by decide) (by decide)
  rw [h1]
  simp only [Nat.reducePow, Int.cast_ofNat_Int]
  omega
theorem own_hs {a b : Int64} (ha : 1 ≤ a.toInt ∧ a.toInt ≤ 64) (hb : 1 ≤ b.toInt ∧ b.toInt ≤ 17179869184) : 1 ≤ (own_min a b).toInt32.toInt ∧ (own_min a b).toInt32.toInt ≤ 64 ∧ (own_min a b).toInt32.toInt ≤ b.toInt := by
  have h1 := own_min_i a b
  have h2 : -2147483648 ≤ (own_min a b).toInt ∧ (own_min a b).toInt < 2147483648 := by rw [h1]; split <;> omega
  rw [own_l2i h2, h1]
  split <;> omega
theorem own_ds {a b : Int64} (ha : 0 ≤ a.toInt ∧ a.toInt ≤ 1073741823) (hb : 1 ≤ b.toInt ∧ b.toInt ≤ 17179869184) : 0 ≤ (own_min a b).toInt32.toInt ∧ (own_min a b).toInt32.toInt ≤ 1073741823 ∧ (own_min a b).toInt32.toInt ≤ b.toInt := by
  have h1 := own_min_i a b
  have h2 : -2147483648 ≤ (own_min a b).toInt ∧ (own_min a b).toInt < 2147483648 := by rw [h1]; split <;> omega
  rw [own_l2i h2, h1]
  split <;> omega
theorem d1_0 : decode jdk_29_method_70_code 0 = .ok (.lload_n 0, 1) := by decide +kernel
theorem d1_1 : decode jdk_29_method_70_code 1 = .ok (.lload_n 2, 1) := by decide +kernel
theorem d1_2 : decode jdk_29_method_70_code 2 = .ok (.lcmp, 1) := by decide +kernel
theorem d1_3 : decode jdk_29_method_70_code 3 = .ok (.ifCond .gt 7, 3) := by decide +kernel
theorem d1_6 : decode jdk_29_method_70_code 6 = .ok (.lload_n 0, 1) := by decide +kernel
theorem d1_7 : decode jdk_29_method_70_code 7 = .ok (.goto 4, 3) := by decide +kernel
theorem d1_10 : decode jdk_29_method_70_code 10 = .ok (.lload_n 2, 1) := by decide +kernel
theorem d1_11 : decode jdk_29_method_70_code 11 = .ok (.lreturn, 1) := by decide +kernel
theorem ef_rm1 (m : MethodId) (q0 : Int64) (q1 : Int64) : entryFrame m #[(.long q0), (.long q1)] 4 = mkF m 0 #[.val (.long q0), .second, .val (.long q1), .second] [] := by first | (simp [entryFrame, mkF, argsToLocals, Value.category]; done) | rfl
set_option maxRecDepth 65536 in
set_option maxHeartbeats 40000000 in
theorem rm1 (l : Launch) (Z : State) (a0 : Array Value) (hw : ∀ d ∈ tables_1, d.before a0 Z = true) (q0 : Int64) (q1 : Int64)  (h0 : Heap) :
    own_Met l Z (⟨"java/lang/Math", "min", "(JJ)J"⟩ : MethodName) jdk_29_method_70_code 4 (some .long) [] ({ frames := 0, cells := 0, slots := 0, locals := 0 } : Room) #[(.long q0), (.long q1)] h0 0 0 (fun v h L => v = some (.long (own_min q0 q1)) ∧ h = h0 ∧ L = []) := by
  refine own_met (Jvm.Free.JP.mathPlain rfl (by decide +kernel)) ?_
  intro p e s m below meth c s₁ Bd hml0 hZ X0 e0
  have hx := Bd.exec
  have hby := Bd.bytes
  have hml : c.maxLocals = 4 := hml0
  have hown : s.vm.findClass "java/lang/Math" = some m.cls := findClass_of_methodNamed Bd.named
  have hnm := (name_of_methodNamed Bd.named Bd.method).1
  refine own_cast (ef_rm1 m q0 q1) ?_
  generalize hQQ : (fun (v : Option Value) (h : Heap) (L : List Loc) => v = some (.long (own_min q0 q1)) ∧ h = h0 ∧ L = []) = QQ
  refine own_go (g' := (mkF m 1 #[.val (.long q0), .second, .val (.long q1), .second] [(.long q0)])) (fun _ kgo => XS.lloadN X0.here hx rfl (hb hby d1_0) rfl kgo) ?_
  refine own_go (g' := (mkF m 2 #[.val (.long q0), .second, .val (.long q1), .second] [(.long q1), (.long q0)])) (fun _ kgo => XS.lloadN X0.here hx rfl (hb hby d1_1) rfl kgo) ?_
  refine own_go (g' := (mkF m 3 #[.val (.long q0), .second, .val (.long q1), .second] [(.int (lcmpW q0 q1))])) (fun _ kgo => XS.lcmp X0.here hx rfl (hb hby d1_2) rfl kgo) ?_
  by_cases hc1 : q1 < q0
  ·
    refine own_go (g' := (mkF m 10 #[.val (.long q0), .second, .val (.long q1), .second] [])) (fun _ kgo => XS.ifYes X0.here hx rfl (pc0 := 3) (pc' := 10) rfl (hb hby d1_3) rfl ((if0 _ _).trans (tlt ((lw_gt _ _).mpr hc1)).2.2.1) (by decide) (by decide) kgo) ?_
    refine own_go (g' := (mkF m 11 #[.val (.long q0), .second, .val (.long q1), .second] [(.long q1)])) (fun _ kgo => XS.lloadN X0.here hx rfl (hb hby d1_10) rfl kgo) ?_
    refine own_retJ X0 hx Bd.returns Bd.notSynchronized (hb hby d1_11) (by decide) (by decide) ?_
    show QQ _ s₁.heap _
    rw [e0]
    rw [← hQQ]
    exact ⟨by rw [show own_min q0 q1 = q1 from if_pos hc1], rfl, rfl⟩
  ·
    refine own_go (g' := (mkF m 6 #[.val (.long q0), .second, .val (.long q1), .second] [])) (fun _ kgo => XS.ifNo X0.here hx rfl (hb hby d1_3) rfl ((if0 _ _).trans (flt (mt (lw_gt _ _).mp hc1)).2.2.1) kgo) ?_
    refine own_go (g' := (mkF m 7 #[.val (.long q0), .second, .val (.long q1), .second] [(.long q0)])) (fun _ kgo => XS.lloadN X0.here hx rfl (hb hby d1_6) rfl kgo) ?_
    refine own_go (g' := (mkF m 11 #[.val (.long q0), .second, .val (.long q1), .second] [(.long q0)])) (fun _ kgo => XS.goto X0.here hx rfl (pc0 := 7) (pc' := 11) rfl (hb hby d1_7) (by decide) (by decide) kgo) ?_
    refine own_retJ X0 hx Bd.returns Bd.notSynchronized (hb hby d1_11) (by decide) (by decide) ?_
    show QQ _ s₁.heap _
    rw [e0]
    rw [← hQQ]
    exact ⟨by rw [show own_min q0 q1 = q0 from if_neg hc1], rfl, rfl⟩
theorem d6_0 : decode jdk_33_method_47_code 0 = .ok (.iload_n 0, 1) := by decide +kernel
theorem d6_1 : decode jdk_33_method_47_code 1 = .ok (.ifCond .gt 14, 3) := by decide +kernel
theorem d6_15 : decode jdk_33_method_47_code 15 = .ok (.bipush 31, 2) := by decide +kernel
theorem d6_17 : decode jdk_33_method_47_code 17 = .ok (.istore_n 1, 1) := by decide +kernel
theorem d6_18 : decode jdk_33_method_47_code 18 = .ok (.iload_n 0, 1) := by decide +kernel
theorem d6_19 : decode jdk_33_method_47_code 19 = .ok (.ldc_w 264, 3) := by decide +kernel
theorem d6_22 : decode jdk_33_method_47_code 22 = .ok (.if_icmp .lt 11, 3) := by decide +kernel
theorem d6_33 : decode jdk_33_method_47_code 33 = .ok (.iload_n 0, 1) := by decide +kernel
theorem d6_34 : decode jdk_33_method_47_code 34 = .ok (.sipush 256, 3) := by decide +kernel
theorem d6_37 : decode jdk_33_method_47_code 37 = .ok (.if_icmp .lt 11, 3) := by decide +kernel
theorem d6_48 : decode jdk_33_method_47_code 48 = .ok (.iload_n 0, 1) := by decide +kernel
theorem d6_49 : decode jdk_33_method_47_code 49 = .ok (.bipush 16, 2) := by decide +kernel
theorem d6_51 : decode jdk_33_method_47_code 51 = .ok (.if_icmp .lt 10, 3) := by decide +kernel
theorem d6_61 : decode jdk_33_method_47_code 61 = .ok (.iload_n 0, 1) := by decide +kernel
theorem d6_62 : decode jdk_33_method_47_code 62 = .ok (.iconst 4, 1) := by decide +kernel
theorem d6_63 : decode jdk_33_method_47_code 63 = .ok (.if_icmp .lt 10, 3) := by decide +kernel
theorem d6_73 : decode jdk_33_method_47_code 73 = .ok (.iload_n 1, 1) := by decide +kernel
theorem d6_74 : decode jdk_33_method_47_code 74 = .ok (.iload_n 0, 1) := by decide +kernel
theorem d6_75 : decode jdk_33_method_47_code 75 = .ok (.iconst 1, 1) := by decide +kernel
theorem d6_76 : decode jdk_33_method_47_code 76 = .ok (.iushr, 1) := by decide +kernel
theorem d6_77 : decode jdk_33_method_47_code 77 = .ok (.isub, 1) := by decide +kernel
theorem d6_78 : decode jdk_33_method_47_code 78 = .ok (.ireturn, 1) := by decide +kernel
theorem pn_nlz1 : plainName "java/lang/Integer" = true := by first | (simp [plainName, overriddenIn]; done) | decide +kernel
theorem ef_nlz1 (m : MethodId)  : entryFrame m #[(.int (1 : Int32))] 2 = mkF m 0 #[.val (.int (1 : Int32)), .unset] [] := by first | (simp [entryFrame, mkF, argsToLocals, Value.category]; done) | rfl
set_option maxRecDepth 65536 in
set_option maxHeartbeats 40000000 in
theorem nlz1 (l : Launch) (Z : State) (a0 : Array Value) (hw : ∀ d ∈ tables_1, d.before a0 Z = true)   (h0 : Heap) :
    own_Met l Z (⟨"java/lang/Integer", "numberOfLeadingZeros", "(I)I"⟩ : MethodName) jdk_33_method_47_code 2 (some .int) [] ({ frames := 0, cells := 0, slots := 0, locals := 0 } : Room) #[(.int (1 : Int32))] h0 0 0 (fun v h L => v = some (.int (31 : Int32)) ∧ h = h0 ∧ L = []) := by
  refine own_met (plainFor_of_name pn_nlz1) ?_
  intro p e s m below meth c s₁ Bd hml0 hZ X0 e0
  have hx := Bd.exec
  have hby := Bd.bytes
  have hml : c.maxLocals = 2 := hml0
  have hown : s.vm.findClass "java/lang/Integer" = some m.cls := findClass_of_methodNamed Bd.named
  have hnm := (name_of_methodNamed Bd.named Bd.method).1
  refine own_cast (ef_nlz1 m ) ?_
  generalize hQQ : (fun (v : Option Value) (h : Heap) (L : List Loc) => v = some (.int (31 : Int32)) ∧ h = h0 ∧ L = []) = QQ
  refine own_go (g' := (mkF m 1 #[.val (.int (1 : Int32)), .unset] [(.int (1 : Int32))])) (fun _ kgo => XS.iloadN X0.here hx rfl (hb hby d6_0) rfl kgo) ?_
  refine own_go (g' := (mkF m 15 #[.val (.int (1 : Int32)), .unset] [])) (fun _ kgo => XS.ifYes X0.here hx rfl (pc0 := 1) (pc' := 15) rfl (hb hby d6_1) rfl ((if0 _ _).trans (tlt (by decide)).2.2.1) (by decide) (by decide) kgo) ?_
  refine own_go (g' := (mkF m 17 #[.val (.int (1 : Int32)), .unset] [(.int (31 : Int32))])) (fun _ kgo => XS.bipush X0.here hx rfl (hb hby d6_15) kgo) ?_
  refine own_go (g' := (mkF m 18 #[.val (.int (1 : Int32)), .val (.int (31 : Int32))] [])) (fun _ kgo => XS.istoreN X0.here hx rfl (hb hby d6_17) rfl (l' := #[.val (.int (1 : Int32)), .val (.int (31 : Int32))]) rfl kgo) ?_
  refine own_go (g' := (mkF m 19 #[.val (.int (1 : Int32)), .val (.int (31 : Int32))] [(.int (1 : Int32))])) (fun _ kgo => XS.iloadN X0.here hx rfl (hb hby d6_18) rfl kgo) ?_
  refine own_go (g' := (mkF m 22 #[.val (.int (1 : Int32)), .val (.int (31 : Int32))] [(.int (65536 : Int32)), (.int (1 : Int32))])) (X0.ldcwInt hx hown (mvT hZ (hw _ (List.mem_of_getElem? (i := 24) rfl))) (g := (mkF m 19 #[.val (.int (1 : Int32)), .val (.int (31 : Int32))] [(.int (1 : Int32))])) rfl (hb hby d6_19)) ?_
  refine own_go (g' := (mkF m 33 #[.val (.int (1 : Int32)), .val (.int (31 : Int32))] [])) (fun _ kgo => XS.icmpYes X0.here hx rfl (pc0 := 22) (pc' := 33) rfl (hb hby d6_22) rfl (tlt (by decide)).1 (by decide) (by decide) kgo) ?_
  refine own_go (g' := (mkF m 34 #[.val (.int (1 : Int32)), .val (.int (31 : Int32))] [(.int (1 : Int32))])) (fun _ kgo => XS.iloadN X0.here hx rfl (hb hby d6_33) rfl kgo) ?_
  refine own_go (g' := (mkF m 37 #[.val (.int (1 : Int32)), .val (.int (31 : Int32))] [(.int (256 : Int32)), (.int (1 : Int32))])) (fun _ kgo => XS.sipush X0.here hx rfl (hb hby d6_34) kgo) ?_
  refine own_go (g' := (mkF m 48 #[.val (.int (1 : Int32)), .val (.int (31 : Int32))] [])) (fun _ kgo => XS.icmpYes X0.here hx rfl (pc0 := 37) (pc' := 48) rfl (hb hby d6_37) rfl (tlt (by decide)).1 (by decide) (by decide) kgo) ?_
  refine own_go (g' := (mkF m 49 #[.val (.int (1 : Int32)), .val (.int (31 : Int32))] [(.int (1 : Int32))])) (fun _ kgo => XS.iloadN X0.here hx rfl (hb hby d6_48) rfl kgo) ?_
  refine own_go (g' := (mkF m 51 #[.val (.int (1 : Int32)), .val (.int (31 : Int32))] [(.int (16 : Int32)), (.int (1 : Int32))])) (fun _ kgo => XS.bipush X0.here hx rfl (hb hby d6_49) kgo) ?_
  refine own_go (g' := (mkF m 61 #[.val (.int (1 : Int32)), .val (.int (31 : Int32))] [])) (fun _ kgo => XS.icmpYes X0.here hx rfl (pc0 := 51) (pc' := 61) rfl (hb hby d6_51) rfl (tlt (by decide)).1 (by decide) (by decide) kgo) ?_
  refine own_go (g' := (mkF m 62 #[.val (.int (1 : Int32)), .val (.int (31 : Int32))] [(.int (1 : Int32))])) (fun _ kgo => XS.iloadN X0.here hx rfl (hb hby d6_61) rfl kgo) ?_
  refine own_go (g' := (mkF m 63 #[.val (.int (1 : Int32)), .val (.int (31 : Int32))] [(.int (4 : Int32)), (.int (1 : Int32))])) (fun _ kgo => XS.iconst X0.here hx rfl (hb hby d6_62) kgo) ?_
  refine own_go (g' := (mkF m 73 #[.val (.int (1 : Int32)), .val (.int (31 : Int32))] [])) (fun _ kgo => XS.icmpYes X0.here hx rfl (pc0 := 63) (pc' := 73) rfl (hb hby d6_63) rfl (tlt (by decide)).1 (by decide) (by decide) kgo) ?_
  refine own_go (g' := (mkF m 74 #[.val (.int (1 : Int32)), .val (.int (31 : Int32))] [(.int (31 : Int32))])) (fun _ kgo => XS.iloadN X0.here hx rfl (hb hby d6_73) rfl kgo) ?_
  refine own_go (g' := (mkF m 75 #[.val (.int (1 : Int32)), .val (.int (31 : Int32))] [(.int (1 : Int32)), (.int (31 : Int32))])) (fun _ kgo => XS.iloadN X0.here hx rfl (hb hby d6_74) rfl kgo) ?_
  refine own_go (g' := (mkF m 76 #[.val (.int (1 : Int32)), .val (.int (31 : Int32))] [(.int (1 : Int32)), (.int (1 : Int32)), (.int (31 : Int32))])) (fun _ kgo => XS.iconst X0.here hx rfl (hb hby d6_75) kgo) ?_
  refine own_go (g' := (mkF m 77 #[.val (.int (1 : Int32)), .val (.int (31 : Int32))] [(.int (0 : Int32)), (.int (31 : Int32))])) (fun _ kgo => XS.iushr X0.here hx rfl (hb hby d6_76) rfl kgo) ?_
  refine own_go (g' := (mkF m 78 #[.val (.int (1 : Int32)), .val (.int (31 : Int32))] [(.int (31 : Int32))])) (fun _ kgo => XS.isub X0.here hx rfl (hb hby d6_77) rfl kgo) ?_
  refine own_retI X0 hx Bd.returns Bd.notSynchronized (hb hby d6_78) (by decide) (by decide) ?_
  show QQ _ s₁.heap _
  rw [e0]
  rw [← hQQ]
  exact ⟨rfl, rfl, rfl⟩
theorem d5_0 : decode prog_32_method_18_code 0 = .ok (.bipush 32, 2) := by decide +kernel
theorem d5_2 : decode prog_32_method_18_code 2 = .ok (.iload_n 0, 1) := by decide +kernel
theorem d5_3 : decode prog_32_method_18_code 3 = .ok (.invokestatic 106, 3) := by decide +kernel
theorem d5_6 : decode prog_32_method_18_code 6 = .ok (.isub, 1) := by decide +kernel
theorem d5_7 : decode prog_32_method_18_code 7 = .ok (.ireturn, 1) := by decide +kernel
theorem pn_bpc1 : plainName "com/example/seenset/seenset/filter/StableParameters" = true := by first | (simp [plainName, overriddenIn]; done) | decide +kernel
theorem pd5_0 : parseMethodDescriptor "(I)I" = some ⟨[.int], some .int⟩ := by decide +kernel
theorem ef_bpc1 (m : MethodId)  : entryFrame m #[(.int (1 : Int32))] 1 = mkF m 0 #[.val (.int (1 : Int32))] [] := by first | (simp [entryFrame, mkF, argsToLocals, Value.category]; done) | rfl
set_option maxRecDepth 65536 in
set_option maxHeartbeats 40000000 in
theorem bpc1 (l : Launch) (Z : State) (a0 : Array Value) (hw : ∀ d ∈ tables_1, d.before a0 Z = true)   (h0 : Heap) :
    own_Met l Z (⟨"com/example/seenset/seenset/filter/StableParameters", "bitsPerCell", "(I)I"⟩ : MethodName) prog_32_method_18_code 1 (some .int) [] ({ frames := 1, cells := 0, slots := 0, locals := 14 } : Room) #[(.int (1 : Int32))] h0 0 0 (fun v h L => v = some (.int (1 : Int32)) ∧ h = h0 ∧ L = []) := by
  refine own_met (plainFor_of_name pn_bpc1) ?_
  intro p e s m below meth c s₁ Bd hml0 hZ X0 e0
  have hx := Bd.exec
  have hby := Bd.bytes
  have hml : c.maxLocals = 1 := hml0
  have hown : s.vm.findClass "com/example/seenset/seenset/filter/StableParameters" = some m.cls := findClass_of_methodNamed Bd.named
  have hnm := (name_of_methodNamed Bd.named Bd.method).1
  refine own_cast (ef_bpc1 m ) ?_
  generalize hQQ : (fun (v : Option Value) (h : Heap) (L : List Loc) => v = some (.int (1 : Int32)) ∧ h = h0 ∧ L = []) = QQ
  refine own_go (g' := (mkF m 2 #[.val (.int (1 : Int32))] [(.int (32 : Int32))])) (fun _ kgo => XS.bipush X0.here hx rfl (hb hby d5_0) kgo) ?_
  refine own_go (g' := (mkF m 3 #[.val (.int (1 : Int32))] [(.int (1 : Int32)), (.int (32 : Int32))])) (fun _ kgo => XS.iloadN X0.here hx rfl (hb hby d5_2) rfl kgo) ?_
  obtain ⟨v1, T1, L1, hQ1, X1, st1⟩ := own_callS X0 hx hZ (y := (⟨"java/lang/Integer", "numberOfLeadingZeros", "(I)I"⟩ : MethodName)) hown (hw _ (List.mem_of_getElem? (i := 20) rfl)) (hw _ (List.mem_of_getElem? (i := 21) rfl)) (hw _ (List.mem_of_getElem? (i := 22) rfl)) (hw _ (List.mem_of_getElem? (i := 23) rfl)) ⟨by decide, by decide⟩ (argsL := [(.int (1 : Int32))]) (nlz1 l Z a0 hw h0) e0 (g := (mkF m 3 #[.val (.int (1 : Int32))] [(.int (1 : Int32)), (.int (32 : Int32))])) rfl (by rw [hml]; rfl) (rest := [(.int (32 : Int32))]) (lenOf pd5_0 rfl) rfl (hb hby d5_3) (W := 1) (by show 2 * 0 + _ ≤ _; exact Nat.le_of_eq rfl) (by decide) (by decide) (by decide) (by decide)
  obtain ⟨rfl, e1, rfl⟩ := hQ1
  refine own_go (g' := (mkF m 6 #[.val (.int (1 : Int32))] [(.int (31 : Int32)), (.int (32 : Int32))])) (st1) ?_
  refine own_go (g' := (mkF m 7 #[.val (.int (1 : Int32))] [(.int (1 : Int32))])) (fun _ kgo => XS.isub X1.here hx rfl (hb hby d5_6) rfl kgo) ?_
  refine own_retI X1 hx Bd.returns Bd.notSynchronized (hb hby d5_7) (by decide) (by decide) ?_
  show QQ _ T1.heap _
  rw [e1]
  rw [← hQQ]
  exact ⟨rfl, rfl, rfl⟩
theorem pn_nlz3 : plainName "java/lang/Integer" = true := by first | (simp [plainName, overriddenIn]; done) | decide +kernel
theorem ef_nlz3 (m : MethodId)  : entryFrame m #[(.int (3 : Int32))] 2 = mkF m 0 #[.val (.int (3 : Int32)), .unset] [] := by first | (simp [entryFrame, mkF, argsToLocals, Value.category]; done) | rfl
set_option maxRecDepth 65536 in
set_option maxHeartbeats 40000000 in
theorem nlz3 (l : Launch) (Z : State) (a0 : Array Value) (hw : ∀ d ∈ tables_1, d.before a0 Z = true)   (h0 : Heap) :
    own_Met l Z (⟨"java/lang/Integer", "numberOfLeadingZeros", "(I)I"⟩ : MethodName) jdk_33_method_47_code 2 (some .int) [] ({ frames := 0, cells := 0, slots := 0, locals := 0 } : Room) #[(.int (3 : Int32))] h0 0 0 (fun v h L => v = some (.int (30 : Int32)) ∧ h = h0 ∧ L = []) := by
  refine own_met (plainFor_of_name pn_nlz3) ?_
  intro p e s m below meth c s₁ Bd hml0 hZ X0 e0
  have hx := Bd.exec
  have hby := Bd.bytes
  have hml : c.maxLocals = 2 := hml0
  have hown : s.vm.findClass "java/lang/Integer" = some m.cls := findClass_of_methodNamed Bd.named
  have hnm := (name_of_methodNamed Bd.named Bd.method).1
  refine own_cast (ef_nlz3 m ) ?_
  generalize hQQ : (fun (v : Option Value) (h : Heap) (L : List Loc) => v = some (.int (30 : Int32)) ∧ h = h0 ∧ L = []) = QQ
  refine own_go (g' := (mkF m 1 #[.val (.int (3 : Int32)), .unset] [(.int (3 : Int32))])) (fun _ kgo => XS.iloadN X0.here hx rfl (hb hby d6_0) rfl kgo) ?_
  refine own_go (g' := (mkF m 15 #[.val (.int (3 : Int32)), .unset] [])) (fun _ kgo => XS.ifYes X0.here hx rfl (pc0 := 1) (pc' := 15) rfl (hb hby d6_1) rfl ((if0 _ _).trans (tlt (by decide)).2.2.1) (by decide) (by decide) kgo) ?_
  refine own_go (g' := (mkF m 17 #[.val (.int (3 : Int32)), .unset] [(.int (31 : Int32))])) (fun _ kgo => XS.bipush X0.here hx rfl (hb hby d6_15) kgo) ?_
  refine own_go (g' := (mkF m 18 #[.val (.int (3 : Int32)), .val (.int (31 : Int32))] [])) (fun _ kgo => XS.istoreN X0.here hx rfl (hb hby d6_17) rfl (l' := #[.val (.int (3 : Int32)), .val (.int (31 : Int32))]) rfl kgo) ?_
  refine own_go (g' := (mkF m 19 #[.val (.int (3 : Int32)), .val (.int (31 : Int32))] [(.int (3 : Int32))])) (fun _ kgo => XS.iloadN X0.here hx rfl (hb hby d6_18) rfl kgo) ?_
  refine own_go (g' := (mkF m 22 #[.val (.int (3 : Int32)), .val (.int (31 : Int32))] [(.int (65536 : Int32)), (.int (3 : Int32))])) (X0.ldcwInt hx hown (mvT hZ (hw _ (List.mem_of_getElem? (i := 24) rfl))) (g := (mkF m 19 #[.val (.int (3 : Int32)), .val (.int (31 : Int32))] [(.int (3 : Int32))])) rfl (hb hby d6_19)) ?_
  refine own_go (g' := (mkF m 33 #[.val (.int (3 : Int32)), .val (.int (31 : Int32))] [])) (fun _ kgo => XS.icmpYes X0.here hx rfl (pc0 := 22) (pc' := 33) rfl (hb hby d6_22) rfl (tlt (by decide)).1 (by decide) (by decide) kgo) ?_
  refine own_go (g' := (mkF m 34 #[.val (.int (3 : Int32)), .val (.int (31 : Int32))] [(.int (3 : Int32))])) (fun _ kgo => XS.iloadN X0.here hx rfl (hb hby d6_33) rfl kgo) ?_
  refine own_go (g' := (mkF m 37 #[.val (.int (3 : Int32)), .val (.int (31 : Int32))] [(.int (256 : Int32)), (.int (3 : Int32))])) (fun _ kgo => XS.sipush X0.here hx rfl (hb hby d6_34) kgo) ?_
  refine own_go (g' := (mkF m 48 #[.val (.int (3 : Int32)), .val (.int (31 : Int32))] [])) (fun _ kgo => XS.icmpYes X0.here hx rfl (pc0 := 37) (pc' := 48) rfl (hb hby d6_37) rfl (tlt (by decide)).1 (by decide) (by decide) kgo) ?_
  refine own_go (g' := (mkF m 49 #[.val (.int (3 : Int32)), .val (.int (31 : Int32))] [(.int (3 : Int32))])) (fun _ kgo => XS.iloadN X0.here hx rfl (hb hby d6_48) rfl kgo) ?_
  refine own_go (g' := (mkF m 51 #[.val (.int (3 : Int32)), .val (.int (31 : Int32))] [(.int (16 : Int32)), (.int (3 : Int32))])) (fun _ kgo => XS.bipush X0.here hx rfl (hb hby d6_49) kgo) ?_
  refine own_go (g' := (mkF m 61 #[.val (.int (3 : Int32)), .val (.int (31 : Int32))] [])) (fun _ kgo => XS.icmpYes X0.here hx rfl (pc0 := 51) (pc' := 61) rfl (hb hby d6_51) rfl (tlt (by decide)).1 (by decide) (by decide) kgo) ?_
  refine own_go (g' := (mkF m 62 #[.val (.int (3 : Int32)), .val (.int (31 : Int32))] [(.int (3 : Int32))])) (fun _ kgo => XS.iloadN X0.here hx rfl (hb hby d6_61) rfl kgo) ?_
  refine own_go (g' := (mkF m 63 #[.val (.int (3 : Int32)), .val (.int (31 : Int32))] [(.int (4 : Int32)), (.int (3 : Int32))])) (fun _ kgo => XS.iconst X0.here hx rfl (hb hby d6_62) kgo) ?_
  refine own_go (g' := (mkF m 73 #[.val (.int (3 : Int32)), .val (.int (31 : Int32))] [])) (fun _ kgo => XS.icmpYes X0.here hx rfl (pc0 := 63) (pc' := 73) rfl (hb hby d6_63) rfl (tlt (by decide)).1 (by decide) (by decide) kgo) ?_
  refine own_go (g' := (mkF m 74 #[.val (.int (3 : Int32)), .val (.int (31 : Int32))] [(.int (31 : Int32))])) (fun _ kgo => XS.iloadN X0.here hx rfl (hb hby d6_73) rfl kgo) ?_
  refine own_go (g' := (mkF m 75 #[.val (.int (3 : Int32)), .val (.int (31 : Int32))] [(.int (3 : Int32)), (.int (31 : Int32))])) (fun _ kgo => XS.iloadN X0.here hx rfl (hb hby d6_74) rfl kgo) ?_
  refine own_go (g' := (mkF m 76 #[.val (.int (3 : Int32)), .val (.int (31 : Int32))] [(.int (1 : Int32)), (.int (3 : Int32)), (.int (31 : Int32))])) (fun _ kgo => XS.iconst X0.here hx rfl (hb hby d6_75) kgo) ?_
  refine own_go (g' := (mkF m 77 #[.val (.int (3 : Int32)), .val (.int (31 : Int32))] [(.int (1 : Int32)), (.int (31 : Int32))])) (fun _ kgo => XS.iushr X0.here hx rfl (hb hby d6_76) rfl kgo) ?_
  refine own_go (g' := (mkF m 78 #[.val (.int (3 : Int32)), .val (.int (31 : Int32))] [(.int (30 : Int32))])) (fun _ kgo => XS.isub X0.here hx rfl (hb hby d6_77) rfl kgo) ?_
  refine own_retI X0 hx Bd.returns Bd.notSynchronized (hb hby d6_78) (by decide) (by decide) ?_
  show QQ _ s₁.heap _
  rw [e0]
  rw [← hQQ]
  exact ⟨rfl, rfl, rfl⟩
theorem pn_bpc3 : plainName "com/example/seenset/seenset/filter/StableParameters" = true := by first | (simp [plainName, overriddenIn]; done) | decide +kernel
theorem ef_bpc3 (m : MethodId)  : entryFrame m #[(.int (3 : Int32))] 1 = mkF m 0 #[.val (.int (3 : Int32))] [] := by first | (simp [entryFrame, mkF, argsToLocals, Value.category]; done) | rfl
set_option maxRecDepth 65536 in
set_option maxHeartbeats 40000000 in
theorem bpc3 (l : Launch) (Z : State) (a0 : Array Value) (hw : ∀ d ∈ tables_1, d.before a0 Z = true)   (h0 : Heap) :
    own_Met l Z (⟨"com/example/seenset/seenset/filter/StableParameters", "bitsPerCell", "(I)I"⟩ : MethodName) prog_32_method_18_code 1 (some .int) [] ({ frames := 1, cells := 0, slots := 0, locals := 14 } : Room) #[(.int (3 : Int32))] h0 0 0 (fun v h L => v = some (.int (2 : Int32)) ∧ h = h0 ∧ L = []) := by
  refine own_met (plainFor_of_name pn_bpc3) ?_
  intro p e s m below meth c s₁ Bd hml0 hZ X0 e0
  have hx := Bd.exec
  have hby := Bd.bytes
  have hml : c.maxLocals = 1 := hml0
  have hown : s.vm.findClass "com/example/seenset/seenset/filter/StableParameters" = some m.cls := findClass_of_methodNamed Bd.named
  have hnm := (name_of_methodNamed Bd.named Bd.method).1
  refine own_cast (ef_bpc3 m ) ?_
  generalize hQQ : (fun (v : Option Value) (h : Heap) (L : List Loc) => v = some (.int (2 : Int32)) ∧ h = h0 ∧ L = []) = QQ
  refine own_go (g' := (mkF m 2 #[.val (.int (3 : Int32))] [(.int (32 : Int32))])) (fun _ kgo => XS.bipush X0.here hx rfl (hb hby d5_0) kgo) ?_
  refine own_go (g' := (mkF m 3 #[.val (.int (3 : Int32))] [(.int (3 : Int32)), (.int (32 : Int32))])) (fun _ kgo => XS.iloadN X0.here hx rfl (hb hby d5_2) rfl kgo) ?_
  obtain ⟨v1, T1, L1, hQ1, X1, st1⟩ := own_callS X0 hx hZ (y := (⟨"java/lang/Integer", "numberOfLeadingZeros", "(I)I"⟩ : MethodName)) hown (hw _ (List.mem_of_getElem? (i := 20) rfl)) (hw _ (List.mem_of_getElem? (i := 21) rfl)) (hw _ (List.mem_of_getElem? (i := 22) rfl)) (hw _ (List.mem_of_getElem? (i := 23) rfl)) ⟨by decide, by decide⟩ (argsL := [(.int (3 : Int32))]) (nlz3 l Z a0 hw h0) e0 (g := (mkF m 3 #[.val (.int (3 : Int32))] [(.int (3 : Int32)), (.int (32 : Int32))])) rfl (by rw [hml]; rfl) (rest := [(.int (32 : Int32))]) (lenOf pd5_0 rfl) rfl (hb hby d5_3) (W := 1) (by show 2 * 0 + _ ≤ _; exact Nat.le_of_eq rfl) (by decide) (by decide) (by decide) (by decide)
  obtain ⟨rfl, e1, rfl⟩ := hQ1
  refine own_go (g' := (mkF m 6 #[.val (.int (3 : Int32))] [(.int (30 : Int32)), (.int (32 : Int32))])) (st1) ?_
  refine own_go (g' := (mkF m 7 #[.val (.int (3 : Int32))] [(.int (2 : Int32))])) (fun _ kgo => XS.isub X1.here hx rfl (hb hby d5_6) rfl kgo) ?_
  refine own_retI X1 hx Bd.returns Bd.notSynchronized (hb hby d5_7) (by decide) (by decide) ?_
  show QQ _ T1.heap _
  rw [e1]
  rw [← hQQ]
  exact ⟨rfl, rfl, rfl⟩
theorem d6_66 : decode jdk_33_method_47_code 66 = .ok (.iinc 1 (-2), 3) := by decide +kernel
theorem d6_69 : decode jdk_33_method_47_code 69 = .ok (.iload_n 0, 1) := by decide +kernel
theorem d6_70 : decode jdk_33_method_47_code 70 = .ok (.iconst 2, 1) := by decide +kernel
theorem d6_71 : decode jdk_33_method_47_code 71 = .ok (.iushr, 1) := by decide +kernel
theorem d6_72 : decode jdk_33_method_47_code 72 = .ok (.istore_n 0, 1) := by decide +kernel
theorem pn_nlz7 : plainName "java/lang/Integer" = true := by first | (simp [plainName, overriddenIn]; done) | decide +kernel
theorem ef_nlz7 (m : MethodId)  : entryFrame m #[(.int (7 : Int32))] 2 = mkF m 0 #[.val (.int (7 : Int32)), .unset] [] := by first | (simp [entryFrame, mkF, argsToLocals, Value.category]; done) | rfl
set_option maxRecDepth 65536 in
set_option maxHeartbeats 40000000 in
theorem nlz7 (l : Launch) (Z : State) (a0 : Array Value) (hw : ∀ d ∈ tables_1, d.before a0 Z = true)   (h0 : Heap) :
    own_Met l Z (⟨"java/lang/Integer", "numberOfLeadingZeros", "(I)I"⟩ : MethodName) jdk_33_method_47_code 2 (some .int) [] ({ frames := 0, cells := 0, slots := 0, locals := 0 } : Room) #[(.int (7 : Int32))] h0 0 0 (fun v h L => v = some (.int (29 : Int32)) ∧ h = h0 ∧ L = []) := by
  refine own_met (plainFor_of_name pn_nlz7) ?_
  intro p e s m below meth c s₁ Bd hml0 hZ X0 e0
  have hx := Bd.exec
  have hby := Bd.bytes
  have hml : c.maxLocals = 2 := hml0
  have hown : s.vm.findClass "java/lang/Integer" = some m.cls := findClass_of_methodNamed Bd.named
  have hnm := (name_of_methodNamed Bd.named Bd.method).1
  refine own_cast (ef_nlz7 m ) ?_
  generalize hQQ : (fun (v : Option Value) (h : Heap) (L : List Loc) => v = some (.int (29 : Int32)) ∧ h = h0 ∧ L = []) = QQ
  refine own_go (g' := (mkF m 1 #[.val (.int (7 : Int32)), .unset] [(.int (7 : Int32))])) (fun _ kgo => XS.iloadN X0.here hx rfl (hb hby d6_0) rfl kgo) ?_
  refine own_go (g' := (mkF m 15 #[.val (.int (7 : Int32)), .unset] [])) (fun _ kgo => XS.ifYes X0.here hx rfl (pc0 := 1) (pc' := 15) rfl (hb hby d6_1) rfl ((if0 _ _).trans (tlt (by decide)).2.2.1) (by decide) (by decide) kgo) ?_
  refine own_go (g' := (mkF m 17 #[.val (.int (7 : Int32)), .unset] [(.int (31 : Int32))])) (fun _ kgo => XS.bipush X0.here hx rfl (hb hby d6_15) kgo) ?_
  refine own_go (g' := (mkF m 18 #[.val (.int (7 : Int32)), .val (.int (31 : Int32))] [])) (fun _ kgo => XS.istoreN X0.here hx rfl (hb hby d6_17) rfl (l' := #[.val (.int (7 : Int32)), .val (.int (31 : Int32))]) rfl kgo) ?_
  refine own_go (g' := (mkF m 19 #[.val (.int (7 : Int32)), .val (.int (31 : Int32))] [(.int (7 : Int32))])) (fun _ kgo => XS.iloadN X0.here hx rfl (hb hby d6_18) rfl kgo) ?_
  refine own_go (g' := (mkF m 22 #[.val (.int (7 : Int32)), .val (.int (31 : Int32))] [(.int (65536 : Int32)), (.int (7 : Int32))])) (X0.ldcwInt hx hown (mvT hZ (hw _ (List.mem_of_getElem? (i := 24) rfl))) (g := (mkF m 19 #[.val (.int (7 : Int32)), .val (.int (31 : Int32))] [(.int (7 : Int32))])) rfl (hb hby d6_19)) ?_
  refine own_go (g' := (mkF m 33 #[.val (.int (7 : Int32)), .val (.int (31 : Int32))] [])) (fun _ kgo => XS.icmpYes X0.here hx rfl (pc0 := 22) (pc' := 33) rfl (hb hby d6_22) rfl (tlt (by decide)).1 (by decide) (by decide) kgo) ?_
  refine own_go (g' := (mkF m 34 #[.val (.int (7 : Int32)), .val (.int (31 : Int32))] [(.int (7 : Int32))])) (fun _ kgo => XS.iloadN X0.here hx rfl (hb hby d6_33) rfl kgo) ?_
  refine own_go (g' := (mkF m 37 #[.val (.int (7 : Int32)), .val (.int (31 : Int32))] [(.int (256 : Int32)), (.int (7 : Int32))])) (fun _ kgo => XS.sipush X0.here hx rfl (hb hby d6_34) kgo) ?_
  refine own_go (g' := (mkF m 48 #[.val (.int (7 : Int32)), .val (.int (31 : Int32))] [])) (fun _ kgo => XS.icmpYes X0.here hx rfl (pc0 := 37) (pc' := 48) rfl (hb hby d6_37) rfl (tlt (by decide)).1 (by decide) (by decide) kgo) ?_
  refine own_go (g' := (mkF m 49 #[.val (.int (7 : Int32)), .val (.int (31 : Int32))] [(.int (7 : Int32))])) (fun _ kgo => XS.iloadN X0.here hx rfl (hb hby d6_48) rfl kgo) ?_
  refine own_go (g' := (mkF m 51 #[.val (.int (7 : Int32)), .val (.int (31 : Int32))] [(.int (16 : Int32)), (.int (7 : Int32))])) (fun _ kgo => XS.bipush X0.here hx rfl (hb hby d6_49) kgo) ?_
  refine own_go (g' := (mkF m 61 #[.val (.int (7 : Int32)), .val (.int (31 : Int32))] [])) (fun _ kgo => XS.icmpYes X0.here hx rfl (pc0 := 51) (pc' := 61) rfl (hb hby d6_51) rfl (tlt (by decide)).1 (by decide) (by decide) kgo) ?_
  refine own_go (g' := (mkF m 62 #[.val (.int (7 : Int32)), .val (.int (31 : Int32))] [(.int (7 : Int32))])) (fun _ kgo => XS.iloadN X0.here hx rfl (hb hby d6_61) rfl kgo) ?_
  refine own_go (g' := (mkF m 63 #[.val (.int (7 : Int32)), .val (.int (31 : Int32))] [(.int (4 : Int32)), (.int (7 : Int32))])) (fun _ kgo => XS.iconst X0.here hx rfl (hb hby d6_62) kgo) ?_
  refine own_go (g' := (mkF m 66 #[.val (.int (7 : Int32)), .val (.int (31 : Int32))] [])) (fun _ kgo => XS.icmpNo X0.here hx rfl (hb hby d6_63) rfl (flt (by decide)).1 kgo) ?_
  refine own_go (g' := (mkF m 69 #[.val (.int (7 : Int32)), .val (.int (29 : Int32))] [])) (fun _ kgo => XS.iinc X0.here hx rfl (hb hby d6_66) rfl (l' := #[.val (.int (7 : Int32)), .val (.int (29 : Int32))]) rfl kgo) ?_
  refine own_go (g' := (mkF m 70 #[.val (.int (7 : Int32)), .val (.int (29 : Int32))] [(.int (7 : Int32))])) (fun _ kgo => XS.iloadN X0.here hx rfl (hb hby d6_69) rfl kgo) ?_
  refine own_go (g' := (mkF m 71 #[.val (.int (7 : Int32)), .val (.int (29 : Int32))] [(.int (2 : Int32)), (.int (7 : Int32))])) (fun _ kgo => XS.iconst X0.here hx rfl (hb hby d6_70) kgo) ?_
  refine own_go (g' := (mkF m 72 #[.val (.int (7 : Int32)), .val (.int (29 : Int32))] [(.int (1 : Int32))])) (fun _ kgo => XS.iushr X0.here hx rfl (hb hby d6_71) rfl kgo) ?_
  refine own_go (g' := (mkF m 73 #[.val (.int (1 : Int32)), .val (.int (29 : Int32))] [])) (fun _ kgo => XS.istoreN X0.here hx rfl (hb hby d6_72) rfl (l' := #[.val (.int (1 : Int32)), .val (.int (29 : Int32))]) rfl kgo) ?_
  refine own_go (g' := (mkF m 74 #[.val (.int (1 : Int32)), .val (.int (29 : Int32))] [(.int (29 : Int32))])) (fun _ kgo => XS.iloadN X0.here hx rfl (hb hby d6_73) rfl kgo) ?_
  refine own_go (g' := (mkF m 75 #[.val (.int (1 : Int32)), .val (.int (29 : Int32))] [(.int (1 : Int32)), (.int (29 : Int32))])) (fun _ kgo => XS.iloadN X0.here hx rfl (hb hby d6_74) rfl kgo) ?_
  refine own_go (g' := (mkF m 76 #[.val (.int (1 : Int32)), .val (.int (29 : Int32))] [(.int (1 : Int32)), (.int (1 : Int32)), (.int (29 : Int32))])) (fun _ kgo => XS.iconst X0.here hx rfl (hb hby d6_75) kgo) ?_
  refine own_go (g' := (mkF m 77 #[.val (.int (1 : Int32)), .val (.int (29 : Int32))] [(.int (0 : Int32)), (.int (29 : Int32))])) (fun _ kgo => XS.iushr X0.here hx rfl (hb hby d6_76) rfl kgo) ?_
  refine own_go (g' := (mkF m 78 #[.val (.int (1 : Int32)), .val (.int (29 : Int32))] [(.int (29 : Int32))])) (fun _ kgo => XS.isub X0.here hx rfl (hb hby d6_77) rfl kgo) ?_
  refine own_retI X0 hx Bd.returns Bd.notSynchronized (hb hby d6_78) (by decide) (by decide) ?_
  show QQ _ s₁.heap _
  rw [e0]
  rw [← hQQ]
  exact ⟨rfl, rfl, rfl⟩
theorem pn_bpc7 : plainName "com/example/seenset/seenset/filter/StableParameters" = true := by first | (simp [plainName, overriddenIn]; done) | decide +kernel
theorem ef_bpc7 (m : MethodId)  : entryFrame m #[(.int (7 : Int32))] 1 = mkF m 0 #[.val (.int (7 : Int32))] [] := by first | (simp [entryFrame, mkF, argsToLocals, Value.category]; done) | rfl
set_option maxRecDepth 65536 in
set_option maxHeartbeats 40000000 in
theorem bpc7 (l : Launch) (Z : State) (a0 : Array Value) (hw : ∀ d ∈ tables_1, d.before a0 Z = true)   (h0 : Heap) :
    own_Met l Z (⟨"com/example/seenset/seenset/filter/StableParameters", "bitsPerCell", "(I)I"⟩ : MethodName) prog_32_method_18_code 1 (some .int) [] ({ frames := 1, cells := 0, slots := 0, locals := 14 } : Room) #[(.int (7 : Int32))] h0 0 0 (fun v h L => v = some (.int (3 : Int32)) ∧ h = h0 ∧ L = []) := by
  refine own_met (plainFor_of_name pn_bpc7) ?_
  intro p e s m below meth c s₁ Bd hml0 hZ X0 e0
  have hx := Bd.exec
  have hby := Bd.bytes
  have hml : c.maxLocals = 1 := hml0
  have hown : s.vm.findClass "com/example/seenset/seenset/filter/StableParameters" = some m.cls := findClass_of_methodNamed Bd.named
  have hnm := (name_of_methodNamed Bd.named Bd.method).1
  refine own_cast (ef_bpc7 m ) ?_
  generalize hQQ : (fun (v : Option Value) (h : Heap) (L : List Loc) => v = some (.int (3 : Int32)) ∧ h = h0 ∧ L = []) = QQ
  refine own_go (g' := (mkF m 2 #[.val (.int (7 : Int32))] [(.int (32 : Int32))])) (fun _ kgo => XS.bipush X0.here hx rfl (hb hby d5_0) kgo) ?_
  refine own_go (g' := (mkF m 3 #[.val (.int (7 : Int32))] [(.int (7 : Int32)), (.int (32 : Int32))])) (fun _ kgo => XS.iloadN X0.here hx rfl (hb hby d5_2) rfl kgo) ?_
  obtain ⟨v1, T1, L1, hQ1, X1, st1⟩ := own_callS X0 hx hZ (y := (⟨"java/lang/Integer", "numberOfLeadingZeros", "(I)I"⟩ : MethodName)) hown (hw _ (List.mem_of_getElem? (i := 20) rfl)) (hw _ (List.mem_of_getElem? (i := 21) rfl)) (hw _ (List.mem_of_getElem? (i := 22) rfl)) (hw _ (List.mem_of_getElem? (i := 23) rfl)) ⟨by decide, by decide⟩ (argsL := [(.int (7 : Int32))]) (nlz7 l Z a0 hw h0) e0 (g := (mkF m 3 #[.val (.int (7 : Int32))] [(.int (7 : Int32)), (.int (32 : Int32))])) rfl (by rw [hml]; rfl) (rest := [(.int (32 : Int32))]) (lenOf pd5_0 rfl) rfl (hb hby d5_3) (W := 1) (by show 2 * 0 + _ ≤ _; exact Nat.le_of_eq rfl) (by decide) (by decide) (by decide) (by decide)
  obtain ⟨rfl, e1, rfl⟩ := hQ1
  refine own_go (g' := (mkF m 6 #[.val (.int (7 : Int32))] [(.int (29 : Int32)), (.int (32 : Int32))])) (st1) ?_
  refine own_go (g' := (mkF m 7 #[.val (.int (7 : Int32))] [(.int (3 : Int32))])) (fun _ kgo => XS.isub X1.here hx rfl (hb hby d5_6) rfl kgo) ?_
  refine own_retI X1 hx Bd.returns Bd.notSynchronized (hb hby d5_7) (by decide) (by decide) ?_
  show QQ _ T1.heap _
  rw [e1]
  rw [← hQQ]
  exact ⟨rfl, rfl, rfl⟩
theorem pn_nlz15 : plainName "java/lang/Integer" = true := by first | (simp [plainName, overriddenIn]; done) | decide +kernel
theorem ef_nlz15 (m : MethodId)  : entryFrame m #[(.int (15 : Int32))] 2 = mkF m 0 #[.val (.int (15 : Int32)), .unset] [] := by first | (simp [entryFrame, mkF, argsToLocals, Value.category]; done) | rfl
set_option maxRecDepth 65536 in
set_option maxHeartbeats 40000000 in
theorem nlz15 (l : Launch) (Z : State) (a0 : Array Value) (hw : ∀ d ∈ tables_1, d.before a0 Z = true)   (h0 : Heap) :
    own_Met l Z (⟨"java/lang/Integer", "numberOfLeadingZeros", "(I)I"⟩ : MethodName) jdk_33_method_47_code 2 (some .int) [] ({ frames := 0, cells := 0, slots := 0, locals := 0 } : Room) #[(.int (15 : Int32))] h0 0 0 (fun v h L => v = some (.int (28 : Int32)) ∧ h = h0 ∧ L = []) := by
  refine own_met (plainFor_of_name pn_nlz15) ?_
  intro p e s m below meth c s₁ Bd hml0 hZ X0 e0
  have hx := Bd.exec
  have hby := Bd.bytes
  have hml : c.maxLocals = 2 := hml0
  have hown : s.vm.findClass "java/lang/Integer" = some m.cls := findClass_of_methodNamed Bd.named
  have hnm := (name_of_methodNamed Bd.named Bd.method).1
  refine own_cast (ef_nlz15 m ) ?_
  generalize hQQ : (fun (v : Option Value) (h : Heap) (L : List Loc) => v = some (.int (28 : Int32)) ∧ h = h0 ∧ L = []) = QQ
  refine own_go (g' := (mkF m 1 #[.val (.int (15 : Int32)), .unset] [(.int (15 : Int32))])) (fun _ kgo => XS.iloadN X0.here hx rfl (hb hby d6_0) rfl kgo) ?_
  refine own_go (g' := (mkF m 15 #[.val (.int (15 : Int32)), .unset] [])) (fun _ kgo => XS.ifYes X0.here hx rfl (pc0 := 1) (pc' := 15) rfl (hb hby d6_1) rfl ((if0 _ _).trans (tlt (by decide)).2.2.1) (by decide) (by decide) kgo) ?_
  refine own_go (g' := (mkF m 17 #[.val (.int (15 : Int32)), .unset] [(.int (31 : Int32))])) (fun _ kgo => XS.bipush X0.here hx rfl (hb hby d6_15) kgo) ?_
  refine own_go (g' := (mkF m 18 #[.val (.int (15 : Int32)), .val (.int (31 : Int32))] [])) (fun _ kgo => XS.istoreN X0.here hx rfl (hb hby d6_17) rfl (l' := #[.val (.int (15 : Int32)), .val (.int (31 : Int32))]) rfl kgo) ?_
  refine own_go (g' := (mkF m 19 #[.val (.int (15 : Int32)), .val (.int (31 : Int32))] [(.int (15 : Int32))])) (fun _ kgo => XS.iloadN X0.here hx rfl (hb hby d6_18) rfl kgo) ?_
  refine own_go (g' := (mkF m 22 #[.val (.int (15 : Int32)), .val (.int (31 : Int32))] [(.int (65536 : Int32)), (.int (15 : Int32))])) (X0.ldcwInt hx hown (mvT hZ (hw _ (List.mem_of_getElem? (i := 24) rfl))) (g := (mkF m 19 #[.val (.int (15 : Int32)), .val (.int (31 : Int32))] [(.int (15 : Int32))])) rfl (hb hby d6_19)) ?_
  refine own_go (g' := (mkF m 33 #[.val (.int (15 : Int32)), .val (.int (31 : Int32))] [])) (fun _ kgo => XS.icmpYes X0.here hx rfl (pc0 := 22) (pc' := 33) rfl (hb hby d6_22) rfl (tlt (by decide)).1 (by decide) (by decide) kgo) ?_
  refine own_go (g' := (mkF m 34 #[.val (.int (15 : Int32)), .val (.int (31 : Int32))] [(.int (15 : Int32))])) (fun _ kgo => XS.iloadN X0.here hx rfl (hb hby d6_33) rfl kgo) ?_
  refine own_go (g' := (mkF m 37 #[.val (.int (15 : Int32)), .val (.int (31 : Int32))] [(.int (256 : Int32)), (.int (15 : Int32))])) (fun _ kgo => XS.sipush X0.here hx rfl (hb hby d6_34) kgo) ?_
  refine own_go (g' := (mkF m 48 #[.val (.int (15 : Int32)), .val (.int (31 : Int32))] [])) (fun _ kgo => XS.icmpYes X0.here hx rfl (pc0 := 37) (pc' := 48) rfl (hb hby d6_37) rfl (tlt (by decide)).1 (by decide) (by decide) kgo) ?_
  refine own_go (g' := (mkF m 49 #[.val (.int (15 : Int32)), .val (.int (31 : Int32))] [(.int (15 : Int32))])) (fun _ kgo => XS.iloadN X0.here hx rfl (hb hby d6_48) rfl kgo) ?_
  refine own_go (g' := (mkF m 51 #[.val (.int (15 : Int32)), .val (.int (31 : Int32))] [(.int (16 : Int32)), (.int (15 : Int32))])) (fun _ kgo => XS.bipush X0.here hx rfl (hb hby d6_49) kgo) ?_
  refine own_go (g' := (mkF m 61 #[.val (.int (15 : Int32)), .val (.int (31 : Int32))] [])) (fun _ kgo => XS.icmpYes X0.here hx rfl (pc0 := 51) (pc' := 61) rfl (hb hby d6_51) rfl (tlt (by decide)).1 (by decide) (by decide) kgo) ?_
  refine own_go (g' := (mkF m 62 #[.val (.int (15 : Int32)), .val (.int (31 : Int32))] [(.int (15 : Int32))])) (fun _ kgo => XS.iloadN X0.here hx rfl (hb hby d6_61) rfl kgo) ?_
  refine own_go (g' := (mkF m 63 #[.val (.int (15 : Int32)), .val (.int (31 : Int32))] [(.int (4 : Int32)), (.int (15 : Int32))])) (fun _ kgo => XS.iconst X0.here hx rfl (hb hby d6_62) kgo) ?_
  refine own_go (g' := (mkF m 66 #[.val (.int (15 : Int32)), .val (.int (31 : Int32))] [])) (fun _ kgo => XS.icmpNo X0.here hx rfl (hb hby d6_63) rfl (flt (by decide)).1 kgo) ?_
  refine own_go (g' := (mkF m 69 #[.val (.int (15 : Int32)), .val (.int (29 : Int32))] [])) (fun _ kgo => XS.iinc X0.here hx rfl (hb hby d6_66) rfl (l' := #[.val (.int (15 : Int32)), .val (.int (29 : Int32))]) rfl kgo) ?_
  refine own_go (g' := (mkF m 70 #[.val (.int (15 : Int32)), .val (.int (29 : Int32))] [(.int (15 : Int32))])) (fun _ kgo => XS.iloadN X0.here hx rfl (hb hby d6_69) rfl kgo) ?_
  refine own_go (g' := (mkF m 71 #[.val (.int (15 : Int32)), .val (.int (29 : Int32))] [(.int (2 : Int32)), (.int (15 : Int32))])) (fun _ kgo => XS.iconst X0.here hx rfl (hb hby d6_70) kgo) ?_
  refine own_go (g' := (mkF m 72 #[.val (.int (15 : Int32)), .val (.int (29 : Int32))] [(.int (3 : Int32))])) (fun _ kgo => XS.iushr X0.here hx rfl (hb hby d6_71) rfl kgo) ?_
  refine own_go (g' := (mkF m 73 #[.val (.int (3 : Int32)), .val (.int (29 : Int32))] [])) (fun _ kgo => XS.istoreN X0.here hx rfl (hb hby d6_72) rfl (l' := #[.val (.int (3 : Int32)), .val (.int (29 : Int32))]) rfl kgo) ?_
  refine own_go (g' := (mkF m 74 #[.val (.int (3 : Int32)), .val (.int (29 : Int32))] [(.int (29 : Int32))])) (fun _ kgo => XS.iloadN X0.here hx rfl (hb hby d6_73) rfl kgo) ?_
  refine own_go (g' := (mkF m 75 #[.val (.int (3 : Int32)), .val (.int (29 : Int32))] [(.int (3 : Int32)), (.int (29 : Int32))])) (fun _ kgo => XS.iloadN X0.here hx rfl (hb hby d6_74) rfl kgo) ?_
  refine own_go (g' := (mkF m 76 #[.val (.int (3 : Int32)), .val (.int (29 : Int32))] [(.int (1 : Int32)), (.int (3 : Int32)), (.int (29 : Int32))])) (fun _ kgo => XS.iconst X0.here hx rfl (hb hby d6_75) kgo) ?_
  refine own_go (g' := (mkF m 77 #[.val (.int (3 : Int32)), .val (.int (29 : Int32))] [(.int (1 : Int32)), (.int (29 : Int32))])) (fun _ kgo => XS.iushr X0.here hx rfl (hb hby d6_76) rfl kgo) ?_
  refine own_go (g' := (mkF m 78 #[.val (.int (3 : Int32)), .val (.int (29 : Int32))] [(.int (28 : Int32))])) (fun _ kgo => XS.isub X0.here hx rfl (hb hby d6_77) rfl kgo) ?_
  refine own_retI X0 hx Bd.returns Bd.notSynchronized (hb hby d6_78) (by decide) (by decide) ?_
  show QQ _ s₁.heap _
  rw [e0]
  rw [← hQQ]
  exact ⟨rfl, rfl, rfl⟩
theorem pn_bpc15 : plainName "com/example/seenset/seenset/filter/StableParameters" = true := by first | (simp [plainName, overriddenIn]; done) | decide +kernel
theorem ef_bpc15 (m : MethodId)  : entryFrame m #[(.int (15 : Int32))] 1 = mkF m 0 #[.val (.int (15 : Int32))] [] := by first | (simp [entryFrame, mkF, argsToLocals, Value.category]; done) | rfl
set_option maxRecDepth 65536 in
set_option maxHeartbeats 40000000 in
theorem bpc15 (l : Launch) (Z : State) (a0 : Array Value) (hw : ∀ d ∈ tables_1, d.before a0 Z = true)   (h0 : Heap) :
    own_Met l Z (⟨"com/example/seenset/seenset/filter/StableParameters", "bitsPerCell", "(I)I"⟩ : MethodName) prog_32_method_18_code 1 (some .int) [] ({ frames := 1, cells := 0, slots := 0, locals := 14 } : Room) #[(.int (15 : Int32))] h0 0 0 (fun v h L => v = some (.int (4 : Int32)) ∧ h = h0 ∧ L = []) := by
  refine own_met (plainFor_of_name pn_bpc15) ?_
  intro p e s m below meth c s₁ Bd hml0 hZ X0 e0
  have hx := Bd.exec
  have hby := Bd.bytes
  have hml : c.maxLocals = 1 := hml0
  have hown : s.vm.findClass "com/example/seenset/seenset/filter/StableParameters" = some m.cls := findClass_of_methodNamed Bd.named
  have hnm := (name_of_methodNamed Bd.named Bd.method).1
  refine own_cast (ef_bpc15 m ) ?_
  generalize hQQ : (fun (v : Option Value) (h : Heap) (L : List Loc) => v = some (.int (4 : Int32)) ∧ h = h0 ∧ L = []) = QQ
  refine own_go (g' := (mkF m 2 #[.val (.int (15 : Int32))] [(.int (32 : Int32))])) (fun _ kgo => XS.bipush X0.here hx rfl (hb hby d5_0) kgo) ?_
  refine own_go (g' := (mkF m 3 #[.val (.int (15 : Int32))] [(.int (15 : Int32)), (.int (32 : Int32))])) (fun _ kgo => XS.iloadN X0.here hx rfl (hb hby d5_2) rfl kgo) ?_
  obtain ⟨v1, T1, L1, hQ1, X1, st1⟩ := own_callS X0 hx hZ (y := (⟨"java/lang/Integer", "numberOfLeadingZeros", "(I)I"⟩ : MethodName)) hown (hw _ (List.mem_of_getElem? (i := 20) rfl)) (hw _ (List.mem_of_getElem? (i := 21) rfl)) (hw _ (List.mem_of_getElem? (i := 22) rfl)) (hw _ (List.mem_of_getElem? (i := 23) rfl)) ⟨by decide, by decide⟩ (argsL := [(.int (15 : Int32))]) (nlz15 l Z a0 hw h0) e0 (g := (mkF m 3 #[.val (.int (15 : Int32))] [(.int (15 : Int32)), (.int (32 : Int32))])) rfl (by rw [hml]; rfl) (rest := [(.int (32 : Int32))]) (lenOf pd5_0 rfl) rfl (hb hby d5_3) (W := 1) (by show 2 * 0 + _ ≤ _; exact Nat.le_of_eq rfl) (by decide) (by decide) (by decide) (by decide)
  obtain ⟨rfl, e1, rfl⟩ := hQ1
  refine own_go (g' := (mkF m 6 #[.val (.int (15 : Int32))] [(.int (28 : Int32)), (.int (32 : Int32))])) (st1) ?_
  refine own_go (g' := (mkF m 7 #[.val (.int (15 : Int32))] [(.int (4 : Int32))])) (fun _ kgo => XS.isub X1.here hx rfl (hb hby d5_6) rfl kgo) ?_
  refine own_retI X1 hx Bd.returns Bd.notSynchronized (hb hby d5_7) (by decide) (by decide) ?_
  show QQ _ T1.heap _
  rw [e1]
  rw [← hQQ]
  exact ⟨rfl, rfl, rfl⟩
theorem d7_0 : decode prog_57_method_2_code 0 = .ok (.ldc2_w 60, 3) := by decide +kernel
theorem d7_3 : decode prog_57_method_2_code 3 = .ok (.iload_n 0, 1) := by decide +kernel
theorem d7_4 : decode prog_57_method_2_code 4 = .ok (.i2l, 1) := by decide +kernel
theorem d7_5 : decode prog_57_method_2_code 5 = .ok (.ldiv, 1) := by decide +kernel
theorem d7_6 : decode prog_57_method_2_code 6 = .ok (.lreturn, 1) := by decide +kernel
theorem pn_rm7 : plainName "com/example/seenset/seenset/util/Cells" = true := by first | (simp [plainName, overriddenIn]; done) | decide +kernel
theorem ef_rm7 (m : MethodId) (p0 : Int32) : entryFrame m #[(.int p0)] 1 = mkF m 0 #[.val (.int p0)] [] := by first | (simp [entryFrame, mkF, argsToLocals, Value.category]; done) | rfl
set_option maxRecDepth 65536 in
set_option maxHeartbeats 40000000 in
theorem rm7 (l : Launch) (Z : State) (a0 : Array Value) (hw : ∀ d ∈ tables_1, d.before a0 Z = true) (p0 : Int32)  (h0 : Heap) (hnz : ¬ (p0.toInt64 = (0 : Int64))) :
    own_Met l Z (⟨"com/example/seenset/seenset/util/Cells", "maxCount", "(I)J"⟩ : MethodName) prog_57_method_2_code 1 (some .long) [] ({ frames := 0, cells := 0, slots := 0, locals := 0 } : Room) #[(.int p0)] h0 0 0 (fun v h L => v = some (.long ((137438952896 : Int64) / p0.toInt64)) ∧ h = h0 ∧ L = []) := by
  refine own_met (plainFor_of_name pn_rm7) ?_
  intro p e s m below meth c s₁ Bd hml0 hZ X0 e0
  have hx := Bd.exec
  have hby := Bd.bytes
  have hml : c.maxLocals = 1 := hml0
  have hown : s.vm.findClass "com/example/seenset/seenset/util/Cells" = some m.cls := findClass_of_methodNamed Bd.named
  have hnm := (name_of_methodNamed Bd.named Bd.method).1
  refine own_cast (ef_rm7 m p0) ?_
  generalize hQQ : (fun (v : Option Value) (h : Heap) (L : List Loc) => v = some (.long ((137438952896 : Int64) / p0.toInt64)) ∧ h = h0 ∧ L = []) = QQ
  refine own_go (g' := (mkF m 3 #[.val (.int p0)] [(.long (137438952896 : Int64))])) (X0.ldc2Long hx hown (mvT hZ (hw _ (List.mem_of_getElem? (i := 29) rfl))) (g := (mkF m 0 #[.val (.int p0)] [])) rfl (hb hby d7_0)) ?_
  refine own_go (g' := (mkF m 4 #[.val (.int p0)] [(.int p0), (.long (137438952896 : Int64))])) (fun _ kgo => XS.iloadN X0.here hx rfl (hb hby d7_3) rfl kgo) ?_
  refine own_go (g' := (mkF m 5 #[.val (.int p0)] [(.long (p0.toInt64)), (.long (137438952896 : Int64))])) (fun _ kgo => XS.i2l X0.here hx rfl (hb hby d7_4) rfl kgo) ?_
  refine own_go (g' := (mkF m 6 #[.val (.int p0)] [(.long ((137438952896 : Int64) / (p0.toInt64)))])) (fun _ kgo => XS.ldiv X0.here hx rfl (hb hby d7_5) rfl hnz kgo) ?_
  refine own_retJ X0 hx Bd.returns Bd.notSynchronized (hb hby d7_6) (by decide) (by decide) ?_
  show QQ _ s₁.heap _
  rw [e0]
  rw [← hQQ]
  exact ⟨rfl, rfl, rfl⟩
theorem d3_0 : decode prog_32_method_2_code 0 = .ok (.aload_n 0, 1) := by decide +kernel
theorem d3_1 : decode prog_32_method_2_code 1 = .ok (.invokespecial 9, 3) := by decide +kernel
theorem d3_4 : decode prog_32_method_2_code 4 = .ok (.iload_n 3, 1) := by decide +kernel
theorem d3_5 : decode prog_32_method_2_code 5 = .ok (.iconst 1, 1) := by decide +kernel
theorem d3_6 : decode prog_32_method_2_code 6 = .ok (.if_icmp .lt 17, 3) := by decide +kernel
theorem d3_9 : decode prog_32_method_2_code 9 = .ok (.iload_n 3, 1) := by decide +kernel
theorem d3_10 : decode prog_32_method_2_code 10 = .ok (.bipush 15, 2) := by decide +kernel
theorem d3_12 : decode prog_32_method_2_code 12 = .ok (.if_icmp .gt 11, 3) := by decide +kernel
theorem d3_15 : decode prog_32_method_2_code 15 = .ok (.iload_n 3, 1) := by decide +kernel
theorem d3_16 : decode prog_32_method_2_code 16 = .ok (.iload_n 3, 1) := by decide +kernel
theorem d3_17 : decode prog_32_method_2_code 17 = .ok (.iconst 1, 1) := by decide +kernel
theorem d3_18 : decode prog_32_method_2_code 18 = .ok (.iadd, 1) := by decide +kernel
theorem d3_19 : decode prog_32_method_2_code 19 = .ok (.iand, 1) := by decide +kernel
theorem d3_20 : decode prog_32_method_2_code 20 = .ok (.ifCond .eq 17, 3) := by decide +kernel
theorem d3_37 : decode prog_32_method_2_code 37 = .ok (.iload_n 3, 1) := by decide +kernel
theorem d3_38 : decode prog_32_method_2_code 38 = .ok (.invokestatic 23, 3) := by decide +kernel
theorem d3_41 : decode prog_32_method_2_code 41 = .ok (.istore 8, 2) := by decide +kernel
theorem d3_43 : decode prog_32_method_2_code 43 = .ok (.lload_n 1, 1) := by decide +kernel
theorem d3_44 : decode prog_32_method_2_code 44 = .ok (.lconst 1, 1) := by decide +kernel
theorem d3_45 : decode prog_32_method_2_code 45 = .ok (.lcmp, 1) := by decide +kernel
theorem d3_46 : decode prog_32_method_2_code 46 = .ok (.ifCond .lt 13, 3) := by decide +kernel
theorem d3_49 : decode prog_32_method_2_code 49 = .ok (.lload_n 1, 1) := by decide +kernel
theorem d3_50 : decode prog_32_method_2_code 50 = .ok (.iload 8, 2) := by decide +kernel
theorem d3_52 : decode prog_32_method_2_code 52 = .ok (.invokestatic 27, 3) := by decide +kernel
theorem d3_55 : decode prog_32_method_2_code 55 = .ok (.lcmp, 1) := by decide +kernel
theorem d3_56 : decode prog_32_method_2_code 56 = .ok (.ifCond .le 22, 3) := by decide +kernel
theorem d3_78 : decode prog_32_method_2_code 78 = .ok (.iload 4, 2) := by decide +kernel
theorem d3_80 : decode prog_32_method_2_code 80 = .ok (.iconst 1, 1) := by decide +kernel
theorem d3_81 : decode prog_32_method_2_code 81 = .ok (.if_icmp .lt 17, 3) := by decide +kernel
theorem d3_84 : decode prog_32_method_2_code 84 = .ok (.iload 4, 2) := by decide +kernel
theorem d3_86 : decode prog_32_method_2_code 86 = .ok (.i2l, 1) := by decide +kernel
theorem d3_87 : decode prog_32_method_2_code 87 = .ok (.lload_n 1, 1) := by decide +kernel
theorem d3_88 : decode prog_32_method_2_code 88 = .ok (.ldc2_w 36, 3) := by decide +kernel
theorem d3_91 : decode prog_32_method_2_code 91 = .ok (.invokestatic 38, 3) := by decide +kernel
theorem d3_94 : decode prog_32_method_2_code 94 = .ok (.lcmp, 1) := by decide +kernel
theorem d3_95 : decode prog_32_method_2_code 95 = .ok (.ifCond .le 25, 3) := by decide +kernel
theorem d3_120 : decode prog_32_method_2_code 120 = .ok (.iload 5, 2) := by decide +kernel
theorem d3_122 : decode prog_32_method_2_code 122 = .ok (.ifCond .lt 11, 3) := by decide +kernel
theorem d3_125 : decode prog_32_method_2_code 125 = .ok (.iload 5, 2) := by decide +kernel
theorem d3_127 : decode prog_32_method_2_code 127 = .ok (.i2l, 1) := by decide +kernel
theorem d3_128 : decode prog_32_method_2_code 128 = .ok (.lload_n 1, 1) := by decide +kernel
theorem d3_129 : decode prog_32_method_2_code 129 = .ok (.lcmp, 1) := by decide +kernel
theorem d3_130 : decode prog_32_method_2_code 130 = .ok (.ifCond .le 19, 3) := by decide +kernel
theorem d3_149 : decode prog_32_method_2_code 149 = .ok (.aload_n 0, 1) := by decide +kernel
theorem d3_150 : decode prog_32_method_2_code 150 = .ok (.lload_n 1, 1) := by decide +kernel
theorem d3_151 : decode prog_32_method_2_code 151 = .ok (.putfield 48, 3) := by decide +kernel
theorem d3_154 : decode prog_32_method_2_code 154 = .ok (.aload_n 0, 1) := by decide +kernel
theorem d3_155 : decode prog_32_method_2_code 155 = .ok (.iload_n 3, 1) := by decide +kernel
theorem d3_156 : decode prog_32_method_2_code 156 = .ok (.putfield 52, 3) := by decide +kernel
theorem d3_159 : decode prog_32_method_2_code 159 = .ok (.aload_n 0, 1) := by decide +kernel
theorem d3_160 : decode prog_32_method_2_code 160 = .ok (.iload 4, 2) := by decide +kernel
theorem d3_162 : decode prog_32_method_2_code 162 = .ok (.putfield 56, 3) := by decide +kernel
theorem d3_165 : decode prog_32_method_2_code 165 = .ok (.aload_n 0, 1) := by decide +kernel
theorem d3_166 : decode prog_32_method_2_code 166 = .ok (.iload 5, 2) := by decide +kernel
theorem d3_168 : decode prog_32_method_2_code 168 = .ok (.putfield 59, 3) := by decide +kernel
theorem d3_171 : decode prog_32_method_2_code 171 = .ok (.aload_n 0, 1) := by decide +kernel
theorem d3_172 : decode prog_32_method_2_code 172 = .ok (.lload 6, 2) := by decide +kernel
theorem d3_174 : decode prog_32_method_2_code 174 = .ok (.putfield 62, 3) := by decide +kernel
theorem d3_177 : decode prog_32_method_2_code 177 = .ok (.return_, 1) := by decide +kernel
theorem pn_ct5 : plainName "com/example/seenset/seenset/filter/StableParameters" = true := by first | (simp [plainName, overriddenIn]; done) | decide +kernel
theorem pd3_0 : parseMethodDescriptor "(I)I" = some ⟨[.int], some .int⟩ := by decide +kernel
theorem pd3_1 : parseMethodDescriptor "(I)J" = some ⟨[.int], some .long⟩ := by decide +kernel
theorem pd3_2 : parseMethodDescriptor "(JJ)J" = some ⟨[.long, .long], some .long⟩ := by decide +kernel
theorem ef_ct5 (m : MethodId) (o0 : Addr) (q1 : Int64) (p2 : Int32) (p3 : Int32) (p4 : Int32) (q5 : Int64) : entryFrame m #[(.ref o0), (.long q1), (.int p2), (.int p3), (.int p4), (.long q5)] 9 = mkF m 0 #[.val (.ref o0), .val (.long q1), .second, .val (.int p2), .val (.int p3), .val (.int p4), .val (.long q5), .second, .unset] [] := by first | (simp [entryFrame, mkF, argsToLocals, Value.category]; done) | rfl
set_option maxRecDepth 65536 in
set_option maxHeartbeats 40000000 in
theorem ct5 (l : Launch) (Z : State) (a0 : Array Value) (hw : ∀ d ∈ tables_1, d.before a0 Z = true) (o0 : Addr) (q1 : Int64) (p2 : Int32) (p3 : Int32) (p4 : Int32) (q5 : Int64)  (h0 : Heap) (n0 : Nat) (Z0 : n0 ≤ h0.size) (g_o0 : n0 ≤ o0) (P0 : Exa Z h0 o0 "com/example/seenset/seenset/filter/StableParameters") (P1 : Fld Z h0 o0 "com/example/seenset/seenset/filter/StableParameters" "cells" "J" (.long (0 : Int64))) (P2 : Fld Z h0 o0 "com/example/seenset/seenset/filter/StableParameters" "max" "I" (.int (0 : Int32))) (P3 : Fld Z h0 o0 "com/example/seenset/seenset/filter/StableParameters" "hashes" "I" (.int (0 : Int32))) (P4 : Fld Z h0 o0 "com/example/seenset/seenset/filter/StableParameters" "decrement" "I" (.int (0 : Int32))) (P5 : Fld Z h0 o0 "com/example/seenset/seenset/filter/StableParameters" "seed" "J" (.long (0 : Int64))) (hcl : 1 ≤ q1.toInt ∧ q1.toInt ≤ 17179869184) (hmx : p2 = 1 ∨ p2 = 3 ∨ p2 = 7 ∨ p2 = 15) (hhs : 1 ≤ p3.toInt ∧ p3.toInt ≤ 64 ∧ p3.toInt ≤ q1.toInt) (hde : 0 ≤ p4.toInt ∧ p4.toInt ≤ 1073741823 ∧ p4.toInt ≤ q1.toInt) :
    own_Met l Z (⟨"com/example/seenset/seenset/filter/StableParameters", "<init>", "(JIIIJ)V"⟩ : MethodName) prog_32_method_2_code 9 none [] ({ frames := 2, cells := 0, slots := 0, locals := 26 } : Room) #[(.ref o0), (.long q1), (.int p2), (.int p3), (.int p4), (.long q5)] h0 0 0 (fun v h L => v = none ∧ Fr n0 L ∧ Keep h0 h [o0] ∧ Exa Z h o0 "com/example/seenset/seenset/filter/StableParameters" ∧ Fld Z h o0 "com/example/seenset/seenset/filter/StableParameters" "cells" "J" (.long q1) ∧ Fld Z h o0 "com/example/seenset/seenset/filter/StableParameters" "max" "I" (.int p2) ∧ Fld Z h o0 "com/example/seenset/seenset/filter/StableParameters" "hashes" "I" (.int p3) ∧ Fld Z h o0 "com/example/seenset/seenset/filter/StableParameters" "decrement" "I" (.int p4) ∧ Fld Z h o0 "com/example/seenset/seenset/filter/StableParameters" "seed" "J" (.long q5)) := by
  refine own_met (plainFor_of_name pn_ct5) ?_
  intro p e s m below meth c s₁ Bd hml0 hZ X0 e0
  have hx := Bd.exec
  have hby := Bd.bytes
  have hml : c.maxLocals = 9 := hml0
  have hown : s.vm.findClass "com/example/seenset/seenset/filter/StableParameters" = some m.cls := findClass_of_methodNamed Bd.named
  have hnm := (name_of_methodNamed Bd.named Bd.method).1
  refine own_cast (ef_ct5 m o0 q1 p2 p3 p4 q5) ?_
  generalize hQQ : (fun (v : Option Value) (h : Heap) (L : List Loc) => v = none ∧ Fr n0 L ∧ Keep h0 h [o0] ∧ Exa Z h o0 "com/example/seenset/seenset/filter/StableParameters" ∧ Fld Z h o0 "com/example/seenset/seenset/filter/StableParameters" "cells" "J" (.long q1) ∧ Fld Z h o0 "com/example/seenset/seenset/filter/StableParameters" "max" "I" (.int p2) ∧ Fld Z h o0 "com/example/seenset/seenset/filter/StableParameters" "hashes" "I" (.int p3) ∧ Fld Z h o0 "com/example/seenset/seenset/filter/StableParameters" "decrement" "I" (.int p4) ∧ Fld Z h o0 "com/example/seenset/seenset/filter/StableParameters" "seed" "J" (.long q5)) = QQ
  have N0 := Fr.nil n0
  have K0 := Keep.refl h0 [o0]
  refine own_go (g' := (mkF m 1 #[.val (.ref o0), .val (.long q1), .second, .val (.int p2), .val (.int p3), .val (.int p4), .val (.long q5), .second, .unset] [(.ref o0)])) (fun _ kgo => XS.aloadN X0.here hx rfl (hb hby d3_0) rfl rfl kgo) ?_
  obtain ⟨T1, X1, e1, st1⟩ := initO X0 hx hZ hown (hw _ (List.mem_of_getElem? (i := 14) rfl)) (hw _ (List.mem_of_getElem? (i := 15) rfl)) (hw _ (List.mem_of_getElem? (i := 16) rfl)) e0 (g := (mkF m 1 #[.val (.ref o0), .val (.long q1), .second, .val (.int p2), .val (.int p3), .val (.int p4), .val (.long q5), .second, .unset] [(.ref o0)])) rfl (by rw [hml]; rfl) rfl (hb hby d3_1) (by decide) (W := 0) (by show 2 * 0 + _ ≤ _; exact Nat.le_of_eq rfl) (by decide)
  refine own_go (g' := (mkF m 4 #[.val (.ref o0), .val (.long q1), .second, .val (.int p2), .val (.int p3), .val (.int p4), .val (.long q5), .second, .unset] [])) (st1) ?_
  rcases hmx with rfl | rfl | rfl | rfl
  ·
    refine own_go (g' := (mkF m 5 #[.val (.ref o0), .val (.long q1), .second, .val (.int (1 : Int32)), .val (.int p3), .val (.int p4), .val (.long q5), .second, .unset] [(.int (1 : Int32))])) (fun _ kgo => XS.iloadN X1.here hx rfl (hb hby d3_4) rfl kgo) ?_
    refine own_go (g' := (mkF m 6 #[.val (.ref o0), .val (.long q1), .second, .val (.int (1 : Int32)), .val (.int p3), .val (.int p4), .val (.long q5), .second, .unset] [(.int (1 : Int32)), (.int (1 : Int32))])) (fun _ kgo => XS.iconst X1.here hx rfl (hb hby d3_5) kgo) ?_
    refine own_go (g' := (mkF m 9 #[.val (.ref o0), .val (.long q1), .second, .val (.int (1 : Int32)), .val (.int p3), .val (.int p4), .val (.long q5), .second, .unset] [])) (fun _ kgo => XS.icmpNo X1.here hx rfl (hb hby d3_6) rfl (flt (by decide)).1 kgo) ?_
    refine own_go (g' := (mkF m 10 #[.val (.ref o0), .val (.long q1), .second, .val (.int (1 : Int32)), .val (.int p3), .val (.int p4), .val (.long q5), .second, .unset] [(.int (1 : Int32))])) (fun _ kgo => XS.iloadN X1.here hx rfl (hb hby d3_9) rfl kgo) ?_
    refine own_go (g' := (mkF m 12 #[.val (.ref o0), .val (.long q1), .second, .val (.int (1 : Int32)), .val (.int p3), .val (.int p4), .val (.long q5), .second, .unset] [(.int (15 : Int32)), (.int (1 : Int32))])) (fun _ kgo => XS.bipush X1.here hx rfl (hb hby d3_10) kgo) ?_
    refine own_go (g' := (mkF m 15 #[.val (.ref o0), .val (.long q1), .second, .val (.int (1 : Int32)), .val (.int p3), .val (.int p4), .val (.long q5), .second, .unset] [])) (fun _ kgo => XS.icmpNo X1.here hx rfl (hb hby d3_12) rfl (flt (by decide)).2.2.1 kgo) ?_
    refine own_go (g' := (mkF m 16 #[.val (.ref o0), .val (.long q1), .second, .val (.int (1 : Int32)), .val (.int p3), .val (.int p4), .val (.long q5), .second, .unset] [(.int (1 : Int32))])) (fun _ kgo => XS.iloadN X1.here hx rfl (hb hby d3_15) rfl kgo) ?_
    refine own_go (g' := (mkF m 17 #[.val (.ref o0), .val (.long q1), .second, .val (.int (1 : Int32)), .val (.int p3), .val (.int p4), .val (.long q5), .second, .unset] [(.int (1 : Int32)), (.int (1 : Int32))])) (fun _ kgo => XS.iloadN X1.here hx rfl (hb hby d3_16) rfl kgo) ?_
    refine own_go (g' := (mkF m 18 #[.val (.ref o0), .val (.long q1), .second, .val (.int (1 : Int32)), .val (.int p3), .val (.int p4), .val (.long q5), .second, .unset] [(.int (1 : Int32)), (.int (1 : Int32)), (.int (1 : Int32))])) (fun _ kgo => XS.iconst X1.here hx rfl (hb hby d3_17) kgo) ?_
    refine own_go (g' := (mkF m 19 #[.val (.ref o0), .val (.long q1), .second, .val (.int (1 : Int32)), .val (.int p3), .val (.int p4), .val (.long q5), .second, .unset] [(.int (2 : Int32)), (.int (1 : Int32))])) (fun _ kgo => XS.iadd X1.here hx rfl (hb hby d3_18) rfl kgo) ?_
    refine own_go (g' := (mkF m 20 #[.val (.ref o0), .val (.long q1), .second, .val (.int (1 : Int32)), .val (.int p3), .val (.int p4), .val (.long q5), .second, .unset] [(.int (0 : Int32))])) (fun _ kgo => XS.iand X1.here hx rfl (hb hby d3_19) rfl kgo) ?_
    refine own_go (g' := (mkF m 37 #[.val (.ref o0), .val (.long q1), .second, .val (.int (1 : Int32)), .val (.int p3), .val (.int p4), .val (.long q5), .second, .unset] [])) (fun _ kgo => XS.ifYes X1.here hx rfl (pc0 := 20) (pc' := 37) rfl (hb hby d3_20) rfl ((if0 _ _).trans (teq (by decide)).1) (by decide) (by decide) kgo) ?_
    refine own_go (g' := (mkF m 38 #[.val (.ref o0), .val (.long q1), .second, .val (.int (1 : Int32)), .val (.int p3), .val (.int p4), .val (.long q5), .second, .unset] [(.int (1 : Int32))])) (fun _ kgo => XS.iloadN X1.here hx rfl (hb hby d3_37) rfl kgo) ?_
    obtain ⟨v2, T2, L2, hQ2, X2, st2⟩ := own_callS X1 hx hZ (y := (⟨"com/example/seenset/seenset/filter/StableParameters", "bitsPerCell", "(I)I"⟩ : MethodName)) hown (hw _ (List.mem_of_getElem? (i := 17) rfl)) (hw _ (List.mem_of_getElem? (i := 18) rfl)) (hw _ (List.mem_of_getElem? (i := 7) rfl)) (hw _ (List.mem_of_getElem? (i := 19) rfl)) ⟨by decide, by decide⟩ (argsL := [(.int (1 : Int32))]) (bpc1 l Z a0 hw h0) e1 (g := (mkF m 38 #[.val (.ref o0), .val (.long q1), .second, .val (.int (1 : Int32)), .val (.int p3), .val (.int p4), .val (.long q5), .second, .unset] [(.int (1 : Int32))])) rfl (by rw [hml]; rfl) (rest := []) (lenOf pd3_0 rfl) rfl (hb hby d3_38) (W := 0) (by show 2 * 0 + _ ≤ _; exact Nat.le_of_eq rfl) (by decide) (by decide) (by decide) (by decide)
    obtain ⟨rfl, e2, rfl⟩ := hQ2
    have N2 := Fr.app N0 (Fr.nil n0)
    refine own_go (g' := (mkF m 41 #[.val (.ref o0), .val (.long q1), .second, .val (.int (1 : Int32)), .val (.int p3), .val (.int p4), .val (.long q5), .second, .unset] [(.int (1 : Int32))])) (st2) ?_
    refine own_go (g' := (mkF m 43 #[.val (.ref o0), .val (.long q1), .second, .val (.int (1 : Int32)), .val (.int p3), .val (.int p4), .val (.long q5), .second, .val (.int (1 : Int32))] [])) (fun _ kgo => XS.istore X2.here hx rfl (hb hby d3_41) rfl (l' := #[.val (.ref o0), .val (.long q1), .second, .val (.int (1 : Int32)), .val (.int p3), .val (.int p4), .val (.long q5), .second, .val (.int (1 : Int32))]) rfl kgo) ?_
    refine own_go (g' := (mkF m 44 #[.val (.ref o0), .val (.long q1), .second, .val (.int (1 : Int32)), .val (.int p3), .val (.int p4), .val (.long q5), .second, .val (.int (1 : Int32))] [(.long q1)])) (fun _ kgo => XS.lloadN X2.here hx rfl (hb hby d3_43) rfl kgo) ?_
    refine own_go (g' := (mkF m 45 #[.val (.ref o0), .val (.long q1), .second, .val (.int (1 : Int32)), .val (.int p3), .val (.int p4), .val (.long q5), .second, .val (.int (1 : Int32))] [(.long (1 : Int64)), (.long q1)])) (fun _ kgo => XS.lconst X2.here hx rfl (hb hby d3_44) kgo) ?_
    refine own_go (g' := (mkF m 46 #[.val (.ref o0), .val (.long q1), .second, .val (.int (1 : Int32)), .val (.int p3), .val (.int p4), .val (.long q5), .second, .val (.int (1 : Int32))] [(.int (lcmpW q1 (1 : Int64)))])) (fun _ kgo => XS.lcmp X2.here hx rfl (hb hby d3_45) rfl kgo) ?_
    refine own_go (g' := (mkF m 49 #[.val (.ref o0), .val (.long q1), .second, .val (.int (1 : Int32)), .val (.int p3), .val (.int p4), .val (.long q5), .second, .val (.int (1 : Int32))] [])) (fun _ kgo => XS.ifNo X2.here hx rfl (hb hby d3_46) rfl ((if0 _ _).trans (flt (mt (lw_lt _ _).mp (by simp only [Int64.lt_iff_toInt_lt, Int32.lt_iff_toInt_lt, c_i2l, own_min_i, Int64.reduceToInt, Int32.reduceToInt]; omega))).1) kgo) ?_
    refine own_go (g' := (mkF m 50 #[.val (.ref o0), .val (.long q1), .second, .val (.int (1 : Int32)), .val (.int p3), .val (.int p4), .val (.long q5), .second, .val (.int (1 : Int32))] [(.long q1)])) (fun _ kgo => XS.lloadN X2.here hx rfl (hb hby d3_49) rfl kgo) ?_
    refine own_go (g' := (mkF m 52 #[.val (.ref o0), .val (.long q1), .second, .val (.int (1 : Int32)), .val (.int p3), .val (.int p4), .val (.long q5), .second, .val (.int (1 : Int32))] [(.int (1 : Int32)), (.long q1)])) (fun _ kgo => XS.iload X2.here hx rfl (hb hby d3_50) rfl kgo) ?_
    obtain ⟨v3, T3, L3, hQ3, X3, st3⟩ := own_callS X2 hx hZ (y := (⟨"com/example/seenset/seenset/util/Cells", "maxCount", "(I)J"⟩ : MethodName)) hown (hw _ (List.mem_of_getElem? (i := 25) rfl)) (hw _ (List.mem_of_getElem? (i := 26) rfl)) (hw _ (List.mem_of_getElem? (i := 27) rfl)) (hw _ (List.mem_of_getElem? (i := 28) rfl)) ⟨by decide, by decide⟩ (argsL := [(.int (1 : Int32))]) (rm7 l Z a0 hw (1 : Int32) h0 (by decide)) e2 (g := (mkF m 52 #[.val (.ref o0), .val (.long q1), .second, .val (.int (1 : Int32)), .val (.int p3), .val (.int p4), .val (.long q5), .second, .val (.int (1 : Int32))] [(.int (1 : Int32)), (.long q1)])) rfl (by rw [hml]; rfl) (rest := [(.long q1)]) (lenOf pd3_1 rfl) rfl (hb hby d3_52) (W := 2) (by show 2 * 0 + _ ≤ _; exact Nat.le_of_eq rfl) (by decide) (by decide) (by decide) (by decide)
    obtain ⟨rfl, e3, rfl⟩ := hQ3
    have N3 := Fr.app N2 (Fr.nil n0)
    refine own_go (g' := (mkF m 55 #[.val (.ref o0), .val (.long q1), .second, .val (.int (1 : Int32)), .val (.int p3), .val (.int p4), .val (.long q5), .second, .val (.int (1 : Int32))] [(.long ((137438952896 : Int64) / (1 : Int32).toInt64)), (.long q1)])) (st3) ?_
    refine own_go (g' := (mkF m 56 #[.val (.ref o0), .val (.long q1), .second, .val (.int (1 : Int32)), .val (.int p3), .val (.int p4), .val (.long q5), .second, .val (.int (1 : Int32))] [(.int (lcmpW q1 ((137438952896 : Int64) / (1 : Int32).toInt64)))])) (fun _ kgo => XS.lcmp X3.here hx rfl (hb hby d3_55) rfl kgo) ?_
    refine own_go (g' := (mkF m 78 #[.val (.ref o0), .val (.long q1), .second, .val (.int (1 : Int32)), .val (.int p3), .val (.int p4), .val (.long q5), .second, .val (.int (1 : Int32))] [])) (fun _ kgo => XS.ifYes X3.here hx rfl (pc0 := 56) (pc' := 78) rfl (hb hby d3_56) rfl ((if0 _ _).trans (flt (mt (lw_gt _ _).mp (by rw [Int64.lt_iff_toInt_lt, show ((137438952896 : Int64) / (1 : Int32).toInt64).toInt = 137438952896 from by decide]; omega))).2.2.2) (by decide) (by decide) kgo) ?_
    refine own_go (g' := (mkF m 80 #[.val (.ref o0), .val (.long q1), .second, .val (.int (1 : Int32)), .val (.int p3), .val (.int p4), .val (.long q5), .second, .val (.int (1 : Int32))] [(.int p3)])) (fun _ kgo => XS.iload X3.here hx rfl (hb hby d3_78) rfl kgo) ?_
    refine own_go (g' := (mkF m 81 #[.val (.ref o0), .val (.long q1), .second, .val (.int (1 : Int32)), .val (.int p3), .val (.int p4), .val (.long q5), .second, .val (.int (1 : Int32))] [(.int (1 : Int32)), (.int p3)])) (fun _ kgo => XS.iconst X3.here hx rfl (hb hby d3_80) kgo) ?_
    refine own_go (g' := (mkF m 84 #[.val (.ref o0), .val (.long q1), .second, .val (.int (1 : Int32)), .val (.int p3), .val (.int p4), .val (.long q5), .second, .val (.int (1 : Int32))] [])) (fun _ kgo => XS.icmpNo X3.here hx rfl (hb hby d3_81) rfl (flt (by simp only [Int64.lt_iff_toInt_lt, Int32.lt_iff_toInt_lt, c_i2l, own_min_i, Int64.reduceToInt, Int32.reduceToInt]; omega)).1 kgo) ?_
    refine own_go (g' := (mkF m 86 #[.val (.ref o0), .val (.long q1), .second, .val (.int (1 : Int32)), .val (.int p3), .val (.int p4), .val (.long q5), .second, .val (.int (1 : Int32))] [(.int p3)])) (fun _ kgo => XS.iload X3.here hx rfl (hb hby d3_84) rfl kgo) ?_
    refine own_go (g' := (mkF m 87 #[.val (.ref o0), .val (.long q1), .second, .val (.int (1 : Int32)), .val (.int p3), .val (.int p4), .val (.long q5), .second, .val (.int (1 : Int32))] [(.long (p3.toInt64))])) (fun _ kgo => XS.i2l X3.here hx rfl (hb hby d3_86) rfl kgo) ?_
    refine own_go (g' := (mkF m 88 #[.val (.ref o0), .val (.long q1), .second, .val (.int (1 : Int32)), .val (.int p3), .val (.int p4), .val (.long q5), .second, .val (.int (1 : Int32))] [(.long q1), (.long (p3.toInt64))])) (fun _ kgo => XS.lloadN X3.here hx rfl (hb hby d3_87) rfl kgo) ?_
    refine own_go (g' := (mkF m 91 #[.val (.ref o0), .val (.long q1), .second, .val (.int (1 : Int32)), .val (.int p3), .val (.int p4), .val (.long q5), .second, .val (.int (1 : Int32))] [(.long (64 : Int64)), (.long q1), (.long (p3.toInt64))])) (X3.ldc2Long hx hown (mvT hZ (hw _ (List.mem_of_getElem? (i := 30) rfl))) (g := (mkF m 88 #[.val (.ref o0), .val (.long q1), .second, .val (.int (1 : Int32)), .val (.int p3), .val (.int p4), .val (.long q5), .second, .val (.int (1 : Int32))] [(.long q1), (.long (p3.toInt64))])) rfl (hb hby d3_88)) ?_
    obtain ⟨v4, T4, L4, hQ4, X4, st4⟩ := own_callS X3 hx hZ (y := (⟨"java/lang/Math", "min", "(JJ)J"⟩ : MethodName)) hown (hw _ (List.mem_of_getElem? (i := 31) rfl)) (hw _ (List.mem_of_getElem? (i := 2) rfl)) (hw _ (List.mem_of_getElem? (i := 3) rfl)) (hw _ (List.mem_of_getElem? (i := 4) rfl)) ⟨by decide, by decide⟩ (argsL := [(.long q1), (.long (64 : Int64))]) (rm1 l Z a0 hw q1 (64 : Int64) h0) e3 (g := (mkF m 91 #[.val (.ref o0), .val (.long q1), .second, .val (.int (1 : Int32)), .val (.int p3), .val (.int p4), .val (.long q5), .second, .val (.int (1 : Int32))] [(.long (64 : Int64)), (.long q1), (.long (p3.toInt64))])) rfl (by rw [hml]; rfl) (rest := [(.long (p3.toInt64))]) (lenOf pd3_2 rfl) rfl (hb hby d3_91) (W := 2) (by show 2 * 0 + _ ≤ _; exact Nat.le_of_eq rfl) (by decide) (by decide) (by decide) (by decide)
    obtain ⟨rfl, e4, rfl⟩ := hQ4
    have N4 := Fr.app N3 (Fr.nil n0)
    refine own_go (g' := (mkF m 94 #[.val (.ref o0), .val (.long q1), .second, .val (.int (1 : Int32)), .val (.int p3), .val (.int p4), .val (.long q5), .second, .val (.int (1 : Int32))] [(.long (own_min q1 (64 : Int64))), (.long (p3.toInt64))])) (st4) ?_
    refine own_go (g' := (mkF m 95 #[.val (.ref o0), .val (.long q1), .second, .val (.int (1 : Int32)), .val (.int p3), .val (.int p4), .val (.long q5), .second, .val (.int (1 : Int32))] [(.int (lcmpW (p3.toInt64) (own_min q1 (64 : Int64))))])) (fun _ kgo => XS.lcmp X4.here hx rfl (hb hby d3_94) rfl kgo) ?_
    refine own_go (g' := (mkF m 120 #[.val (.ref o0), .val (.long q1), .second, .val (.int (1 : Int32)), .val (.int p3), .val (.int p4), .val (.long q5), .second, .val (.int (1 : Int32))] [])) (fun _ kgo => XS.ifYes X4.here hx rfl (pc0 := 95) (pc' := 120) rfl (hb hby d3_95) rfl ((if0 _ _).trans (flt (mt (lw_gt _ _).mp (by simp only [Int64.lt_iff_toInt_lt, Int32.lt_iff_toInt_lt, c_i2l, own_min_i, Int64.reduceToInt, Int32.reduceToInt]; split <;> omega))).2.2.2) (by decide) (by decide) kgo) ?_
    refine own_go (g' := (mkF m 122 #[.val (.ref o0), .val (.long q1), .second, .val (.int (1 : Int32)), .val (.int p3), .val (.int p4), .val (.long q5), .second, .val (.int (1 : Int32))] [(.int p4)])) (fun _ kgo => XS.iload X4.here hx rfl (hb hby d3_120) rfl kgo) ?_
    refine own_go (g' := (mkF m 125 #[.val (.ref o0), .val (.long q1), .second, .val (.int (1 : Int32)), .val (.int p3), .val (.int p4), .val (.long q5), .second, .val (.int (1 : Int32))] [])) (fun _ kgo => XS.ifNo X4.here hx rfl (hb hby d3_122) rfl ((if0 _ _).trans (flt (by simp only [Int64.lt_iff_toInt_lt, Int32.lt_iff_toInt_lt, c_i2l, own_min_i, Int64.reduceToInt, Int32.reduceToInt]; omega)).1) kgo) ?_
    refine own_go (g' := (mkF m 127 #[.val (.ref o0), .val (.long q1), .second, .val (.int (1 : Int32)), .val (.int p3), .val (.int p4), .val (.long q5), .second, .val (.int (1 : Int32))] [(.int p4)])) (fun _ kgo => XS.iload X4.here hx rfl (hb hby d3_125) rfl kgo) ?_
    refine own_go (g' := (mkF m 128 #[.val (.ref o0), .val (.long q1), .second, .val (.int (1 : Int32)), .val (.int p3), .val (.int p4), .val (.long q5), .second, .val (.int (1 : Int32))] [(.long (p4.toInt64))])) (fun _ kgo => XS.i2l X4.here hx rfl (hb hby d3_127) rfl kgo) ?_
    refine own_go (g' := (mkF m 129 #[.val (.ref o0), .val (.long q1), .second, .val (.int (1 : Int32)), .val (.int p3), .val (.int p4), .val (.long q5), .second, .val (.int (1 : Int32))] [(.long q1), (.long (p4.toInt64))])) (fun _ kgo => XS.lloadN X4.here hx rfl (hb hby d3_128) rfl kgo) ?_
    refine own_go (g' := (mkF m 130 #[.val (.ref o0), .val (.long q1), .second, .val (.int (1 : Int32)), .val (.int p3), .val (.int p4), .val (.long q5), .second, .val (.int (1 : Int32))] [(.int (lcmpW (p4.toInt64) q1))])) (fun _ kgo => XS.lcmp X4.here hx rfl (hb hby d3_129) rfl kgo) ?_
    refine own_go (g' := (mkF m 149 #[.val (.ref o0), .val (.long q1), .second, .val (.int (1 : Int32)), .val (.int p3), .val (.int p4), .val (.long q5), .second, .val (.int (1 : Int32))] [])) (fun _ kgo => XS.ifYes X4.here hx rfl (pc0 := 130) (pc' := 149) rfl (hb hby d3_130) rfl ((if0 _ _).trans (flt (mt (lw_gt _ _).mp (by simp only [Int64.lt_iff_toInt_lt, Int32.lt_iff_toInt_lt, c_i2l, own_min_i, Int64.reduceToInt, Int32.reduceToInt]; omega))).2.2.2) (by decide) (by decide) kgo) ?_
    refine own_go (g' := (mkF m 150 #[.val (.ref o0), .val (.long q1), .second, .val (.int (1 : Int32)), .val (.int p3), .val (.int p4), .val (.long q5), .second, .val (.int (1 : Int32))] [(.ref o0)])) (fun _ kgo => XS.aloadN X4.here hx rfl (hb hby d3_149) rfl rfl kgo) ?_
    refine own_go (g' := (mkF m 151 #[.val (.ref o0), .val (.long q1), .second, .val (.int (1 : Int32)), .val (.int p3), .val (.int p4), .val (.long q5), .second, .val (.int (1 : Int32))] [(.long q1), (.ref o0)])) (fun _ kgo => XS.lloadN X4.here hx rfl (hb hby d3_150) rfl kgo) ?_
    obtain ⟨T5, h5, X5, e5, W5, st5⟩ := putF X4 hx hZ hown (host := "") (Or.inl (hw _ (List.mem_of_getElem? (i := 32) rfl))) Via.refl e4 P1 P0 (Or.inr ⟨(hw _ (List.mem_of_getElem? (i := 33) rfl)), rfl, hnm⟩) (hw _ (List.mem_of_getElem? (i := 6) rfl)) (ty := .long) (by decide) rfl rfl (g := (mkF m 151 #[.val (.ref o0), .val (.long q1), .second, .val (.int (1 : Int32)), .val (.int p3), .val (.int p4), .val (.long q5), .second, .val (.int (1 : Int32))] [(.long q1), (.ref o0)])) rfl rfl (hb hby d3_151)
    have w5 := Fld.same W5 P1
    have N5 := Fr.snoc X5 N4 g_o0
    have Z5 : n0 ≤ h5.size := by rw [W5.size]; exact Z0
    have K5 : Keep h0 h5 [o0] := K0.wr W5 (Or.inl (List.mem_of_getElem? (i := 0) rfl))
    refine own_go (g' := (mkF m 154 #[.val (.ref o0), .val (.long q1), .second, .val (.int (1 : Int32)), .val (.int p3), .val (.int p4), .val (.long q5), .second, .val (.int (1 : Int32))] [])) (st5) ?_
    refine own_go (g' := (mkF m 155 #[.val (.ref o0), .val (.long q1), .second, .val (.int (1 : Int32)), .val (.int p3), .val (.int p4), .val (.long q5), .second, .val (.int (1 : Int32))] [(.ref o0)])) (fun _ kgo => XS.aloadN X5.here hx rfl (hb hby d3_154) rfl rfl kgo) ?_
    refine own_go (g' := (mkF m 156 #[.val (.ref o0), .val (.long q1), .second, .val (.int (1 : Int32)), .val (.int p3), .val (.int p4), .val (.long q5), .second, .val (.int (1 : Int32))] [(.int (1 : Int32)), (.ref o0)])) (fun _ kgo => XS.iloadN X5.here hx rfl (hb hby d3_155) rfl kgo) ?_
    have fx6 : Fld Z h5 o0 "com/example/seenset/seenset/filter/StableParameters" "max" "I" (.int (0 : Int32)) := (Fld.other W5 P2 (Or.inr (slot_ne (Or.inr (hw _ (List.mem_of_getElem? (i := 35) rfl))) (Or.inr (hw _ (List.mem_of_getElem? (i := 33) rfl))) (by decide) (t := .int) (t' := .long) (by decide) (by decide))))
    have fx7 : Exa Z h5 o0 "com/example/seenset/seenset/filter/StableParameters" := (Exa.wr W5 P0)
    obtain ⟨T8, h8, X8, e8, W8, st8⟩ := putF X5 hx hZ hown (host := "") (Or.inl (hw _ (List.mem_of_getElem? (i := 34) rfl))) Via.refl e5 fx6 fx7 (Or.inr ⟨(hw _ (List.mem_of_getElem? (i := 35) rfl)), rfl, hnm⟩) (hw _ (List.mem_of_getElem? (i := 6) rfl)) (ty := .int) (by decide) rfl rfl (g := (mkF m 156 #[.val (.ref o0), .val (.long q1), .second, .val (.int (1 : Int32)), .val (.int p3), .val (.int p4), .val (.long q5), .second, .val (.int (1 : Int32))] [(.int (1 : Int32)), (.ref o0)])) rfl rfl (hb hby d3_156)
    have w8 := Fld.same W8 fx6
    have N8 := Fr.snoc X8 N5 g_o0
    have Z8 : n0 ≤ h8.size := by rw [W8.size]; exact Z5
    have K8 : Keep h0 h8 [o0] := K5.wr W8 (Or.inl (List.mem_of_getElem? (i := 0) rfl))
    refine own_go (g' := (mkF m 159 #[.val (.ref o0), .val (.long q1), .second, .val (.int (1 : Int32)), .val (.int p3), .val (.int p4), .val (.long q5), .second, .val (.int (1 : Int32))] [])) (st8) ?_
    refine own_go (g' := (mkF m 160 #[.val (.ref o0), .val (.long q1), .second, .val (.int (1 : Int32)), .val (.int p3), .val (.int p4), .val (.long q5), .second, .val (.int (1 : Int32))] [(.ref o0)])) (fun _ kgo => XS.aloadN X8.here hx rfl (hb hby d3_159) rfl rfl kgo) ?_
    refine own_go (g' := (mkF m 162 #[.val (.ref o0), .val (.long q1), .second, .val (.int (1 : Int32)), .val (.int p3), .val (.int p4), .val (.long q5), .second, .val (.int (1 : Int32))] [(.int p3), (.ref o0)])) (fun _ kgo => XS.iload X8.here hx rfl (hb hby d3_160) rfl kgo) ?_
    have fx9 : Fld Z h8 o0 "com/example/seenset/seenset/filter/StableParameters" "hashes" "I" (.int (0 : Int32)) := (Fld.other W8 (Fld.other W5 P3 (Or.inr (slot_ne (Or.inr (hw _ (List.mem_of_getElem? (i := 37) rfl))) (Or.inr (hw _ (List.mem_of_getElem? (i := 33) rfl))) (by decide) (t := .int) (t' := .long) (by decide) (by decide)))) (Or.inr (slot_ne (Or.inr (hw _ (List.mem_of_getElem? (i := 37) rfl))) (Or.inr (hw _ (List.mem_of_getElem? (i := 35) rfl))) (by decide) (t := .int) (t' := .int) (by decide) (by decide))))
    have fx10 : Exa Z h8 o0 "com/example/seenset/seenset/filter/StableParameters" := (Exa.wr W8 fx7)
    obtain ⟨T11, h11, X11, e11, W11, st11⟩ := putF X8 hx hZ hown (host := "") (Or.inl (hw _ (List.mem_of_getElem? (i := 36) rfl))) Via.refl e8 fx9 fx10 (Or.inr ⟨(hw _ (List.mem_of_getElem? (i := 37) rfl)), rfl, hnm⟩) (hw _ (List.mem_of_getElem? (i := 6) rfl)) (ty := .int) (by decide) rfl rfl (g := (mkF m 162 #[.val (.ref o0), .val (.long q1), .second, .val (.int (1 : Int32)), .val (.int p3), .val (.int p4), .val (.long q5), .second, .val (.int (1 : Int32))] [(.int p3), (.ref o0)])) rfl rfl (hb hby d3_162)
    have w11 := Fld.same W11 fx9
    have N11 := Fr.snoc X11 N8 g_o0
    have Z11 : n0 ≤ h11.size := by rw [W11.size]; exact Z8
    have K11 : Keep h0 h11 [o0] := K8.wr W11 (Or.inl (List.mem_of_getElem? (i := 0) rfl))
    refine own_go (g' := (mkF m 165 #[.val (.ref o0), .val (.long q1), .second, .val (.int (1 : Int32)), .val (.int p3), .val (.int p4), .val (.long q5), .second, .val (.int (1 : Int32))] [])) (st11) ?_
    refine own_go (g' := (mkF m 166 #[.val (.ref o0), .val (.long q1), .second, .val (.int (1 : Int32)), .val (.int p3), .val (.int p4), .val (.long q5), .second, .val (.int (1 : Int32))] [(.ref o0)])) (fun _ kgo => XS.aloadN X11.here hx rfl (hb hby d3_165) rfl rfl kgo) ?_
    refine own_go (g' := (mkF m 168 #[.val (.ref o0), .val (.long q1), .second, .val (.int (1 : Int32)), .val (.int p3), .val (.int p4), .val (.long q5), .second, .val (.int (1 : Int32))] [(.int p4), (.ref o0)])) (fun _ kgo => XS.iload X11.here hx rfl (hb hby d3_166) rfl kgo) ?_
    have fx12 : Fld Z h11 o0 "com/example/seenset/seenset/filter/StableParameters" "decrement" "I" (.int (0 : Int32)) := (Fld.other W11 (Fld.other W8 (Fld.other W5 P4 (Or.inr (slot_ne (Or.inr (hw _ (List.mem_of_getElem? (i := 39) rfl))) (Or.inr (hw _ (List.mem_of_getElem? (i := 33) rfl))) (by decide) (t := .int) (t' := .long) (by decide) (by decide)))) (Or.inr (slot_ne (Or.inr (hw _ (List.mem_of_getElem? (i := 39) rfl))) (Or.inr (hw _ (List.mem_of_getElem? (i := 35) rfl))) (by decide) (t := .int) (t' := .int) (by decide) (by decide)))) (Or.inr (slot_ne (Or.inr (hw _ (List.mem_of_getElem? (i := 39) rfl))) (Or.inr (hw _ (List.mem_of_getElem? (i := 37) rfl))) (by decide) (t := .int) (t' := .int) (by decide) (by decide))))
    have fx13 : Exa Z h11 o0 "com/example/seenset/seenset/filter/StableParameters" := (Exa.wr W11 fx10)
    obtain ⟨T14, h14, X14, e14, W14, st14⟩ := putF X11 hx hZ hown (host := "") (Or.inl (hw _ (List.mem_of_getElem? (i := 38) rfl))) Via.refl e11 fx12 fx13 (Or.inr ⟨(hw _ (List.mem_of_getElem? (i := 39) rfl)), rfl, hnm⟩) (hw _ (List.mem_of_getElem? (i := 6) rfl)) (ty := .int) (by decide) rfl rfl (g := (mkF m 168 #[.val (.ref o0), .val (.long q1), .second, .val (.int (1 : Int32)), .val (.int p3), .val (.int p4), .val (.long q5), .second, .val (.int (1 : Int32))] [(.int p4), (.ref o0)])) rfl rfl (hb hby d3_168)
    have w14 := Fld.same W14 fx12
    have N14 := Fr.snoc X14 N11 g_o0
    have Z14 : n0 ≤ h14.size := by rw [W14.size]; exact Z11
    have K14 : Keep h0 h14 [o0] := K11.wr W14 (Or.inl (List.mem_of_getElem? (i := 0) rfl))
    refine own_go (g' := (mkF m 171 #[.val (.ref o0), .val (.long q1), .second, .val (.int (1 : Int32)), .val (.int p3), .val (.int p4), .val (.long q5), .second, .val (.int (1 : Int32))] [])) (st14) ?_
    refine own_go (g' := (mkF m 172 #[.val (.ref o0), .val (.long q1), .second, .val (.int (1 : Int32)), .val (.int p3), .val (.int p4), .val (.long q5), .second, .val (.int (1 : Int32))] [(.ref o0)])) (fun _ kgo => XS.aloadN X14.here hx rfl (hb hby d3_171) rfl rfl kgo) ?_
    refine own_go (g' := (mkF m 174 #[.val (.ref o0), .val (.long q1), .second, .val (.int (1 : Int32)), .val (.int p3), .val (.int p4), .val (.long q5), .second, .val (.int (1 : Int32))] [(.long q5), (.ref o0)])) (fun _ kgo => XS.lload X14.here hx rfl (hb hby d3_172) rfl kgo) ?_
    have fx15 : Fld Z h14 o0 "com/example/seenset/seenset/filter/StableParameters" "seed" "J" (.long (0 : Int64)) := (Fld.other W14 (Fld.other W11 (Fld.other W8 (Fld.other W5 P5 (Or.inr (slot_ne (Or.inr (hw _ (List.mem_of_getElem? (i := 41) rfl))) (Or.inr (hw _ (List.mem_of_getElem? (i := 33) rfl))) (by decide) (t := .long) (t' := .long) (by decide) (by decide)))) (Or.inr (slot_ne (Or.inr (hw _ (List.mem_of_getElem? (i := 41) rfl))) (Or.inr (hw _ (List.mem_of_getElem? (i := 35) rfl))) (by decide) (t := .long) (t' := .int) (by decide) (by decide)))) (Or.inr (slot_ne (Or.inr (hw _ (List.mem_of_getElem? (i := 41) rfl))) (Or.inr (hw _ (List.mem_of_getElem? (i := 37) rfl))) (by decide) (t := .long) (t' := .int) (by decide) (by decide)))) (Or.inr (slot_ne (Or.inr (hw _ (List.mem_of_getElem? (i := 41) rfl))) (Or.inr (hw _ (List.mem_of_getElem? (i := 39) rfl))) (by decide) (t := .long) (t' := .int) (by decide) (by decide))))
    have fx16 : Exa Z h14 o0 "com/example/seenset/seenset/filter/StableParameters" := (Exa.wr W14 fx13)
    obtain ⟨T17, h17, X17, e17, W17, st17⟩ := putF X14 hx hZ hown (host := "") (Or.inl (hw _ (List.mem_of_getElem? (i := 40) rfl))) Via.refl e14 fx15 fx16 (Or.inr ⟨(hw _ (List.mem_of_getElem? (i := 41) rfl)), rfl, hnm⟩) (hw _ (List.mem_of_getElem? (i := 6) rfl)) (ty := .long) (by decide) rfl rfl (g := (mkF m 174 #[.val (.ref o0), .val (.long q1), .second, .val (.int (1 : Int32)), .val (.int p3), .val (.int p4), .val (.long q5), .second, .val (.int (1 : Int32))] [(.long q5), (.ref o0)])) rfl rfl (hb hby d3_174)
    have w17 := Fld.same W17 fx15
    have N17 := Fr.snoc X17 N14 g_o0
    have Z17 : n0 ≤ h17.size := by rw [W17.size]; exact Z14
    have K17 : Keep h0 h17 [o0] := K14.wr W17 (Or.inl (List.mem_of_getElem? (i := 0) rfl))
    refine own_go (g' := (mkF m 177 #[.val (.ref o0), .val (.long q1), .second, .val (.int (1 : Int32)), .val (.int p3), .val (.int p4), .val (.long q5), .second, .val (.int (1 : Int32))] [])) (st17) ?_
    refine own_retV X17 hx Bd.returns Bd.notSynchronized (hb hby d3_177) (by decide) (by decide) ?_
    show QQ _ T17.heap _
    rw [e17]
    have fx18 : Exa Z h17 o0 "com/example/seenset/seenset/filter/StableParameters" := (Exa.wr W17 fx16)
    have fx19 : Fld Z h17 o0 "com/example/seenset/seenset/filter/StableParameters" "cells" "J" (.long q1) := (Fld.other W17 (Fld.other W14 (Fld.other W11 (Fld.other W8 w5 (Or.inr (slot_ne (Or.inr (hw _ (List.mem_of_getElem? (i := 33) rfl))) (Or.inr (hw _ (List.mem_of_getElem? (i := 35) rfl))) (by decide) (t := .long) (t' := .int) (by decide) (by decide)))) (Or.inr (slot_ne (Or.inr (hw _ (List.mem_of_getElem? (i := 33) rfl))) (Or.inr (hw _ (List.mem_of_getElem? (i := 37) rfl))) (by decide) (t := .long) (t' := .int) (by decide) (by decide)))) (Or.inr (slot_ne (Or.inr (hw _ (List.mem_of_getElem? (i := 33) rfl))) (Or.inr (hw _ (List.mem_of_getElem? (i := 39) rfl))) (by decide) (t := .long) (t' := .int) (by decide) (by decide)))) (Or.inr (slot_ne (Or.inr (hw _ (List.mem_of_getElem? (i := 33) rfl))) (Or.inr (hw _ (List.mem_of_getElem? (i := 41) rfl))) (by decide) (t := .long) (t' := .long) (by decide) (by decide))))
    have fx20 : Fld Z h17 o0 "com/example/seenset/seenset/filter/StableParameters" "max" "I" (.int (1 : Int32)) := (Fld.other W17 (Fld.other W14 (Fld.other W11 w8 (Or.inr (slot_ne (Or.inr (hw _ (List.mem_of_getElem? (i := 35) rfl))) (Or.inr (hw _ (List.mem_of_getElem? (i := 37) rfl))) (by decide) (t := .int) (t' := .int) (by decide) (by decide)))) (Or.inr (slot_ne (Or.inr (hw _ (List.mem_of_getElem? (i := 35) rfl))) (Or.inr (hw _ (List.mem_of_getElem? (i := 39) rfl))) (by decide) (t := .int) (t' := .int) (by decide) (by decide)))) (Or.inr (slot_ne (Or.inr (hw _ (List.mem_of_getElem? (i := 35) rfl))) (Or.inr (hw _ (List.mem_of_getElem? (i := 41) rfl))) (by decide) (t := .int) (t' := .long) (by decide) (by decide))))
    have fx21 : Fld Z h17 o0 "com/example/seenset/seenset/filter/StableParameters" "hashes" "I" (.int p3) := (Fld.other W17 (Fld.other W14 w11 (Or.inr (slot_ne (Or.inr (hw _ (List.mem_of_getElem? (i := 37) rfl))) (Or.inr (hw _ (List.mem_of_getElem? (i := 39) rfl))) (by decide) (t := .int) (t' := .int) (by decide) (by decide)))) (Or.inr (slot_ne (Or.inr (hw _ (List.mem_of_getElem? (i := 37) rfl))) (Or.inr (hw _ (List.mem_of_getElem? (i := 41) rfl))) (by decide) (t := .int) (t' := .long) (by decide) (by decide))))
    have fx22 : Fld Z h17 o0 "com/example/seenset/seenset/filter/StableParameters" "decrement" "I" (.int p4) := (Fld.other W17 w14 (Or.inr (slot_ne (Or.inr (hw _ (List.mem_of_getElem? (i := 39) rfl))) (Or.inr (hw _ (List.mem_of_getElem? (i := 41) rfl))) (by decide) (t := .int) (t' := .long) (by decide) (by decide))))
    rw [← hQQ]
    exact ⟨rfl, N17, K17, fx18, fx19, fx20, fx21, fx22, w17⟩
  ·
    refine own_go (g' := (mkF m 5 #[.val (.ref o0), .val (.long q1), .second, .val (.int (3 : Int32)), .val (.int p3), .val (.int p4), .val (.long q5), .second, .unset] [(.int (3 : Int32))])) (fun _ kgo => XS.iloadN X1.here hx rfl (hb hby d3_4) rfl kgo) ?_
    refine own_go (g' := (mkF m 6 #[.val (.ref o0), .val (.long q1), .second, .val (.int (3 : Int32)), .val (.int p3), .val (.int p4), .val (.long q5), .second, .unset] [(.int (1 : Int32)), (.int (3 : Int32))])) (fun _ kgo => XS.iconst X1.here hx rfl (hb hby d3_5) kgo) ?_
    refine own_go (g' := (mkF m 9 #[.val (.ref o0), .val (.long q1), .second, .val (.int (3 : Int32)), .val (.int p3), .val (.int p4), .val (.long q5), .second, .unset] [])) (fun _ kgo => XS.icmpNo X1.here hx rfl (hb hby d3_6) rfl (flt (by decide)).1 kgo) ?_
    refine own_go (g' := (mkF m 10 #[.val (.ref o0), .val (.long q1), .second, .val (.int (3 : Int32)), .val (.int p3), .val (.int p4), .val (.long q5), .second, .unset] [(.int (3 : Int32))])) (fun _ kgo => XS.iloadN X1.here hx rfl (hb hby d3_9) rfl kgo) ?_
    refine own_go (g' := (mkF m 12 #[.val (.ref o0), .val (.long q1), .second, .val (.int (3 : Int32)), .val (.int p3), .val (.int p4), .val (.long q5), .second, .unset] [(.int (15 : Int32)), (.int (3 : Int32))])) (fun _ kgo => XS.bipush X1.here hx rfl (hb hby d3_10) kgo) ?_
    refine own_go (g' := (mkF m 15 #[.val (.ref o0), .val (.long q1), .second, .val (.int (3 : Int32)), .val (.int p3), .val (.int p4), .val (.long q5), .second, .unset] [])) (fun _ kgo => XS.icmpNo X1.here hx rfl (hb hby d3_12) rfl (flt (by decide)).2.2.1 kgo) ?_
    refine own_go (g' := (mkF m 16 #[.val (.ref o0), .val (.long q1), .second, .val (.int (3 : Int32)), .val (.int p3), .val (.int p4), .val (.long q5), .second, .unset] [(.int (3 : Int32))])) (fun _ kgo => XS.iloadN X1.here hx rfl (hb hby d3_15) rfl kgo) ?_
    refine own_go (g' := (mkF m 17 #[.val (.ref o0), .val (.long q1), .second, .val (.int (3 : Int32)), .val (.int p3), .val (.int p4), .val (.long q5), .second, .unset] [(.int (3 : Int32)), (.int (3 : Int32))])) (fun _ kgo => XS.iloadN X1.here hx rfl (hb hby d3_16) rfl kgo) ?_
    refine own_go (g' := (mkF m 18 #[.val (.ref o0), .val (.long q1), .second, .val (.int (3 : Int32)), .val (.int p3), .val (.int p4), .val (.long q5), .second, .unset] [(.int (1 : Int32)), (.int (3 : Int32)), (.int (3 : Int32))])) (fun _ kgo => XS.iconst X1.here hx rfl (hb hby d3_17) kgo) ?_
    refine own_go (g' := (mkF m 19 #[.val (.ref o0), .val (.long q1), .second, .val (.int (3 : Int32)), .val (.int p3), .val (.int p4), .val (.long q5), .second, .unset] [(.int (4 : Int32)), (.int (3 : Int32))])) (fun _ kgo => XS.iadd X1.here hx rfl (hb hby d3_18) rfl kgo) ?_
    refine own_go (g' := (mkF m 20 #[.val (.ref o0), .val (.long q1), .second, .val (.int (3 : Int32)), .val (.int p3), .val (.int p4), .val (.long q5), .second, .unset] [(.int (0 : Int32))])) (fun _ kgo => XS.iand X1.here hx rfl (hb hby d3_19) rfl kgo) ?_
    refine own_go (g' := (mkF m 37 #[.val (.ref o0), .val (.long q1), .second, .val (.int (3 : Int32)), .val (.int p3), .val (.int p4), .val (.long q5), .second, .unset] [])) (fun _ kgo => XS.ifYes X1.here hx rfl (pc0 := 20) (pc' := 37) rfl (hb hby d3_20) rfl ((if0 _ _).trans (teq (by decide)).1) (by decide) (by decide) kgo) ?_
    refine own_go (g' := (mkF m 38 #[.val (.ref o0), .val (.long q1), .second, .val (.int (3 : Int32)), .val (.int p3), .val (.int p4), .val (.long q5), .second, .unset] [(.int (3 : Int32))])) (fun _ kgo => XS.iloadN X1.here hx rfl (hb hby d3_37) rfl kgo) ?_
    obtain ⟨v23, T23, L23, hQ23, X23, st23⟩ := own_callS X1 hx hZ (y := (⟨"com/example/seenset/seenset/filter/StableParameters", "bitsPerCell", "(I)I"⟩ : MethodName)) hown (hw _ (List.mem_of_getElem? (i := 17) rfl)) (hw _ (List.mem_of_getElem? (i := 18) rfl)) (hw _ (List.mem_of_getElem? (i := 7) rfl)) (hw _ (List.mem_of_getElem? (i := 19) rfl)) ⟨by decide, by decide⟩ (argsL := [(.int (3 : Int32))]) (bpc3 l Z a0 hw h0) e1 (g := (mkF m 38 #[.val (.ref o0), .val (.long q1), .second, .val (.int (3 : Int32)), .val (.int p3), .val (.int p4), .val (.long q5), .second, .unset] [(.int (3 : Int32))])) rfl (by rw [hml]; rfl) (rest := []) (lenOf pd3_0 rfl) rfl (hb hby d3_38) (W := 0) (by show 2 * 0 + _ ≤ _; exact Nat.le_of_eq rfl) (by decide) (by decide) (by decide) (by decide)
    obtain ⟨rfl, e23, rfl⟩ := hQ23
    have N23 := Fr.app N0 (Fr.nil n0)
    refine own_go (g' := (mkF m 41 #[.val (.ref o0), .val (.long q1), .second, .val (.int (3 : Int32)), .val (.int p3), .val (.int p4), .val (.long q5), .second, .unset] [(.int (2 : Int32))])) (st23) ?_
    refine own_go (g' := (mkF m 43 #[.val (.ref o0), .val (.long q1), .second, .val (.int (3 : Int32)), .val (.int p3), .val (.int p4), .val (.long q5), .second, .val (.int (2 : Int32))] [])) (fun _ kgo => XS.istore X23.here hx rfl (hb hby d3_41) rfl (l' := #[.val (.ref o0), .val (.long q1), .second, .val (.int (3 : Int32)), .val (.int p3), .val (.int p4), .val (.long q5), .second, .val (.int (2 : Int32))]) rfl kgo) ?_
    refine own_go (g' := (mkF m 44 #[.val (.ref o0), .val (.long q1), .second, .val (.int (3 : Int32)), .val (.int p3), .val (.int p4), .val (.long q5), .second, .val (.int (2 : Int32))] [(.long q1)])) (fun _ kgo => XS.lloadN X23.here hx rfl (hb hby d3_43) rfl kgo) ?_
    refine own_go (g' := (mkF m 45 #[.val (.ref o0), .val (.long q1), .second, .val (.int (3 : Int32)), .val (.int p3), .val (.int p4), .val (.long q5), .second, .val (.int (2 : Int32))] [(.long (1 : Int64)), (.long q1)])) (fun _ kgo => XS.lconst X23.here hx rfl (hb hby d3_44) kgo) ?_
    refine own_go (g' := (mkF m 46 #[.val (.ref o0), .val (.long q1), .second, .val (.int (3 : Int32)), .val (.int p3), .val (.int p4), .val (.long q5), .second, .val (.int (2 : Int32))] [(.int (lcmpW q1 (1 : Int64)))])) (fun _ kgo => XS.lcmp X23.here hx rfl (hb hby d3_45) rfl kgo) ?_
    refine own_go (g' := (mkF m 49 #[.val (.ref o0), .val (.long q1), .second, .val (.int (3 : Int32)), .val (.int p3), .val (.int p4), .val (.long q5), .second, .val (.int (2 : Int32))] [])) (fun _ kgo => XS.ifNo X23.here hx rfl (hb hby d3_46) rfl ((if0 _ _).trans (flt (mt (lw_lt _ _).mp (by simp only [Int64.lt_iff_toInt_lt, Int32.lt_iff_toInt_lt, c_i2l, own_min_i, Int64.reduceToInt, Int32.reduceToInt]; omega))).1) kgo) ?_
    refine own_go (g' := (mkF m 50 #[.val (.ref o0), .val (.long q1), .second, .val (.int (3 : Int32)), .val (.int p3), .val (.int p4), .val (.long q5), .second, .val (.int (2 : Int32))] [(.long q1)])) (fun _ kgo => XS.lloadN X23.here hx rfl (hb hby d3_49) rfl kgo) ?_
    refine own_go (g' := (mkF m 52 #[.val (.ref o0), .val (.long q1), .second, .val (.int (3 : Int32)), .val (.int p3), .val (.int p4), .val (.long q5), .second, .val (.int (2 : Int32))] [(.int (2 : Int32)), (.long q1)])) (fun _ kgo => XS.iload X23.here hx rfl (hb hby d3_50) rfl kgo) ?_
    obtain ⟨v24, T24, L24, hQ24, X24, st24⟩ := own_callS X23 hx hZ (y := (⟨"com/example/seenset/seenset/util/Cells", "maxCount", "(I)J"⟩ : MethodName)) hown (hw _ (List.mem_of_getElem? (i := 25) rfl)) (hw _ (List.mem_of_getElem? (i := 26) rfl)) (hw _ (List.mem_of_getElem? (i := 27) rfl)) (hw _ (List.mem_of_getElem? (i := 28) rfl)) ⟨by decide, by decide⟩ (argsL := [(.int (2 : Int32))]) (rm7 l Z a0 hw (2 : Int32) h0 (by decide)) e23 (g := (mkF m 52 #[.val (.ref o0), .val (.long q1), .second, .val (.int (3 : Int32)), .val (.int p3), .val (.int p4), .val (.long q5), .second, .val (.int (2 : Int32))] [(.int (2 : Int32)), (.long q1)])) rfl (by rw [hml]; rfl) (rest := [(.long q1)]) (lenOf pd3_1 rfl) rfl (hb hby d3_52) (W := 2) (by show 2 * 0 + _ ≤ _; exact Nat.le_of_eq rfl) (by decide) (by decide) (by decide) (by decide)
    obtain ⟨rfl, e24, rfl⟩ := hQ24
    have N24 := Fr.app N23 (Fr.nil n0)
    refine own_go (g' := (mkF m 55 #[.val (.ref o0), .val (.long q1), .second, .val (.int (3 : Int32)), .val (.int p3), .val (.int p4), .val (.long q5), .second, .val (.int (2 : Int32))] [(.long ((137438952896 : Int64) / (2 : Int32).toInt64)), (.long q1)])) (st24) ?_
    refine own_go (g' := (mkF m 56 #[.val (.ref o0), .val (.long q1), .second, .val (.int (3 : Int32)), .val (.int p3), .val (.int p4), .val (.long q5), .second, .val (.int (2 : Int32))] [(.int (lcmpW q1 ((137438952896 : Int64) / (2 : Int32).toInt64)))])) (fun _ kgo => XS.lcmp X24.here hx rfl (hb hby d3_55) rfl kgo) ?_
    refine own_go (g' := (mkF m 78 #[.val (.ref o0), .val (.long q1), .second, .val (.int (3 : Int32)), .val (.int p3), .val (.int p4), .val (.long q5), .second, .val (.int (2 : Int32))] [])) (fun _ kgo => XS.ifYes X24.here hx rfl (pc0 := 56) (pc' := 78) rfl (hb hby d3_56) rfl ((if0 _ _).trans (flt (mt (lw_gt _ _).mp (by rw [Int64.lt_iff_toInt_lt, show ((137438952896 : Int64) / (2 : Int32).toInt64).toInt = 68719476448 from by decide]; omega))).2.2.2) (by decide) (by decide) kgo) ?_
    refine own_go (g' := (mkF m 80 #[.val (.ref o0), .val (.long q1), .second, .val (.int (3 : Int32)), .val (.int p3), .val (.int p4), .val (.long q5), .second, .val (.int (2 : Int32))] [(.int p3)])) (fun _ kgo => XS.iload X24.here hx rfl (hb hby d3_78) rfl kgo) ?_
    refine own_go (g' := (mkF m 81 #[.val (.ref o0), .val (.long q1), .second, .val (.int (3 : Int32)), .val (.int p3), .val (.int p4), .val (.long q5), .second, .val (.int (2 : Int32))] [(.int (1 : Int32)), (.int p3)])) (fun _ kgo => XS.iconst X24.here hx rfl (hb hby d3_80) kgo) ?_
    refine own_go (g' := (mkF m 84 #[.val (.ref o0), .val (.long q1), .second, .val (.int (3 : Int32)), .val (.int p3), .val (.int p4), .val (.long q5), .second, .val (.int (2 : Int32))] [])) (fun _ kgo => XS.icmpNo X24.here hx rfl (hb hby d3_81) rfl (flt (by simp only [Int64.lt_iff_toInt_lt, Int32.lt_iff_toInt_lt, c_i2l, own_min_i, Int64.reduceToInt, Int32.reduceToInt]; omega)).1 kgo) ?_
    refine own_go (g' := (mkF m 86 #[.val (.ref o0), .val (.long q1), .second, .val (.int (3 : Int32)), .val (.int p3), .val (.int p4), .val (.long q5), .second, .val (.int (2 : Int32))] [(.int p3)])) (fun _ kgo => XS.iload X24.here hx rfl (hb hby d3_84) rfl kgo) ?_
    refine own_go (g' := (mkF m 87 #[.val (.ref o0), .val (.long q1), .second, .val (.int (3 : Int32)), .val (.int p3), .val (.int p4), .val (.long q5), .second, .val (.int (2 : Int32))] [(.long (p3.toInt64))])) (fun _ kgo => XS.i2l X24.here hx rfl (hb hby d3_86) rfl kgo) ?_
    refine own_go (g' := (mkF m 88 #[.val (.ref o0), .val (.long q1), .second, .val (.int (3 : Int32)), .val (.int p3), .val (.int p4), .val (.long q5), .second, .val (.int (2 : Int32))] [(.long q1), (.long (p3.toInt64))])) (fun _ kgo => XS.lloadN X24.here hx rfl (hb hby d3_87) rfl kgo) ?_
    refine own_go (g' := (mkF m 91 #[.val (.ref o0), .val (.long q1), .second, .val (.int (3 : Int32)), .val (.int p3), .val (.int p4), .val (.long q5), .second, .val (.int (2 : Int32))] [(.long (64 : Int64)), (.long q1), (.long (p3.toInt64))])) (X24.ldc2Long hx hown (mvT hZ (hw _ (List.mem_of_getElem? (i := 30) rfl))) (g := (mkF m 88 #[.val (.ref o0), .val (.long q1), .second, .val (.int (3 : Int32)), .val (.int p3), .val (.int p4), .val (.long q5), .second, .val (.int (2 : Int32))] [(.long q1), (.long (p3.toInt64))])) rfl (hb hby d3_88)) ?_
    obtain ⟨v25, T25, L25, hQ25, X25, st25⟩ := own_callS X24 hx hZ (y := (⟨"java/lang/Math", "min", "(JJ)J"⟩ : MethodName)) hown (hw _ (List.mem_of_getElem? (i := 31) rfl)) (hw _ (List.mem_of_getElem? (i := 2) rfl)) (hw _ (List.mem_of_getElem? (i := 3) rfl)) (hw _ (List.mem_of_getElem? (i := 4) rfl)) ⟨by decide, by decide⟩ (argsL := [(.long q1), (.long (64 : Int64))]) (rm1 l Z a0 hw q1 (64 : Int64) h0) e24 (g := (mkF m 91 #[.val (.ref o0), .val (.long q1), .second, .val (.int (3 : Int32)), .val (.int p3), .val (.int p4), .val (.long q5), .second, .val (.int (2 : Int32))] [(.long (64 : Int64)), (.long q1), (.long (p3.toInt64))])) rfl (by rw [hml]; rfl) (rest := [(.long (p3.toInt64))]) (lenOf pd3_2 rfl) rfl (hb hby d3_91) (W := 2) (by show 2 * 0 + _ ≤ _; exact Nat.le_of_eq rfl) (by decide) (by decide) (by decide) (by decide)
    obtain ⟨rfl, e25, rfl⟩ := hQ25
    have N25 := Fr.app N24 (Fr.nil n0)
    refine own_go (g' := (mkF m 94 #[.val (.ref o0), .val (.long q1), .second, .val (.int (3 : Int32)), .val (.int p3), .val (.int p4), .val (.long q5), .second, .val (.int (2 : Int32))] [(.long (own_min q1 (64 : Int64))), (.long (p3.toInt64))])) (st25) ?_
    refine own_go (g' := (mkF m 95 #[.val (.ref o0), .val (.long q1), .second, .val (.int (3 : Int32)), .val (.int p3), .val (.int p4), .val (.long q5), .second, .val (.int (2 : Int32))] [(.int (lcmpW (p3.toInt64) (own_min q1 (64 : Int64))))])) (fun _ kgo => XS.lcmp X25.here hx rfl (hb hby d3_94) rfl kgo) ?_
    refine own_go (g' := (mkF m 120 #[.val (.ref o0), .val (.long q1), .second, .val (.int (3 : Int32)), .val (.int p3), .val (.int p4), .val (.long q5), .second, .val (.int (2 : Int32))] [])) (fun _ kgo => XS.ifYes X25.here hx rfl (pc0 := 95) (pc' := 120) rfl (hb hby d3_95) rfl ((if0 _ _).trans (flt (mt (lw_gt _ _).mp (by simp only [Int64.lt_iff_toInt_lt, Int32.lt_iff_toInt_lt, c_i2l, own_min_i, Int64.reduceToInt, Int32.reduceToInt]; split <;> omega))).2.2.2) (by decide) (by decide) kgo) ?_
    refine own_go (g' := (mkF m 122 #[.val (.ref o0), .val (.long q1), .second, .val (.int (3 : Int32)), .val (.int p3), .val (.int p4), .val (.long q5), .second, .val (.int (2 : Int32))] [(.int p4)])) (fun _ kgo => XS.iload X25.here hx rfl (hb hby d3_120) rfl kgo) ?_
    refine own_go (g' := (mkF m 125 #[.val (.ref o0), .val (.long q1), .second, .val (.int (3 : Int32)), .val (.int p3), .val (.int p4), .val (.long q5), .second, .val (.int (2 : Int32))] [])) (fun _ kgo => XS.ifNo X25.here hx rfl (hb hby d3_122) rfl ((if0 _ _).trans (flt (by simp only [Int64.lt_iff_toInt_lt, Int32.lt_iff_toInt_lt, c_i2l, own_min_i, Int64.reduceToInt, Int32.reduceToInt]; omega)).1) kgo) ?_
    refine own_go (g' := (mkF m 127 #[.val (.ref o0), .val (.long q1), .second, .val (.int (3 : Int32)), .val (.int p3), .val (.int p4), .val (.long q5), .second, .val (.int (2 : Int32))] [(.int p4)])) (fun _ kgo => XS.iload X25.here hx rfl (hb hby d3_125) rfl kgo) ?_
    refine own_go (g' := (mkF m 128 #[.val (.ref o0), .val (.long q1), .second, .val (.int (3 : Int32)), .val (.int p3), .val (.int p4), .val (.long q5), .second, .val (.int (2 : Int32))] [(.long (p4.toInt64))])) (fun _ kgo => XS.i2l X25.here hx rfl (hb hby d3_127) rfl kgo) ?_
    refine own_go (g' := (mkF m 129 #[.val (.ref o0), .val (.long q1), .second, .val (.int (3 : Int32)), .val (.int p3), .val (.int p4), .val (.long q5), .second, .val (.int (2 : Int32))] [(.long q1), (.long (p4.toInt64))])) (fun _ kgo => XS.lloadN X25.here hx rfl (hb hby d3_128) rfl kgo) ?_
    refine own_go (g' := (mkF m 130 #[.val (.ref o0), .val (.long q1), .second, .val (.int (3 : Int32)), .val (.int p3), .val (.int p4), .val (.long q5), .second, .val (.int (2 : Int32))] [(.int (lcmpW (p4.toInt64) q1))])) (fun _ kgo => XS.lcmp X25.here hx rfl (hb hby d3_129) rfl kgo) ?_
    refine own_go (g' := (mkF m 149 #[.val (.ref o0), .val (.long q1), .second, .val (.int (3 : Int32)), .val (.int p3), .val (.int p4), .val (.long q5), .second, .val (.int (2 : Int32))] [])) (fun _ kgo => XS.ifYes X25.here hx rfl (pc0 := 130) (pc' := 149) rfl (hb hby d3_130) rfl ((if0 _ _).trans (flt (mt (lw_gt _ _).mp (by simp only [Int64.lt_iff_toInt_lt, Int32.lt_iff_toInt_lt, c_i2l, own_min_i, Int64.reduceToInt, Int32.reduceToInt]; omega))).2.2.2) (by decide) (by decide) kgo) ?_
    refine own_go (g' := (mkF m 150 #[.val (.ref o0), .val (.long q1), .second, .val (.int (3 : Int32)), .val (.int p3), .val (.int p4), .val (.long q5), .second, .val (.int (2 : Int32))] [(.ref o0)])) (fun _ kgo => XS.aloadN X25.here hx rfl (hb hby d3_149) rfl rfl kgo) ?_
    refine own_go (g' := (mkF m 151 #[.val (.ref o0), .val (.long q1), .second, .val (.int (3 : Int32)), .val (.int p3), .val (.int p4), .val (.long q5), .second, .val (.int (2 : Int32))] [(.long q1), (.ref o0)])) (fun _ kgo => XS.lloadN X25.here hx rfl (hb hby d3_150) rfl kgo) ?_
    obtain ⟨T26, h26, X26, e26, W26, st26⟩ := putF X25 hx hZ hown (host := "") (Or.inl (hw _ (List.mem_of_getElem? (i := 32) rfl))) Via.refl e25 P1 P0 (Or.inr ⟨(hw _ (List.mem_of_getElem? (i := 33) rfl)), rfl, hnm⟩) (hw _ (List.mem_of_getElem? (i := 6) rfl)) (ty := .long) (by decide) rfl rfl (g := (mkF m 151 #[.val (.ref o0), .val (.long q1), .second, .val (.int (3 : Int32)), .val (.int p3), .val (.int p4), .val (.long q5), .second, .val (.int (2 : Int32))] [(.long q1), (.ref o0)])) rfl rfl (hb hby d3_151)
    have w26 := Fld.same W26 P1
    have N26 := Fr.snoc X26 N25 g_o0
    have Z26 : n0 ≤ h26.size := by rw [W26.size]; exact Z0
    have K26 : Keep h0 h26 [o0] := K0.wr W26 (Or.inl (List.mem_of_getElem? (i := 0) rfl))
    refine own_go (g' := (mkF m 154 #[.val (.ref o0), .val (.long q1), .second, .val (.int (3 : Int32)), .val (.int p3), .val (.int p4), .val (.long q5), .second, .val (.int (2 : Int32))] [])) (st26) ?_
    refine own_go (g' := (mkF m 155 #[.val (.ref o0), .val (.long q1), .second, .val (.int (3 : Int32)), .val (.int p3), .val (.int p4), .val (.long q5), .second, .val (.int (2 : Int32))] [(.ref o0)])) (fun _ kgo => XS.aloadN X26.here hx rfl (hb hby d3_154) rfl rfl kgo) ?_
    refine own_go (g' := (mkF m 156 #[.val (.ref o0), .val (.long q1), .second, .val (.int (3 : Int32)), .val (.int p3), .val (.int p4), .val (.long q5), .second, .val (.int (2 : Int32))] [(.int (3 : Int32)), (.ref o0)])) (fun _ kgo => XS.iloadN X26.here hx rfl (hb hby d3_155) rfl kgo) ?_
    have fx27 : Fld Z h26 o0 "com/example/seenset/seenset/filter/StableParameters" "max" "I" (.int (0 : Int32)) := (Fld.other W26 P2 (Or.inr (slot_ne (Or.inr (hw _ (List.mem_of_getElem? (i := 35) rfl))) (Or.inr (hw _ (List.mem_of_getElem? (i := 33) rfl))) (by decide) (t := .int) (t' := .long) (by decide) (by decide))))
    have fx28 : Exa Z h26 o0 "com/example/seenset/seenset/filter/StableParameters" := (Exa.wr W26 P0)
    obtain ⟨T29, h29, X29, e29, W29, st29⟩ := putF X26 hx hZ hown (host := "") (Or.inl (hw _ (List.mem_of_getElem? (i := 34) rfl))) Via.refl e26 fx27 fx28 (Or.inr ⟨(hw _ (List.mem_of_getElem? (i := 35) rfl)), rfl, hnm⟩) (hw _ (List.mem_of_getElem? (i := 6) rfl)) (ty := .int) (by decide) rfl rfl (g := (mkF m 156 #[.val (.ref o0), .val (.long q1), .second, .val (.int (3 : Int32)), .val (.int p3), .val (.int p4), .val (.long q5), .second, .val (.int (2 : Int32))] [(.int (3 : Int32)), (.ref o0)])) rfl rfl (hb hby d3_156)
    have w29 := Fld.same W29 fx27
    have N29 := Fr.snoc X29 N26 g_o0
    have Z29 : n0 ≤ h29.size := by rw [W29.size]; exact Z26
    have K29 : Keep h0 h29 [o0] := K26.wr W29 (Or.inl (List.mem_of_getElem? (i := 0) rfl))
    refine own_go (g' := (mkF m 159 #[.val (.ref o0), .val (.long q1), .second, .val (.int (3 : Int32)), .val (.int p3), .val (.int p4), .val (.long q5), .second, .val (.int (2 : Int32))] [])) (st29) ?_
    refine own_go (g' := (mkF m 160 #[.val (.ref o0), .val (.long q1), .second, .val (.int (3 : Int32)), .val (.int p3), .val (.int p4), .val (.long q5), .second, .val (.int (2 : Int32))] [(.ref o0)])) (fun _ kgo => XS.aloadN X29.here hx rfl (hb hby d3_159) rfl rfl kgo) ?_
    refine own_go (g' := (mkF m 162 #[.val (.ref o0), .val (.long q1), .second, .val (.int (3 : Int32)), .val (.int p3), .val (.int p4), .val (.long q5), .second, .val (.int (2 : Int32))] [(.int p3), (.ref o0)])) (fun _ kgo => XS.iload X29.here hx rfl (hb hby d3_160) rfl kgo) ?_
    have fx30 : Fld Z h29 o0 "com/example/seenset/seenset/filter/StableParameters" "hashes" "I" (.int (0 : Int32)) := (Fld.other W29 (Fld.other W26 P3 (Or.inr (slot_ne (Or.inr (hw _ (List.mem_of_getElem? (i := 37) rfl))) (Or.inr (hw _ (List.mem_of_getElem? (i := 33) rfl))) (by decide) (t := .int) (t' := .long) (by decide) (by decide)))) (Or.inr (slot_ne (Or.inr (hw _ (List.mem_of_getElem? (i := 37) rfl))) (Or.inr (hw _ (List.mem_of_getElem? (i := 35) rfl))) (by decide) (t := .int) (t' := .int) (by decide) (by decide))))
    have fx31 : Exa Z h29 o0 "com/example/seenset/seenset/filter/StableParameters" := (Exa.wr W29 fx28)
    obtain ⟨T32, h32, X32, e32, W32, st32⟩ := putF X29 hx hZ hown (host := "") (Or.inl (hw _ (List.mem_of_getElem? (i := 36) rfl))) Via.refl e29 fx30 fx31 (Or.inr ⟨(hw _ (List.mem_of_getElem? (i := 37) rfl)), rfl, hnm⟩) (hw _ (List.mem_of_getElem? (i := 6) rfl)) (ty := .int) (by decide) rfl rfl (g := (mkF m 162 #[.val (.ref o0), .val (.long q1), .second, .val (.int (3 : Int32)), .val (.int p3), .val (.int p4), .val (.long q5), .second, .val (.int (2 : Int32))] [(.int p3), (.ref o0)])) rfl rfl (hb hby d3_162)
    have w32 := Fld.same W32 fx30
    have N32 := Fr.snoc X32 N29 g_o0
    have Z32 : n0 ≤ h32.size := by rw [W32.size]; exact Z29
    have K32 : Keep h0 h32 [o0] := K29.wr W32 (Or.inl (List.mem_of_getElem? (i := 0) rfl))
    refine own_go (g' := (mkF m 165 #[.val (.ref o0), .val (.long q1), .second, .val (.int (3 : Int32)), .val (.int p3), .val (.int p4), .val (.long q5), .second, .val (.int (2 : Int32))] [])) (st32) ?_
    refine own_go (g' := (mkF m 166 #[.val (.ref o0), .val (.long q1), .second, .val (.int (3 : Int32)), .val (.int p3), .val (.int p4), .val (.long q5), .second, .val (.int (2 : Int32))] [(.ref o0)])) (fun _ kgo => XS.aloadN X32.here hx rfl (hb hby d3_165) rfl rfl kgo) ?_
    refine own_go (g' := (mkF m 168 #[.val (.ref o0), .val (.long q1), .second, .val (.int (3 : Int32)), .val (.int p3), .val (.int p4), .val (.long q5), .second, .val (.int (2 : Int32))] [(.int p4), (.ref o0)])) (fun _ kgo => XS.iload X32.here hx rfl (hb hby d3_166) rfl kgo) ?_
    have fx33 : Fld Z h32 o0 "com/example/seenset/seenset/filter/StableParameters" "decrement" "I" (.int (0 : Int32)) := (Fld.other W32 (Fld.other W29 (Fld.other W26 P4 (Or.inr (slot_ne (Or.inr (hw _ (List.mem_of_getElem? (i := 39) rfl))) (Or.inr (hw _ (List.mem_of_getElem? (i := 33) rfl))) (by decide) (t := .int) (t' := .long) (by decide) (by decide)))) (Or.inr (slot_ne (Or.inr (hw _ (List.mem_of_getElem? (i := 39) rfl))) (Or.inr (hw _ (List.mem_of_getElem? (i := 35) rfl))) (by decide) (t := .int) (t' := .int) (by decide) (by decide)))) (Or.inr (slot_ne (Or.inr (hw _ (List.mem_of_getElem? (i := 39) rfl))) (Or.inr (hw _ (List.mem_of_getElem? (i := 37) rfl))) (by decide) (t := .int) (t' := .int) (by decide) (by decide))))
    have fx34 : Exa Z h32 o0 "com/example/seenset/seenset/filter/StableParameters" := (Exa.wr W32 fx31)
    obtain ⟨T35, h35, X35, e35, W35, st35⟩ := putF X32 hx hZ hown (host := "") (Or.inl (hw _ (List.mem_of_getElem? (i := 38) rfl))) Via.refl e32 fx33 fx34 (Or.inr ⟨(hw _ (List.mem_of_getElem? (i := 39) rfl)), rfl, hnm⟩) (hw _ (List.mem_of_getElem? (i := 6) rfl)) (ty := .int) (by decide) rfl rfl (g := (mkF m 168 #[.val (.ref o0), .val (.long q1), .second, .val (.int (3 : Int32)), .val (.int p3), .val (.int p4), .val (.long q5), .second, .val (.int (2 : Int32))] [(.int p4), (.ref o0)])) rfl rfl (hb hby d3_168)
    have w35 := Fld.same W35 fx33
    have N35 := Fr.snoc X35 N32 g_o0
    have Z35 : n0 ≤ h35.size := by rw [W35.size]; exact Z32
    have K35 : Keep h0 h35 [o0] := K32.wr W35 (Or.inl (List.mem_of_getElem? (i := 0) rfl))
    refine own_go (g' := (mkF m 171 #[.val (.ref o0), .val (.long q1), .second, .val (.int (3 : Int32)), .val (.int p3), .val (.int p4), .val (.long q5), .second, .val (.int (2 : Int32))] [])) (st35) ?_
    refine own_go (g' := (mkF m 172 #[.val (.ref o0), .val (.long q1), .second, .val (.int (3 : Int32)), .val (.int p3), .val (.int p4), .val (.long q5), .second, .val (.int (2 : Int32))] [(.ref o0)])) (fun _ kgo => XS.aloadN X35.here hx rfl (hb hby d3_171) rfl rfl kgo) ?_
    refine own_go (g' := (mkF m 174 #[.val (.ref o0), .val (.long q1), .second, .val (.int (3 : Int32)), .val (.int p3), .val (.int p4), .val (.long q5), .second, .val (.int (2 : Int32))] [(.long q5), (.ref o0)])) (fun _ kgo => XS.lload X35.here hx rfl (hb hby d3_172) rfl kgo) ?_
    have fx36 : Fld Z h35 o0 "com/example/seenset/seenset/filter/StableParameters" "seed" "J" (.long (0 : Int64)) := (Fld.other W35 (Fld.other W32 (Fld.other W29 (Fld.other W26 P5 (Or.inr (slot_ne (Or.inr (hw _ (List.mem_of_getElem? (i := 41) rfl))) (Or.inr (hw _ (List.mem_of_getElem? (i := 33) rfl))) (by decide) (t := .long) (t' := .long) (by decide) (by decide)))) (Or.inr (slot_ne (Or.inr (hw _ (List.mem_of_getElem? (i := 41) rfl))) (Or.inr (hw _ (List.mem_of_getElem? (i := 35) rfl))) (by decide) (t := .long) (t' := .int) (by decide) (by decide)))) (Or.inr (slot_ne (Or.inr (hw _ (List.mem_of_getElem? (i := 41) rfl))) (Or.inr (hw _ (List.mem_of_getElem? (i := 37) rfl))) (by decide) (t := .long) (t' := .int) (by decide) (by decide)))) (Or.inr (slot_ne (Or.inr (hw _ (List.mem_of_getElem? (i := 41) rfl))) (Or.inr (hw _ (List.mem_of_getElem? (i := 39) rfl))) (by decide) (t := .long) (t' := .int) (by decide) (by decide))))
    have fx37 : Exa Z h35 o0 "com/example/seenset/seenset/filter/StableParameters" := (Exa.wr W35 fx34)
    obtain ⟨T38, h38, X38, e38, W38, st38⟩ := putF X35 hx hZ hown (host := "") (Or.inl (hw _ (List.mem_of_getElem? (i := 40) rfl))) Via.refl e35 fx36 fx37 (Or.inr ⟨(hw _ (List.mem_of_getElem? (i := 41) rfl)), rfl, hnm⟩) (hw _ (List.mem_of_getElem? (i := 6) rfl)) (ty := .long) (by decide) rfl rfl (g := (mkF m 174 #[.val (.ref o0), .val (.long q1), .second, .val (.int (3 : Int32)), .val (.int p3), .val (.int p4), .val (.long q5), .second, .val (.int (2 : Int32))] [(.long q5), (.ref o0)])) rfl rfl (hb hby d3_174)
    have w38 := Fld.same W38 fx36
    have N38 := Fr.snoc X38 N35 g_o0
    have Z38 : n0 ≤ h38.size := by rw [W38.size]; exact Z35
    have K38 : Keep h0 h38 [o0] := K35.wr W38 (Or.inl (List.mem_of_getElem? (i := 0) rfl))
    refine own_go (g' := (mkF m 177 #[.val (.ref o0), .val (.long q1), .second, .val (.int (3 : Int32)), .val (.int p3), .val (.int p4), .val (.long q5), .second, .val (.int (2 : Int32))] [])) (st38) ?_
    refine own_retV X38 hx Bd.returns Bd.notSynchronized (hb hby d3_177) (by decide) (by decide) ?_
    show QQ _ T38.heap _
    rw [e38]
    have fx39 : Exa Z h38 o0 "com/example/seenset/seenset/filter/StableParameters" := (Exa.wr W38 fx37)
    have fx40 : Fld Z h38 o0 "com/example/seenset/seenset/filter/StableParameters" "cells" "J" (.long q1) := (Fld.other W38 (Fld.other W35 (Fld.other W32 (Fld.other W29 w26 (Or.inr (slot_ne (Or.inr (hw _ (List.mem_of_getElem? (i := 33) rfl))) (Or.inr (hw _ (List.mem_of_getElem? (i := 35) rfl))) (by decide) (t := .long) (t' := .int) (by decide) (by decide)))) (Or.inr (slot_ne (Or.inr (hw _ (List.mem_of_getElem? (i := 33) rfl))) (Or.inr (hw _ (List.mem_of_getElem? (i := 37) rfl))) (by decide) (t := .long) (t' := .int) (by decide) (by decide)))) (Or.inr (slot_ne (Or.inr (hw _ (List.mem_of_getElem? (i := 33) rfl))) (Or.inr (hw _ (List.mem_of_getElem? (i := 39) rfl))) (by decide) (t := .long) (t' := .int) (by decide) (by decide)))) (Or.inr (slot_ne (Or.inr (hw _ (List.mem_of_getElem? (i := 33) rfl))) (Or.inr (hw _ (List.mem_of_getElem? (i := 41) rfl))) (by decide) (t := .long) (t' := .long) (by decide) (by decide))))
    have fx41 : Fld Z h38 o0 "com/example/seenset/seenset/filter/StableParameters" "max" "I" (.int (3 : Int32)) := (Fld.other W38 (Fld.other W35 (Fld.other W32 w29 (Or.inr (slot_ne (Or.inr (hw _ (List.mem_of_getElem? (i := 35) rfl))) (Or.inr (hw _ (List.mem_of_getElem? (i := 37) rfl))) (by decide) (t := .int) (t' := .int) (by decide) (by decide)))) (Or.inr (slot_ne (Or.inr (hw _ (List.mem_of_getElem? (i := 35) rfl))) (Or.inr (hw _ (List.mem_of_getElem? (i := 39) rfl))) (by decide) (t := .int) (t' := .int) (by decide) (by decide)))) (Or.inr (slot_ne (Or.inr (hw _ (List.mem_of_getElem? (i := 35) rfl))) (Or.inr (hw _ (List.mem_of_getElem? (i := 41) rfl))) (by decide) (t := .int) (t' := .long) (by decide) (by decide))))
    have fx42 : Fld Z h38 o0 "com/example/seenset/seenset/filter/StableParameters" "hashes" "I" (.int p3) := (Fld.other W38 (Fld.other W35 w32 (Or.inr (slot_ne (Or.inr (hw _ (List.mem_of_getElem? (i := 37) rfl))) (Or.inr (hw _ (List.mem_of_getElem? (i := 39) rfl))) (by decide) (t := .int) (t' := .int) (by decide) (by decide)))) (Or.inr (slot_ne (Or.inr (hw _ (List.mem_of_getElem? (i := 37) rfl))) (Or.inr (hw _ (List.mem_of_getElem? (i := 41) rfl))) (by decide) (t := .int) (t' := .long) (by decide) (by decide))))
    have fx43 : Fld Z h38 o0 "com/example/seenset/seenset/filter/StableParameters" "decrement" "I" (.int p4) := (Fld.other W38 w35 (Or.inr (slot_ne (Or.inr (hw _ (List.mem_of_getElem? (i := 39) rfl))) (Or.inr (hw _ (List.mem_of_getElem? (i := 41) rfl))) (by decide) (t := .int) (t' := .long) (by decide) (by decide))))
    rw [← hQQ]
    exact ⟨rfl, N38, K38, fx39, fx40, fx41, fx42, fx43, w38⟩
  ·
    refine own_go (g' := (mkF m 5 #[.val (.ref o0), .val (.long q1), .second, .val (.int (7 : Int32)), .val (.int p3), .val (.int p4), .val (.long q5), .second, .unset] [(.int (7 : Int32))])) (fun _ kgo => XS.iloadN X1.here hx rfl (hb hby d3_4) rfl kgo) ?_
    refine own_go (g' := (mkF m 6 #[.val (.ref o0), .val (.long q1), .second, .val (.int (7 : Int32)), .val (.int p3), .val (.int p4), .val (.long q5), .second, .unset] [(.int (1 : Int32)), (.int (7 : Int32))])) (fun _ kgo => XS.iconst X1.here hx rfl (hb hby d3_5) kgo) ?_
    refine own_go (g' := (mkF m 9 #[.val (.ref o0), .val (.long q1), .second, .val (.int (7 : Int32)), .val (.int p3), .val (.int p4), .val (.long q5), .second, .unset] [])) (fun _ kgo => XS.icmpNo X1.here hx rfl (hb hby d3_6) rfl (flt (by decide)).1 kgo) ?_
    refine own_go (g' := (mkF m 10 #[.val (.ref o0), .val (.long q1), .second, .val (.int (7 : Int32)), .val (.int p3), .val (.int p4), .val (.long q5), .second, .unset] [(.int (7 : Int32))])) (fun _ kgo => XS.iloadN X1.here hx rfl (hb hby d3_9) rfl kgo) ?_
    refine own_go (g' := (mkF m 12 #[.val (.ref o0), .val (.long q1), .second, .val (.int (7 : Int32)), .val (.int p3), .val (.int p4), .val (.long q5), .second, .unset] [(.int (15 : Int32)), (.int (7 : Int32))])) (fun _ kgo => XS.bipush X1.here hx rfl (hb hby d3_10) kgo) ?_
    refine own_go (g' := (mkF m 15 #[.val (.ref o0), .val (.long q1), .second, .val (.int (7 : Int32)), .val (.int p3), .val (.int p4), .val (.long q5), .second, .unset] [])) (fun _ kgo => XS.icmpNo X1.here hx rfl (hb hby d3_12) rfl (flt (by decide)).2.2.1 kgo) ?_
    refine own_go (g' := (mkF m 16 #[.val (.ref o0), .val (.long q1), .second, .val (.int (7 : Int32)), .val (.int p3), .val (.int p4), .val (.long q5), .second, .unset] [(.int (7 : Int32))])) (fun _ kgo => XS.iloadN X1.here hx rfl (hb hby d3_15) rfl kgo) ?_
    refine own_go (g' := (mkF m 17 #[.val (.ref o0), .val (.long q1), .second, .val (.int (7 : Int32)), .val (.int p3), .val (.int p4), .val (.long q5), .second, .unset] [(.int (7 : Int32)), (.int (7 : Int32))])) (fun _ kgo => XS.iloadN X1.here hx rfl (hb hby d3_16) rfl kgo) ?_
    refine own_go (g' := (mkF m 18 #[.val (.ref o0), .val (.long q1), .second, .val (.int (7 : Int32)), .val (.int p3), .val (.int p4), .val (.long q5), .second, .unset] [(.int (1 : Int32)), (.int (7 : Int32)), (.int (7 : Int32))])) (fun _ kgo => XS.iconst X1.here hx rfl (hb hby d3_17) kgo) ?_
    refine own_go (g' := (mkF m 19 #[.val (.ref o0), .val (.long q1), .second, .val (.int (7 : Int32)), .val (.int p3), .val (.int p4), .val (.long q5), .second, .unset] [(.int (8 : Int32)), (.int (7 : Int32))])) (fun _ kgo => XS.iadd X1.here hx rfl (hb hby d3_18) rfl kgo) ?_
    refine own_go (g' := (mkF m 20 #[.val (.ref o0), .val (.long q1), .second, .val (.int (7 : Int32)), .val (.int p3), .val (.int p4), .val (.long q5), .second, .unset] [(.int (0 : Int32))])) (fun _ kgo => XS.iand X1.here hx rfl (hb hby d3_19) rfl kgo) ?_
    refine own_go (g' := (mkF m 37 #[.val (.ref o0), .val (.long q1), .second, .val (.int (7 : Int32)), .val (.int p3), .val (.int p4), .val (.long q5), .second, .unset] [])) (fun _ kgo => XS.ifYes X1.here hx rfl (pc0 := 20) (pc' := 37) rfl (hb hby d3_20) rfl ((if0 _ _).trans (teq (by decide)).1) (by decide) (by decide) kgo) ?_
    refine own_go (g' := (mkF m 38 #[.val (.ref o0), .val (.long q1), .second, .val (.int (7 : Int32)), .val (.int p3), .val (.int p4), .val (.long q5), .second, .unset] [(.int (7 : Int32))])) (fun _ kgo => XS.iloadN X1.here hx rfl (hb hby d3_37) rfl kgo) ?_
    obtain ⟨v44, T44, L44, hQ44, X44, st44⟩ := own_callS X1 hx hZ (y := (⟨"com/example/seenset/seenset/filter/StableParameters", "bitsPerCell", "(I)I"⟩ : MethodName)) hown (hw _ (List.mem_of_getElem? (i := 17) rfl)) (hw _ (List.mem_of_getElem? (i := 18) rfl)) (hw _ (List.mem_of_getElem? (i := 7) rfl)) (hw _ (List.mem_of_getElem? (i := 19) rfl)) ⟨by decide, by decide⟩ (argsL := [(.int (7 : Int32))]) (bpc7 l Z a0 hw h0) e1 (g := (mkF m 38 #[.val (.ref o0), .val (.long q1), .second, .val (.int (7 : Int32)), .val (.int p3), .val (.int p4), .val (.long q5), .second, .unset] [(.int (7 : Int32))])) rfl (by rw [hml]; rfl) (rest := []) (lenOf pd3_0 rfl) rfl (hb hby d3_38) (W := 0) (by show 2 * 0 + _ ≤ _; exact Nat.le_of_eq rfl) (by decide) (by decide) (by decide) (by decide)
    obtain ⟨rfl, e44, rfl⟩ := hQ44
    have N44 := Fr.app N0 (Fr.nil n0)
    refine own_go (g' := (mkF m 41 #[.val (.ref o0), .val (.long q1), .second, .val (.int (7 : Int32)), .val (.int p3), .val (.int p4), .val (.long q5), .second, .unset] [(.int (3 : Int32))])) (st44) ?_
    refine own_go (g' := (mkF m 43 #[.val (.ref o0), .val (.long q1), .second, .val (.int (7 : Int32)), .val (.int p3), .val (.int p4), .val (.long q5), .second, .val (.int (3 : Int32))] [])) (fun _ kgo => XS.istore X44.here hx rfl (hb hby d3_41) rfl (l' := #[.val (.ref o0), .val (.long q1), .second, .val (.int (7 : Int32)), .val (.int p3), .val (.int p4), .val (.long q5), .second, .val (.int (3 : Int32))]) rfl kgo) ?_
    refine own_go (g' := (mkF m 44 #[.val (.ref o0), .val (.long q1), .second, .val (.int (7 : Int32)), .val (.int p3), .val (.int p4), .val (.long q5), .second, .val (.int (3 : Int32))] [(.long q1)])) (fun _ kgo => XS.lloadN X44.here hx rfl (hb hby d3_43) rfl kgo) ?_
    refine own_go (g' := (mkF m 45 #[.val (.ref o0), .val (.long q1), .second, .val (.int (7 : Int32)), .val (.int p3), .val (.int p4), .val (.long q5), .second, .val (.int (3 : Int32))] [(.long (1 : Int64)), (.long q1)])) (fun _ kgo => XS.lconst X44.here hx rfl (hb hby d3_44) kgo) ?_
    refine own_go (g' := (mkF m 46 #[.val (.ref o0), .val (.long q1), .second, .val (.int (7 : Int32)), .val (.int p3), .val (.int p4), .val (.long q5), .second, .val (.int (3 : Int32))] [(.int (lcmpW q1 (1 : Int64)))])) (fun _ kgo => XS.lcmp X44.here hx rfl (hb hby d3_45) rfl kgo) ?_
    refine own_go (g' := (mkF m 49 #[.val (.ref o0), .val (.long q1), .second, .val (.int (7 : Int32)), .val (.int p3), .val (.int p4), .val (.long q5), .second, .val (.int (3 : Int32))] [])) (fun _ kgo => XS.ifNo X44.here hx rfl (hb hby d3_46) rfl ((if0 _ _).trans (flt (mt (lw_lt _ _).mp (by simp only [Int64.lt_iff_toInt_lt, Int32.lt_iff_toInt_lt, c_i2l, own_min_i, Int64.reduceToInt, Int32.reduceToInt]; omega))).1) kgo) ?_
    refine own_go (g' := (mkF m 50 #[.val (.ref o0), .val (.long q1), .second, .val (.int (7 : Int32)), .val (.int p3), .val (.int p4), .val (.long q5), .second, .val (.int (3 : Int32))] [(.long q1)])) (fun _ kgo => XS.lloadN X44.here hx rfl (hb hby d3_49) rfl kgo) ?_
    refine own_go (g' := (mkF m 52 #[.val (.ref o0), .val (.long q1), .second, .val (.int (7 : Int32)), .val (.int p3), .val (.int p4), .val (.long q5), .second, .val (.int (3 : Int32))] [(.int (3 : Int32)), (.long q1)])) (fun _ kgo => XS.iload X44.here hx rfl (hb hby d3_50) rfl kgo) ?_
    obtain ⟨v45, T45, L45, hQ45, X45, st45⟩ := own_callS X44 hx hZ (y := (⟨"com/example/seenset/seenset/util/Cells", "maxCount", "(I)J"⟩ : MethodName)) hown (hw _ (List.mem_of_getElem? (i := 25) rfl)) (hw _ (List.mem_of_getElem? (i := 26) rfl)) (hw _ (List.mem_of_getElem? (i := 27) rfl)) (hw _ (List.mem_of_getElem? (i := 28) rfl)) ⟨by decide, by decide⟩ (argsL := [(.int (3 : Int32))]) (rm7 l Z a0 hw (3 : Int32) h0 (by decide)) e44 (g := (mkF m 52 #[.val (.ref o0), .val (.long q1), .second, .val (.int (7 : Int32)), .val (.int p3), .val (.int p4), .val (.long q5), .second, .val (.int (3 : Int32))] [(.int (3 : Int32)), (.long q1)])) rfl (by rw [hml]; rfl) (rest := [(.long q1)]) (lenOf pd3_1 rfl) rfl (hb hby d3_52) (W := 2) (by show 2 * 0 + _ ≤ _; exact Nat.le_of_eq rfl) (by decide) (by decide) (by decide) (by decide)
    obtain ⟨rfl, e45, rfl⟩ := hQ45
    have N45 := Fr.app N44 (Fr.nil n0)
    refine own_go (g' := (mkF m 55 #[.val (.ref o0), .val (.long q1), .second, .val (.int (7 : Int32)), .val (.int p3), .val (.int p4), .val (.long q5), .second, .val (.int (3 : Int32))] [(.long ((137438952896 : Int64) / (3 : Int32).toInt64)), (.long q1)])) (st45) ?_
    refine own_go (g' := (mkF m 56 #[.val (.ref o0), .val (.long q1), .second, .val (.int (7 : Int32)), .val (.int p3), .val (.int p4), .val (.long q5), .second, .val (.int (3 : Int32))] [(.int (lcmpW q1 ((137438952896 : Int64) / (3 : Int32).toInt64)))])) (fun _ kgo => XS.lcmp X45.here hx rfl (hb hby d3_55) rfl kgo) ?_
    refine own_go (g' := (mkF m 78 #[.val (.ref o0), .val (.long q1), .second, .val (.int (7 : Int32)), .val (.int p3), .val (.int p4), .val (.long q5), .second, .val (.int (3 : Int32))] [])) (fun _ kgo => XS.ifYes X45.here hx rfl (pc0 := 56) (pc' := 78) rfl (hb hby d3_56) rfl ((if0 _ _).trans (flt (mt (lw_gt _ _).mp (by rw [Int64.lt_iff_toInt_lt, show ((137438952896 : Int64) / (3 : Int32).toInt64).toInt = 45812984298 from by decide]; omega))).2.2.2) (by decide) (by decide) kgo) ?_
    refine own_go (g' := (mkF m 80 #[.val (.ref o0), .val (.long q1), .second, .val (.int (7 : Int32)), .val (.int p3), .val (.int p4), .val (.long q5), .second, .val (.int (3 : Int32))] [(.int p3)])) (fun _ kgo => XS.iload X45.here hx rfl (hb hby d3_78) rfl kgo) ?_
    refine own_go (g' := (mkF m 81 #[.val (.ref o0), .val (.long q1), .second, .val (.int (7 : Int32)), .val (.int p3), .val (.int p4), .val (.long q5), .second, .val (.int (3 : Int32))] [(.int (1 : Int32)), (.int p3)])) (fun _ kgo => XS.iconst X45.here hx rfl (hb hby d3_80) kgo) ?_
    refine own_go (g' := (mkF m 84 #[.val (.ref o0), .val (.long q1), .second, .val (.int (7 : Int32)), .val (.int p3), .val (.int p4), .val (.long q5), .second, .val (.int (3 : Int32))] [])) (fun _ kgo => XS.icmpNo X45.here hx rfl (hb hby d3_81) rfl (flt (by simp only [Int64.lt_iff_toInt_lt, Int32.lt_iff_toInt_lt, c_i2l, own_min_i, Int64.reduceToInt, Int32.reduceToInt]; omega)).1 kgo) ?_
    refine own_go (g' := (mkF m 86 #[.val (.ref o0), .val (.long q1), .second, .val (.int (7 : Int32)), .val (.int p3), .val (.int p4), .val (.long q5), .second, .val (.int (3 : Int32))] [(.int p3)])) (fun _ kgo => XS.iload X45.here hx rfl (hb hby d3_84) rfl kgo) ?_
    refine own_go (g' := (mkF m 87 #[.val (.ref o0), .val (.long q1), .second, .val (.int (7 : Int32)), .val (.int p3), .val (.int p4), .val (.long q5), .second, .val (.int (3 : Int32))] [(.long (p3.toInt64))])) (fun _ kgo => XS.i2l X45.here hx rfl (hb hby d3_86) rfl kgo) ?_
    refine own_go (g' := (mkF m 88 #[.val (.ref o0), .val (.long q1), .second, .val (.int (7 : Int32)), .val (.int p3), .val (.int p4), .val (.long q5), .second, .val (.int (3 : Int32))] [(.long q1), (.long (p3.toInt64))])) (fun _ kgo => XS.lloadN X45.here hx rfl (hb hby d3_87) rfl kgo) ?_
    refine own_go (g' := (mkF m 91 #[.val (.ref o0), .val (.long q1), .second, .val (.int (7 : Int32)), .val (.int p3), .val (.int p4), .val (.long q5), .second, .val (.int (3 : Int32))] [(.long (64 : Int64)), (.long q1), (.long (p3.toInt64))])) (X45.ldc2Long hx hown (mvT hZ (hw _ (List.mem_of_getElem? (i := 30) rfl))) (g := (mkF m 88 #[.val (.ref o0), .val (.long q1), .second, .val (.int (7 : Int32)), .val (.int p3), .val (.int p4), .val (.long q5), .second, .val (.int (3 : Int32))] [(.long q1), (.long (p3.toInt64))])) rfl (hb hby d3_88)) ?_
    obtain ⟨v46, T46, L46, hQ46, X46, st46⟩ := own_callS X45 hx hZ (y := (⟨"java/lang/Math", "min", "(JJ)J"⟩ : MethodName)) hown (hw _ (List.mem_of_getElem? (i := 31) rfl)) (hw _ (List.mem_of_getElem? (i := 2) rfl)) (hw _ (List.mem_of_getElem? (i := 3) rfl)) (hw _ (List.mem_of_getElem? (i := 4) rfl)) ⟨by decide, by decide⟩ (argsL := [(.long q1), (.long (64 : Int64))]) (rm1 l Z a0 hw q1 (64 : Int64) h0) e45 (g := (mkF m 91 #[.val (.ref o0), .val (.long q1), .second, .val (.int (7 : Int32)), .val (.int p3), .val (.int p4), .val (.long q5), .second, .val (.int (3 : Int32))] [(.long (64 : Int64)), (.long q1), (.long (p3.toInt64))])) rfl (by rw [hml]; rfl) (rest := [(.long (p3.toInt64))]) (lenOf pd3_2 rfl) rfl (hb hby d3_91) (W := 2) (by show 2 * 0 + _ ≤ _; exact Nat.le_of_eq rfl) (by decide) (by decide) (by decide) (by decide)
    obtain ⟨rfl, e46, rfl⟩ := hQ46
    have N46 := Fr.app N45 (Fr.nil n0)
    refine own_go (g' := (mkF m 94 #[.val (.ref o0), .val (.long q1), .second, .val (.int (7 : Int32)), .val (.int p3), .val (.int p4), .val (.long q5), .second, .val (.int (3 : Int32))] [(.long (own_min q1 (64 : Int64))), (.long (p3.toInt64))])) (st46) ?_
    refine own_go (g' := (mkF m 95 #[.val (.ref o0), .val (.long q1), .second, .val (.int (7 : Int32)), .val (.int p3), .val (.int p4), .val (.long q5), .second, .val (.int (3 : Int32))] [(.int (lcmpW (p3.toInt64) (own_min q1 (64 : Int64))))])) (fun _ kgo => XS.lcmp X46.here hx rfl (hb hby d3_94) rfl kgo) ?_
    refine own_go (g' := (mkF m 120 #[.val (.ref o0), .val (.long q1), .second, .val (.int (7 : Int32)), .val (.int p3), .val (.int p4), .val (.long q5), .second, .val (.int (3 : Int32))] [])) (fun _ kgo => XS.ifYes X46.here hx rfl (pc0 := 95) (pc' := 120) rfl (hb hby d3_95) rfl ((if0 _ _).trans (flt (mt (lw_gt _ _).mp (by simp only [Int64.lt_iff_toInt_lt, Int32.lt_iff_toInt_lt, c_i2l, own_min_i, Int64.reduceToInt, Int32.reduceToInt]; split <;> omega))).2.2.2) (by decide) (by decide) kgo) ?_
    refine own_go (g' := (mkF m 122 #[.val (.ref o0), .val (.long q1), .second, .val (.int (7 : Int32)), .val (.int p3), .val (.int p4), .val (.long q5), .second, .val (.int (3 : Int32))] [(.int p4)])) (fun _ kgo => XS.iload X46.here hx rfl (hb hby d3_120) rfl kgo) ?_
    refine own_go (g' := (mkF m 125 #[.val (.ref o0), .val (.long q1), .second, .val (.int (7 : Int32)), .val (.int p3), .val (.int p4), .val (.long q5), .second, .val (.int (3 : Int32))] [])) (fun _ kgo => XS.ifNo X46.here hx rfl (hb hby d3_122) rfl ((if0 _ _).trans (flt (by simp only [Int64.lt_iff_toInt_lt, Int32.lt_iff_toInt_lt, c_i2l, own_min_i, Int64.reduceToInt, Int32.reduceToInt]; omega)).1) kgo) ?_
    refine own_go (g' := (mkF m 127 #[.val (.ref o0), .val (.long q1), .second, .val (.int (7 : Int32)), .val (.int p3), .val (.int p4), .val (.long q5), .second, .val (.int (3 : Int32))] [(.int p4)])) (fun _ kgo => XS.iload X46.here hx rfl (hb hby d3_125) rfl kgo) ?_
    refine own_go (g' := (mkF m 128 #[.val (.ref o0), .val (.long q1), .second, .val (.int (7 : Int32)), .val (.int p3), .val (.int p4), .val (.long q5), .second, .val (.int (3 : Int32))] [(.long (p4.toInt64))])) (fun _ kgo => XS.i2l X46.here hx rfl (hb hby d3_127) rfl kgo) ?_
    refine own_go (g' := (mkF m 129 #[.val (.ref o0), .val (.long q1), .second, .val (.int (7 : Int32)), .val (.int p3), .val (.int p4), .val (.long q5), .second, .val (.int (3 : Int32))] [(.long q1), (.long (p4.toInt64))])) (fun _ kgo => XS.lloadN X46.here hx rfl (hb hby d3_128) rfl kgo) ?_
    refine own_go (g' := (mkF m 130 #[.val (.ref o0), .val (.long q1), .second, .val (.int (7 : Int32)), .val (.int p3), .val (.int p4), .val (.long q5), .second, .val (.int (3 : Int32))] [(.int (lcmpW (p4.toInt64) q1))])) (fun _ kgo => XS.lcmp X46.here hx rfl (hb hby d3_129) rfl kgo) ?_
    refine own_go (g' := (mkF m 149 #[.val (.ref o0), .val (.long q1), .second, .val (.int (7 : Int32)), .val (.int p3), .val (.int p4), .val (.long q5), .second, .val (.int (3 : Int32))] [])) (fun _ kgo => XS.ifYes X46.here hx rfl (pc0 := 130) (pc' := 149) rfl (hb hby d3_130) rfl ((if0 _ _).trans (flt (mt (lw_gt _ _).mp (by simp only [Int64.lt_iff_toInt_lt, Int32.lt_iff_toInt_lt, c_i2l, own_min_i, Int64.reduceToInt, Int32.reduceToInt]; omega))).2.2.2) (by decide) (by decide) kgo) ?_
    refine own_go (g' := (mkF m 150 #[.val (.ref o0), .val (.long q1), .second, .val (.int (7 : Int32)), .val (.int p3), .val (.int p4), .val (.long q5), .second, .val (.int (3 : Int32))] [(.ref o0)])) (fun _ kgo => XS.aloadN X46.here hx rfl (hb hby d3_149) rfl rfl kgo) ?_
    refine own_go (g' := (mkF m 151 #[.val (.ref o0), .val (.long q1), .second, .val (.int (7 : Int32)), .val (.int p3), .val (.int p4), .val (.long q5), .second, .val (.int (3 : Int32))] [(.long q1), (.ref o0)])) (fun _ kgo => XS.lloadN X46.here hx rfl (hb hby d3_150) rfl kgo) ?_
    obtain ⟨T47, h47, X47, e47, W47, st47⟩ := putF X46 hx hZ hown (host := "") (Or.inl (hw _ (List.mem_of_getElem? (i := 32) rfl))) Via.refl e46 P1 P0 (Or.inr ⟨(hw _ (List.mem_of_getElem? (i := 33) rfl)), rfl, hnm⟩) (hw _ (List.mem_of_getElem? (i := 6) rfl)) (ty := .long) (by decide) rfl rfl (g := (mkF m 151 #[.val (.ref o0), .val (.long q1), .second, .val (.int (7 : Int32)), .val (.int p3), .val (.int p4), .val (.long q5), .second, .val (.int (3 : Int32))] [(.long q1), (.ref o0)])) rfl rfl (hb hby d3_151)
    have w47 := Fld.same W47 P1
    have N47 := Fr.snoc X47 N46 g_o0
    have Z47 : n0 ≤ h47.size := by rw [W47.size]; exact Z0
    have K47 : Keep h0 h47 [o0] := K0.wr W47 (Or.inl (List.mem_of_getElem? (i := 0) rfl))
    refine own_go (g' := (mkF m 154 #[.val (.ref o0), .val (.long q1), .second, .val (.int (7 : Int32)), .val (.int p3), .val (.int p4), .val (.long q5), .second, .val (.int (3 : Int32))] [])) (st47) ?_
    refine own_go (g' := (mkF m 155 #[.val (.ref o0), .val (.long q1), .second, .val (.int (7 : Int32)), .val (.int p3), .val (.int p4), .val (.long q5), .second, .val (.int (3 : Int32))] [(.ref o0)])) (fun _ kgo => XS.aloadN X47.here hx rfl (hb hby d3_154) rfl rfl kgo) ?_
    refine own_go (g' := (mkF m 156 #[.val (.ref o0), .val (.long q1), .second, .val (.int (7 : Int32)), .val (.int p3), .val (.int p4), .val (.long q5), .second, .val (.int (3 : Int32))] [(.int (7 : Int32)), (.ref o0)])) (fun _ kgo => XS.iloadN X47.here hx rfl (hb hby d3_155) rfl kgo) ?_
    have fx48 : Fld Z h47 o0 "com/example/seenset/seenset/filter/StableParameters" "max" "I" (.int (0 : Int32)) := (Fld.other W47 P2 (Or.inr (slot_ne (Or.inr (hw _ (List.mem_of_getElem? (i := 35) rfl))) (Or.inr (hw _ (List.mem_of_getElem? (i := 33) rfl))) (by decide) (t := .int) (t' := .long) (by decide) (by decide))))
    have fx49 : Exa Z h47 o0 "com/example/seenset/seenset/filter/StableParameters" := (Exa.wr W47 P0)
    obtain ⟨T50, h50, X50, e50, W50, st50⟩ := putF X47 hx hZ hown (host := "") (Or.inl (hw _ (List.mem_of_getElem? (i := 34) rfl))) Via.refl e47 fx48 fx49 (Or.inr ⟨(hw _ (List.mem_of_getElem? (i := 35) rfl)), rfl, hnm⟩) (hw _ (List.mem_of_getElem? (i := 6) rfl)) (ty := .int) (by decide) rfl rfl (g := (mkF m 156 #[.val (.ref o0), .val (.long q1), .second, .val (.int (7 : Int32)), .val (.int p3), .val (.int p4), .val (.long q5), .second, .val (.int (3 : Int32))] [(.int (7 : Int32)), (.ref o0)])) rfl rfl (hb hby d3_156)
    have w50 := Fld.same W50 fx48
    have N50 := Fr.snoc X50 N47 g_o0
    have Z50 : n0 ≤ h50.size := by rw [W50.size]; exact Z47
    have K50 : Keep h0 h50 [o0] := K47.wr W50 (Or.inl (List.mem_of_getElem? (i := 0) rfl))
    refine own_go (g' := (mkF m 159 #[.val (.ref o0), .val (.long q1), .second, .val (.int (7 : Int32)), .val (.int p3), .val (.int p4), .val (.long q5), .second, .val (.int (3 : Int32))] [])) (st50) ?_
    refine own_go (g' := (mkF m 160 #[.val (.ref o0), .val (.long q1), .second, .val (.int (7 : Int32)), .val (.int p3), .val (.int p4), .val (.long q5), .second, .val (.int (3 : Int32))] [(.ref o0)])) (fun _ kgo => XS.aloadN X50.here hx rfl (hb hby d3_159) rfl rfl kgo) ?_
    refine own_go (g' := (mkF m 162 #[.val (.ref o0), .val (.long q1), .second, .val (.int (7 : Int32)), .val (.int p3), .val (.int p4), .val (.long q5), .second, .val (.int (3 : Int32))] [(.int p3), (.ref o0)])) (fun _ kgo => XS.iload X50.here hx rfl (hb hby d3_160) rfl kgo) ?_
    have fx51 : Fld Z h50 o0 "com/example/seenset/seenset/filter/StableParameters" "hashes" "I" (.int (0 : Int32)) := (Fld.other W50 (Fld.other W47 P3 (Or.inr (slot_ne (Or.inr (hw _ (List.mem_of_getElem? (i := 37) rfl))) (Or.inr (hw _ (List.mem_of_getElem? (i := 33) rfl))) (by decide) (t := .int) (t' := .long) (by decide) (by decide)))) (Or.inr (slot_ne (Or.inr (hw _ (List.mem_of_getElem? (i := 37) rfl))) (Or.inr (hw _ (List.mem_of_getElem? (i := 35) rfl))) (by decide) (t := .int) (t' := .int) (by decide) (by decide))))
    have fx52 : Exa Z h50 o0 "com/example/seenset/seenset/filter/StableParameters" := (Exa.wr W50 fx49)
    obtain ⟨T53, h53, X53, e53, W53, st53⟩ := putF X50 hx hZ hown (host := "") (Or.inl (hw _ (List.mem_of_getElem? (i := 36) rfl))) Via.refl e50 fx51 fx52 (Or.inr ⟨(hw _ (List.mem_of_getElem? (i := 37) rfl)), rfl, hnm⟩) (hw _ (List.mem_of_getElem? (i := 6) rfl)) (ty := .int) (by decide) rfl rfl (g := (mkF m 162 #[.val (.ref o0), .val (.long q1), .second, .val (.int (7 : Int32)), .val (.int p3), .val (.int p4), .val (.long q5), .second, .val (.int (3 : Int32))] [(.int p3), (.ref o0)])) rfl rfl (hb hby d3_162)
    have w53 := Fld.same W53 fx51
    have N53 := Fr.snoc X53 N50 g_o0
    have Z53 : n0 ≤ h53.size := by rw [W53.size]; exact Z50
    have K53 : Keep h0 h53 [o0] := K50.wr W53 (Or.inl (List.mem_of_getElem? (i := 0) rfl))
    refine own_go (g' := (mkF m 165 #[.val (.ref o0), .val (.long q1), .second, .val (.int (7 : Int32)), .val (.int p3), .val (.int p4), .val (.long q5), .second, .val (.int (3 : Int32))] [])) (st53) ?_
    refine own_go (g' := (mkF m 166 #[.val (.ref o0), .val (.long q1), .second, .val (.int (7 : Int32)), .val (.int p3), .val (.int p4), .val (.long q5), .second, .val (.int (3 : Int32))] [(.ref o0)])) (fun _ kgo => XS.aloadN X53.here hx rfl (hb hby d3_165) rfl rfl kgo) ?_
    refine own_go (g' := (mkF m 168 #[.val (.ref o0), .val (.long q1), .second, .val (.int (7 : Int32)), .val (.int p3), .val (.int p4), .val (.long q5), .second, .val (.int (3 : Int32))] [(.int p4), (.ref o0)])) (fun _ kgo => XS.iload X53.here hx rfl (hb hby d3_166) rfl kgo) ?_
    have fx54 : Fld Z h53 o0 "com/example/seenset/seenset/filter/StableParameters" "decrement" "I" (.int (0 : Int32)) := (Fld.other W53 (Fld.other W50 (Fld.other W47 P4 (Or.inr (slot_ne (Or.inr (hw _ (List.mem_of_getElem? (i := 39) rfl))) (Or.inr (hw _ (List.mem_of_getElem? (i := 33) rfl))) (by decide) (t := .int) (t' := .long) (by decide) (by decide)))) (Or.inr (slot_ne (Or.inr (hw _ (List.mem_of_getElem? (i := 39) rfl))) (Or.inr (hw _ (List.mem_of_getElem? (i := 35) rfl))) (by decide) (t := .int) (t' := .int) (by decide) (by decide)))) (Or.inr (slot_ne (Or.inr (hw _ (List.mem_of_getElem? (i := 39) rfl))) (Or.inr (hw _ (List.mem_of_getElem? (i := 37) rfl))) (by decide) (t := .int) (t' := .int) (by decide) (by decide))))
    have fx55 : Exa Z h53 o0 "com/example/seenset/seenset/filter/StableParameters" := (Exa.wr W53 fx52)
    obtain ⟨T56, h56, X56, e56, W56, st56⟩ := putF X53 hx hZ hown (host := "") (Or.inl (hw _ (List.mem_of_getElem? (i := 38) rfl))) Via.refl e53 fx54 fx55 (Or.inr ⟨(hw _ (List.mem_of_getElem? (i := 39) rfl)), rfl, hnm⟩) (hw _ (List.mem_of_getElem? (i := 6) rfl)) (ty := .int) (by decide) rfl rfl (g := (mkF m 168 #[.val (.ref o0), .val (.long q1), .second, .val (.int (7 : Int32)), .val (.int p3), .val (.int p4), .val (.long q5), .second, .val (.int (3 : Int32))] [(.int p4), (.ref o0)])) rfl rfl (hb hby d3_168)
    have w56 := Fld.same W56 fx54
    have N56 := Fr.snoc X56 N53 g_o0
    have Z56 : n0 ≤ h56.size := by rw [W56.size]; exact Z53
    have K56 : Keep h0 h56 [o0] := K53.wr W56 (Or.inl (List.mem_of_getElem? (i := 0) rfl))
    refine own_go (g' := (mkF m 171 #[.val (.ref o0), .val (.long q1), .second, .val (.int (7 : Int32)), .val (.int p3), .val (.int p4), .val (.long q5), .second, .val (.int (3 : Int32))] [])) (st56) ?_
    refine own_go (g' := (mkF m 172 #[.val (.ref o0), .val (.long q1), .second, .val (.int (7 : Int32)), .val (.int p3), .val (.int p4), .val (.long q5), .second, .val (.int (3 : Int32))] [(.ref o0)])) (fun _ kgo => XS.aloadN X56.here hx rfl (hb hby d3_171) rfl rfl kgo) ?_
    refine own_go (g' := (mkF m 174 #[.val (.ref o0), .val (.long q1), .second, .val (.int (7 : Int32)), .val (.int p3), .val (.int p4), .val (.long q5), .second, .val (.int (3 : Int32))] [(.long q5), (.ref o0)])) (fun _ kgo => XS.lload X56.here hx rfl (hb hby d3_172) rfl kgo) ?_
    have fx57 : Fld Z h56 o0 "com/example/seenset/seenset/filter/StableParameters" "seed" "J" (.long (0 : Int64)) := (Fld.other W56 (Fld.other W53 (Fld.other W50 (Fld.other W47 P5 (Or.inr (slot_ne (Or.inr (hw _ (List.mem_of_getElem? (i := 41) rfl))) (Or.inr (hw _ (List.mem_of_getElem? (i := 33) rfl))) (by decide) (t := .long) (t' := .long) (by decide) (by decide)))) (Or.inr (slot_ne (Or.inr (hw _ (List.mem_of_getElem? (i := 41) rfl))) (Or.inr (hw _ (List.mem_of_getElem? (i := 35) rfl))) (by decide) (t := .long) (t' := .int) (by decide) (by decide)))) (Or.inr (slot_ne (Or.inr (hw _ (List.mem_of_getElem? (i := 41) rfl))) (Or.inr (hw _ (List.mem_of_getElem? (i := 37) rfl))) (by decide) (t := .long) (t' := .int) (by decide) (by decide)))) (Or.inr (slot_ne (Or.inr (hw _ (List.mem_of_getElem? (i := 41) rfl))) (Or.inr (hw _ (List.mem_of_getElem? (i := 39) rfl))) (by decide) (t := .long) (t' := .int) (by decide) (by decide))))
    have fx58 : Exa Z h56 o0 "com/example/seenset/seenset/filter/StableParameters" := (Exa.wr W56 fx55)
    obtain ⟨T59, h59, X59, e59, W59, st59⟩ := putF X56 hx hZ hown (host := "") (Or.inl (hw _ (List.mem_of_getElem? (i := 40) rfl))) Via.refl e56 fx57 fx58 (Or.inr ⟨(hw _ (List.mem_of_getElem? (i := 41) rfl)), rfl, hnm⟩) (hw _ (List.mem_of_getElem? (i := 6) rfl)) (ty := .long) (by decide) rfl rfl (g := (mkF m 174 #[.val (.ref o0), .val (.long q1), .second, .val (.int (7 : Int32)), .val (.int p3), .val (.int p4), .val (.long q5), .second, .val (.int (3 : Int32))] [(.long q5), (.ref o0)])) rfl rfl (hb hby d3_174)
    have w59 := Fld.same W59 fx57
    have N59 := Fr.snoc X59 N56 g_o0
    have Z59 : n0 ≤ h59.size := by rw [W59.size]; exact Z56
    have K59 : Keep h0 h59 [o0] := K56.wr W59 (Or.inl (List.mem_of_getElem? (i := 0) rfl))
    refine own_go (g' := (mkF m 177 #[.val (.ref o0), .val (.long q1), .second, .val (.int (7 : Int32)), .val (.int p3), .val (.int p4), .val (.long q5), .second, .val (.int (3 : Int32))] [])) (st59) ?_
    refine own_retV X59 hx Bd.returns Bd.notSynchronized (hb hby d3_177) (by decide) (by decide) ?_
    show QQ _ T59.heap _
    rw [e59]
    have fx60 : Exa Z h59 o0 "com/example/seenset/seenset/filter/StableParameters" := (Exa.wr W59 fx58)
    have fx61 : Fld Z h59 o0 "com/example/seenset/seenset/filter/StableParameters" "cells" "J" (.long q1) := (Fld.other W59 (Fld.other W56 (Fld.other W53 (Fld.other W50 w47 (Or.inr (slot_ne (Or.inr (hw _ (List.mem_of_getElem? (i := 33) rfl))) (Or.inr (hw _ (List.mem_of_getElem? (i := 35) rfl))) (by decide) (t := .long) (t' := .int) (by decide) (by decide)))) (Or.inr (slot_ne (Or.inr (hw _ (List.mem_of_getElem? (i := 33) rfl))) (Or.inr (hw _ (List.mem_of_getElem? (i := 37) rfl))) (by decide) (t := .long) (t' := .int) (by decide) (by decide)))) (Or.inr (slot_ne (Or.inr (hw _ (List.mem_of_getElem? (i := 33) rfl))) (Or.inr (hw _ (List.mem_of_getElem? (i := 39) rfl))) (by decide) (t := .long) (t' := .int) (by decide) (by decide)))) (Or.inr (slot_ne (Or.inr (hw _ (List.mem_of_getElem? (i := 33) rfl))) (Or.inr (hw _ (List.mem_of_getElem? (i := 41) rfl))) (by decide) (t := .long) (t' := .long) (by decide) (by decide))))
    have fx62 : Fld Z h59 o0 "com/example/seenset/seenset/filter/StableParameters" "max" "I" (.int (7 : Int32)) := (Fld.other W59 (Fld.other W56 (Fld.other W53 w50 (Or.inr (slot_ne (Or.inr (hw _ (List.mem_of_getElem? (i := 35) rfl))) (Or.inr (hw _ (List.mem_of_getElem? (i := 37) rfl))) (by decide) (t := .int) (t' := .int) (by decide) (by decide)))) (Or.inr (slot_ne (Or.inr (hw _ (List.mem_of_getElem? (i := 35) rfl))) (Or.inr (hw _ (List.mem_of_getElem? (i := 39) rfl))) (by decide) (t := .int) (t' := .int) (by decide) (by decide)))) (Or.inr (slot_ne (Or.inr (hw _ (List.mem_of_getElem? (i := 35) rfl))) (Or.inr (hw _ (List.mem_of_getElem? (i := 41) rfl))) (by decide) (t := .int) (t' := .long) (by decide) (by decide))))
    have fx63 : Fld Z h59 o0 "com/example/seenset/seenset/filter/StableParameters" "hashes" "I" (.int p3) := (Fld.other W59 (Fld.other W56 w53 (Or.inr (slot_ne (Or.inr (hw _ (List.mem_of_getElem? (i := 37) rfl))) (Or.inr (hw _ (List.mem_of_getElem? (i := 39) rfl))) (by decide) (t := .int) (t' := .int) (by decide) (by decide)))) (Or.inr (slot_ne (Or.inr (hw _ (List.mem_of_getElem? (i := 37) rfl))) (Or.inr (hw _ (List.mem_of_getElem? (i := 41) rfl))) (by decide) (t := .int) (t' := .long) (by decide) (by decide))))
    have fx64 : Fld Z h59 o0 "com/example/seenset/seenset/filter/StableParameters" "decrement" "I" (.int p4) := (Fld.other W59 w56 (Or.inr (slot_ne (Or.inr (hw _ (List.mem_of_getElem? (i := 39) rfl))) (Or.inr (hw _ (List.mem_of_getElem? (i := 41) rfl))) (by decide) (t := .int) (t' := .long) (by decide) (by decide))))
    rw [← hQQ]
    exact ⟨rfl, N59, K59, fx60, fx61, fx62, fx63, fx64, w59⟩
  ·
    refine own_go (g' := (mkF m 5 #[.val (.ref o0), .val (.long q1), .second, .val (.int (15 : Int32)), .val (.int p3), .val (.int p4), .val (.long q5), .second, .unset] [(.int (15 : Int32))])) (fun _ kgo => XS.iloadN X1.here hx rfl (hb hby d3_4) rfl kgo) ?_
    refine own_go (g' := (mkF m 6 #[.val (.ref o0), .val (.long q1), .second, .val (.int (15 : Int32)), .val (.int p3), .val (.int p4), .val (.long q5), .second, .unset] [(.int (1 : Int32)), (.int (15 : Int32))])) (fun _ kgo => XS.iconst X1.here hx rfl (hb hby d3_5) kgo) ?_
    refine own_go (g' := (mkF m 9 #[.val (.ref o0), .val (.long q1), .second, .val (.int (15 : Int32)), .val (.int p3), .val (.int p4), .val (.long q5), .second, .unset] [])) (fun _ kgo => XS.icmpNo X1.here hx rfl (hb hby d3_6) rfl (flt (by decide)).1 kgo) ?_
    refine own_go (g' := (mkF m 10 #[.val (.ref o0), .val (.long q1), .second, .val (.int (15 : Int32)), .val (.int p3), .val (.int p4), .val (.long q5), .second, .unset] [(.int (15 : Int32))])) (fun _ kgo => XS.iloadN X1.here hx rfl (hb hby d3_9) rfl kgo) ?_
    refine own_go (g' := (mkF m 12 #[.val (.ref o0), .val (.long q1), .second, .val (.int (15 : Int32)), .val (.int p3), .val (.int p4), .val (.long q5), .second, .unset] [(.int (15 : Int32)), (.int (15 : Int32))])) (fun _ kgo => XS.bipush X1.here hx rfl (hb hby d3_10) kgo) ?_
    refine own_go (g' := (mkF m 15 #[.val (.ref o0), .val (.long q1), .second, .val (.int (15 : Int32)), .val (.int p3), .val (.int p4), .val (.long q5), .second, .unset] [])) (fun _ kgo => XS.icmpNo X1.here hx rfl (hb hby d3_12) rfl (flt (by decide)).2.2.1 kgo) ?_
    refine own_go (g' := (mkF m 16 #[.val (.ref o0), .val (.long q1), .second, .val (.int (15 : Int32)), .val (.int p3), .val (.int p4), .val (.long q5), .second, .unset] [(.int (15 : Int32))])) (fun _ kgo => XS.iloadN X1.here hx rfl (hb hby d3_15) rfl kgo) ?_
    refine own_go (g' := (mkF m 17 #[.val (.ref o0), .val (.long q1), .second, .val (.int (15 : Int32)), .val (.int p3), .val (.int p4), .val (.long q5), .second, .unset] [(.int (15 : Int32)), (.int (15 : Int32))])) (fun _ kgo => XS.iloadN X1.here hx rfl (hb hby d3_16) rfl kgo) ?_
    refine own_go (g' := (mkF m 18 #[.val (.ref o0), .val (.long q1), .second, .val (.int (15 : Int32)), .val (.int p3), .val (.int p4), .val (.long q5), .second, .unset] [(.int (1 : Int32)), (.int (15 : Int32)), (.int (15 : Int32))])) (fun _ kgo => XS.iconst X1.here hx rfl (hb hby d3_17) kgo) ?_
    refine own_go (g' := (mkF m 19 #[.val (.ref o0), .val (.long q1), .second, .val (.int (15 : Int32)), .val (.int p3), .val (.int p4), .val (.long q5), .second, .unset] [(.int (16 : Int32)), (.int (15 : Int32))])) (fun _ kgo => XS.iadd X1.here hx rfl (hb hby d3_18) rfl kgo) ?_
    refine own_go (g' := (mkF m 20 #[.val (.ref o0), .val (.long q1), .second, .val (.int (15 : Int32)), .val (.int p3), .val (.int p4), .val (.long q5), .second, .unset] [(.int (0 : Int32))])) (fun _ kgo => XS.iand X1.here hx rfl (hb hby d3_19) rfl kgo) ?_
    refine own_go (g' := (mkF m 37 #[.val (.ref o0), .val (.long q1), .second, .val (.int (15 : Int32)), .val (.int p3), .val (.int p4), .val (.long q5), .second, .unset] [])) (fun _ kgo => XS.ifYes X1.here hx rfl (pc0 := 20) (pc' := 37) rfl (hb hby d3_20) rfl ((if0 _ _).trans (teq (by decide)).1) (by decide) (by decide) kgo) ?_
    refine own_go (g' := (mkF m 38 #[.val (.ref o0), .val (.long q1), .second, .val (.int (15 : Int32)), .val (.int p3), .val (.int p4), .val (.long q5), .second, .unset] [(.int (15 : Int32))])) (fun _ kgo => XS.iloadN X1.here hx rfl (hb hby d3_37) rfl kgo) ?_
    obtain ⟨v65, T65, L65, hQ65, X65, st65⟩ := own_callS X1 hx hZ (y := (⟨"com/example/seenset/seenset/filter/StableParameters", "bitsPerCell", "(I)I"⟩ : MethodName)) hown (hw _ (List.mem_of_getElem? (i := 17) rfl)) (hw _ (List.mem_of_getElem? (i := 18) rfl)) (hw _ (List.mem_of_getElem? (i := 7) rfl)) (hw _ (List.mem_of_getElem? (i := 19) rfl)) ⟨by decide, by decide⟩ (argsL := [(.int (15 : Int32))]) (bpc15 l Z a0 hw h0) e1 (g := (mkF m 38 #[.val (.ref o0), .val (.long q1), .second, .val (.int (15 : Int32)), .val (.int p3), .val (.int p4), .val (.long q5), .second, .unset] [(.int (15 : Int32))])) rfl (by rw [hml]; rfl) (rest := []) (lenOf pd3_0 rfl) rfl (hb hby d3_38) (W := 0) (by show 2 * 0 + _ ≤ _; exact Nat.le_of_eq rfl) (by decide) (by decide) (by decide) (by decide)
    obtain ⟨rfl, e65, rfl⟩ := hQ65
    have N65 := Fr.app N0 (Fr.nil n0)
    refine own_go (g' := (mkF m 41 #[.val (.ref o0), .val (.long q1), .second, .val (.int (15 : Int32)), .val (.int p3), .val (.int p4), .val (.long q5), .second, .unset] [(.int (4 : Int32))])) (st65) ?_
    refine own_go (g' := (mkF m 43 #[.val (.ref o0), .val (.long q1), .second, .val (.int (15 : Int32)), .val (.int p3), .val (.int p4), .val (.long q5), .second, .val (.int (4 : Int32))] [])) (fun _ kgo => XS.istore X65.here hx rfl (hb hby d3_41) rfl (l' := #[.val (.ref o0), .val (.long q1), .second, .val (.int (15 : Int32)), .val (.int p3), .val (.int p4), .val (.long q5), .second, .val (.int (4 : Int32))]) rfl kgo) ?_
    refine own_go (g' := (mkF m 44 #[.val (.ref o0), .val (.long q1), .second, .val (.int (15 : Int32)), .val (.int p3), .val (.int p4), .val (.long q5), .second, .val (.int (4 : Int32))] [(.long q1)])) (fun _ kgo => XS.lloadN X65.here hx rfl (hb hby d3_43) rfl kgo) ?_
    refine own_go (g' := (mkF m 45 #[.val (.ref o0), .val (.long q1), .second, .val (.int (15 : Int32)), .val (.int p3), .val (.int p4), .val (.long q5), .second, .val (.int (4 : Int32))] [(.long (1 : Int64)), (.long q1)])) (fun _ kgo => XS.lconst X65.here hx rfl (hb hby d3_44) kgo) ?_
    refine own_go (g' := (mkF m 46 #[.val (.ref o0), .val (.long q1), .second, .val (.int (15 : Int32)), .val (.int p3), .val (.int p4), .val (.long q5), .second, .val (.int (4 : Int32))] [(.int (lcmpW q1 (1 : Int64)))])) (fun _ kgo => XS.lcmp X65.here hx rfl (hb hby d3_45) rfl kgo) ?_
    refine own_go (g' := (mkF m 49 #[.val (.ref o0), .val (.long q1), .second, .val (.int (15 : Int32)), .val (.int p3), .val (.int p4), .val (.long q5), .second, .val (.int (4 : Int32))] [])) (fun _ kgo => XS.ifNo X65.here hx rfl (hb hby d3_46) rfl ((if0 _ _).trans (flt (mt (lw_lt _ _).mp (by simp only [Int64.lt_iff_toInt_lt, Int32.lt_iff_toInt_lt, c_i2l, own_min_i, Int64.reduceToInt, Int32.reduceToInt]; omega))).1) kgo) ?_
    refine own_go (g' := (mkF m 50 #[.val (.ref o0), .val (.long q1), .second, .val (.int (15 : Int32)), .val (.int p3), .val (.int p4), .val (.long q5), .second, .val (.int (4 : Int32))] [(.long q1)])) (fun _ kgo => XS.lloadN X65.here hx rfl (hb hby d3_49) rfl kgo) ?_
    refine own_go (g' := (mkF m 52 #[.val (.ref o0), .val (.long q1), .second, .val (.int (15 : Int32)), .val (.int p3), .val (.int p4), .val (.long q5), .second, .val (.int (4 : Int32))] [(.int (4 : Int32)), (.long q1)])) (fun _ kgo => XS.iload X65.here hx rfl (hb hby d3_50) rfl kgo) ?_
    obtain ⟨v66, T66, L66, hQ66, X66, st66⟩ := own_callS X65 hx hZ (y := (⟨"com/example/seenset/seenset/util/Cells", "maxCount", "(I)J"⟩ : MethodName)) hown (hw _ (List.mem_of_getElem? (i := 25) rfl)) (hw _ (List.mem_of_getElem? (i := 26) rfl)) (hw _ (List.mem_of_getElem? (i := 27) rfl)) (hw _ (List.mem_of_getElem? (i := 28) rfl)) ⟨by decide, by decide⟩ (argsL := [(.int (4 : Int32))]) (rm7 l Z a0 hw (4 : Int32) h0 (by decide)) e65 (g := (mkF m 52 #[.val (.ref o0), .val (.long q1), .second, .val (.int (15 : Int32)), .val (.int p3), .val (.int p4), .val (.long q5), .second, .val (.int (4 : Int32))] [(.int (4 : Int32)), (.long q1)])) rfl (by rw [hml]; rfl) (rest := [(.long q1)]) (lenOf pd3_1 rfl) rfl (hb hby d3_52) (W := 2) (by show 2 * 0 + _ ≤ _; exact Nat.le_of_eq rfl) (by decide) (by decide) (by decide) (by decide)
    obtain ⟨rfl, e66, rfl⟩ := hQ66
    have N66 := Fr.app N65 (Fr.nil n0)
    refine own_go (g' := (mkF m 55 #[.val (.ref o0), .val (.long q1), .second, .val (.int (15 : Int32)), .val (.int p3), .val (.int p4), .val (.long q5), .second, .val (.int (4 : Int32))] [(.long ((137438952896 : Int64) / (4 : Int32).toInt64)), (.long q1)])) (st66) ?_
    refine own_go (g' := (mkF m 56 #[.val (.ref o0), .val (.long q1), .second, .val (.int (15 : Int32)), .val (.int p3), .val (.int p4), .val (.long q5), .second, .val (.int (4 : Int32))] [(.int (lcmpW q1 ((137438952896 : Int64) / (4 : Int32).toInt64)))])) (fun _ kgo => XS.lcmp X66.here hx rfl (hb hby d3_55) rfl kgo) ?_
    refine own_go (g' := (mkF m 78 #[.val (.ref o0), .val (.long q1), .second, .val (.int (15 : Int32)), .val (.int p3), .val (.int p4), .val (.long q5), .second, .val (.int (4 : Int32))] [])) (fun _ kgo => XS.ifYes X66.here hx rfl (pc0 := 56) (pc' := 78) rfl (hb hby d3_56) rfl ((if0 _ _).trans (flt (mt (lw_gt _ _).mp (by rw [Int64.lt_iff_toInt_lt, show ((137438952896 : Int64) / (4 : Int32).toInt64).toInt = 34359738224 from by decide]; omega))).2.2.2) (by decide) (by decide) kgo) ?_
    refine own_go (g' := (mkF m 80 #[.val (.ref o0), .val (.long q1), .second, .val (.int (15 : Int32)), .val (.int p3), .val (.int p4), .val (.long q5), .second, .val (.int (4 : Int32))] [(.int p3)])) (fun _ kgo => XS.iload X66.here hx rfl (hb hby d3_78) rfl kgo) ?_
    refine own_go (g' := (mkF m 81 #[.val (.ref o0), .val (.long q1), .second, .val (.int (15 : Int32)), .val (.int p3), .val (.int p4), .val (.long q5), .second, .val (.int (4 : Int32))] [(.int (1 : Int32)), (.int p3)])) (fun _ kgo => XS.iconst X66.here hx rfl (hb hby d3_80) kgo) ?_
    refine own_go (g' := (mkF m 84 #[.val (.ref o0), .val (.long q1), .second, .val (.int (15 : Int32)), .val (.int p3), .val (.int p4), .val (.long q5), .second, .val (.int (4 : Int32))] [])) (fun _ kgo => XS.icmpNo X66.here hx rfl (hb hby d3_81) rfl (flt (by simp only [Int64.lt_iff_toInt_lt, Int32.lt_iff_toInt_lt, c_i2l, own_min_i, Int64.reduceToInt, Int32.reduceToInt]; omega)).1 kgo) ?_
    refine own_go (g' := (mkF m 86 #[.val (.ref o0), .val (.long q1), .second, .val (.int (15 : Int32)), .val (.int p3), .val (.int p4), .val (.long q5), .second, .val (.int (4 : Int32))] [(.int p3)])) (fun _ kgo => XS.iload X66.here hx rfl (hb hby d3_84) rfl kgo) ?_
    refine own_go (g' := (mkF m 87 #[.val (.ref o0), .val (.long q1), .second, .val (.int (15 : Int32)), .val (.int p3), .val (.int p4), .val (.long q5), .second, .val (.int (4 : Int32))] [(.long (p3.toInt64))])) (fun _ kgo => XS.i2l X66.here hx rfl (hb hby d3_86) rfl kgo) ?_
    refine own_go (g' := (mkF m 88 #[.val (.ref o0), .val (.long q1), .second, .val (.int (15 : Int32)), .val (.int p3), .val (.int p4), .val (.long q5), .second, .val (.int (4 : Int32))] [(.long q1), (.long (p3.toInt64))])) (fun _ kgo => XS.lloadN X66.here hx rfl (hb hby d3_87) rfl kgo) ?_
    refine own_go (g' := (mkF m 91 #[.val (.ref o0), .val (.long q1), .second, .val (.int (15 : Int32)), .val (.int p3), .val (.int p4), .val (.long q5), .second, .val (.int (4 : Int32))] [(.long (64 : Int64)), (.long q1), (.long (p3.toInt64))])) (X66.ldc2Long hx hown (mvT hZ (hw _ (List.mem_of_getElem? (i := 30) rfl))) (g := (mkF m 88 #[.val (.ref o0), .val (.long q1), .second, .val (.int (15 : Int32)), .val (.int p3), .val (.int p4), .val (.long q5), .second, .val (.int (4 : Int32))] [(.long q1), (.long (p3.toInt64))])) rfl (hb hby d3_88)) ?_
    obtain ⟨v67, T67, L67, hQ67, X67, st67⟩ := own_callS X66 hx hZ (y := (⟨"java/lang/Math", "min", "(JJ)J"⟩ : MethodName)) hown (hw _ (List.mem_of_getElem? (i := 31) rfl)) (hw _ (List.mem_of_getElem? (i := 2) rfl)) (hw _ (List.mem_of_getElem? (i := 3) rfl)) (hw _ (List.mem_of_getElem? (i := 4) rfl)) ⟨by decide, by decide⟩ (argsL := [(.long q1), (.long (64 : Int64))]) (rm1 l Z a0 hw q1 (64 : Int64) h0) e66 (g := (mkF m 91 #[.val (.ref o0), .val (.long q1), .second, .val (.int (15 : Int32)), .val (.int p3), .val (.int p4), .val (.long q5), .second, .val (.int (4 : Int32))] [(.long (64 : Int64)), (.long q1), (.long (p3.toInt64))])) rfl (by rw [hml]; rfl) (rest := [(.long (p3.toInt64))]) (lenOf pd3_2 rfl) rfl (hb hby d3_91) (W := 2) (by show 2 * 0 + _ ≤ _; exact Nat.le_of_eq rfl) (by decide) (by decide) (by decide) (by decide)
    obtain ⟨rfl, e67, rfl⟩ := hQ67
    have N67 := Fr.app N66 (Fr.nil n0)
    refine own_go (g' := (mkF m 94 #[.val (.ref o0), .val (.long q1), .second, .val (.int (15 : Int32)), .val (.int p3), .val (.int p4), .val (.long q5), .second, .val (.int (4 : Int32))] [(.long (own_min q1 (64 : Int64))), (.long (p3.toInt64))])) (st67) ?_
    refine own_go (g' := (mkF m 95 #[.val (.ref o0), .val (.long q1), .second, .val (.int (15 : Int32)), .val (.int p3), .val (.int p4), .val (.long q5), .second, .val (.int (4 : Int32))] [(.int (lcmpW (p3.toInt64) (own_min q1 (64 : Int64))))])) (fun _ kgo => XS.lcmp X67.here hx rfl (hb hby d3_94) rfl kgo) ?_
    refine own_go (g' := (mkF m 120 #[.val (.ref o0), .val (.long q1), .second, .val (.int (15 : Int32)), .val (.int p3), .val (.int p4), .val (.long q5), .second, .val (.int (4 : Int32))] [])) (fun _ kgo => XS.ifYes X67.here hx rfl (pc0 := 95) (pc' := 120) rfl (hb hby d3_95) rfl ((if0 _ _).trans (flt (mt (lw_gt _ _).mp (by simp only [Int64.lt_iff_toInt_lt, Int32.lt_iff_toInt_lt, c_i2l, own_min_i, Int64.reduceToInt, Int32.reduceToInt]; split <;> omega))).2.2.2) (by decide) (by decide) kgo) ?_
    refine own_go (g' := (mkF m 122 #[.val (.ref o0), .val (.long q1), .second, .val (.int (15 : Int32)), .val (.int p3), .val (.int p4), .val (.long q5), .second, .val (.int (4 : Int32))] [(.int p4)])) (fun _ kgo => XS.iload X67.here hx rfl (hb hby d3_120) rfl kgo) ?_
    refine own_go (g' := (mkF m 125 #[.val (.ref o0), .val (.long q1), .second, .val (.int (15 : Int32)), .val (.int p3), .val (.int p4), .val (.long q5), .second, .val (.int (4 : Int32))] [])) (fun _ kgo => XS.ifNo X67.here hx rfl (hb hby d3_122) rfl ((if0 _ _).trans (flt (by simp only [Int64.lt_iff_toInt_lt, Int32.lt_iff_toInt_lt, c_i2l, own_min_i, Int64.reduceToInt, Int32.reduceToInt]; omega)).1) kgo) ?_
    refine own_go (g' := (mkF m 127 #[.val (.ref o0), .val (.long q1), .second, .val (.int (15 : Int32)), .val (.int p3), .val (.int p4), .val (.long q5), .second, .val (.int (4 : Int32))] [(.int p4)])) (fun _ kgo => XS.iload X67.here hx rfl (hb hby d3_125) rfl kgo) ?_
    refine own_go (g' := (mkF m 128 #[.val (.ref o0), .val (.long q1), .second, .val (.int (15 : Int32)), .val (.int p3), .val (.int p4), .val (.long q5), .second, .val (.int (4 : Int32))] [(.long (p4.toInt64))])) (fun _ kgo => XS.i2l X67.here hx rfl (hb hby d3_127) rfl kgo) ?_
    refine own_go (g' := (mkF m 129 #[.val (.ref o0), .val (.long q1), .second, .val (.int (15 : Int32)), .val (.int p3), .val (.int p4), .val (.long q5), .second, .val (.int (4 : Int32))] [(.long q1), (.long (p4.toInt64))])) (fun _ kgo => XS.lloadN X67.here hx rfl (hb hby d3_128) rfl kgo) ?_
    refine own_go (g' := (mkF m 130 #[.val (.ref o0), .val (.long q1), .second, .val (.int (15 : Int32)), .val (.int p3), .val (.int p4), .val (.long q5), .second, .val (.int (4 : Int32))] [(.int (lcmpW (p4.toInt64) q1))])) (fun _ kgo => XS.lcmp X67.here hx rfl (hb hby d3_129) rfl kgo) ?_
    refine own_go (g' := (mkF m 149 #[.val (.ref o0), .val (.long q1), .second, .val (.int (15 : Int32)), .val (.int p3), .val (.int p4), .val (.long q5), .second, .val (.int (4 : Int32))] [])) (fun _ kgo => XS.ifYes X67.here hx rfl (pc0 := 130) (pc' := 149) rfl (hb hby d3_130) rfl ((if0 _ _).trans (flt (mt (lw_gt _ _).mp (by simp only [Int64.lt_iff_toInt_lt, Int32.lt_iff_toInt_lt, c_i2l, own_min_i, Int64.reduceToInt, Int32.reduceToInt]; omega))).2.2.2) (by decide) (by decide) kgo) ?_
    refine own_go (g' := (mkF m 150 #[.val (.ref o0), .val (.long q1), .second, .val (.int (15 : Int32)), .val (.int p3), .val (.int p4), .val (.long q5), .second, .val (.int (4 : Int32))] [(.ref o0)])) (fun _ kgo => XS.aloadN X67.here hx rfl (hb hby d3_149) rfl rfl kgo) ?_
    refine own_go (g' := (mkF m 151 #[.val (.ref o0), .val (.long q1), .second, .val (.int (15 : Int32)), .val (.int p3), .val (.int p4), .val (.long q5), .second, .val (.int (4 : Int32))] [(.long q1), (.ref o0)])) (fun _ kgo => XS.lloadN X67.here hx rfl (hb hby d3_150) rfl kgo) ?_
    obtain ⟨T68, h68, X68, e68, W68, st68⟩ := putF X67 hx hZ hown (host := "") (Or.inl (hw _ (List.mem_of_getElem? (i := 32) rfl))) Via.refl e67 P1 P0 (Or.inr ⟨(hw _ (List.mem_of_getElem? (i := 33) rfl)), rfl, hnm⟩) (hw _ (List.mem_of_getElem? (i := 6) rfl)) (ty := .long) (by decide) rfl rfl (g := (mkF m 151 #[.val (.ref o0), .val (.long q1), .second, .val (.int (15 : Int32)), .val (.int p3), .val (.int p4), .val (.long q5), .second, .val (.int (4 : Int32))] [(.long q1), (.ref o0)])) rfl rfl (hb hby d3_151)
    have w68 := Fld.same W68 P1
    have N68 := Fr.snoc X68 N67 g_o0
    have Z68 : n0 ≤ h68.size := by rw [W68.size]; exact Z0
    have K68 : Keep h0 h68 [o0] := K0.wr W68 (Or.inl (List.mem_of_getElem? (i := 0) rfl))
    refine own_go (g' := (mkF m 154 #[.val (.ref o0), .val (.long q1), .second, .val (.int (15 : Int32)), .val (.int p3), .val (.int p4), .val (.long q5), .second, .val (.int (4 : Int32))] [])) (st68) ?_
    refine own_go (g' := (mkF m 155 #[.val (.ref o0), .val (.long q1), .second, .val (.int (15 : Int32)), .val (.int p3), .val (.int p4), .val (.long q5), .second, .val (.int (4 : Int32))] [(.ref o0)])) (fun _ kgo => XS.aloadN X68.here hx rfl (hb hby d3_154) rfl rfl kgo) ?_
    refine own_go (g' := (mkF m 156 #[.val (.ref o0), .val (.long q1), .second, .val (.int (15 : Int32)), .val (.int p3), .val (.int p4), .val (.long q5), .second, .val (.int (4 : Int32))] [(.int (15 : Int32)), (.ref o0)])) (fun _ kgo => XS.iloadN X68.here hx rfl (hb hby d3_155) rfl kgo) ?_
    have fx69 : Fld Z h68 o0 "com/example/seenset/seenset/filter/StableParameters" "max" "I" (.int (0 : Int32)) := (Fld.other W68 P2 (Or.inr (slot_ne (Or.inr (hw _ (List.mem_of_getElem? (i := 35) rfl))) (Or.inr (hw _ (List.mem_of_getElem? (i := 33) rfl))) (by decide) (t := .int) (t' := .long) (by decide) (by decide))))
    have fx70 : Exa Z h68 o0 "com/example/seenset/seenset/filter/StableParameters" := (Exa.wr W68 P0)
    obtain ⟨T71, h71, X71, e71, W71, st71⟩ := putF X68 hx hZ hown (host := "") (Or.inl (hw _ (List.mem_of_getElem? (i := 34) rfl))) Via.refl e68 fx69 fx70 (Or.inr ⟨(hw _ (List.mem_of_getElem? (i := 35) rfl)), rfl, hnm⟩) (hw _ (List.mem_of_getElem? (i := 6) rfl)) (ty := .int) (by decide) rfl rfl (g := (mkF m 156 #[.val (.ref o0), .val (.long q1), .second, .val (.int (15 : Int32)), .val (.int p3), .val (.int p4), .val (.long q5), .second, .val (.int (4 : Int32))] [(.int (15 : Int32)), (.ref o0)])) rfl rfl (hb hby d3_156)
    have w71 := Fld.same W71 fx69
    have N71 := Fr.snoc X71 N68 g_o0
    have Z71 : n0 ≤ h71.size := by rw [W71.size]; exact Z68
    have K71 : Keep h0 h71 [o0] := K68.wr W71 (Or.inl (List.mem_of_getElem? (i := 0) rfl))
    refine own_go (g' := (mkF m 159 #[.val (.ref o0), .val (.long q1), .second, .val (.int (15 : Int32)), .val (.int p3), .val (.int p4), .val (.long q5), .second, .val (.int (4 : Int32))] [])) (st71) ?_
    refine own_go (g' := (mkF m 160 #[.val (.ref o0), .val (.long q1), .second, .val (.int (15 : Int32)), .val (.int p3), .val (.int p4), .val (.long q5), .second, .val (.int (4 : Int32))] [(.ref o0)])) (fun _ kgo => XS.aloadN X71.here hx rfl (hb hby d3_159) rfl rfl kgo) ?_
    refine own_go (g' := (mkF m 162 #[.val (.ref o0), .val (.long q1), .second, .val (.int (15 : Int32)), .val (.int p3), .val (.int p4), .val (.long q5), .second, .val (.int (4 : Int32))] [(.int p3), (.ref o0)])) (fun _ kgo => XS.iload X71.here hx rfl (hb hby d3_160) rfl kgo) ?_
    have fx72 : Fld Z h71 o0 "com/example/seenset/seenset/filter/StableParameters" "hashes" "I" (.int (0 : Int32)) := (Fld.other W71 (Fld.other W68 P3 (Or.inr (slot_ne (Or.inr (hw _ (List.mem_of_getElem? (i := 37) rfl))) (Or.inr (hw _ (List.mem_of_getElem? (i := 33) rfl))) (by decide) (t := .int) (t' := .long) (by decide) (by decide)))) (Or.inr (slot_ne (Or.inr (hw _ (List.mem_of_getElem? (i := 37) rfl))) (Or.inr (hw _ (List.mem_of_getElem? (i := 35) rfl))) (by decide) (t := .int) (t' := .int) (by decide) (by decide))))
    have fx73 : Exa Z h71 o0 "com/example/seenset/seenset/filter/StableParameters" := (Exa.wr W71 fx70)
    obtain ⟨T74, h74, X74, e74, W74, st74⟩ := putF X71 hx hZ hown (host := "") (Or.inl (hw _ (List.mem_of_getElem? (i := 36) rfl))) Via.refl e71 fx72 fx73 (Or.inr ⟨(hw _ (List.mem_of_getElem? (i := 37) rfl)), rfl, hnm⟩) (hw _ (List.mem_of_getElem? (i := 6) rfl)) (ty := .int) (by decide) rfl rfl (g := (mkF m 162 #[.val (.ref o0), .val (.long q1), .second, .val (.int (15 : Int32)), .val (.int p3), .val (.int p4), .val (.long q5), .second, .val (.int (4 : Int32))] [(.int p3), (.ref o0)])) rfl rfl (hb hby d3_162)
    have w74 := Fld.same W74 fx72
    have N74 := Fr.snoc X74 N71 g_o0
    have Z74 : n0 ≤ h74.size := by rw [W74.size]; exact Z71
    have K74 : Keep h0 h74 [o0] := K71.wr W74 (Or.inl (List.mem_of_getElem? (i := 0) rfl))
    refine own_go (g' := (mkF m 165 #[.val (.ref o0), .val (.long q1), .second, .val (.int (15 : Int32)), .val (.int p3), .val (.int p4), .val (.long q5), .second, .val (.int (4 : Int32))] [])) (st74) ?_
    refine own_go (g' := (mkF m 166 #[.val (.ref o0), .val (.long q1), .second, .val (.int (15 : Int32)), .val (.int p3), .val (.int p4), .val (.long q5), .second, .val (.int (4 : Int32))] [(.ref o0)])) (fun _ kgo => XS.aloadN X74.here hx rfl (hb hby d3_165) rfl rfl kgo) ?_
    refine own_go (g' := (mkF m 168 #[.val (.ref o0), .val (.long q1), .second, .val (.int (15 : Int32)), .val (.int p3), .val (.int p4), .val (.long q5), .second, .val (.int (4 : Int32))] [(.int p4), (.ref o0)])) (fun _ kgo => XS.iload X74.here hx rfl (hb hby d3_166) rfl kgo) ?_
    have fx75 : Fld Z h74 o0 "com/example/seenset/seenset/filter/StableParameters" "decrement" "I" (.int (0 : Int32)) := (Fld.other W74 (Fld.other W71 (Fld.other W68 P4 (Or.inr (slot_ne (Or.inr (hw _ (List.mem_of_getElem? (i := 39) rfl))) (Or.inr (hw _ (List.mem_of_getElem? (i := 33) rfl))) (by decide) (t := .int) (t' := .long) (by decide) (by decide)))) (Or.inr (slot_ne (Or.inr (hw _ (List.mem_of_getElem? (i := 39) rfl))) (Or.inr (hw _ (List.mem_of_getElem? (i := 35) rfl))) (by decide) (t := .int) (t' := .int) (by decide) (by decide)))) (Or.inr (slot_ne (Or.inr (hw _ (List.mem_of_getElem? (i := 39) rfl))) (Or.inr (hw _ (List.mem_of_getElem? (i := 37) rfl))) (by decide) (t := .int) (t' := .int) (by decide) (by decide))))
    have fx76 : Exa Z h74 o0 "com/example/seenset/seenset/filter/StableParameters" := (Exa.wr W74 fx73)
    obtain ⟨T77, h77, X77, e77, W77, st77⟩ := putF X74 hx hZ hown (host := "") (Or.inl (hw _ (List.mem_of_getElem? (i := 38) rfl))) Via.refl e74 fx75 fx76 (Or.inr ⟨(hw _ (List.mem_of_getElem? (i := 39) rfl)), rfl, hnm⟩) (hw _ (List.mem_of_getElem? (i := 6) rfl)) (ty := .int) (by decide) rfl rfl (g := (mkF m 168 #[.val (.ref o0), .val (.long q1), .second, .val (.int (15 : Int32)), .val (.int p3), .val (.int p4), .val (.long q5), .second, .val (.int (4 : Int32))] [(.int p4), (.ref o0)])) rfl rfl (hb hby d3_168)
    have w77 := Fld.same W77 fx75
    have N77 := Fr.snoc X77 N74 g_o0
    have Z77 : n0 ≤ h77.size := by rw [W77.size]; exact Z74
    have K77 : Keep h0 h77 [o0] := K74.wr W77 (Or.inl (List.mem_of_getElem? (i := 0) rfl))
    refine own_go (g' := (mkF m 171 #[.val (.ref o0), .val (.long q1), .second, .val (.int (15 : Int32)), .val (.int p3), .val (.int p4), .val (.long q5), .second, .val (.int (4 : Int32))] [])) (st77) ?_
    refine own_go (g' := (mkF m 172 #[.val (.ref o0), .val (.long q1), .second, .val (.int (15 : Int32)), .val (.int p3), .val (.int p4), .val (.long q5), .second, .val (.int (4 : Int32))] [(.ref o0)])) (fun _ kgo => XS.aloadN X77.here hx rfl (hb hby d3_171) rfl rfl kgo) ?_
    refine own_go (g' := (mkF m 174 #[.val (.ref o0), .val (.long q1), .second, .val (.int (15 : Int32)), .val (.int p3), .val (.int p4), .val (.long q5), .second, .val (.int (4 : Int32))] [(.long q5), (.ref o0)])) (fun _ kgo => XS.lload X77.here hx rfl (hb hby d3_172) rfl kgo) ?_
    have fx78 : Fld Z h77 o0 "com/example/seenset/seenset/filter/StableParameters" "seed" "J" (.long (0 : Int64)) := (Fld.other W77 (Fld.other W74 (Fld.other W71 (Fld.other W68 P5 (Or.inr (slot_ne (Or.inr (hw _ (List.mem_of_getElem? (i := 41) rfl))) (Or.inr (hw _ (List.mem_of_getElem? (i := 33) rfl))) (by decide) (t := .long) (t' := .long) (by decide) (by decide)))) (Or.inr (slot_ne (Or.inr (hw _ (List.mem_of_getElem? (i := 41) rfl))) (Or.inr (hw _ (List.mem_of_getElem? (i := 35) rfl))) (by decide) (t := .long) (t' := .int) (by decide) (by decide)))) (Or.inr (slot_ne (Or.inr (hw _ (List.mem_of_getElem? (i := 41) rfl))) (Or.inr (hw _ (List.mem_of_getElem? (i := 37) rfl))) (by decide) (t := .long) (t' := .int) (by decide) (by decide)))) (Or.inr (slot_ne (Or.inr (hw _ (List.mem_of_getElem? (i := 41) rfl))) (Or.inr (hw _ (List.mem_of_getElem? (i := 39) rfl))) (by decide) (t := .long) (t' := .int) (by decide) (by decide))))
    have fx79 : Exa Z h77 o0 "com/example/seenset/seenset/filter/StableParameters" := (Exa.wr W77 fx76)
    obtain ⟨T80, h80, X80, e80, W80, st80⟩ := putF X77 hx hZ hown (host := "") (Or.inl (hw _ (List.mem_of_getElem? (i := 40) rfl))) Via.refl e77 fx78 fx79 (Or.inr ⟨(hw _ (List.mem_of_getElem? (i := 41) rfl)), rfl, hnm⟩) (hw _ (List.mem_of_getElem? (i := 6) rfl)) (ty := .long) (by decide) rfl rfl (g := (mkF m 174 #[.val (.ref o0), .val (.long q1), .second, .val (.int (15 : Int32)), .val (.int p3), .val (.int p4), .val (.long q5), .second, .val (.int (4 : Int32))] [(.long q5), (.ref o0)])) rfl rfl (hb hby d3_174)
    have w80 := Fld.same W80 fx78
    have N80 := Fr.snoc X80 N77 g_o0
    have Z80 : n0 ≤ h80.size := by rw [W80.size]; exact Z77
    have K80 : Keep h0 h80 [o0] := K77.wr W80 (Or.inl (List.mem_of_getElem? (i := 0) rfl))
    refine own_go (g' := (mkF m 177 #[.val (.ref o0), .val (.long q1), .second, .val (.int (15 : Int32)), .val (.int p3), .val (.int p4), .val (.long q5), .second, .val (.int (4 : Int32))] [])) (st80) ?_
    refine own_retV X80 hx Bd.returns Bd.notSynchronized (hb hby d3_177) (by decide) (by decide) ?_
    show QQ _ T80.heap _
    rw [e80]
    have fx81 : Exa Z h80 o0 "com/example/seenset/seenset/filter/StableParameters" := (Exa.wr W80 fx79)
    have fx82 : Fld Z h80 o0 "com/example/seenset/seenset/filter/StableParameters" "cells" "J" (.long q1) := (Fld.other W80 (Fld.other W77 (Fld.other W74 (Fld.other W71 w68 (Or.inr (slot_ne (Or.inr (hw _ (List.mem_of_getElem? (i := 33) rfl))) (Or.inr (hw _ (List.mem_of_getElem? (i := 35) rfl))) (by decide) (t := .long) (t' := .int) (by decide) (by decide)))) (Or.inr (slot_ne (Or.inr (hw _ (List.mem_of_getElem? (i := 33) rfl))) (Or.inr (hw _ (List.mem_of_getElem? (i := 37) rfl))) (by decide) (t := .long) (t' := .int) (by decide) (by decide)))) (Or.inr (slot_ne (Or.inr (hw _ (List.mem_of_getElem? (i := 33) rfl))) (Or.inr (hw _ (List.mem_of_getElem? (i := 39) rfl))) (by decide) (t := .long) (t' := .int) (by decide) (by decide)))) (Or.inr (slot_ne (Or.inr (hw _ (List.mem_of_getElem? (i := 33) rfl))) (Or.inr (hw _ (List.mem_of_getElem? (i := 41) rfl))) (by decide) (t := .long) (t' := .long) (by decide) (by decide))))
    have fx83 : Fld Z h80 o0 "com/example/seenset/seenset/filter/StableParameters" "max" "I" (.int (15 : Int32)) := (Fld.other W80 (Fld.other W77 (Fld.other W74 w71 (Or.inr (slot_ne (Or.inr (hw _ (List.mem_of_getElem? (i := 35) rfl))) (Or.inr (hw _ (List.mem_of_getElem? (i := 37) rfl))) (by decide) (t := .int) (t' := .int) (by decide) (by decide)))) (Or.inr (slot_ne (Or.inr (hw _ (List.mem_of_getElem? (i := 35) rfl))) (Or.inr (hw _ (List.mem_of_getElem? (i := 39) rfl))) (by decide) (t := .int) (t' := .int) (by decide) (by decide)))) (Or.inr (slot_ne (Or.inr (hw _ (List.mem_of_getElem? (i := 35) rfl))) (Or.inr (hw _ (List.mem_of_getElem? (i := 41) rfl))) (by decide) (t := .int) (t' := .long) (by decide) (by decide))))
    have fx84 : Fld Z h80 o0 "com/example/seenset/seenset/filter/StableParameters" "hashes" "I" (.int p3) := (Fld.other W80 (Fld.other W77 w74 (Or.inr (slot_ne (Or.inr (hw _ (List.mem_of_getElem? (i := 37) rfl))) (Or.inr (hw _ (List.mem_of_getElem? (i := 39) rfl))) (by decide) (t := .int) (t' := .int) (by decide) (by decide)))) (Or.inr (slot_ne (Or.inr (hw _ (List.mem_of_getElem? (i := 37) rfl))) (Or.inr (hw _ (List.mem_of_getElem? (i := 41) rfl))) (by decide) (t := .int) (t' := .long) (by decide) (by decide))))
    have fx85 : Fld Z h80 o0 "com/example/seenset/seenset/filter/StableParameters" "decrement" "I" (.int p4) := (Fld.other W80 w77 (Or.inr (slot_ne (Or.inr (hw _ (List.mem_of_getElem? (i := 39) rfl))) (Or.inr (hw _ (List.mem_of_getElem? (i := 41) rfl))) (by decide) (t := .int) (t' := .long) (by decide) (by decide))))
    rw [← hQQ]
    exact ⟨rfl, N80, K80, fx81, fx82, fx83, fx84, fx85, w80⟩
theorem d2_0 : decode prog_32_method_1_code 0 = .ok (.aload_n 0, 1) := by decide +kernel
theorem d2_1 : decode prog_32_method_1_code 1 = .ok (.lload_n 1, 1) := by decide +kernel
theorem d2_2 : decode prog_32_method_1_code 2 = .ok (.iload_n 3, 1) := by decide +kernel
theorem d2_3 : decode prog_32_method_1_code 3 = .ok (.iload 4, 2) := by decide +kernel
theorem d2_5 : decode prog_32_method_1_code 5 = .ok (.iload 5, 2) := by decide +kernel
theorem d2_7 : decode prog_32_method_1_code 7 = .ok (.lconst 0, 1) := by decide +kernel
theorem d2_8 : decode prog_32_method_1_code 8 = .ok (.invokespecial 3, 3) := by decide +kernel
theorem d2_11 : decode prog_32_method_1_code 11 = .ok (.return_, 1) := by decide +kernel
theorem pn_ct4 : plainName "com/example/seenset/seenset/filter/StableParameters" = true := by first | (simp [plainName, overriddenIn]; done) | decide +kernel
theorem pd2_0 : parseMethodDescriptor "(JIIIJ)V" = some ⟨[.long, .int, .int, .int, .long], none⟩ := by decide +kernel
theorem ef_ct4 (m : MethodId) (o0 : Addr) (q1 : Int64) (p2 : Int32) (p3 : Int32) (p4 : Int32) : entryFrame m #[(.ref o0), (.long q1), (.int p2), (.int p3), (.int p4)] 6 = mkF m 0 #[.val (.ref o0), .val (.long q1), .second, .val (.int p2), .val (.int p3), .val (.int p4)] [] := by first | (simp [entryFrame, mkF, argsToLocals, Value.category]; done) | rfl
set_option maxRecDepth 65536 in
set_option maxHeartbeats 40000000 in
theorem ct4 (l : Launch) (Z : State) (a0 : Array Value) (hw : ∀ d ∈ tables_1, d.before a0 Z = true) (o0 : Addr) (q1 : Int64) (p2 : Int32) (p3 : Int32) (p4 : Int32)  (h0 : Heap) (n0 : Nat) (Z0 : n0 ≤ h0.size) (g_o0 : n0 ≤ o0) (P0 : Exa Z h0 o0 "com/example/seenset/seenset/filter/StableParameters") (P1 : Fld Z h0 o0 "com/example/seenset/seenset/filter/StableParameters" "cells" "J" (.long (0 : Int64))) (P2 : Fld Z h0 o0 "com/example/seenset/seenset/filter/StableParameters" "max" "I" (.int (0 : Int32))) (P3 : Fld Z h0 o0 "com/example/seenset/seenset/filter/StableParameters" "hashes" "I" (.int (0 : Int32))) (P4 : Fld Z h0 o0 "com/example/seenset/seenset/filter/StableParameters" "decrement" "I" (.int (0 : Int32))) (P5 : Fld Z h0 o0 "com/example/seenset/seenset/filter/StableParameters" "seed" "J" (.long (0 : Int64))) (hcl : 1 ≤ q1.toInt ∧ q1.toInt ≤ 17179869184) (hmx : p2 = 1 ∨ p2 = 3 ∨ p2 = 7 ∨ p2 = 15) (hhs : 1 ≤ p3.toInt ∧ p3.toInt ≤ 64 ∧ p3.toInt ≤ q1.toInt) (hde : 0 ≤ p4.toInt ∧ p4.toInt ≤ 1073741823 ∧ p4.toInt ≤ q1.toInt) :
    own_Met l Z (⟨"com/example/seenset/seenset/filter/StableParameters", "<init>", "(JIII)V"⟩ : MethodName) prog_32_method_1_code 6 none [] ({ frames := 3, cells := 0, slots := 0, locals := 46 } : Room) #[(.ref o0), (.long q1), (.int p2), (.int p3), (.int p4)] h0 0 0 (fun v h L => v = none ∧ Fr n0 L ∧ Keep h0 h [o0] ∧ Exa Z h o0 "com/example/seenset/seenset/filter/StableParameters" ∧ Fld Z h o0 "com/example/seenset/seenset/filter/StableParameters" "cells" "J" (.long q1) ∧ Fld Z h o0 "com/example/seenset/seenset/filter/StableParameters" "max" "I" (.int p2) ∧ Fld Z h o0 "com/example/seenset/seenset/filter/StableParameters" "hashes" "I" (.int p3) ∧ Fld Z h o0 "com/example/seenset/seenset/filter/StableParameters" "decrement" "I" (.int p4) ∧ Fld Z h o0 "com/example/seenset/seenset/filter/StableParameters" "seed" "J" (.long (0 : Int64))) := by
  refine own_met (plainFor_of_name pn_ct4) ?_
  intro p e s m below meth c s₁ Bd hml0 hZ X0 e0
  have hx := Bd.exec
  have hby := Bd.bytes
  have hml : c.maxLocals = 6 := hml0
  have hown : s.vm.findClass "com/example/seenset/seenset/filter/StableParameters" = some m.cls := findClass_of_methodNamed Bd.named
  have hnm := (name_of_methodNamed Bd.named Bd.method).1
  refine own_cast (ef_ct4 m o0 q1 p2 p3 p4) ?_
  generalize hQQ : (fun (v : Option Value) (h : Heap) (L : List Loc) => v = none ∧ Fr n0 L ∧ Keep h0 h [o0] ∧ Exa Z h o0 "com/example/seenset/seenset/filter/StableParameters" ∧ Fld Z h o0 "com/example/seenset/seenset/filter/StableParameters" "cells" "J" (.long q1) ∧ Fld Z h o0 "com/example/seenset/seenset/filter/StableParameters" "max" "I" (.int p2) ∧ Fld Z h o0 "com/example/seenset/seenset/filter/StableParameters" "hashes" "I" (.int p3) ∧ Fld Z h o0 "com/example/seenset/seenset/filter/StableParameters" "decrement" "I" (.int p4) ∧ Fld Z h o0 "com/example/seenset/seenset/filter/StableParameters" "seed" "J" (.long (0 : Int64))) = QQ
  have N0 := Fr.nil n0
  have K0 := Keep.refl h0 [o0]
  refine own_go (g' := (mkF m 1 #[.val (.ref o0), .val (.long q1), .second, .val (.int p2), .val (.int p3), .val (.int p4)] [(.ref o0)])) (fun _ kgo => XS.aloadN X0.here hx rfl (hb hby d2_0) rfl rfl kgo) ?_
  refine own_go (g' := (mkF m 2 #[.val (.ref o0), .val (.long q1), .second, .val (.int p2), .val (.int p3), .val (.int p4)] [(.long q1), (.ref o0)])) (fun _ kgo => XS.lloadN X0.here hx rfl (hb hby d2_1) rfl kgo) ?_
  refine own_go (g' := (mkF m 3 #[.val (.ref o0), .val (.long q1), .second, .val (.int p2), .val (.int p3), .val (.int p4)] [(.int p2), (.long q1), (.ref o0)])) (fun _ kgo => XS.iloadN X0.here hx rfl (hb hby d2_2) rfl kgo) ?_
  refine own_go (g' := (mkF m 5 #[.val (.ref o0), .val (.long q1), .second, .val (.int p2), .val (.int p3), .val (.int p4)] [(.int p3), (.int p2), (.long q1), (.ref o0)])) (fun _ kgo => XS.iload X0.here hx rfl (hb hby d2_3) rfl kgo) ?_
  refine own_go (g' := (mkF m 7 #[.val (.ref o0), .val (.long q1), .second, .val (.int p2), .val (.int p3), .val (.int p4)] [(.int p4), (.int p3), (.int p2), (.long q1), (.ref o0)])) (fun _ kgo => XS.iload X0.here hx rfl (hb hby d2_5) rfl kgo) ?_
  refine own_go (g' := (mkF m 8 #[.val (.ref o0), .val (.long q1), .second, .val (.int p2), .val (.int p3), .val (.int p4)] [(.long (0 : Int64)), (.int p4), (.int p3), (.int p2), (.long q1), (.ref o0)])) (fun _ kgo => XS.lconst X0.here hx rfl (hb hby d2_7) kgo) ?_
  obtain ⟨v1, T1, L1, hQ1, X1, st1⟩ := own_callI X0 hx hZ (y := (⟨"com/example/seenset/seenset/filter/StableParameters", "<init>", "(JIIIJ)V"⟩ : MethodName)) rfl hown (hw _ (List.mem_of_getElem? (i := 11) rfl)) (hw _ (List.mem_of_getElem? (i := 12) rfl)) (hw _ (List.mem_of_getElem? (i := 7) rfl)) (hw _ (List.mem_of_getElem? (i := 13) rfl)) ⟨by decide, by decide⟩ (a := o0) (argsL := [(.long q1), (.int p2), (.int p3), (.int p4), (.long (0 : Int64))]) (ct5 l Z a0 hw o0 q1 p2 p3 p4 (0 : Int64) h0 n0 Z0 g_o0 P0 P1 P2 P3 P4 P5 hcl hmx hhs hde) e0 (g := (mkF m 8 #[.val (.ref o0), .val (.long q1), .second, .val (.int p2), .val (.int p3), .val (.int p4)] [(.long (0 : Int64)), (.int p4), (.int p3), (.int p2), (.long q1), (.ref o0)])) rfl (by rw [hml]; rfl) (rest := []) (lenOf pd2_0 rfl) rfl (hb hby d2_8) (W := 0) (by show 2 * 0 + _ ≤ _; exact Nat.le_of_eq rfl) (by decide) (by decide) (by decide) (by decide)
  obtain ⟨rfl, Nq1, Kq1, q1_0, q1_1, q1_2, q1_3, q1_4, q1_5⟩ := hQ1
  have N1 := Fr.app N0 Nq1
  have Z1 : n0 ≤ T1.heap.size := Nat.le_trans Z0 Kq1.1
  have KK1 : Keep h0 T1.heap [o0] := K0.trans Kq1 (allS (Or.inl (List.mem_of_getElem? (i := 0) rfl)) all0)
  refine own_go (g' := (mkF m 11 #[.val (.ref o0), .val (.long q1), .second, .val (.int p2), .val (.int p3), .val (.int p4)] [])) (st1) ?_
  refine own_retV X1 hx Bd.returns Bd.notSynchronized (hb hby d2_11) (by decide) (by decide) ?_
  show QQ _ T1.heap _
  rw [← hQQ]
  exact ⟨rfl, N1, KK1, q1_0, q1_1, q1_2, q1_3, q1_4, q1_5⟩
theorem d8_0 : decode prog_32_method_10_code 0 = .ok (.new 4, 3) := by decide +kernel
theorem d8_3 : decode prog_32_method_10_code 3 = .ok (.dup, 1) := by decide +kernel
theorem d8_4 : decode prog_32_method_10_code 4 = .ok (.aload_n 0, 1) := by decide +kernel
theorem d8_5 : decode prog_32_method_10_code 5 = .ok (.getfield 48, 3) := by decide +kernel
theorem d8_8 : decode prog_32_method_10_code 8 = .ok (.aload_n 0, 1) := by decide +kernel
theorem d8_9 : decode prog_32_method_10_code 9 = .ok (.getfield 52, 3) := by decide +kernel
theorem d8_12 : decode prog_32_method_10_code 12 = .ok (.aload_n 0, 1) := by decide +kernel
theorem d8_13 : decode prog_32_method_10_code 13 = .ok (.getfield 56, 3) := by decide +kernel
theorem d8_16 : decode prog_32_method_10_code 16 = .ok (.aload_n 0, 1) := by decide +kernel
theorem d8_17 : decode prog_32_method_10_code 17 = .ok (.getfield 59, 3) := by decide +kernel
theorem d8_20 : decode prog_32_method_10_code 20 = .ok (.lload_n 1, 1) := by decide +kernel
theorem d8_21 : decode prog_32_method_10_code 21 = .ok (.invokespecial 3, 3) := by decide +kernel
theorem d8_24 : decode prog_32_method_10_code 24 = .ok (.areturn, 1) := by decide +kernel
theorem pn_rm8 : plainName "com/example/seenset/seenset/filter/StableParameters" = true := by first | (simp [plainName, overriddenIn]; done) | decide +kernel
theorem pd8_0 : parseMethodDescriptor "(JIIIJ)V" = some ⟨[.long, .int, .int, .int, .long], none⟩ := by decide +kernel
theorem ef_rm8 (m : MethodId) (o0 : Addr) (q1 : Int64) : entryFrame m #[(.ref o0), (.long q1)] 3 = mkF m 0 #[.val (.ref o0), .val (.long q1), .second] [] := by first | (simp [entryFrame, mkF, argsToLocals, Value.category]; done) | rfl
set_option maxRecDepth 65536 in
set_option maxHeartbeats 40000000 in
theorem rm8 (l : Launch) (Z : State) (a0 : Array Value) (hw : ∀ d ∈ tables_1, d.before a0 Z = true) (o0 : Addr) (q1 : Int64) (f0 : Int64) (f1 : Int32) (f2 : Int32) (f3 : Int32) (f4 : Int64) (h0 : Heap) (n0 : Nat) (Z0 : n0 ≤ h0.size) (P0 : Fld Z h0 o0 "com/example/seenset/seenset/filter/StableParameters" "cells" "J" (.long f0)) (P1 : Fld Z h0 o0 "com/example/seenset/seenset/filter/StableParameters" "max" "I" (.int f1)) (P2 : Fld Z h0 o0 "com/example/seenset/seenset/filter/StableParameters" "hashes" "I" (.int f2)) (P3 : Fld Z h0 o0 "com/example/seenset/seenset/filter/StableParameters" "decrement" "I" (.int f3)) (P4 : Fld Z h0 o0 "com/example/seenset/seenset/filter/StableParameters" "seed" "J" (.long f4)) (hcl : 1 ≤ f0.toInt ∧ f0.toInt ≤ 17179869184) (hmx : f1 = 1 ∨ f1 = 3 ∨ f1 = 7 ∨ f1 = 15) (hhs : 1 ≤ f2.toInt ∧ f2.toInt ≤ 64 ∧ f2.toInt ≤ f0.toInt) (hde : 0 ≤ f3.toInt ∧ f3.toInt ≤ 1073741823 ∧ f3.toInt ≤ f0.toInt) :
    own_Met l Z (⟨"com/example/seenset/seenset/filter/StableParameters", "withSeed", "(J)Lcom/example/seenset/seenset/filter/StableParameters;"⟩ : MethodName) prog_32_method_10_code 3 (some (.object "com/example/seenset/seenset/filter/StableParameters")) [] ({ frames := 3, cells := 1, slots := 5, locals := 47 } : Room) #[(.ref o0), (.long q1)] h0 1 5 (fun v h L => ∃ (r : Addr), v = some (.ref r) ∧ Fr n0 L ∧ Keep h0 h [] ∧ h0.size ≤ r ∧ Exa Z h r "com/example/seenset/seenset/filter/StableParameters" ∧ Fld Z h r "com/example/seenset/seenset/filter/StableParameters" "cells" "J" (.long f0) ∧ Fld Z h r "com/example/seenset/seenset/filter/StableParameters" "max" "I" (.int f1) ∧ Fld Z h r "com/example/seenset/seenset/filter/StableParameters" "hashes" "I" (.int f2) ∧ Fld Z h r "com/example/seenset/seenset/filter/StableParameters" "decrement" "I" (.int f3) ∧ Fld Z h r "com/example/seenset/seenset/filter/StableParameters" "seed" "J" (.long q1)) := by
  refine own_met (plainFor_of_name pn_rm8) ?_
  intro p e s m below meth c s₁ Bd hml0 hZ X0 e0
  have hx := Bd.exec
  have hby := Bd.bytes
  have hml : c.maxLocals = 3 := hml0
  have hown : s.vm.findClass "com/example/seenset/seenset/filter/StableParameters" = some m.cls := findClass_of_methodNamed Bd.named
  have hnm := (name_of_methodNamed Bd.named Bd.method).1
  refine own_cast (ef_rm8 m o0 q1) ?_
  generalize hQQ : (fun (v : Option Value) (h : Heap) (L : List Loc) => ∃ (r : Addr), v = some (.ref r) ∧ Fr n0 L ∧ Keep h0 h [] ∧ h0.size ≤ r ∧ Exa Z h r "com/example/seenset/seenset/filter/StableParameters" ∧ Fld Z h r "com/example/seenset/seenset/filter/StableParameters" "cells" "J" (.long f0) ∧ Fld Z h r "com/example/seenset/seenset/filter/StableParameters" "max" "I" (.int f1) ∧ Fld Z h r "com/example/seenset/seenset/filter/StableParameters" "hashes" "I" (.int f2) ∧ Fld Z h r "com/example/seenset/seenset/filter/StableParameters" "decrement" "I" (.int f3) ∧ Fld Z h r "com/example/seenset/seenset/filter/StableParameters" "seed" "J" (.long q1)) = QQ
  have N0 := Fr.nil n0
  have K0 := Keep.refl h0 []
  obtain ⟨T1, h1, X1, e1, E1, A1, D1, -, st1⟩ := newO X0 hx hZ hown (hw _ (List.mem_of_getElem? (i := 47) rfl)) (hw _ (List.mem_of_getElem? (i := 6) rfl)) (hw _ (List.mem_of_getElem? (i := 7) rfl)) e0 (g := (mkF m 0 #[.val (.ref o0), .val (.long q1), .second] [])) rfl (hb hby d8_0) (by decide) (by decide)
  obtain ⟨b1, ad1⟩ : ∃ z, z = h0.size := ⟨_, rfl⟩
  rw [← ad1] at A1 D1 st1
  have ne_o0_b1 : o0 ≠ b1 := Nat.ne_of_lt (by rw [ad1]; exact P0.lt)
  have ge_b1 : n0 ≤ b1 := by rw [ad1]; exact Z0
  have sz_b1 : h0.size ≤ b1 := by rw [ad1]; exact K0.1
  have Z1 : n0 ≤ h1.size := Nat.le_trans Z0 E1.1
  have K1 : Keep h0 h1 [] := K0.ext E1
  have F1_cells : Fld Z h1 b1 "com/example/seenset/seenset/filter/StableParameters" "cells" "J" (.long (0 : Int64)) := D1 (Or.inr (hw _ (List.mem_of_getElem? (i := 33) rfl))) (ty := .long) (by decide)
  have F1_max : Fld Z h1 b1 "com/example/seenset/seenset/filter/StableParameters" "max" "I" (.int (0 : Int32)) := D1 (Or.inr (hw _ (List.mem_of_getElem? (i := 35) rfl))) (ty := .int) (by decide)
  have F1_hashes : Fld Z h1 b1 "com/example/seenset/seenset/filter/StableParameters" "hashes" "I" (.int (0 : Int32)) := D1 (Or.inr (hw _ (List.mem_of_getElem? (i := 37) rfl))) (ty := .int) (by decide)
  have F1_decrement : Fld Z h1 b1 "com/example/seenset/seenset/filter/StableParameters" "decrement" "I" (.int (0 : Int32)) := D1 (Or.inr (hw _ (List.mem_of_getElem? (i := 39) rfl))) (ty := .int) (by decide)
  have F1_seed : Fld Z h1 b1 "com/example/seenset/seenset/filter/StableParameters" "seed" "J" (.long (0 : Int64)) := D1 (Or.inr (hw _ (List.mem_of_getElem? (i := 41) rfl))) (ty := .long) (by decide)
  refine own_go (g' := (mkF m 3 #[.val (.ref o0), .val (.long q1), .second] [(.ref b1)])) (st1) ?_
  refine own_go (g' := (mkF m 4 #[.val (.ref o0), .val (.long q1), .second] [(.ref b1), (.ref b1)])) (fun _ kgo => XS.dup X1.here hx rfl (hb hby d8_3) rfl rfl kgo) ?_
  refine own_go (g' := (mkF m 5 #[.val (.ref o0), .val (.long q1), .second] [(.ref o0), (.ref b1), (.ref b1)])) (fun _ kgo => XS.aloadN X1.here hx rfl (hb hby d8_4) rfl rfl kgo) ?_
  have fx2 : Fld Z h1 o0 "com/example/seenset/seenset/filter/StableParameters" "cells" "J" (.long f0) := (Fld.ext E1 P0)
  obtain ⟨T3, X3, e3, st3⟩ := getF X1 hx hZ hown (host := "") (Or.inl (hw _ (List.mem_of_getElem? (i := 32) rfl))) Via.refl e1 fx2 (g := (mkF m 5 #[.val (.ref o0), .val (.long q1), .second] [(.ref o0), (.ref b1), (.ref b1)])) rfl rfl (hb hby d8_5)
  refine own_go (g' := (mkF m 8 #[.val (.ref o0), .val (.long q1), .second] [(.long f0), (.ref b1), (.ref b1)])) (st3) ?_
  refine own_go (g' := (mkF m 9 #[.val (.ref o0), .val (.long q1), .second] [(.ref o0), (.long f0), (.ref b1), (.ref b1)])) (fun _ kgo => XS.aloadN X3.here hx rfl (hb hby d8_8) rfl rfl kgo) ?_
  have fx4 : Fld Z h1 o0 "com/example/seenset/seenset/filter/StableParameters" "max" "I" (.int f1) := (Fld.ext E1 P1)
  obtain ⟨T5, X5, e5, st5⟩ := getF X3 hx hZ hown (host := "") (Or.inl (hw _ (List.mem_of_getElem? (i := 34) rfl))) Via.refl e3 fx4 (g := (mkF m 9 #[.val (.ref o0), .val (.long q1), .second] [(.ref o0), (.long f0), (.ref b1), (.ref b1)])) rfl rfl (hb hby d8_9)
  refine own_go (g' := (mkF m 12 #[.val (.ref o0), .val (.long q1), .second] [(.int f1), (.long f0), (.ref b1), (.ref b1)])) (st5) ?_
  refine own_go (g' := (mkF m 13 #[.val (.ref o0), .val (.long q1), .second] [(.ref o0), (.int f1), (.long f0), (.ref b1), (.ref b1)])) (fun _ kgo => XS.aloadN X5.here hx rfl (hb hby d8_12) rfl rfl kgo) ?_
  have fx6 : Fld Z h1 o0 "com/example/seenset/seenset/filter/StableParameters" "hashes" "I" (.int f2) := (Fld.ext E1 P2)
  obtain ⟨T7, X7, e7, st7⟩ := getF X5 hx hZ hown (host := "") (Or.inl (hw _ (List.mem_of_getElem? (i := 36) rfl))) Via.refl e5 fx6 (g := (mkF m 13 #[.val (.ref o0), .val (.long q1), .second] [(.ref o0), (.int f1), (.long f0), (.ref b1), (.ref b1)])) rfl rfl (hb hby d8_13)
  refine own_go (g' := (mkF m 16 #[.val (.ref o0), .val (.long q1), .second] [(.int f2), (.int f1), (.long f0), (.ref b1), (.ref b1)])) (st7) ?_
  refine own_go (g' := (mkF m 17 #[.val (.ref o0), .val (.long q1), .second] [(.ref o0), (.int f2), (.int f1), (.long f0), (.ref b1), (.ref b1)])) (fun _ kgo => XS.aloadN X7.here hx rfl (hb hby d8_16) rfl rfl kgo) ?_
  have fx8 : Fld Z h1 o0 "com/example/seenset/seenset/filter/StableParameters" "decrement" "I" (.int f3) := (Fld.ext E1 P3)
  obtain ⟨T9, X9, e9, st9⟩ := getF X7 hx hZ hown (host := "") (Or.inl (hw _ (List.mem_of_getElem? (i := 38) rfl))) Via.refl e7 fx8 (g := (mkF m 17 #[.val (.ref o0), .val (.long q1), .second] [(.ref o0), (.int f2), (.int f1), (.long f0), (.ref b1), (.ref b1)])) rfl rfl (hb hby d8_17)
  refine own_go (g' := (mkF m 20 #[.val (.ref o0), .val (.long q1), .second] [(.int f3), (.int f2), (.int f1), (.long f0), (.ref b1), (.ref b1)])) (st9) ?_
  refine own_go (g' := (mkF m 21 #[.val (.ref o0), .val (.long q1), .second] [(.long q1), (.int f3), (.int f2), (.int f1), (.long f0), (.ref b1), (.ref b1)])) (fun _ kgo => XS.lloadN X9.here hx rfl (hb hby d8_20) rfl kgo) ?_
  obtain ⟨v10, T10, L10, hQ10, X10, st10⟩ := own_callI X9 hx hZ (y := (⟨"com/example/seenset/seenset/filter/StableParameters", "<init>", "(JIIIJ)V"⟩ : MethodName)) rfl hown (hw _ (List.mem_of_getElem? (i := 11) rfl)) (hw _ (List.mem_of_getElem? (i := 12) rfl)) (hw _ (List.mem_of_getElem? (i := 7) rfl)) (hw _ (List.mem_of_getElem? (i := 13) rfl)) ⟨by decide, by decide⟩ (a := b1) (argsL := [(.long f0), (.int f1), (.int f2), (.int f3), (.long q1)]) (ct5 l Z a0 hw b1 f0 f1 f2 f3 q1 h1 n0 Z1 ge_b1 A1 F1_cells F1_max F1_hashes F1_decrement F1_seed hcl hmx hhs hde) e9 (g := (mkF m 21 #[.val (.ref o0), .val (.long q1), .second] [(.long q1), (.int f3), (.int f2), (.int f1), (.long f0), (.ref b1), (.ref b1)])) rfl (by rw [hml]; rfl) (rest := [(.ref b1)]) (lenOf pd8_0 rfl) rfl (hb hby d8_21) (W := 1) (by show 2 * 0 + _ ≤ _; exact Nat.le_of_eq rfl) (by decide) (by decide) (by decide) (by decide)
  obtain ⟨rfl, Nq10, Kq10, q10_0, q10_1, q10_2, q10_3, q10_4, q10_5⟩ := hQ10
  have N10 := Fr.app N0 Nq10
  have Z10 : n0 ≤ T10.heap.size := Nat.le_trans Z1 Kq10.1
  have KK10 : Keep h0 T10.heap [] := K1.trans Kq10 (allS (Or.inr sz_b1) all0)
  refine own_go (g' := (mkF m 24 #[.val (.ref o0), .val (.long q1), .second] [(.ref b1)])) (st10) ?_
  refine own_retA X10 hx Bd.returns Bd.notSynchronized rfl rfl (hb hby d8_24) (by decide) (by decide) ?_
  show QQ _ T10.heap _
  rw [← hQQ]
  exact ⟨b1, rfl, N10, KK10, sz_b1, q10_0, q10_1, q10_2, q10_3, q10_4, q10_5⟩
theorem d9_0 : decode prog_32_method_14_code 0 = .ok (.aload_n 1, 1) := by decide +kernel
theorem d9_1 : decode prog_32_method_14_code 1 = .ok (.instanceof 4, 3) := by decide +kernel
theorem d9_4 : decode prog_32_method_14_code 4 = .ok (.ifCond .ne 5, 3) := by decide +kernel
theorem d9_9 : decode prog_32_method_14_code 9 = .ok (.aload_n 1, 1) := by decide +kernel
theorem d9_10 : decode prog_32_method_14_code 10 = .ok (.checkcast 4, 3) := by decide +kernel
theorem d9_13 : decode prog_32_method_14_code 13 = .ok (.astore_n 2, 1) := by decide +kernel
theorem d9_14 : decode prog_32_method_14_code 14 = .ok (.aload_n 0, 1) := by decide +kernel
theorem d9_15 : decode prog_32_method_14_code 15 = .ok (.getfield 48, 3) := by decide +kernel
theorem d9_18 : decode prog_32_method_14_code 18 = .ok (.aload_n 2, 1) := by decide +kernel
theorem d9_19 : decode prog_32_method_14_code 19 = .ok (.getfield 48, 3) := by decide +kernel
theorem d9_22 : decode prog_32_method_14_code 22 = .ok (.lcmp, 1) := by decide +kernel
theorem d9_23 : decode prog_32_method_14_code 23 = .ok (.ifCond .ne 52, 3) := by decide +kernel
theorem d9_26 : decode prog_32_method_14_code 26 = .ok (.aload_n 0, 1) := by decide +kernel
theorem d9_27 : decode prog_32_method_14_code 27 = .ok (.getfield 52, 3) := by decide +kernel
theorem d9_30 : decode prog_32_method_14_code 30 = .ok (.aload_n 2, 1) := by decide +kernel
theorem d9_31 : decode prog_32_method_14_code 31 = .ok (.getfield 52, 3) := by decide +kernel
theorem d9_34 : decode prog_32_method_14_code 34 = .ok (.if_icmp .ne 41, 3) := by decide +kernel
theorem d9_37 : decode prog_32_method_14_code 37 = .ok (.aload_n 0, 1) := by decide +kernel
theorem d9_38 : decode prog_32_method_14_code 38 = .ok (.getfield 56, 3) := by decide +kernel
theorem d9_41 : decode prog_32_method_14_code 41 = .ok (.aload_n 2, 1) := by decide +kernel
theorem d9_42 : decode prog_32_method_14_code 42 = .ok (.getfield 56, 3) := by decide +kernel
theorem d9_45 : decode prog_32_method_14_code 45 = .ok (.if_icmp .ne 30, 3) := by decide +kernel
theorem d9_48 : decode prog_32_method_14_code 48 = .ok (.aload_n 0, 1) := by decide +kernel
theorem d9_49 : decode prog_32_method_14_code 49 = .ok (.getfield 59, 3) := by decide +kernel
theorem d9_52 : decode prog_32_method_14_code 52 = .ok (.aload_n 2, 1) := by decide +kernel
theorem d9_53 : decode prog_32_method_14_code 53 = .ok (.getfield 59, 3) := by decide +kernel
theorem d9_56 : decode prog_32_method_14_code 56 = .ok (.if_icmp .ne 19, 3) := by decide +kernel
theorem d9_59 : decode prog_32_method_14_code 59 = .ok (.aload_n 0, 1) := by decide +kernel
theorem d9_60 : decode prog_32_method_14_code 60 = .ok (.getfield 62, 3) := by decide +kernel
theorem d9_63 : decode prog_32_method_14_code 63 = .ok (.aload_n 2, 1) := by decide +kernel
theorem d9_64 : decode prog_32_method_14_code 64 = .ok (.getfield 62, 3) := by decide +kernel
theorem d9_67 : decode prog_32_method_14_code 67 = .ok (.lcmp, 1) := by decide +kernel
theorem d9_68 : decode prog_32_method_14_code 68 = .ok (.ifCond .ne 7, 3) := by decide +kernel
theorem d9_71 : decode prog_32_method_14_code 71 = .ok (.iconst 1, 1) := by decide +kernel
theorem d9_72 : decode prog_32_method_14_code 72 = .ok (.goto 4, 3) := by decide +kernel
theorem d9_75 : decode prog_32_method_14_code 75 = .ok (.iconst 0, 1) := by decide +kernel
theorem d9_76 : decode prog_32_method_14_code 76 = .ok (.ireturn, 1) := by decide +kernel
theorem pn_eqs : plainName "com/example/seenset/seenset/filter/StableParameters" = true := by first | (simp [plainName, overriddenIn]; done) | decide +kernel
theorem ef_eqs (m : MethodId) (o0 : Addr) (o1 : Addr) : entryFrame m #[(.ref o0), (.ref o1)] 3 = mkF m 0 #[.val (.ref o0), .val (.ref o1), .unset] [] := by first | (simp [entryFrame, mkF, argsToLocals, Value.category]; done) | rfl
set_option maxRecDepth 65536 in
set_option maxHeartbeats 40000000 in
theorem eqs (l : Launch) (Z : State) (a0 : Array Value) (hw : ∀ d ∈ tables_1, d.before a0 Z = true) (o0 : Addr) (o1 : Addr) (a0_ : Int64) (a1_ : Int32) (a2_ : Int32) (a3_ : Int32) (a4_ : Int64) (b0_ : Int64) (b1_ : Int32) (b2_ : Int32) (b3_ : Int32) (b4_ : Int64) (h0 : Heap) (P0 : Exa Z h0 o1 "com/example/seenset/seenset/filter/StableParameters") (P1 : Fld Z h0 o0 "com/example/seenset/seenset/filter/StableParameters" "cells" "J" (.long a0_)) (P2 : Fld Z h0 o0 "com/example/seenset/seenset/filter/StableParameters" "max" "I" (.int a1_)) (P3 : Fld Z h0 o0 "com/example/seenset/seenset/filter/StableParameters" "hashes" "I" (.int a2_)) (P4 : Fld Z h0 o0 "com/example/seenset/seenset/filter/StableParameters" "decrement" "I" (.int a3_)) (P5 : Fld Z h0 o0 "com/example/seenset/seenset/filter/StableParameters" "seed" "J" (.long a4_)) (P6 : Fld Z h0 o1 "com/example/seenset/seenset/filter/StableParameters" "cells" "J" (.long b0_)) (P7 : Fld Z h0 o1 "com/example/seenset/seenset/filter/StableParameters" "max" "I" (.int b1_)) (P8 : Fld Z h0 o1 "com/example/seenset/seenset/filter/StableParameters" "hashes" "I" (.int b2_)) (P9 : Fld Z h0 o1 "com/example/seenset/seenset/filter/StableParameters" "decrement" "I" (.int b3_)) (P10 : Fld Z h0 o1 "com/example/seenset/seenset/filter/StableParameters" "seed" "J" (.long b4_)) :
    own_Met l Z (⟨"com/example/seenset/seenset/filter/StableParameters", "equals", "(Ljava/lang/Object;)Z"⟩ : MethodName) prog_32_method_14_code 3 (some .boolean) [] ({ frames := 0, cells := 0, slots := 0, locals := 0 } : Room) #[(.ref o0), (.ref o1)] h0 0 0 (fun v h L => v = some (.int (own_b (decide (a0_ = b0_ ∧ a1_ = b1_ ∧ a2_ = b2_ ∧ a3_ = b3_ ∧ a4_ = b4_)))) ∧ h = h0 ∧ L = []) := by
  refine own_met (plainFor_of_name pn_eqs) ?_
  intro p e s m below meth c s₁ Bd hml0 hZ X0 e0
  have hx := Bd.exec
  have hby := Bd.bytes
  have hml : c.maxLocals = 3 := hml0
  have hown : s.vm.findClass "com/example/seenset/seenset/filter/StableParameters" = some m.cls := findClass_of_methodNamed Bd.named
  have hnm := (name_of_methodNamed Bd.named Bd.method).1
  refine own_cast (ef_eqs m o0 o1) ?_
  generalize hQQ : (fun (v : Option Value) (h : Heap) (L : List Loc) => v = some (.int (own_b (decide (a0_ = b0_ ∧ a1_ = b1_ ∧ a2_ = b2_ ∧ a3_ = b3_ ∧ a4_ = b4_)))) ∧ h = h0 ∧ L = []) = QQ
  refine own_go (g' := (mkF m 1 #[.val (.ref o0), .val (.ref o1), .unset] [(.ref o1)])) (fun _ kgo => XS.aloadN X0.here hx rfl (hb hby d9_0) rfl rfl kgo) ?_
  obtain ⟨T1, X1, e1, st1⟩ := instY X0 hx hZ hown (hw _ (List.mem_of_getElem? (i := 47) rfl)) e0 (Ins.self P0) (g := (mkF m 1 #[.val (.ref o0), .val (.ref o1), .unset] [(.ref o1)])) rfl rfl (hb hby d9_1)
  refine own_go (g' := (mkF m 4 #[.val (.ref o0), .val (.ref o1), .unset] [(.int (1 : Int32))])) (st1) ?_
  refine own_go (g' := (mkF m 9 #[.val (.ref o0), .val (.ref o1), .unset] [])) (fun _ kgo => XS.ifYes X1.here hx rfl (pc0 := 4) (pc' := 9) rfl (hb hby d9_4) rfl ((if0 _ _).trans (feq (by decide)).2) (by decide) (by decide) kgo) ?_
  refine own_go (g' := (mkF m 10 #[.val (.ref o0), .val (.ref o1), .unset] [(.ref o1)])) (fun _ kgo => XS.aloadN X1.here hx rfl (hb hby d9_9) rfl rfl kgo) ?_
  obtain ⟨T2, X2, e2, st2⟩ := castY X1 hx hZ hown (hw _ (List.mem_of_getElem? (i := 47) rfl)) e1 (Ins.self P0) (g := (mkF m 10 #[.val (.ref o0), .val (.ref o1), .unset] [(.ref o1)])) rfl rfl (hb hby d9_10)
  refine own_go (g' := (mkF m 13 #[.val (.ref o0), .val (.ref o1), .unset] [(.ref o1)])) (st2) ?_
  refine own_go (g' := (mkF m 14 #[.val (.ref o0), .val (.ref o1), .val (.ref o1)] [])) (fun _ kgo => XS.astoreN X2.here hx rfl (hb hby d9_13) rfl rfl (l' := #[.val (.ref o0), .val (.ref o1), .val (.ref o1)]) rfl kgo) ?_
  refine own_go (g' := (mkF m 15 #[.val (.ref o0), .val (.ref o1), .val (.ref o1)] [(.ref o0)])) (fun _ kgo => XS.aloadN X2.here hx rfl (hb hby d9_14) rfl rfl kgo) ?_
  obtain ⟨T3, X3, e3, st3⟩ := getF X2 hx hZ hown (host := "") (Or.inl (hw _ (List.mem_of_getElem? (i := 32) rfl))) Via.refl e2 P1 (g := (mkF m 15 #[.val (.ref o0), .val (.ref o1), .val (.ref o1)] [(.ref o0)])) rfl rfl (hb hby d9_15)
  refine own_go (g' := (mkF m 18 #[.val (.ref o0), .val (.ref o1), .val (.ref o1)] [(.long a0_)])) (st3) ?_
  refine own_go (g' := (mkF m 19 #[.val (.ref o0), .val (.ref o1), .val (.ref o1)] [(.ref o1), (.long a0_)])) (fun _ kgo => XS.aloadN X3.here hx rfl (hb hby d9_18) rfl rfl kgo) ?_
  obtain ⟨T4, X4, e4, st4⟩ := getF X3 hx hZ hown (host := "") (Or.inl (hw _ (List.mem_of_getElem? (i := 32) rfl))) Via.refl e3 P6 (g := (mkF m 19 #[.val (.ref o0), .val (.ref o1), .val (.ref o1)] [(.ref o1), (.long a0_)])) rfl rfl (hb hby d9_19)
  refine own_go (g' := (mkF m 22 #[.val (.ref o0), .val (.ref o1), .val (.ref o1)] [(.long b0_), (.long a0_)])) (st4) ?_
  refine own_go (g' := (mkF m 23 #[.val (.ref o0), .val (.ref o1), .val (.ref o1)] [(.int (lcmpW a0_ b0_))])) (fun _ kgo => XS.lcmp X4.here hx rfl (hb hby d9_22) rfl kgo) ?_
  by_cases hc5 : a0_ = b0_
  ·
    refine own_go (g' := (mkF m 26 #[.val (.ref o0), .val (.ref o1), .val (.ref o1)] [])) (fun _ kgo => XS.ifNo X4.here hx rfl (hb hby d9_23) rfl ((if0 _ _).trans (teq ((lw_eq _ _).mpr hc5)).2) kgo) ?_
    refine own_go (g' := (mkF m 27 #[.val (.ref o0), .val (.ref o1), .val (.ref o1)] [(.ref o0)])) (fun _ kgo => XS.aloadN X4.here hx rfl (hb hby d9_26) rfl rfl kgo) ?_
    obtain ⟨T6, X6, e6, st6⟩ := getF X4 hx hZ hown (host := "") (Or.inl (hw _ (List.mem_of_getElem? (i := 34) rfl))) Via.refl e4 P2 (g := (mkF m 27 #[.val (.ref o0), .val (.ref o1), .val (.ref o1)] [(.ref o0)])) rfl rfl (hb hby d9_27)
    refine own_go (g' := (mkF m 30 #[.val (.ref o0), .val (.ref o1), .val (.ref o1)] [(.int a1_)])) (st6) ?_
    refine own_go (g' := (mkF m 31 #[.val (.ref o0), .val (.ref o1), .val (.ref o1)] [(.ref o1), (.int a1_)])) (fun _ kgo => XS.aloadN X6.here hx rfl (hb hby d9_30) rfl rfl kgo) ?_
    obtain ⟨T7, X7, e7, st7⟩ := getF X6 hx hZ hown (host := "") (Or.inl (hw _ (List.mem_of_getElem? (i := 34) rfl))) Via.refl e6 P7 (g := (mkF m 31 #[.val (.ref o0), .val (.ref o1), .val (.ref o1)] [(.ref o1), (.int a1_)])) rfl rfl (hb hby d9_31)
    refine own_go (g' := (mkF m 34 #[.val (.ref o0), .val (.ref o1), .val (.ref o1)] [(.int b1_), (.int a1_)])) (st7) ?_
    by_cases hc8 : a1_ = b1_
    ·
      refine own_go (g' := (mkF m 37 #[.val (.ref o0), .val (.ref o1), .val (.ref o1)] [])) (fun _ kgo => XS.icmpNo X7.here hx rfl (hb hby d9_34) rfl (teq hc8).2 kgo) ?_
      refine own_go (g' := (mkF m 38 #[.val (.ref o0), .val (.ref o1), .val (.ref o1)] [(.ref o0)])) (fun _ kgo => XS.aloadN X7.here hx rfl (hb hby d9_37) rfl rfl kgo) ?_
      obtain ⟨T9, X9, e9, st9⟩ := getF X7 hx hZ hown (host := "") (Or.inl (hw _ (List.mem_of_getElem? (i := 36) rfl))) Via.refl e7 P3 (g := (mkF m 38 #[.val (.ref o0), .val (.ref o1), .val (.ref o1)] [(.ref o0)])) rfl rfl (hb hby d9_38)
      refine own_go (g' := (mkF m 41 #[.val (.ref o0), .val (.ref o1), .val (.ref o1)] [(.int a2_)])) (st9) ?_
      refine own_go (g' := (mkF m 42 #[.val (.ref o0), .val (.ref o1), .val (.ref o1)] [(.ref o1), (.int a2_)])) (fun _ kgo => XS.aloadN X9.here hx rfl (hb hby d9_41) rfl rfl kgo) ?_
      obtain ⟨T10, X10, e10, st10⟩ := getF X9 hx hZ hown (host := "") (Or.inl (hw _ (List.mem_of_getElem? (i := 36) rfl))) Via.refl e9 P8 (g := (mkF m 42 #[.val (.ref o0), .val (.ref o1), .val (.ref o1)] [(.ref o1), (.int a2_)])) rfl rfl (hb hby d9_42)
      refine own_go (g' := (mkF m 45 #[.val (.ref o0), .val (.ref o1), .val (.ref o1)] [(.int b2_), (.int a2_)])) (st10) ?_
      by_cases hc11 : a2_ = b2_
      ·
        refine own_go (g' := (mkF m 48 #[.val (.ref o0), .val (.ref o1), .val (.ref o1)] [])) (fun _ kgo => XS.icmpNo X10.here hx rfl (hb hby d9_45) rfl (teq hc11).2 kgo) ?_
        refine own_go (g' := (mkF m 49 #[.val (.ref o0), .val (.ref o1), .val (.ref o1)] [(.ref o0)])) (fun _ kgo => XS.aloadN X10.here hx rfl (hb hby d9_48) rfl rfl kgo) ?_
        obtain ⟨T12, X12, e12, st12⟩ := getF X10 hx hZ hown (host := "") (Or.inl (hw _ (List.mem_of_getElem? (i := 38) rfl))) Via.refl e10 P4 (g := (mkF m 49 #[.val (.ref o0), .val (.ref o1), .val (.ref o1)] [(.ref o0)])) rfl rfl (hb hby d9_49)
        refine own_go (g' := (mkF m 52 #[.val (.ref o0), .val (.ref o1), .val (.ref o1)] [(.int a3_)])) (st12) ?_
        refine own_go (g' := (mkF m 53 #[.val (.ref o0), .val (.ref o1), .val (.ref o1)] [(.ref o1), (.int a3_)])) (fun _ kgo => XS.aloadN X12.here hx rfl (hb hby d9_52) rfl rfl kgo) ?_
        obtain ⟨T13, X13, e13, st13⟩ := getF X12 hx hZ hown (host := "") (Or.inl (hw _ (List.mem_of_getElem? (i := 38) rfl))) Via.refl e12 P9 (g := (mkF m 53 #[.val (.ref o0), .val (.ref o1), .val (.ref o1)] [(.ref o1), (.int a3_)])) rfl rfl (hb hby d9_53)
        refine own_go (g' := (mkF m 56 #[.val (.ref o0), .val (.ref o1), .val (.ref o1)] [(.int b3_), (.int a3_)])) (st13) ?_
        by_cases hc14 : a3_ = b3_
        ·
          refine own_go (g' := (mkF m 59 #[.val (.ref o0), .val (.ref o1), .val (.ref o1)] [])) (fun _ kgo => XS.icmpNo X13.here hx rfl (hb hby d9_56) rfl (teq hc14).2 kgo) ?_
          refine own_go (g' := (mkF m 60 #[.val (.ref o0), .val (.ref o1), .val (.ref o1)] [(.ref o0)])) (fun _ kgo => XS.aloadN X13.here hx rfl (hb hby d9_59) rfl rfl kgo) ?_
          obtain ⟨T15, X15, e15, st15⟩ := getF X13 hx hZ hown (host := "") (Or.inl (hw _ (List.mem_of_getElem? (i := 40) rfl))) Via.refl e13 P5 (g := (mkF m 60 #[.val (.ref o0), .val (.ref o1), .val (.ref o1)] [(.ref o0)])) rfl rfl (hb hby d9_60)
          refine own_go (g' := (mkF m 63 #[.val (.ref o0), .val (.ref o1), .val (.ref o1)] [(.long a4_)])) (st15) ?_
          refine own_go (g' := (mkF m 64 #[.val (.ref o0), .val (.ref o1), .val (.ref o1)] [(.ref o1), (.long a4_)])) (fun _ kgo => XS.aloadN X15.here hx rfl (hb hby d9_63) rfl rfl kgo) ?_
          obtain ⟨T16, X16, e16, st16⟩ := getF X15 hx hZ hown (host := "") (Or.inl (hw _ (List.mem_of_getElem? (i := 40) rfl))) Via.refl e15 P10 (g := (mkF m 64 #[.val (.ref o0), .val (.ref o1), .val (.ref o1)] [(.ref o1), (.long a4_)])) rfl rfl (hb hby d9_64)
          refine own_go (g' := (mkF m 67 #[.val (.ref o0), .val (.ref o1), .val (.ref o1)] [(.long b4_), (.long a4_)])) (st16) ?_
          refine own_go (g' := (mkF m 68 #[.val (.ref o0), .val (.ref o1), .val (.ref o1)] [(.int (lcmpW a4_ b4_))])) (fun _ kgo => XS.lcmp X16.here hx rfl (hb hby d9_67) rfl kgo) ?_
          by_cases hc17 : a4_ = b4_
          ·
            refine own_go (g' := (mkF m 71 #[.val (.ref o0), .val (.ref o1), .val (.ref o1)] [])) (fun _ kgo => XS.ifNo X16.here hx rfl (hb hby d9_68) rfl ((if0 _ _).trans (teq ((lw_eq _ _).mpr hc17)).2) kgo) ?_
            refine own_go (g' := (mkF m 72 #[.val (.ref o0), .val (.ref o1), .val (.ref o1)] [(.int (1 : Int32))])) (fun _ kgo => XS.iconst X16.here hx rfl (hb hby d9_71) kgo) ?_
            refine own_go (g' := (mkF m 76 #[.val (.ref o0), .val (.ref o1), .val (.ref o1)] [(.int (1 : Int32))])) (fun _ kgo => XS.goto X16.here hx rfl (pc0 := 72) (pc' := 76) rfl (hb hby d9_72) (by decide) (by decide) kgo) ?_
            refine own_retN X16 hx .boolean Bd.returns Bd.notSynchronized (by simp) (hb hby d9_76) (by decide) (by decide) ?_
            show QQ _ T16.heap _
            rw [e16]
            rw [← hQQ]
            have hv : own_b (decide (a0_ = b0_ ∧ a1_ = b1_ ∧ a2_ = b2_ ∧ a3_ = b3_ ∧ a4_ = b4_)) = 1 := own_b_t (by simp only [decide_eq_true_eq, ← Int32.toInt_inj, ← Int64.toInt_inj, Int32.lt_iff_toInt_lt, Int64.lt_iff_toInt_lt, Int32.le_iff_toInt_le, Int64.le_iff_toInt_le, Int32.reduceToInt, Int64.reduceToInt] at hc5 hc8 hc11 hc14 hc17 ⊢ <;> omega)
            exact ⟨by rw [hv]; rfl, rfl, rfl⟩
          ·
            refine own_go (g' := (mkF m 75 #[.val (.ref o0), .val (.ref o1), .val (.ref o1)] [])) (fun _ kgo => XS.ifYes X16.here hx rfl (pc0 := 68) (pc' := 75) rfl (hb hby d9_68) rfl ((if0 _ _).trans (feq (mt (lw_eq _ _).mp hc17)).2) (by decide) (by decide) kgo) ?_
            refine own_go (g' := (mkF m 76 #[.val (.ref o0), .val (.ref o1), .val (.ref o1)] [(.int (0 : Int32))])) (fun _ kgo => XS.iconst X16.here hx rfl (hb hby d9_75) kgo) ?_
            refine own_retN X16 hx .boolean Bd.returns Bd.notSynchronized (by simp) (hb hby d9_76) (by decide) (by decide) ?_
            show QQ _ T16.heap _
            rw [e16]
            rw [← hQQ]
            have hv : own_b (decide (a0_ = b0_ ∧ a1_ = b1_ ∧ a2_ = b2_ ∧ a3_ = b3_ ∧ a4_ = b4_)) = 0 := own_b_f (by simp only [decide_eq_true_eq, ← Int32.toInt_inj, ← Int64.toInt_inj, Int32.lt_iff_toInt_lt, Int64.lt_iff_toInt_lt, Int32.le_iff_toInt_le, Int64.le_iff_toInt_le, Int32.reduceToInt, Int64.reduceToInt] at hc5 hc8 hc11 hc14 hc17 ⊢ <;> omega)
            exact ⟨by rw [hv]; rfl, rfl, rfl⟩
        ·
          refine own_go (g' := (mkF m 75 #[.val (.ref o0), .val (.ref o1), .val (.ref o1)] [])) (fun _ kgo => XS.icmpYes X13.here hx rfl (pc0 := 56) (pc' := 75) rfl (hb hby d9_56) rfl (feq hc14).2 (by decide) (by decide) kgo) ?_
          refine own_go (g' := (mkF m 76 #[.val (.ref o0), .val (.ref o1), .val (.ref o1)] [(.int (0 : Int32))])) (fun _ kgo => XS.iconst X13.here hx rfl (hb hby d9_75) kgo) ?_
          refine own_retN X13 hx .boolean Bd.returns Bd.notSynchronized (by simp) (hb hby d9_76) (by decide) (by decide) ?_
          show QQ _ T13.heap _
          rw [e13]
          rw [← hQQ]
          have hv : own_b (decide (a0_ = b0_ ∧ a1_ = b1_ ∧ a2_ = b2_ ∧ a3_ = b3_ ∧ a4_ = b4_)) = 0 := own_b_f (by simp only [decide_eq_true_eq, ← Int32.toInt_inj, ← Int64.toInt_inj, Int32.lt_iff_toInt_lt, Int64.lt_iff_toInt_lt, Int32.le_iff_toInt_le, Int64.le_iff_toInt_le, Int32.reduceToInt, Int64.reduceToInt] at hc5 hc8 hc11 hc14 ⊢ <;> omega)
          exact ⟨by rw [hv]; rfl, rfl, rfl⟩
      ·
        refine own_go (g' := (mkF m 75 #[.val (.ref o0), .val (.ref o1), .val (.ref o1)] [])) (fun _ kgo => XS.icmpYes X10.here hx rfl (pc0 := 45) (pc' := 75) rfl (hb hby d9_45) rfl (feq hc11).2 (by decide) (by decide) kgo) ?_
        refine own_go (g' := (mkF m 76 #[.val (.ref o0), .val (.ref o1), .val (.ref o1)] [(.int (0 : Int32))])) (fun _ kgo => XS.iconst X10.here hx rfl (hb hby d9_75) kgo) ?_
        refine own_retN X10 hx .boolean Bd.returns Bd.notSynchronized (by simp) (hb hby d9_76) (by decide) (by decide) ?_
        show QQ _ T10.heap _
        rw [e10]
        rw [← hQQ]
        have hv : own_b (decide (a0_ = b0_ ∧ a1_ = b1_ ∧ a2_ = b2_ ∧ a3_ = b3_ ∧ a4_ = b4_)) = 0 := own_b_f (by simp only [decide_eq_true_eq, ← Int32.toInt_inj, ← Int64.toInt_inj, Int32.lt_iff_toInt_lt, Int64.lt_iff_toInt_lt, Int32.le_iff_toInt_le, Int64.le_iff_toInt_le, Int32.reduceToInt, Int64.reduceToInt] at hc5 hc8 hc11 ⊢ <;> omega)
        exact ⟨by rw [hv]; rfl, rfl, rfl⟩
    ·
      refine own_go (g' := (mkF m 75 #[.val (.ref o0), .val (.ref o1), .val (.ref o1)] [])) (fun _ kgo => XS.icmpYes X7.here hx rfl (pc0 := 34) (pc' := 75) rfl (hb hby d9_34) rfl (feq hc8).2 (by decide) (by decide) kgo) ?_
      refine own_go (g' := (mkF m 76 #[.val (.ref o0), .val (.ref o1), .val (.ref o1)] [(.int (0 : Int32))])) (fun _ kgo => XS.iconst X7.here hx rfl (hb hby d9_75) kgo) ?_
      refine own_retN X7 hx .boolean Bd.returns Bd.notSynchronized (by simp) (hb hby d9_76) (by decide) (by decide) ?_
      show QQ _ T7.heap _
      rw [e7]
      rw [← hQQ]
      have hv : own_b (decide (a0_ = b0_ ∧ a1_ = b1_ ∧ a2_ = b2_ ∧ a3_ = b3_ ∧ a4_ = b4_)) = 0 := own_b_f (by simp only [decide_eq_true_eq, ← Int32.toInt_inj, ← Int64.toInt_inj, Int32.lt_iff_toInt_lt, Int64.lt_iff_toInt_lt, Int32.le_iff_toInt_le, Int64.le_iff_toInt_le, Int32.reduceToInt, Int64.reduceToInt] at hc5 hc8 ⊢ <;> omega)
      exact ⟨by rw [hv]; rfl, rfl, rfl⟩
  ·
    refine own_go (g' := (mkF m 75 #[.val (.ref o0), .val (.ref o1), .val (.ref o1)] [])) (fun _ kgo => XS.ifYes X4.here hx rfl (pc0 := 23) (pc' := 75) rfl (hb hby d9_23) rfl ((if0 _ _).trans (feq (mt (lw_eq _ _).mp hc5)).2) (by decide) (by decide) kgo) ?_
    refine own_go (g' := (mkF m 76 #[.val (.ref o0), .val (.ref o1), .val (.ref o1)] [(.int (0 : Int32))])) (fun _ kgo => XS.iconst X4.here hx rfl (hb hby d9_75) kgo) ?_
    refine own_retN X4 hx .boolean Bd.returns Bd.notSynchronized (by simp) (hb hby d9_76) (by decide) (by decide) ?_
    show QQ _ T4.heap _
    rw [e4]
    rw [← hQQ]
    have hv : own_b (decide (a0_ = b0_ ∧ a1_ = b1_ ∧ a2_ = b2_ ∧ a3_ = b3_ ∧ a4_ = b4_)) = 0 := own_b_f (by simp only [decide_eq_true_eq, ← Int32.toInt_inj, ← Int64.toInt_inj, Int32.lt_iff_toInt_lt, Int64.lt_iff_toInt_lt, Int32.le_iff_toInt_le, Int64.le_iff_toInt_le, Int32.reduceToInt, Int64.reduceToInt] at hc5 ⊢ <;> omega)
    exact ⟨by rw [hv]; rfl, rfl, rfl⟩
theorem d9_7 : decode prog_32_method_14_code 7 = .ok (.iconst 0, 1) := by decide +kernel
theorem d9_8 : decode prog_32_method_14_code 8 = .ok (.ireturn, 1) := by decide +kernel
theorem pn_eqn : plainName "com/example/seenset/seenset/filter/StableParameters" = true := by first | (simp [plainName, overriddenIn]; done) | decide +kernel
theorem ef_eqn (m : MethodId) (o0 : Addr) : entryFrame m #[(.ref o0), .null] 3 = mkF m 0 #[.val (.ref o0), .val .null, .unset] [] := by first | (simp [entryFrame, mkF, argsToLocals, Value.category]; done) | rfl
set_option maxRecDepth 65536 in
set_option maxHeartbeats 40000000 in
theorem eqn (l : Launch) (Z : State) (a0 : Array Value) (hw : ∀ d ∈ tables_1, d.before a0 Z = true) (o0 : Addr)  (h0 : Heap) :
    own_Met l Z (⟨"com/example/seenset/seenset/filter/StableParameters", "equals", "(Ljava/lang/Object;)Z"⟩ : MethodName) prog_32_method_14_code 3 (some .boolean) [] ({ frames := 0, cells := 0, slots := 0, locals := 0 } : Room) #[(.ref o0), .null] h0 0 0 (fun v h L => v = some (.int (0 : Int32)) ∧ h = h0 ∧ L = []) := by
  refine own_met (plainFor_of_name pn_eqn) ?_
  intro p e s m below meth c s₁ Bd hml0 hZ X0 e0
  have hx := Bd.exec
  have hby := Bd.bytes
  have hml : c.maxLocals = 3 := hml0
  have hown : s.vm.findClass "com/example/seenset/seenset/filter/StableParameters" = some m.cls := findClass_of_methodNamed Bd.named
  have hnm := (name_of_methodNamed Bd.named Bd.method).1
  refine own_cast (ef_eqn m o0) ?_
  generalize hQQ : (fun (v : Option Value) (h : Heap) (L : List Loc) => v = some (.int (0 : Int32)) ∧ h = h0 ∧ L = []) = QQ
  refine own_go (g' := (mkF m 1 #[.val (.ref o0), .val .null, .unset] [.null])) (fun _ kgo => XS.aloadN X0.here hx rfl (hb hby d9_0) rfl rfl kgo) ?_
  refine own_go (g' := (mkF m 4 #[.val (.ref o0), .val .null, .unset] [(.int (0 : Int32))])) (X0.instanceofNull hx (g := (mkF m 1 #[.val (.ref o0), .val .null, .unset] [.null])) rfl rfl (hb hby d9_1)) ?_
  refine own_go (g' := (mkF m 7 #[.val (.ref o0), .val .null, .unset] [])) (fun _ kgo => XS.ifNo X0.here hx rfl (hb hby d9_4) rfl ((if0 _ _).trans (teq (by decide)).2) kgo) ?_
  refine own_go (g' := (mkF m 8 #[.val (.ref o0), .val .null, .unset] [(.int (0 : Int32))])) (fun _ kgo => XS.iconst X0.here hx rfl (hb hby d9_7) kgo) ?_
  refine own_retN X0 hx .boolean Bd.returns Bd.notSynchronized (by simp) (hb hby d9_8) (by decide) (by decide) ?_
  show QQ _ s₁.heap _
  rw [e0]
  rw [← hQQ]
  exact ⟨rfl, rfl, rfl⟩
theorem pn_eqi : plainName "com/example/seenset/seenset/filter/StableParameters" = true := by first | (simp [plainName, overriddenIn]; done) | decide +kernel
theorem ef_eqi (m : MethodId) (o0 : Addr) (o1 : Addr) : entryFrame m #[(.ref o0), (.ref o1)] 3 = mkF m 0 #[.val (.ref o0), .val (.ref o1), .unset] [] := by first | (simp [entryFrame, mkF, argsToLocals, Value.category]; done) | rfl
set_option maxRecDepth 65536 in
set_option maxHeartbeats 40000000 in
theorem eqi (l : Launch) (Z : State) (a0 : Array Value) (hw : ∀ d ∈ tables_1, d.before a0 Z = true) (o0 : Addr) (o1 : Addr)  (h0 : Heap) (P0 : Exa Z h0 o1 "java/lang/Integer") :
    own_Met l Z (⟨"com/example/seenset/seenset/filter/StableParameters", "equals", "(Ljava/lang/Object;)Z"⟩ : MethodName) prog_32_method_14_code 3 (some .boolean) [] ({ frames := 0, cells := 0, slots := 0, locals := 0 } : Room) #[(.ref o0), (.ref o1)] h0 0 0 (fun v h L => v = some (.int (0 : Int32)) ∧ h = h0 ∧ L = []) := by
  refine own_met (plainFor_of_name pn_eqi) ?_
  intro p e s m below meth c s₁ Bd hml0 hZ X0 e0
  have hx := Bd.exec
  have hby := Bd.bytes
  have hml : c.maxLocals = 3 := hml0
  have hown : s.vm.findClass "com/example/seenset/seenset/filter/StableParameters" = some m.cls := findClass_of_methodNamed Bd.named
  have hnm := (name_of_methodNamed Bd.named Bd.method).1
  refine own_cast (ef_eqi m o0 o1) ?_
  generalize hQQ : (fun (v : Option Value) (h : Heap) (L : List Loc) => v = some (.int (0 : Int32)) ∧ h = h0 ∧ L = []) = QQ
  refine own_go (g' := (mkF m 1 #[.val (.ref o0), .val (.ref o1), .unset] [(.ref o1)])) (fun _ kgo => XS.aloadN X0.here hx rfl (hb hby d9_0) rfl rfl kgo) ?_
  obtain ⟨T1, X1, e1, st1⟩ := instNo X0 hx hZ hown (hw _ (List.mem_of_getElem? (i := 47) rfl)) e0 P0 (own_ns_no (hw _ (List.mem_of_getElem? (i := 60) rfl)) (hw _ (List.mem_of_getElem? (i := 6) rfl)) (NS.step (hw _ (List.mem_of_getElem? (i := 60) rfl)) (NS.step (hw _ (List.mem_of_getElem? (i := 61) rfl)) (own_ns_root (hw _ (List.mem_of_getElem? (i := 62) rfl)) (hw _ (List.mem_of_getElem? (i := 6) rfl)) (by decide)) (by decide)) (by decide)) (by decide)) (g := (mkF m 1 #[.val (.ref o0), .val (.ref o1), .unset] [(.ref o1)])) rfl rfl (hb hby d9_1)
  refine own_go (g' := (mkF m 4 #[.val (.ref o0), .val (.ref o1), .unset] [(.int (0 : Int32))])) (st1) ?_
  refine own_go (g' := (mkF m 7 #[.val (.ref o0), .val (.ref o1), .unset] [])) (fun _ kgo => XS.ifNo X1.here hx rfl (hb hby d9_4) rfl ((if0 _ _).trans (teq (by decide)).2) kgo) ?_
  refine own_go (g' := (mkF m 8 #[.val (.ref o0), .val (.ref o1), .unset] [(.int (0 : Int32))])) (fun _ kgo => XS.iconst X1.here hx rfl (hb hby d9_7) kgo) ?_
  refine own_retN X1 hx .boolean Bd.returns Bd.notSynchronized (by simp) (hb hby d9_8) (by decide) (by decide) ?_
  show QQ _ T1.heap _
  rw [e1]
  rw [← hQQ]
  exact ⟨rfl, rfl, rfl⟩
theorem d12_0 : decode jdk_18_method_1_code 0 = .ok (.aload_n 0, 1) := by decide +kernel
theorem d12_1 : decode jdk_18_method_1_code 1 = .ok (.invokespecial 1, 3) := by decide +kernel
theorem d12_4 : decode jdk_18_method_1_code 4 = .ok (.return_, 1) := by decide +kernel
theorem pn_rm12 : plainName "java/lang/Number" = true := by first | (simp [plainName, overriddenIn]; done) | decide +kernel
theorem ef_rm12 (m : MethodId) (o0 : Addr) : entryFrame m #[(.ref o0)] 1 = mkF m 0 #[.val (.ref o0)] [] := by first | (simp [entryFrame, mkF, argsToLocals, Value.category]; done) | rfl
set_option maxRecDepth 65536 in
set_option maxHeartbeats 40000000 in
theorem rm12 (l : Launch) (Z : State) (a0 : Array Value) (hw : ∀ d ∈ tables_1, d.before a0 Z = true) (o0 : Addr)  (h0 : Heap) :
    own_Met l Z (⟨"java/lang/Number", "<init>", "()V"⟩ : MethodName) jdk_18_method_1_code 1 none [] ({ frames := 1, cells := 0, slots := 0, locals := 12 } : Room) #[(.ref o0)] h0 0 0 (fun v h L => v = none ∧ h = h0 ∧ L = []) := by
  refine own_met (plainFor_of_name pn_rm12) ?_
  intro p e s m below meth c s₁ Bd hml0 hZ X0 e0
  have hx := Bd.exec
  have hby := Bd.bytes
  have hml : c.maxLocals = 1 := hml0
  have hown : s.vm.findClass "java/lang/Number" = some m.cls := findClass_of_methodNamed Bd.named
  have hnm := (name_of_methodNamed Bd.named Bd.method).1
  refine own_cast (ef_rm12 m o0) ?_
  generalize hQQ : (fun (v : Option Value) (h : Heap) (L : List Loc) => v = none ∧ h = h0 ∧ L = []) = QQ
  refine own_go (g' := (mkF m 1 #[.val (.ref o0)] [(.ref o0)])) (fun _ kgo => XS.aloadN X0.here hx rfl (hb hby d12_0) rfl rfl kgo) ?_
  obtain ⟨T1, X1, e1, st1⟩ := initO X0 hx hZ hown (hw _ (List.mem_of_getElem? (i := 75) rfl)) (hw _ (List.mem_of_getElem? (i := 15) rfl)) (hw _ (List.mem_of_getElem? (i := 16) rfl)) e0 (g := (mkF m 1 #[.val (.ref o0)] [(.ref o0)])) rfl (by rw [hml]; rfl) rfl (hb hby d12_1) (by decide) (W := 0) (by show 2 * 0 + _ ≤ _; exact Nat.le_of_eq rfl) (by decide)
  refine own_go (g' := (mkF m 4 #[.val (.ref o0)] [])) (st1) ?_
  refine own_retV X1 hx Bd.returns Bd.notSynchronized (hb hby d12_4) (by decide) (by decide) ?_
  show QQ _ T1.heap _
  rw [e1]
  rw [← hQQ]
  exact ⟨rfl, rfl, rfl⟩
theorem d11_0 : decode jdk_33_method_23_code 0 = .ok (.aload_n 0, 1) := by decide +kernel
theorem d11_1 : decode jdk_33_method_23_code 1 = .ok (.invokespecial 202, 3) := by decide +kernel
theorem d11_4 : decode jdk_33_method_23_code 4 = .ok (.aload_n 0, 1) := by decide +kernel
theorem d11_5 : decode jdk_33_method_23_code 5 = .ok (.iload_n 1, 1) := by decide +kernel
theorem d11_6 : decode jdk_33_method_23_code 6 = .ok (.putfield 205, 3) := by decide +kernel
theorem d11_9 : decode jdk_33_method_23_code 9 = .ok (.return_, 1) := by decide +kernel
theorem pn_rm11 : plainName "java/lang/Integer" = true := by first | (simp [plainName, overriddenIn]; done) | decide +kernel
theorem pd11_0 : parseMethodDescriptor "()V" = some ⟨[], none⟩ := by decide +kernel
theorem ef_rm11 (m : MethodId) (o0 : Addr) (p1 : Int32) : entryFrame m #[(.ref o0), (.int p1)] 2 = mkF m 0 #[.val (.ref o0), .val (.int p1)] [] := by first | (simp [entryFrame, mkF, argsToLocals, Value.category]; done) | rfl
set_option maxRecDepth 65536 in
set_option maxHeartbeats 40000000 in
theorem rm11 (l : Launch) (Z : State) (a0 : Array Value) (hw : ∀ d ∈ tables_1, d.before a0 Z = true) (o0 : Addr) (p1 : Int32)  (h0 : Heap) (n0 : Nat) (Z0 : n0 ≤ h0.size) (g_o0 : n0 ≤ o0) (P0 : Exa Z h0 o0 "java/lang/Integer") (P1 : Fld Z h0 o0 "java/lang/Integer" "value" "I" (.int (0 : Int32))) :
    own_Met l Z (⟨"java/lang/Integer", "<init>", "(I)V"⟩ : MethodName) jdk_33_method_23_code 2 none [] ({ frames := 2, cells := 0, slots := 0, locals := 24 } : Room) #[(.ref o0), (.int p1)] h0 0 0 (fun v h L => v = none ∧ Fr n0 L ∧ Keep h0 h [o0] ∧ Exa Z h o0 "java/lang/Integer") := by
  refine own_met (plainFor_of_name pn_rm11) ?_
  intro p e s m below meth c s₁ Bd hml0 hZ X0 e0
  have hx := Bd.exec
  have hby := Bd.bytes
  have hml : c.maxLocals = 2 := hml0
  have hown : s.vm.findClass "java/lang/Integer" = some m.cls := findClass_of_methodNamed Bd.named
  have hnm := (name_of_methodNamed Bd.named Bd.method).1
  refine own_cast (ef_rm11 m o0 p1) ?_
  generalize hQQ : (fun (v : Option Value) (h : Heap) (L : List Loc) => v = none ∧ Fr n0 L ∧ Keep h0 h [o0] ∧ Exa Z h o0 "java/lang/Integer") = QQ
  have N0 := Fr.nil n0
  have K0 := Keep.refl h0 [o0]
  refine own_go (g' := (mkF m 1 #[.val (.ref o0), .val (.int p1)] [(.ref o0)])) (fun _ kgo => XS.aloadN X0.here hx rfl (hb hby d11_0) rfl rfl kgo) ?_
  obtain ⟨v1, T1, L1, hQ1, X1, st1⟩ := own_callI X0 hx hZ (y := (⟨"java/lang/Number", "<init>", "()V"⟩ : MethodName)) rfl hown (hw _ (List.mem_of_getElem? (i := 69) rfl)) (hw _ (List.mem_of_getElem? (i := 70) rfl)) (hw _ (List.mem_of_getElem? (i := 73) rfl)) (hw _ (List.mem_of_getElem? (i := 74) rfl)) ⟨by decide, by decide⟩ (a := o0) (argsL := []) (rm12 l Z a0 hw o0 h0) e0 (g := (mkF m 1 #[.val (.ref o0), .val (.int p1)] [(.ref o0)])) rfl (by rw [hml]; rfl) (rest := []) (lenOf pd11_0 rfl) rfl (hb hby d11_1) (W := 0) (by show 2 * 0 + _ ≤ _; exact Nat.le_of_eq rfl) (by decide) (by decide) (by decide) (by decide)
  obtain ⟨rfl, e1, rfl⟩ := hQ1
  have N1 := Fr.app N0 (Fr.nil n0)
  refine own_go (g' := (mkF m 4 #[.val (.ref o0), .val (.int p1)] [])) (st1) ?_
  refine own_go (g' := (mkF m 5 #[.val (.ref o0), .val (.int p1)] [(.ref o0)])) (fun _ kgo => XS.aloadN X1.here hx rfl (hb hby d11_4) rfl rfl kgo) ?_
  refine own_go (g' := (mkF m 6 #[.val (.ref o0), .val (.int p1)] [(.int p1), (.ref o0)])) (fun _ kgo => XS.iloadN X1.here hx rfl (hb hby d11_5) rfl kgo) ?_
  obtain ⟨T2, h2, X2, e2, W2, st2⟩ := putF X1 hx hZ hown (host := "") (Or.inl (hw _ (List.mem_of_getElem? (i := 76) rfl))) Via.refl e1 P1 P0 (Or.inr ⟨(hw _ (List.mem_of_getElem? (i := 77) rfl)), rfl, hnm⟩) (hw _ (List.mem_of_getElem? (i := 64) rfl)) (ty := .int) (by decide) rfl rfl (g := (mkF m 6 #[.val (.ref o0), .val (.int p1)] [(.int p1), (.ref o0)])) rfl rfl (hb hby d11_6)
  have w2 := Fld.same W2 P1
  have N2 := Fr.snoc X2 N1 g_o0
  have Z2 : n0 ≤ h2.size := by rw [W2.size]; exact Z0
  have K2 : Keep h0 h2 [o0] := K0.wr W2 (Or.inl (List.mem_of_getElem? (i := 0) rfl))
  refine own_go (g' := (mkF m 9 #[.val (.ref o0), .val (.int p1)] [])) (st2) ?_
  refine own_retV X2 hx Bd.returns Bd.notSynchronized (hb hby d11_9) (by decide) (by decide) ?_
  show QQ _ T2.heap _
  rw [e2]
  have fx3 : Exa Z h2 o0 "java/lang/Integer" := (Exa.wr W2 P0)
  rw [← hQQ]
  exact ⟨rfl, N2, K2, fx3⟩
theorem d10_0 : decode jdk_33_method_22_code 0 = .ok (.iload_n 0, 1) := by decide +kernel
theorem d10_1 : decode jdk_33_method_22_code 1 = .ok (.bipush (-128), 2) := by decide +kernel
theorem d10_3 : decode jdk_33_method_22_code 3 = .ok (.if_icmp .lt 20, 3) := by decide +kernel
theorem d10_6 : decode jdk_33_method_22_code 6 = .ok (.iload_n 0, 1) := by decide +kernel
theorem d10_7 : decode jdk_33_method_22_code 7 = .ok (.getstatic 191, 3) := by decide +kernel
theorem d10_10 : decode jdk_33_method_22_code 10 = .ok (.if_icmp .gt 13, 3) := by decide +kernel
theorem d10_13 : decode jdk_33_method_22_code 13 = .ok (.getstatic 195, 3) := by decide +kernel
theorem d10_16 : decode jdk_33_method_22_code 16 = .ok (.iload_n 0, 1) := by decide +kernel
theorem d10_17 : decode jdk_33_method_22_code 17 = .ok (.sipush 128, 3) := by decide +kernel
theorem d10_20 : decode jdk_33_method_22_code 20 = .ok (.iadd, 1) := by decide +kernel
theorem d10_21 : decode jdk_33_method_22_code 21 = .ok (.aaload, 1) := by decide +kernel
theorem d10_22 : decode jdk_33_method_22_code 22 = .ok (.areturn, 1) := by decide +kernel
theorem d10_23 : decode jdk_33_method_22_code 23 = .ok (.new 1, 3) := by decide +kernel
theorem d10_26 : decode jdk_33_method_22_code 26 = .ok (.dup, 1) := by decide +kernel
theorem d10_27 : decode jdk_33_method_22_code 27 = .ok (.iload_n 0, 1) := by decide +kernel
theorem d10_28 : decode jdk_33_method_22_code 28 = .ok (.invokespecial 199, 3) := by decide +kernel
theorem d10_31 : decode jdk_33_method_22_code 31 = .ok (.areturn, 1) := by decide +kernel
theorem pn_rm10 : plainName "java/lang/Integer" = true := by first | (simp [plainName, overriddenIn]; done) | decide +kernel
theorem pd10_0 : parseMethodDescriptor "(I)V" = some ⟨[.int], none⟩ := by decide +kernel
theorem ef_rm10 (m : MethodId) (p0 : Int32) : entryFrame m #[(.int p0)] 1 = mkF m 0 #[.val (.int p0)] [] := by first | (simp [entryFrame, mkF, argsToLocals, Value.category]; done) | rfl
set_option maxRecDepth 65536 in
set_option maxHeartbeats 40000000 in
theorem rm10 (l : Launch) (Z : State) (a0 : Array Value) (hw : ∀ d ∈ tables_1, d.before a0 Z = true) (p0 : Int32) (ca : Addr) (cl : Cell) (h0 : Heap) (n0 : Nat) (Z0 : n0 ≤ h0.size) (P0 : Sta Z h0 "java/lang/Integer$IntegerCache" "high" "I" (.int (127 : Int32))) (P1 : Sta Z h0 "java/lang/Integer$IntegerCache" "cache" "[Ljava/lang/Integer;" (.ref ca)) (har : Arr Z h0 ca cl (.object "java/lang/Integer")) (hsz : cl.slots.size = 256) (hel : ∀ j, j < 256 → ∃ a, cl.slots[j]? = some (.ref a) ∧ Exa Z h0 a "java/lang/Integer") :
    own_Met l Z (⟨"java/lang/Integer", "valueOf", "(I)Ljava/lang/Integer;"⟩ : MethodName) jdk_33_method_22_code 1 (some (.object "java/lang/Integer")) [] ({ frames := 3, cells := 1, slots := 1, locals := 38 } : Room) #[(.int p0)] h0 1 1 (fun v h L => ∃ (r : Addr), v = some (.ref r) ∧ Fr n0 L ∧ Keep h0 h [] ∧ Exa Z h r "java/lang/Integer") := by
  refine own_met (plainFor_of_name pn_rm10) ?_
  intro p e s m below meth c s₁ Bd hml0 hZ X0 e0
  have hx := Bd.exec
  have hby := Bd.bytes
  have hml : c.maxLocals = 1 := hml0
  have hown : s.vm.findClass "java/lang/Integer" = some m.cls := findClass_of_methodNamed Bd.named
  have hnm := (name_of_methodNamed Bd.named Bd.method).1
  refine own_cast (ef_rm10 m p0) ?_
  generalize hQQ : (fun (v : Option Value) (h : Heap) (L : List Loc) => ∃ (r : Addr), v = some (.ref r) ∧ Fr n0 L ∧ Keep h0 h [] ∧ Exa Z h r "java/lang/Integer") = QQ
  have N0 := Fr.nil n0
  have K0 := Keep.refl h0 []
  refine own_go (g' := (mkF m 1 #[.val (.int p0)] [(.int p0)])) (fun _ kgo => XS.iloadN X0.here hx rfl (hb hby d10_0) rfl kgo) ?_
  refine own_go (g' := (mkF m 3 #[.val (.int p0)] [(.int (-128 : Int32)), (.int p0)])) (fun _ kgo => XS.bipush X0.here hx rfl (hb hby d10_1) kgo) ?_
  by_cases hc1 : p0 < (-128 : Int32)
  ·
    refine own_go (g' := (mkF m 23 #[.val (.int p0)] [])) (fun _ kgo => XS.icmpYes X0.here hx rfl (pc0 := 3) (pc' := 23) rfl (hb hby d10_3) rfl (tlt hc1).1 (by decide) (by decide) kgo) ?_
    obtain ⟨T2, h2, X2, e2, E2, A2, D2, -, st2⟩ := newO X0 hx hZ hown (hw _ (List.mem_of_getElem? (i := 63) rfl)) (hw _ (List.mem_of_getElem? (i := 64) rfl)) (hw _ (List.mem_of_getElem? (i := 22) rfl)) e0 (g := (mkF m 23 #[.val (.int p0)] [])) rfl (hb hby d10_23) (by decide) (by decide)
    obtain ⟨b2, ad2⟩ : ∃ z, z = h0.size := ⟨_, rfl⟩
    rw [← ad2] at A2 D2 st2
    have ge_b2 : n0 ≤ b2 := by rw [ad2]; exact Z0
    have sz_b2 : h0.size ≤ b2 := by rw [ad2]; exact K0.1
    have Z2 : n0 ≤ h2.size := Nat.le_trans Z0 E2.1
    have K2 : Keep h0 h2 [] := K0.ext E2
    have F2_value : Fld Z h2 b2 "java/lang/Integer" "value" "I" (.int (0 : Int32)) := D2 (Or.inr (hw _ (List.mem_of_getElem? (i := 77) rfl))) (ty := .int) (by decide)
    refine own_go (g' := (mkF m 26 #[.val (.int p0)] [(.ref b2)])) (st2) ?_
    refine own_go (g' := (mkF m 27 #[.val (.int p0)] [(.ref b2), (.ref b2)])) (fun _ kgo => XS.dup X2.here hx rfl (hb hby d10_26) rfl rfl kgo) ?_
    refine own_go (g' := (mkF m 28 #[.val (.int p0)] [(.int p0), (.ref b2), (.ref b2)])) (fun _ kgo => XS.iloadN X2.here hx rfl (hb hby d10_27) rfl kgo) ?_
    obtain ⟨v3, T3, L3, hQ3, X3, st3⟩ := own_callI X2 hx hZ (y := (⟨"java/lang/Integer", "<init>", "(I)V"⟩ : MethodName)) rfl hown (hw _ (List.mem_of_getElem? (i := 65) rfl)) (hw _ (List.mem_of_getElem? (i := 66) rfl)) (hw _ (List.mem_of_getElem? (i := 22) rfl)) (hw _ (List.mem_of_getElem? (i := 68) rfl)) ⟨by decide, by decide⟩ (a := b2) (argsL := [(.int p0)]) (rm11 l Z a0 hw b2 p0 h2 n0 Z2 ge_b2 A2 F2_value) e2 (g := (mkF m 28 #[.val (.int p0)] [(.int p0), (.ref b2), (.ref b2)])) rfl (by rw [hml]; rfl) (rest := [(.ref b2)]) (lenOf pd10_0 rfl) rfl (hb hby d10_28) (W := 1) (by show 2 * 0 + _ ≤ _; exact Nat.le_of_eq rfl) (by decide) (by decide) (by decide) (by decide)
    obtain ⟨rfl, Nq3, Kq3, q3_0⟩ := hQ3
    have N3 := Fr.app N0 Nq3
    have Z3 : n0 ≤ T3.heap.size := Nat.le_trans Z2 Kq3.1
    have KK3 : Keep h0 T3.heap [] := K2.trans Kq3 (allS (Or.inr sz_b2) all0)
    refine own_go (g' := (mkF m 31 #[.val (.int p0)] [(.ref b2)])) (st3) ?_
    refine own_retA X3 hx Bd.returns Bd.notSynchronized rfl rfl (hb hby d10_31) (by decide) (by decide) ?_
    show QQ _ T3.heap _
    rw [← hQQ]
    exact ⟨b2, rfl, N3, KK3, q3_0⟩
  ·
    refine own_go (g' := (mkF m 6 #[.val (.int p0)] [])) (fun _ kgo => XS.icmpNo X0.here hx rfl (hb hby d10_3) rfl (flt hc1).1 kgo) ?_
    refine own_go (g' := (mkF m 7 #[.val (.int p0)] [(.int p0)])) (fun _ kgo => XS.iloadN X0.here hx rfl (hb hby d10_6) rfl kgo) ?_
    obtain ⟨T4, X4, e4, st4⟩ := getS2 X0 hx hZ hown (host := "") (Or.inl (hw _ (List.mem_of_getElem? (i := 57) rfl))) Via.refl e0 P0 (g := (mkF m 7 #[.val (.int p0)] [(.int p0)])) rfl (hb hby d10_7)
    refine own_go (g' := (mkF m 10 #[.val (.int p0)] [(.int (127 : Int32)), (.int p0)])) (st4) ?_
    by_cases hc5 : (127 : Int32) < p0
    ·
      refine own_go (g' := (mkF m 23 #[.val (.int p0)] [])) (fun _ kgo => XS.icmpYes X4.here hx rfl (pc0 := 10) (pc' := 23) rfl (hb hby d10_10) rfl (tlt hc5).2.2.1 (by decide) (by decide) kgo) ?_
      obtain ⟨T6, h6, X6, e6, E6, A6, D6, -, st6⟩ := newO X4 hx hZ hown (hw _ (List.mem_of_getElem? (i := 63) rfl)) (hw _ (List.mem_of_getElem? (i := 64) rfl)) (hw _ (List.mem_of_getElem? (i := 22) rfl)) e4 (g := (mkF m 23 #[.val (.int p0)] [])) rfl (hb hby d10_23) (by decide) (by decide)
      obtain ⟨b6, ad6⟩ : ∃ z, z = h0.size := ⟨_, rfl⟩
      rw [← ad6] at A6 D6 st6
      have ge_b6 : n0 ≤ b6 := by rw [ad6]; exact Z0
      have sz_b6 : h0.size ≤ b6 := by rw [ad6]; exact K0.1
      have Z6 : n0 ≤ h6.size := Nat.le_trans Z0 E6.1
      have K6 : Keep h0 h6 [] := K0.ext E6
      have F6_value : Fld Z h6 b6 "java/lang/Integer" "value" "I" (.int (0 : Int32)) := D6 (Or.inr (hw _ (List.mem_of_getElem? (i := 77) rfl))) (ty := .int) (by decide)
      refine own_go (g' := (mkF m 26 #[.val (.int p0)] [(.ref b6)])) (st6) ?_
      refine own_go (g' := (mkF m 27 #[.val (.int p0)] [(.ref b6), (.ref b6)])) (fun _ kgo => XS.dup X6.here hx rfl (hb hby d10_26) rfl rfl kgo) ?_
      refine own_go (g' := (mkF m 28 #[.val (.int p0)] [(.int p0), (.ref b6), (.ref b6)])) (fun _ kgo => XS.iloadN X6.here hx rfl (hb hby d10_27) rfl kgo) ?_
      obtain ⟨v7, T7, L7, hQ7, X7, st7⟩ := own_callI X6 hx hZ (y := (⟨"java/lang/Integer", "<init>", "(I)V"⟩ : MethodName)) rfl hown (hw _ (List.mem_of_getElem? (i := 65) rfl)) (hw _ (List.mem_of_getElem? (i := 66) rfl)) (hw _ (List.mem_of_getElem? (i := 22) rfl)) (hw _ (List.mem_of_getElem? (i := 68) rfl)) ⟨by decide, by decide⟩ (a := b6) (argsL := [(.int p0)]) (rm11 l Z a0 hw b6 p0 h6 n0 Z6 ge_b6 A6 F6_value) e6 (g := (mkF m 28 #[.val (.int p0)] [(.int p0), (.ref b6), (.ref b6)])) rfl (by rw [hml]; rfl) (rest := [(.ref b6)]) (lenOf pd10_0 rfl) rfl (hb hby d10_28) (W := 1) (by show 2 * 0 + _ ≤ _; exact Nat.le_of_eq rfl) (by decide) (by decide) (by decide) (by decide)
      obtain ⟨rfl, Nq7, Kq7, q7_0⟩ := hQ7
      have N7 := Fr.app N0 Nq7
      have Z7 : n0 ≤ T7.heap.size := Nat.le_trans Z6 Kq7.1
      have KK7 : Keep h0 T7.heap [] := K6.trans Kq7 (allS (Or.inr sz_b6) all0)
      refine own_go (g' := (mkF m 31 #[.val (.int p0)] [(.ref b6)])) (st7) ?_
      refine own_retA X7 hx Bd.returns Bd.notSynchronized rfl rfl (hb hby d10_31) (by decide) (by decide) ?_
      show QQ _ T7.heap _
      rw [← hQQ]
      exact ⟨b6, rfl, N7, KK7, q7_0⟩
    ·
      refine own_go (g' := (mkF m 13 #[.val (.int p0)] [])) (fun _ kgo => XS.icmpNo X4.here hx rfl (hb hby d10_10) rfl (flt hc5).2.2.1 kgo) ?_
      obtain ⟨T8, X8, e8, st8⟩ := getS2 X4 hx hZ hown (host := "") (Or.inl (hw _ (List.mem_of_getElem? (i := 59) rfl))) Via.refl e4 P1 (g := (mkF m 13 #[.val (.int p0)] [])) rfl (hb hby d10_13)
      refine own_go (g' := (mkF m 16 #[.val (.int p0)] [(.ref ca)])) (st8) ?_
      refine own_go (g' := (mkF m 17 #[.val (.int p0)] [(.int p0), (.ref ca)])) (fun _ kgo => XS.iloadN X8.here hx rfl (hb hby d10_16) rfl kgo) ?_
      refine own_go (g' := (mkF m 20 #[.val (.int p0)] [(.int (128 : Int32)), (.int p0), (.ref ca)])) (fun _ kgo => XS.sipush X8.here hx rfl (hb hby d10_17) kgo) ?_
      refine own_go (g' := (mkF m 21 #[.val (.int p0)] [(.int (p0 + (128 : Int32))), (.ref ca)])) (fun _ kgo => XS.iadd X8.here hx rfl (hb hby d10_20) rfl kgo) ?_
      have hji : (p0 + (128 : Int32)).toInt = p0.toInt + 128 := by have q := c_iadd p0 (128 : Int32); have r := rng32 (p0 + (128 : Int32)); have t := rng32 p0; simp only [Int32.lt_iff_toInt_lt, Int32.reduceToInt] at hc1 hc5 q; omega
      have hin : ¬ ((p0 + (128 : Int32)) < 0 ∨ cl.slots.size ≤ (p0 + (128 : Int32)).toNatClampNeg) := by simp only [Int32.lt_iff_toInt_lt, Int32.toNatClampNeg, hji, Int32.reduceToInt] at hc1 hc5 ⊢; omega
      obtain ⟨r, hr1, hr2⟩ := hel (p0 + (128 : Int32)).toNatClampNeg (by simp only [Int32.lt_iff_toInt_lt, Int32.toNatClampNeg, hji, Int32.reduceToInt] at hc1 hc5 ⊢; omega)
      refine own_go (g' := (mkF m 22 #[.val (.int p0)] [(.ref r)])) (X8.aaload hx (j := (p0 + (128 : Int32))) (v := (.ref r)) (by rw [e8]; exact har.1) (State.isArrayOf_alike hZ.alike har.2.1) rfl har.2.2 hin hr1 (g := (mkF m 21 #[.val (.int p0)] [(.int (p0 + (128 : Int32))), (.ref ca)])) rfl rfl (hb hby d10_21)) ?_
      refine own_retA X8 hx Bd.returns Bd.notSynchronized rfl rfl (hb hby d10_22) (by decide) (by decide) ?_
      show QQ _ T8.heap _
      rw [e8]
      rw [← hQQ]
      exact ⟨r, rfl, N0, K0, hr2⟩
theorem pn_rm0 : plainName "com/example/seenset/seenset/filter/StableParametersEqualsPinLaw" = true := by first | (simp [plainName, overriddenIn]; done) | decide +kernel
theorem pd0_0 : parseMethodDescriptor "(JJ)J" = some ⟨[.long, .long], some .long⟩ := by decide +kernel
theorem pd0_1 : parseMethodDescriptor "(JIII)V" = some ⟨[.long, .int, .int, .int], none⟩ := by decide +kernel
theorem pd0_2 : parseMethodDescriptor "(J)Lcom/example/seenset/seenset/filter/StableParameters;" = some ⟨[.long], some (.object "com/example/seenset/seenset/filter/StableParameters")⟩ := by decide +kernel
theorem pd0_3 : parseMethodDescriptor "(Ljava/lang/Object;)Z" = some ⟨[(.object "java/lang/Object")], some .boolean⟩ := by decide +kernel
theorem pd0_4 : parseMethodDescriptor "(I)Ljava/lang/Integer;" = some ⟨[.int], some (.object "java/lang/Integer")⟩ := by decide +kernel
theorem ef_rm0 (m : MethodId) (q0 : Int64) (q1 : Int64) (p2 : Int32) (p3 : Int32) (q4 : Int64) (q5 : Int64) : entryFrame m #[(.long q0), (.long q1), (.int p2), (.int p3), (.long q4), (.long q5)] maxLocals = mkF m 0 #[.val (.long q0), .second, .val (.long q1), .second, .val (.int p2), .val (.int p3), .val (.long q4), .second, .val (.long q5), .second, .unset, .unset, .unset, .unset, .unset, .unset, .unset, .unset, .unset, .unset, .unset, .unset, .unset, .unset, .unset, .unset, .unset, .unset, .unset, .unset, .unset, .unset] [] := by first | (simp [entryFrame, mkF, argsToLocals, Value.category, maxLocals]; done) | rfl
set_option maxRecDepth 65536 in
set_option maxHeartbeats 40000000 in
theorem rm0 (l : Launch) (Z : State) (a0 : Array Value) (hw : ∀ d ∈ tables_1, d.before a0 Z = true) (q0 : Int64) (q1 : Int64) (p2 : Int32) (p3 : Int32) (q4 : Int64) (q5 : Int64) (ca : Addr) (cl : Cell) (h0 : Heap) (n0 : Nat) (Z0 : n0 ≤ h0.size) (O0 : Old Z n0 h0) (S0 : Sta Z Z.heap "java/lang/Integer$IntegerCache" "high" "I" (.int (127 : Int32))) (S1 : Sta Z Z.heap "java/lang/Integer$IntegerCache" "cache" "[Ljava/lang/Integer;" (.ref ca)) (har : Arr Z Z.heap ca cl (.object "java/lang/Integer")) (hsz : cl.slots.size = 256) (hel : ∀ j, j < 256 → ∃ a, cl.slots[j]? = some (.ref a) ∧ Exa Z Z.heap a "java/lang/Integer") :
    own_Met l Z x code maxLocals ret tables_1 room_1 #[(.long q0), (.long q1), (.int p2), (.int p3), (.long q4), (.long q5)] h0 24 128 (fun v h L => v = some (.int 1) ∧ Fr n0 L) := by
  refine own_met (plainFor_of_name pn_rm0) ?_
  intro p e s m below meth c s₁ Bd hml0 hZ X0 e0
  have hx := Bd.exec
  have hby := Bd.bytes
  have hml : c.maxLocals = 32 := hml0
  have hown : s.vm.findClass "com/example/seenset/seenset/filter/StableParametersEqualsPinLaw" = some m.cls := findClass_of_methodNamed Bd.named
  have hnm := (name_of_methodNamed Bd.named Bd.method).1
  refine own_cast (ef_rm0 m q0 q1 p2 p3 q4 q5) ?_
  generalize hQQ : (fun (v : Option Value) (h : Heap) (L : List Loc) => v = some (.int 1) ∧ Fr n0 L) = QQ
  have N0 := Fr.nil n0
  refine own_go (g' := (mkF m 1 #[.val (.long q0), .second, .val (.long q1), .second, .val (.int p2), .val (.int p3), .val (.long q4), .second, .val (.long q5), .second, .unset, .unset, .unset, .unset, .unset, .unset, .unset, .unset, .unset, .unset, .unset, .unset, .unset, .unset, .unset, .unset, .unset, .unset, .unset, .unset, .unset, .unset] [(.long (1 : Int64))])) (fun _ kgo => XS.lconst X0.here hx rfl (hb hby at_0) kgo) ?_
  refine own_go (g' := (mkF m 2 #[.val (.long q0), .second, .val (.long q1), .second, .val (.int p2), .val (.int p3), .val (.long q4), .second, .val (.long q5), .second, .unset, .unset, .unset, .unset, .unset, .unset, .unset, .unset, .unset, .unset, .unset, .unset, .unset, .unset, .unset, .unset, .unset, .unset, .unset, .unset, .unset, .unset] [(.long q0), (.long (1 : Int64))])) (fun _ kgo => XS.lloadN X0.here hx rfl (hb hby at_1) rfl kgo) ?_
  refine own_go (g' := (mkF m 5 #[.val (.long q0), .second, .val (.long q1), .second, .val (.int p2), .val (.int p3), .val (.long q4), .second, .val (.long q5), .second, .unset, .unset, .unset, .unset, .unset, .unset, .unset, .unset, .unset, .unset, .unset, .unset, .unset, .unset, .unset, .unset, .unset, .unset, .unset, .unset, .unset, .unset] [(.long (17179869183 : Int64)), (.long q0), (.long (1 : Int64))])) (X0.ldc2Long hx hown (mvT hZ (hw _ (List.mem_of_getElem? (i := 0) rfl))) (g := (mkF m 2 #[.val (.long q0), .second, .val (.long q1), .second, .val (.int p2), .val (.int p3), .val (.long q4), .second, .val (.long q5), .second, .unset, .unset, .unset, .unset, .unset, .unset, .unset, .unset, .unset, .unset, .unset, .unset, .unset, .unset, .unset, .unset, .unset, .unset, .unset, .unset, .unset, .unset] [(.long q0), (.long (1 : Int64))])) rfl (hb hby at_2)) ?_
  refine own_go (g' := (mkF m 6 #[.val (.long q0), .second, .val (.long q1), .second, .val (.int p2), .val (.int p3), .val (.long q4), .second, .val (.long q5), .second, .unset, .unset, .unset, .unset, .unset, .unset, .unset, .unset, .unset, .unset, .unset, .unset, .unset, .unset, .unset, .unset, .unset, .unset, .unset, .unset, .unset, .unset] [(.long (q0 &&& (17179869183 : Int64))), (.long (1 : Int64))])) (fun _ kgo => XS.land X0.here hx rfl (hb hby at_5) rfl kgo) ?_
  refine own_go (g' := (mkF m 7 #[.val (.long q0), .second, .val (.long q1), .second, .val (.int p2), .val (.int p3), .val (.long q4), .second, .val (.long q5), .second, .unset, .unset, .unset, .unset, .unset, .unset, .unset, .unset, .unset, .unset, .unset, .unset, .unset, .unset, .unset, .unset, .unset, .unset, .unset, .unset, .unset, .unset] [(.long ((1 : Int64) + (q0 &&& (17179869183 : Int64))))])) (fun _ kgo => XS.ladd X0.here hx rfl (hb hby at_6) rfl kgo) ?_
  have hclA := own_cells q0
  suffices JNecA : ∀ cA : Int64, cA = ((1 : Int64) + (q0 &&& (17179869183 : Int64))) → own_Go p e below (own_Post s QQ 24 128) s₁ (mkF m 7 #[.val (.long q0), .second, .val (.long q1), .second, .val (.int p2), .val (.int p3), .val (.long q4), .second, .val (.long q5), .second, .unset, .unset, .unset, .unset, .unset, .unset, .unset, .unset, .unset, .unset, .unset, .unset, .unset, .unset, .unset, .unset, .unset, .unset, .unset, .unset, .unset, .unset] [(.long cA)]) from JNecA _ (rfl)
  intro cA ecA
  rw [← ecA] at hclA
  refine own_go (g' := (mkF m 9 #[.val (.long q0), .second, .val (.long q1), .second, .val (.int p2), .val (.int p3), .val (.long q4), .second, .val (.long q5), .second, .val (.long cA), .second, .unset, .unset, .unset, .unset, .unset, .unset, .unset, .unset, .unset, .unset, .unset, .unset, .unset, .unset, .unset, .unset, .unset, .unset, .unset, .unset] [])) (fun _ kgo => XS.lstore X0.here hx rfl (hb hby at_7) rfl (l' := #[.val (.long q0), .second, .val (.long q1), .second, .val (.int p2), .val (.int p3), .val (.long q4), .second, .val (.long q5), .second, .val (.long cA), .second, .unset, .unset, .unset, .unset, .unset, .unset, .unset, .unset, .unset, .unset, .unset, .unset, .unset, .unset, .unset, .unset, .unset, .unset, .unset, .unset]) rfl kgo) ?_
  refine own_go (g' := (mkF m 10 #[.val (.long q0), .second, .val (.long q1), .second, .val (.int p2), .val (.int p3), .val (.long q4), .second, .val (.long q5), .second, .val (.long cA), .second, .unset, .unset, .unset, .unset, .unset, .unset, .unset, .unset, .unset, .unset, .unset, .unset, .unset, .unset, .unset, .unset, .unset, .unset, .unset, .unset] [(.int (1 : Int32))])) (fun _ kgo => XS.iconst X0.here hx rfl (hb hby at_9) kgo) ?_
  refine own_go (g' := (mkF m 11 #[.val (.long q0), .second, .val (.long q1), .second, .val (.int p2), .val (.int p3), .val (.long q4), .second, .val (.long q5), .second, .val (.long cA), .second, .unset, .unset, .unset, .unset, .unset, .unset, .unset, .unset, .unset, .unset, .unset, .unset, .unset, .unset, .unset, .unset, .unset, .unset, .unset, .unset] [(.int (1 : Int32)), (.int (1 : Int32))])) (fun _ kgo => XS.iconst X0.here hx rfl (hb hby at_10) kgo) ?_
  refine own_go (g' := (mkF m 13 #[.val (.long q0), .second, .val (.long q1), .second, .val (.int p2), .val (.int p3), .val (.long q4), .second, .val (.long q5), .second, .val (.long cA), .second, .unset, .unset, .unset, .unset, .unset, .unset, .unset, .unset, .unset, .unset, .unset, .unset, .unset, .unset, .unset, .unset, .unset, .unset, .unset, .unset] [(.int p2), (.int (1 : Int32)), (.int (1 : Int32))])) (fun _ kgo => XS.iload X0.here hx rfl (hb hby at_11) rfl kgo) ?_
  refine own_go (g' := (mkF m 14 #[.val (.long q0), .second, .val (.long q1), .second, .val (.int p2), .val (.int p3), .val (.long q4), .second, .val (.long q5), .second, .val (.long cA), .second, .unset, .unset, .unset, .unset, .unset, .unset, .unset, .unset, .unset, .unset, .unset, .unset, .unset, .unset, .unset, .unset, .unset, .unset, .unset, .unset] [(.int (3 : Int32)), (.int p2), (.int (1 : Int32)), (.int (1 : Int32))])) (fun _ kgo => XS.iconst X0.here hx rfl (hb hby at_13) kgo) ?_
  refine own_go (g' := (mkF m 15 #[.val (.long q0), .second, .val (.long q1), .second, .val (.int p2), .val (.int p3), .val (.long q4), .second, .val (.long q5), .second, .val (.long cA), .second, .unset, .unset, .unset, .unset, .unset, .unset, .unset, .unset, .unset, .unset, .unset, .unset, .unset, .unset, .unset, .unset, .unset, .unset, .unset, .unset] [(.int (p2 &&& (3 : Int32))), (.int (1 : Int32)), (.int (1 : Int32))])) (fun _ kgo => XS.iand X0.here hx rfl (hb hby at_14) rfl kgo) ?_
  refine own_go (g' := (mkF m 16 #[.val (.long q0), .second, .val (.long q1), .second, .val (.int p2), .val (.int p3), .val (.long q4), .second, .val (.long q5), .second, .val (.long cA), .second, .unset, .unset, .unset, .unset, .unset, .unset, .unset, .unset, .unset, .unset, .unset, .unset, .unset, .unset, .unset, .unset, .unset, .unset, .unset, .unset] [(.int ((1 : Int32) + (p2 &&& (3 : Int32)))), (.int (1 : Int32))])) (fun _ kgo => XS.iadd X0.here hx rfl (hb hby at_15) rfl kgo) ?_
  refine own_go (g' := (mkF m 17 #[.val (.long q0), .second, .val (.long q1), .second, .val (.int p2), .val (.int p3), .val (.long q4), .second, .val (.long q5), .second, .val (.long cA), .second, .unset, .unset, .unset, .unset, .unset, .unset, .unset, .unset, .unset, .unset, .unset, .unset, .unset, .unset, .unset, .unset, .unset, .unset, .unset, .unset] [(.int ((1 : Int32) <<< (((1 : Int32) + (p2 &&& (3 : Int32))) &&& 31)))])) (fun _ kgo => XS.ishl X0.here hx rfl (hb hby at_16) rfl kgo) ?_
  refine own_go (g' := (mkF m 18 #[.val (.long q0), .second, .val (.long q1), .second, .val (.int p2), .val (.int p3), .val (.long q4), .second, .val (.long q5), .second, .val (.long cA), .second, .unset, .unset, .unset, .unset, .unset, .unset, .unset, .unset, .unset, .unset, .unset, .unset, .unset, .unset, .unset, .unset, .unset, .unset, .unset, .unset] [(.int (1 : Int32)), (.int ((1 : Int32) <<< (((1 : Int32) + (p2 &&& (3 : Int32))) &&& 31)))])) (fun _ kgo => XS.iconst X0.here hx rfl (hb hby at_17) kgo) ?_
  refine own_go (g' := (mkF m 19 #[.val (.long q0), .second, .val (.long q1), .second, .val (.int p2), .val (.int p3), .val (.long q4), .second, .val (.long q5), .second, .val (.long cA), .second, .unset, .unset, .unset, .unset, .unset, .unset, .unset, .unset, .unset, .unset, .unset, .unset, .unset, .unset, .unset, .unset, .unset, .unset, .unset, .unset] [(.int (((1 : Int32) <<< (((1 : Int32) + (p2 &&& (3 : Int32))) &&& 31)) - (1 : Int32)))])) (fun _ kgo => XS.isub X0.here hx rfl (hb hby at_18) rfl kgo) ?_
  have hmxA := own_mx p2 _ rfl
  suffices JNemA : ∀ mA : Int32, mA = (((1 : Int32) <<< (((1 : Int32) + (p2 &&& (3 : Int32))) &&& 31)) - (1 : Int32)) → own_Go p e below (own_Post s QQ 24 128) s₁ (mkF m 19 #[.val (.long q0), .second, .val (.long q1), .second, .val (.int p2), .val (.int p3), .val (.long q4), .second, .val (.long q5), .second, .val (.long cA), .second, .unset, .unset, .unset, .unset, .unset, .unset, .unset, .unset, .unset, .unset, .unset, .unset, .unset, .unset, .unset, .unset, .unset, .unset, .unset, .unset] [(.int mA)]) from JNemA _ (rfl)
  intro mA emA
  rw [← emA] at hmxA
  refine own_go (g' := (mkF m 21 #[.val (.long q0), .second, .val (.long q1), .second, .val (.int p2), .val (.int p3), .val (.long q4), .second, .val (.long q5), .second, .val (.long cA), .second, .val (.int mA), .unset, .unset, .unset, .unset, .unset, .unset, .unset, .unset, .unset, .unset, .unset, .unset, .unset, .unset, .unset, .unset, .unset, .unset, .unset] [])) (fun _ kgo => XS.istore X0.here hx rfl (hb hby at_19) rfl (l' := #[.val (.long q0), .second, .val (.long q1), .second, .val (.int p2), .val (.int p3), .val (.long q4), .second, .val (.long q5), .second, .val (.long cA), .second, .val (.int mA), .unset, .unset, .unset, .unset, .unset, .unset, .unset, .unset, .unset, .unset, .unset, .unset, .unset, .unset, .unset, .unset, .unset, .unset, .unset]) rfl kgo) ?_
  refine own_go (g' := (mkF m 22 #[.val (.long q0), .second, .val (.long q1), .second, .val (.int p2), .val (.int p3), .val (.long q4), .second, .val (.long q5), .second, .val (.long cA), .second, .val (.int mA), .unset, .unset, .unset, .unset, .unset, .unset, .unset, .unset, .unset, .unset, .unset, .unset, .unset, .unset, .unset, .unset, .unset, .unset, .unset] [(.long (1 : Int64))])) (fun _ kgo => XS.lconst X0.here hx rfl (hb hby at_21) kgo) ?_
  refine own_go (g' := (mkF m 24 #[.val (.long q0), .second, .val (.long q1), .second, .val (.int p2), .val (.int p3), .val (.long q4), .second, .val (.long q5), .second, .val (.long cA), .second, .val (.int mA), .unset, .unset, .unset, .unset, .unset, .unset, .unset, .unset, .unset, .unset, .unset, .unset, .unset, .unset, .unset, .unset, .unset, .unset, .unset] [(.int p2), (.long (1 : Int64))])) (fun _ kgo => XS.iload X0.here hx rfl (hb hby at_22) rfl kgo) ?_
  refine own_go (g' := (mkF m 25 #[.val (.long q0), .second, .val (.long q1), .second, .val (.int p2), .val (.int p3), .val (.long q4), .second, .val (.long q5), .second, .val (.long cA), .second, .val (.int mA), .unset, .unset, .unset, .unset, .unset, .unset, .unset, .unset, .unset, .unset, .unset, .unset, .unset, .unset, .unset, .unset, .unset, .unset, .unset] [(.int (4 : Int32)), (.int p2), (.long (1 : Int64))])) (fun _ kgo => XS.iconst X0.here hx rfl (hb hby at_24) kgo) ?_
  refine own_go (g' := (mkF m 26 #[.val (.long q0), .second, .val (.long q1), .second, .val (.int p2), .val (.int p3), .val (.long q4), .second, .val (.long q5), .second, .val (.long cA), .second, .val (.int mA), .unset, .unset, .unset, .unset, .unset, .unset, .unset, .unset, .unset, .unset, .unset, .unset, .unset, .unset, .unset, .unset, .unset, .unset, .unset] [(.int ((p2.toUInt32 >>> ((4 : Int32) &&& 31).toUInt32).toInt32)), (.long (1 : Int64))])) (fun _ kgo => XS.iushr X0.here hx rfl (hb hby at_25) rfl kgo) ?_
  refine own_go (g' := (mkF m 28 #[.val (.long q0), .second, .val (.long q1), .second, .val (.int p2), .val (.int p3), .val (.long q4), .second, .val (.long q5), .second, .val (.long cA), .second, .val (.int mA), .unset, .unset, .unset, .unset, .unset, .unset, .unset, .unset, .unset, .unset, .unset, .unset, .unset, .unset, .unset, .unset, .unset, .unset, .unset] [(.int (63 : Int32)), (.int ((p2.toUInt32 >>> ((4 : Int32) &&& 31).toUInt32).toInt32)), (.long (1 : Int64))])) (fun _ kgo => XS.bipush X0.here hx rfl (hb hby at_26) kgo) ?_
  refine own_go (g' := (mkF m 29 #[.val (.long q0), .second, .val (.long q1), .second, .val (.int p2), .val (.int p3), .val (.long q4), .second, .val (.long q5), .second, .val (.long cA), .second, .val (.int mA), .unset, .unset, .unset, .unset, .unset, .unset, .unset, .unset, .unset, .unset, .unset, .unset, .unset, .unset, .unset, .unset, .unset, .unset, .unset] [(.int (((p2.toUInt32 >>> ((4 : Int32) &&& 31).toUInt32).toInt32) &&& (63 : Int32))), (.long (1 : Int64))])) (fun _ kgo => XS.iand X0.here hx rfl (hb hby at_28) rfl kgo) ?_
  refine own_go (g' := (mkF m 30 #[.val (.long q0), .second, .val (.long q1), .second, .val (.int p2), .val (.int p3), .val (.long q4), .second, .val (.long q5), .second, .val (.long cA), .second, .val (.int mA), .unset, .unset, .unset, .unset, .unset, .unset, .unset, .unset, .unset, .unset, .unset, .unset, .unset, .unset, .unset, .unset, .unset, .unset, .unset] [(.long ((((p2.toUInt32 >>> ((4 : Int32) &&& 31).toUInt32).toInt32) &&& (63 : Int32)).toInt64)), (.long (1 : Int64))])) (fun _ kgo => XS.i2l X0.here hx rfl (hb hby at_29) rfl kgo) ?_
  refine own_go (g' := (mkF m 31 #[.val (.long q0), .second, .val (.long q1), .second, .val (.int p2), .val (.int p3), .val (.long q4), .second, .val (.long q5), .second, .val (.long cA), .second, .val (.int mA), .unset, .unset, .unset, .unset, .unset, .unset, .unset, .unset, .unset, .unset, .unset, .unset, .unset, .unset, .unset, .unset, .unset, .unset, .unset] [(.long ((1 : Int64) + ((((p2.toUInt32 >>> ((4 : Int32) &&& 31).toUInt32).toInt32) &&& (63 : Int32)).toInt64)))])) (fun _ kgo => XS.ladd X0.here hx rfl (hb hby at_30) rfl kgo) ?_
  refine own_go (g' := (mkF m 33 #[.val (.long q0), .second, .val (.long q1), .second, .val (.int p2), .val (.int p3), .val (.long q4), .second, .val (.long q5), .second, .val (.long cA), .second, .val (.int mA), .unset, .unset, .unset, .unset, .unset, .unset, .unset, .unset, .unset, .unset, .unset, .unset, .unset, .unset, .unset, .unset, .unset, .unset, .unset] [(.long cA), (.long ((1 : Int64) + ((((p2.toUInt32 >>> ((4 : Int32) &&& 31).toUInt32).toInt32) &&& (63 : Int32)).toInt64)))])) (fun _ kgo => XS.lload X0.here hx rfl (hb hby at_31) rfl kgo) ?_
  obtain ⟨v1, T1, L1, hQ1, X1, st1⟩ := own_callS X0 hx hZ (y := (⟨"java/lang/Math", "min", "(JJ)J"⟩ : MethodName)) hown (hw _ (List.mem_of_getElem? (i := 1) rfl)) (hw _ (List.mem_of_getElem? (i := 2) rfl)) (hw _ (List.mem_of_getElem? (i := 3) rfl)) (hw _ (List.mem_of_getElem? (i := 4) rfl)) ⟨by decide, by decide⟩ (argsL := [(.long ((1 : Int64) + ((((p2.toUInt32 >>> ((4 : Int32) &&& 31).toUInt32).toInt32) &&& (63 : Int32)).toInt64))), (.long cA)]) (rm1 l Z a0 hw ((1 : Int64) + ((((p2.toUInt32 >>> ((4 : Int32) &&& 31).toUInt32).toInt32) &&& (63 : Int32)).toInt64)) cA h0) e0 (g := (mkF m 33 #[.val (.long q0), .second, .val (.long q1), .second, .val (.int p2), .val (.int p3), .val (.long q4), .second, .val (.long q5), .second, .val (.long cA), .second, .val (.int mA), .unset, .unset, .unset, .unset, .unset, .unset, .unset, .unset, .unset, .unset, .unset, .unset, .unset, .unset, .unset, .unset, .unset, .unset, .unset] [(.long cA), (.long ((1 : Int64) + ((((p2.toUInt32 >>> ((4 : Int32) &&& 31).toUInt32).toInt32) &&& (63 : Int32)).toInt64)))])) rfl (by rw [hml]; rfl) (rest := []) (lenOf pd0_0 rfl) rfl (hb hby at_33) (W := 0) (by show 2 * 0 + _ ≤ _; exact Nat.le_of_eq rfl) (by decide) (by decide) (by decide) (by decide)
  obtain ⟨rfl, e1, rfl⟩ := hQ1
  have N1 := Fr.app N0 (Fr.nil n0)
  refine own_go (g' := (mkF m 36 #[.val (.long q0), .second, .val (.long q1), .second, .val (.int p2), .val (.int p3), .val (.long q4), .second, .val (.long q5), .second, .val (.long cA), .second, .val (.int mA), .unset, .unset, .unset, .unset, .unset, .unset, .unset, .unset, .unset, .unset, .unset, .unset, .unset, .unset, .unset, .unset, .unset, .unset, .unset] [(.long (own_min ((1 : Int64) + ((((p2.toUInt32 >>> ((4 : Int32) &&& 31).toUInt32).toInt32) &&& (63 : Int32)).toInt64)) cA))])) (st1) ?_
  refine own_go (g' := (mkF m 37 #[.val (.long q0), .second, .val (.long q1), .second, .val (.int p2), .val (.int p3), .val (.long q4), .second, .val (.long q5), .second, .val (.long cA), .second, .val (.int mA), .unset, .unset, .unset, .unset, .unset, .unset, .unset, .unset, .unset, .unset, .unset, .unset, .unset, .unset, .unset, .unset, .unset, .unset, .unset] [(.int ((own_min ((1 : Int64) + ((((p2.toUInt32 >>> ((4 : Int32) &&& 31).toUInt32).toInt32) &&& (63 : Int32)).toInt64)) cA).toInt32))])) (fun _ kgo => XS.l2i X1.here hx rfl (hb hby at_36) rfl kgo) ?_
  have hhsA := own_hs (own_h0 ((p2.toUInt32 >>> ((4 : Int32) &&& 31).toUInt32).toInt32)) hclA
  suffices JNehA : ∀ hA : Int32, hA = ((own_min ((1 : Int64) + ((((p2.toUInt32 >>> ((4 : Int32) &&& 31).toUInt32).toInt32) &&& (63 : Int32)).toInt64)) cA).toInt32) → own_Go p e below (own_Post s QQ 24 128) T1 (mkF m 37 #[.val (.long q0), .second, .val (.long q1), .second, .val (.int p2), .val (.int p3), .val (.long q4), .second, .val (.long q5), .second, .val (.long cA), .second, .val (.int mA), .unset, .unset, .unset, .unset, .unset, .unset, .unset, .unset, .unset, .unset, .unset, .unset, .unset, .unset, .unset, .unset, .unset, .unset, .unset] [(.int hA)]) from JNehA _ (rfl)
  intro hA ehA
  rw [← ehA] at hhsA
  refine own_go (g' := (mkF m 39 #[.val (.long q0), .second, .val (.long q1), .second, .val (.int p2), .val (.int p3), .val (.long q4), .second, .val (.long q5), .second, .val (.long cA), .second, .val (.int mA), .val (.int hA), .unset, .unset, .unset, .unset, .unset, .unset, .unset, .unset, .unset, .unset, .unset, .unset, .unset, .unset, .unset, .unset, .unset, .unset] [])) (fun _ kgo => XS.istore X1.here hx rfl (hb hby at_37) rfl (l' := #[.val (.long q0), .second, .val (.long q1), .second, .val (.int p2), .val (.int p3), .val (.long q4), .second, .val (.long q5), .second, .val (.long cA), .second, .val (.int mA), .val (.int hA), .unset, .unset, .unset, .unset, .unset, .unset, .unset, .unset, .unset, .unset, .unset, .unset, .unset, .unset, .unset, .unset, .unset, .unset]) rfl kgo) ?_
  refine own_go (g' := (mkF m 40 #[.val (.long q0), .second, .val (.long q1), .second, .val (.int p2), .val (.int p3), .val (.long q4), .second, .val (.long q5), .second, .val (.long cA), .second, .val (.int mA), .val (.int hA), .unset, .unset, .unset, .unset, .unset, .unset, .unset, .unset, .unset, .unset, .unset, .unset, .unset, .unset, .unset, .unset, .unset, .unset] [(.long q0)])) (fun _ kgo => XS.lloadN X1.here hx rfl (hb hby at_39) rfl kgo) ?_
  refine own_go (g' := (mkF m 42 #[.val (.long q0), .second, .val (.long q1), .second, .val (.int p2), .val (.int p3), .val (.long q4), .second, .val (.long q5), .second, .val (.long cA), .second, .val (.int mA), .val (.int hA), .unset, .unset, .unset, .unset, .unset, .unset, .unset, .unset, .unset, .unset, .unset, .unset, .unset, .unset, .unset, .unset, .unset, .unset] [(.int (34 : Int32)), (.long q0)])) (fun _ kgo => XS.bipush X1.here hx rfl (hb hby at_40) kgo) ?_
  refine own_go (g' := (mkF m 43 #[.val (.long q0), .second, .val (.long q1), .second, .val (.int p2), .val (.int p3), .val (.long q4), .second, .val (.long q5), .second, .val (.long cA), .second, .val (.int mA), .val (.int hA), .unset, .unset, .unset, .unset, .unset, .unset, .unset, .unset, .unset, .unset, .unset, .unset, .unset, .unset, .unset, .unset, .unset, .unset] [(.long ((q0.toUInt64 >>> ((34 : Int32) &&& 0x3f).toInt64.toUInt64).toInt64))])) (fun _ kgo => XS.lushr X1.here hx rfl (hb hby at_42) rfl kgo) ?_
  refine own_go (g' := (mkF m 45 #[.val (.long q0), .second, .val (.long q1), .second, .val (.int p2), .val (.int p3), .val (.long q4), .second, .val (.long q5), .second, .val (.long cA), .second, .val (.int mA), .val (.int hA), .unset, .unset, .unset, .unset, .unset, .unset, .unset, .unset, .unset, .unset, .unset, .unset, .unset, .unset, .unset, .unset, .unset, .unset] [(.long cA), (.long ((q0.toUInt64 >>> ((34 : Int32) &&& 0x3f).toInt64.toUInt64).toInt64))])) (fun _ kgo => XS.lload X1.here hx rfl (hb hby at_43) rfl kgo) ?_
  obtain ⟨v2, T2, L2, hQ2, X2, st2⟩ := own_callS X1 hx hZ (y := (⟨"java/lang/Math", "min", "(JJ)J"⟩ : MethodName)) hown (hw _ (List.mem_of_getElem? (i := 1) rfl)) (hw _ (List.mem_of_getElem? (i := 2) rfl)) (hw _ (List.mem_of_getElem? (i := 3) rfl)) (hw _ (List.mem_of_getElem? (i := 4) rfl)) ⟨by decide, by decide⟩ (argsL := [(.long ((q0.toUInt64 >>> ((34 : Int32) &&& 0x3f).toInt64.toUInt64).toInt64)), (.long cA)]) (rm1 l Z a0 hw ((q0.toUInt64 >>> ((34 : Int32) &&& 0x3f).toInt64.toUInt64).toInt64) cA h0) e1 (g := (mkF m 45 #[.val (.long q0), .second, .val (.long q1), .second, .val (.int p2), .val (.int p3), .val (.long q4), .second, .val (.long q5), .second, .val (.long cA), .second, .val (.int mA), .val (.int hA), .unset, .unset, .unset, .unset, .unset, .unset, .unset, .unset, .unset, .unset, .unset, .unset, .unset, .unset, .unset, .unset, .unset, .unset] [(.long cA), (.long ((q0.toUInt64 >>> ((34 : Int32) &&& 0x3f).toInt64.toUInt64).toInt64))])) rfl (by rw [hml]; rfl) (rest := []) (lenOf pd0_0 rfl) rfl (hb hby at_45) (W := 0) (by show 2 * 0 + _ ≤ _; exact Nat.le_of_eq rfl) (by decide) (by decide) (by decide) (by decide)
  obtain ⟨rfl, e2, rfl⟩ := hQ2
  have N2 := Fr.app N1 (Fr.nil n0)
  refine own_go (g' := (mkF m 48 #[.val (.long q0), .second, .val (.long q1), .second, .val (.int p2), .val (.int p3), .val (.long q4), .second, .val (.long q5), .second, .val (.long cA), .second, .val (.int mA), .val (.int hA), .unset, .unset, .unset, .unset, .unset, .unset, .unset, .unset, .unset, .unset, .unset, .unset, .unset, .unset, .unset, .unset, .unset, .unset] [(.long (own_min ((q0.toUInt64 >>> ((34 : Int32) &&& 0x3f).toInt64.toUInt64).toInt64) cA))])) (st2) ?_
  refine own_go (g' := (mkF m 49 #[.val (.long q0), .second, .val (.long q1), .second, .val (.int p2), .val (.int p3), .val (.long q4), .second, .val (.long q5), .second, .val (.long cA), .second, .val (.int mA), .val (.int hA), .unset, .unset, .unset, .unset, .unset, .unset, .unset, .unset, .unset, .unset, .unset, .unset, .unset, .unset, .unset, .unset, .unset, .unset] [(.int ((own_min ((q0.toUInt64 >>> ((34 : Int32) &&& 0x3f).toInt64.toUInt64).toInt64) cA).toInt32))])) (fun _ kgo => XS.l2i X2.here hx rfl (hb hby at_48) rfl kgo) ?_
  have hdeA := own_ds (own_d0 q0) hclA
  suffices JNedA : ∀ dA : Int32, dA = ((own_min ((q0.toUInt64 >>> ((34 : Int32) &&& 0x3f).toInt64.toUInt64).toInt64) cA).toInt32) → own_Go p e below (own_Post s QQ 24 128) T2 (mkF m 49 #[.val (.long q0), .second, .val (.long q1), .second, .val (.int p2), .val (.int p3), .val (.long q4), .second, .val (.long q5), .second, .val (.long cA), .second, .val (.int mA), .val (.int hA), .unset, .unset, .unset, .unset, .unset, .unset, .unset, .unset, .unset, .unset, .unset, .unset, .unset, .unset, .unset, .unset, .unset, .unset] [(.int dA)]) from JNedA _ (rfl)
  intro dA edA
  rw [← edA] at hdeA
  refine own_go (g' := (mkF m 51 #[.val (.long q0), .second, .val (.long q1), .second, .val (.int p2), .val (.int p3), .val (.long q4), .second, .val (.long q5), .second, .val (.long cA), .second, .val (.int mA), .val (.int hA), .val (.int dA), .unset, .unset, .unset, .unset, .unset, .unset, .unset, .unset, .unset, .unset, .unset, .unset, .unset, .unset, .unset, .unset, .unset] [])) (fun _ kgo => XS.istore X2.here hx rfl (hb hby at_49) rfl (l' := #[.val (.long q0), .second, .val (.long q1), .second, .val (.int p2), .val (.int p3), .val (.long q4), .second, .val (.long q5), .second, .val (.long cA), .second, .val (.int mA), .val (.int hA), .val (.int dA), .unset, .unset, .unset, .unset, .unset, .unset, .unset, .unset, .unset, .unset, .unset, .unset, .unset, .unset, .unset, .unset, .unset]) rfl kgo) ?_
  refine own_go (g' := (mkF m 53 #[.val (.long q0), .second, .val (.long q1), .second, .val (.int p2), .val (.int p3), .val (.long q4), .second, .val (.long q5), .second, .val (.long cA), .second, .val (.int mA), .val (.int hA), .val (.int dA), .unset, .unset, .unset, .unset, .unset, .unset, .unset, .unset, .unset, .unset, .unset, .unset, .unset, .unset, .unset, .unset, .unset] [(.int p3)])) (fun _ kgo => XS.iload X2.here hx rfl (hb hby at_51) rfl kgo) ?_
  refine own_go (g' := (mkF m 55 #[.val (.long q0), .second, .val (.long q1), .second, .val (.int p2), .val (.int p3), .val (.long q4), .second, .val (.long q5), .second, .val (.long cA), .second, .val (.int mA), .val (.int hA), .val (.int dA), .unset, .unset, .unset, .unset, .unset, .unset, .unset, .unset, .unset, .unset, .unset, .unset, .unset, .unset, .unset, .unset, .unset] [(.int (32 : Int32)), (.int p3)])) (fun _ kgo => XS.bipush X2.here hx rfl (hb hby at_53) kgo) ?_
  refine own_go (g' := (mkF m 56 #[.val (.long q0), .second, .val (.long q1), .second, .val (.int p2), .val (.int p3), .val (.long q4), .second, .val (.long q5), .second, .val (.long cA), .second, .val (.int mA), .val (.int hA), .val (.int dA), .unset, .unset, .unset, .unset, .unset, .unset, .unset, .unset, .unset, .unset, .unset, .unset, .unset, .unset, .unset, .unset, .unset] [(.int (p3 &&& (32 : Int32)))])) (fun _ kgo => XS.iand X2.here hx rfl (hb hby at_55) rfl kgo) ?_
  have J3 : ∀ (sA : Int64), ((p3 &&& (32 : Int32)) = (0 : Int32) → sA = 0) → own_Go p e below (own_Post s QQ 24 128) T2 (mkF m 65 #[.val (.long q0), .second, .val (.long q1), .second, .val (.int p2), .val (.int p3), .val (.long q4), .second, .val (.long q5), .second, .val (.long cA), .second, .val (.int mA), .val (.int hA), .val (.int dA), .unset, .unset, .unset, .unset, .unset, .unset, .unset, .unset, .unset, .unset, .unset, .unset, .unset, .unset, .unset, .unset, .unset] [(.long sA)]) := by
    intro sA hsA
    refine own_go (g' := (mkF m 67 #[.val (.long q0), .second, .val (.long q1), .second, .val (.int p2), .val (.int p3), .val (.long q4), .second, .val (.long q5), .second, .val (.long cA), .second, .val (.int mA), .val (.int hA), .val (.int dA), .val (.long sA), .second, .unset, .unset, .unset, .unset, .unset, .unset, .unset, .unset, .unset, .unset, .unset, .unset, .unset, .unset, .unset] [])) (fun _ kgo => XS.lstore X2.here hx rfl (hb hby at_65) rfl (l' := #[.val (.long q0), .second, .val (.long q1), .second, .val (.int p2), .val (.int p3), .val (.long q4), .second, .val (.long q5), .second, .val (.long cA), .second, .val (.int mA), .val (.int hA), .val (.int dA), .val (.long sA), .second, .unset, .unset, .unset, .unset, .unset, .unset, .unset, .unset, .unset, .unset, .unset, .unset, .unset, .unset, .unset]) rfl kgo) ?_
    refine own_go (g' := (mkF m 69 #[.val (.long q0), .second, .val (.long q1), .second, .val (.int p2), .val (.int p3), .val (.long q4), .second, .val (.long q5), .second, .val (.long cA), .second, .val (.int mA), .val (.int hA), .val (.int dA), .val (.long sA), .second, .unset, .unset, .unset, .unset, .unset, .unset, .unset, .unset, .unset, .unset, .unset, .unset, .unset, .unset, .unset] [(.int p3)])) (fun _ kgo => XS.iload X2.here hx rfl (hb hby at_67) rfl kgo) ?_
    refine own_go (g' := (mkF m 70 #[.val (.long q0), .second, .val (.long q1), .second, .val (.int p2), .val (.int p3), .val (.long q4), .second, .val (.long q5), .second, .val (.long cA), .second, .val (.int mA), .val (.int hA), .val (.int dA), .val (.long sA), .second, .unset, .unset, .unset, .unset, .unset, .unset, .unset, .unset, .unset, .unset, .unset, .unset, .unset, .unset, .unset] [(.int (1 : Int32)), (.int p3)])) (fun _ kgo => XS.iconst X2.here hx rfl (hb hby at_69) kgo) ?_
    refine own_go (g' := (mkF m 71 #[.val (.long q0), .second, .val (.long q1), .second, .val (.int p2), .val (.int p3), .val (.long q4), .second, .val (.long q5), .second, .val (.long cA), .second, .val (.int mA), .val (.int hA), .val (.int dA), .val (.long sA), .second, .unset, .unset, .unset, .unset, .unset, .unset, .unset, .unset, .unset, .unset, .unset, .unset, .unset, .unset, .unset] [(.int (p3 &&& (1 : Int32)))])) (fun _ kgo => XS.iand X2.here hx rfl (hb hby at_70) rfl kgo) ?_
    have J4 : ∀ (cB : Int64), (1 ≤ cB.toInt ∧ cB.toInt ≤ 17179869184) → own_Go p e below (own_Post s QQ 24 128) T2 (mkF m 86 #[.val (.long q0), .second, .val (.long q1), .second, .val (.int p2), .val (.int p3), .val (.long q4), .second, .val (.long q5), .second, .val (.long cA), .second, .val (.int mA), .val (.int hA), .val (.int dA), .val (.long sA), .second, .unset, .unset, .unset, .unset, .unset, .unset, .unset, .unset, .unset, .unset, .unset, .unset, .unset, .unset, .unset] [(.long cB)]) := by
      intro cB hclB
      refine own_go (g' := (mkF m 88 #[.val (.long q0), .second, .val (.long q1), .second, .val (.int p2), .val (.int p3), .val (.long q4), .second, .val (.long q5), .second, .val (.long cA), .second, .val (.int mA), .val (.int hA), .val (.int dA), .val (.long sA), .second, .val (.long cB), .second, .unset, .unset, .unset, .unset, .unset, .unset, .unset, .unset, .unset, .unset, .unset, .unset, .unset] [])) (fun _ kgo => XS.lstore X2.here hx rfl (hb hby at_86) rfl (l' := #[.val (.long q0), .second, .val (.long q1), .second, .val (.int p2), .val (.int p3), .val (.long q4), .second, .val (.long q5), .second, .val (.long cA), .second, .val (.int mA), .val (.int hA), .val (.int dA), .val (.long sA), .second, .val (.long cB), .second, .unset, .unset, .unset, .unset, .unset, .unset, .unset, .unset, .unset, .unset, .unset, .unset, .unset]) rfl kgo) ?_
      refine own_go (g' := (mkF m 90 #[.val (.long q0), .second, .val (.long q1), .second, .val (.int p2), .val (.int p3), .val (.long q4), .second, .val (.long q5), .second, .val (.long cA), .second, .val (.int mA), .val (.int hA), .val (.int dA), .val (.long sA), .second, .val (.long cB), .second, .unset, .unset, .unset, .unset, .unset, .unset, .unset, .unset, .unset, .unset, .unset, .unset, .unset] [(.int p3)])) (fun _ kgo => XS.iload X2.here hx rfl (hb hby at_88) rfl kgo) ?_
      refine own_go (g' := (mkF m 91 #[.val (.long q0), .second, .val (.long q1), .second, .val (.int p2), .val (.int p3), .val (.long q4), .second, .val (.long q5), .second, .val (.long cA), .second, .val (.int mA), .val (.int hA), .val (.int dA), .val (.long sA), .second, .val (.long cB), .second, .unset, .unset, .unset, .unset, .unset, .unset, .unset, .unset, .unset, .unset, .unset, .unset, .unset] [(.int (2 : Int32)), (.int p3)])) (fun _ kgo => XS.iconst X2.here hx rfl (hb hby at_90) kgo) ?_
      refine own_go (g' := (mkF m 92 #[.val (.long q0), .second, .val (.long q1), .second, .val (.int p2), .val (.int p3), .val (.long q4), .second, .val (.long q5), .second, .val (.long cA), .second, .val (.int mA), .val (.int hA), .val (.int dA), .val (.long sA), .second, .val (.long cB), .second, .unset, .unset, .unset, .unset, .unset, .unset, .unset, .unset, .unset, .unset, .unset, .unset, .unset] [(.int (p3 &&& (2 : Int32)))])) (fun _ kgo => XS.iand X2.here hx rfl (hb hby at_91) rfl kgo) ?_
      have J5 : ∀ (mB : Int32), (mB = 1 ∨ mB = 3 ∨ mB = 7 ∨ mB = 15) → own_Go p e below (own_Post s QQ 24 128) T2 (mkF m 112 #[.val (.long q0), .second, .val (.long q1), .second, .val (.int p2), .val (.int p3), .val (.long q4), .second, .val (.long q5), .second, .val (.long cA), .second, .val (.int mA), .val (.int hA), .val (.int dA), .val (.long sA), .second, .val (.long cB), .second, .unset, .unset, .unset, .unset, .unset, .unset, .unset, .unset, .unset, .unset, .unset, .unset, .unset] [(.int mB)]) := by
        intro mB hmxB
        refine own_go (g' := (mkF m 114 #[.val (.long q0), .second, .val (.long q1), .second, .val (.int p2), .val (.int p3), .val (.long q4), .second, .val (.long q5), .second, .val (.long cA), .second, .val (.int mA), .val (.int hA), .val (.int dA), .val (.long sA), .second, .val (.long cB), .second, .val (.int mB), .unset, .unset, .unset, .unset, .unset, .unset, .unset, .unset, .unset, .unset, .unset, .unset] [])) (fun _ kgo => XS.istore X2.here hx rfl (hb hby at_112) rfl (l' := #[.val (.long q0), .second, .val (.long q1), .second, .val (.int p2), .val (.int p3), .val (.long q4), .second, .val (.long q5), .second, .val (.long cA), .second, .val (.int mA), .val (.int hA), .val (.int dA), .val (.long sA), .second, .val (.long cB), .second, .val (.int mB), .unset, .unset, .unset, .unset, .unset, .unset, .unset, .unset, .unset, .unset, .unset, .unset]) rfl kgo) ?_
        refine own_go (g' := (mkF m 116 #[.val (.long q0), .second, .val (.long q1), .second, .val (.int p2), .val (.int p3), .val (.long q4), .second, .val (.long q5), .second, .val (.long cA), .second, .val (.int mA), .val (.int hA), .val (.int dA), .val (.long sA), .second, .val (.long cB), .second, .val (.int mB), .unset, .unset, .unset, .unset, .unset, .unset, .unset, .unset, .unset, .unset, .unset, .unset] [(.int p3)])) (fun _ kgo => XS.iload X2.here hx rfl (hb hby at_114) rfl kgo) ?_
        refine own_go (g' := (mkF m 117 #[.val (.long q0), .second, .val (.long q1), .second, .val (.int p2), .val (.int p3), .val (.long q4), .second, .val (.long q5), .second, .val (.long cA), .second, .val (.int mA), .val (.int hA), .val (.int dA), .val (.long sA), .second, .val (.long cB), .second, .val (.int mB), .unset, .unset, .unset, .unset, .unset, .unset, .unset, .unset, .unset, .unset, .unset, .unset] [(.int (4 : Int32)), (.int p3)])) (fun _ kgo => XS.iconst X2.here hx rfl (hb hby at_116) kgo) ?_
        refine own_go (g' := (mkF m 118 #[.val (.long q0), .second, .val (.long q1), .second, .val (.int p2), .val (.int p3), .val (.long q4), .second, .val (.long q5), .second, .val (.long cA), .second, .val (.int mA), .val (.int hA), .val (.int dA), .val (.long sA), .second, .val (.long cB), .second, .val (.int mB), .unset, .unset, .unset, .unset, .unset, .unset, .unset, .unset, .unset, .unset, .unset, .unset] [(.int (p3 &&& (4 : Int32)))])) (fun _ kgo => XS.iand X2.here hx rfl (hb hby at_117) rfl kgo) ?_
        have J6 : ∀ (hb0 : Int64), (1 ≤ hb0.toInt ∧ hb0.toInt ≤ 64) → own_Go p e below (own_Post s QQ 24 128) T2 (mkF m 138 #[.val (.long q0), .second, .val (.long q1), .second, .val (.int p2), .val (.int p3), .val (.long q4), .second, .val (.long q5), .second, .val (.long cA), .second, .val (.int mA), .val (.int hA), .val (.int dA), .val (.long sA), .second, .val (.long cB), .second, .val (.int mB), .unset, .unset, .unset, .unset, .unset, .unset, .unset, .unset, .unset, .unset, .unset, .unset] [(.long hb0)]) := by
          intro hb0 hhb
          refine own_go (g' := (mkF m 140 #[.val (.long q0), .second, .val (.long q1), .second, .val (.int p2), .val (.int p3), .val (.long q4), .second, .val (.long q5), .second, .val (.long cA), .second, .val (.int mA), .val (.int hA), .val (.int dA), .val (.long sA), .second, .val (.long cB), .second, .val (.int mB), .unset, .unset, .unset, .unset, .unset, .unset, .unset, .unset, .unset, .unset, .unset, .unset] [(.long cB), (.long hb0)])) (fun _ kgo => XS.lload X2.here hx rfl (hb hby at_138) rfl kgo) ?_
          obtain ⟨v7, T7, L7, hQ7, X7, st7⟩ := own_callS X2 hx hZ (y := (⟨"java/lang/Math", "min", "(JJ)J"⟩ : MethodName)) hown (hw _ (List.mem_of_getElem? (i := 1) rfl)) (hw _ (List.mem_of_getElem? (i := 2) rfl)) (hw _ (List.mem_of_getElem? (i := 3) rfl)) (hw _ (List.mem_of_getElem? (i := 4) rfl)) ⟨by decide, by decide⟩ (argsL := [(.long hb0), (.long cB)]) (rm1 l Z a0 hw hb0 cB h0) e2 (g := (mkF m 140 #[.val (.long q0), .second, .val (.long q1), .second, .val (.int p2), .val (.int p3), .val (.long q4), .second, .val (.long q5), .second, .val (.long cA), .second, .val (.int mA), .val (.int hA), .val (.int dA), .val (.long sA), .second, .val (.long cB), .second, .val (.int mB), .unset, .unset, .unset, .unset, .unset, .unset, .unset, .unset, .unset, .unset, .unset, .unset] [(.long cB), (.long hb0)])) rfl (by rw [hml]; rfl) (rest := []) (lenOf pd0_0 rfl) rfl (hb hby at_140) (W := 0) (by show 2 * 0 + _ ≤ _; exact Nat.le_of_eq rfl) (by decide) (by decide) (by decide) (by decide)
          obtain ⟨rfl, e7, rfl⟩ := hQ7
          have N7 := Fr.app N2 (Fr.nil n0)
          refine own_go (g' := (mkF m 143 #[.val (.long q0), .second, .val (.long q1), .second, .val (.int p2), .val (.int p3), .val (.long q4), .second, .val (.long q5), .second, .val (.long cA), .second, .val (.int mA), .val (.int hA), .val (.int dA), .val (.long sA), .second, .val (.long cB), .second, .val (.int mB), .unset, .unset, .unset, .unset, .unset, .unset, .unset, .unset, .unset, .unset, .unset, .unset] [(.long (own_min hb0 cB))])) (st7) ?_
          refine own_go (g' := (mkF m 144 #[.val (.long q0), .second, .val (.long q1), .second, .val (.int p2), .val (.int p3), .val (.long q4), .second, .val (.long q5), .second, .val (.long cA), .second, .val (.int mA), .val (.int hA), .val (.int dA), .val (.long sA), .second, .val (.long cB), .second, .val (.int mB), .unset, .unset, .unset, .unset, .unset, .unset, .unset, .unset, .unset, .unset, .unset, .unset] [(.int ((own_min hb0 cB).toInt32))])) (fun _ kgo => XS.l2i X7.here hx rfl (hb hby at_143) rfl kgo) ?_
          have hhsB := own_hs hhb hclB
          suffices JNehB : ∀ hB : Int32, hB = ((own_min hb0 cB).toInt32) → own_Go p e below (own_Post s QQ 24 128) T7 (mkF m 144 #[.val (.long q0), .second, .val (.long q1), .second, .val (.int p2), .val (.int p3), .val (.long q4), .second, .val (.long q5), .second, .val (.long cA), .second, .val (.int mA), .val (.int hA), .val (.int dA), .val (.long sA), .second, .val (.long cB), .second, .val (.int mB), .unset, .unset, .unset, .unset, .unset, .unset, .unset, .unset, .unset, .unset, .unset, .unset] [(.int hB)]) from JNehB _ (rfl)
          intro hB ehB
          rw [← ehB] at hhsB
          refine own_go (g' := (mkF m 146 #[.val (.long q0), .second, .val (.long q1), .second, .val (.int p2), .val (.int p3), .val (.long q4), .second, .val (.long q5), .second, .val (.long cA), .second, .val (.int mA), .val (.int hA), .val (.int dA), .val (.long sA), .second, .val (.long cB), .second, .val (.int mB), .val (.int hB), .unset, .unset, .unset, .unset, .unset, .unset, .unset, .unset, .unset, .unset, .unset] [])) (fun _ kgo => XS.istore X7.here hx rfl (hb hby at_144) rfl (l' := #[.val (.long q0), .second, .val (.long q1), .second, .val (.int p2), .val (.int p3), .val (.long q4), .second, .val (.long q5), .second, .val (.long cA), .second, .val (.int mA), .val (.int hA), .val (.int dA), .val (.long sA), .second, .val (.long cB), .second, .val (.int mB), .val (.int hB), .unset, .unset, .unset, .unset, .unset, .unset, .unset, .unset, .unset, .unset, .unset]) rfl kgo) ?_
          refine own_go (g' := (mkF m 148 #[.val (.long q0), .second, .val (.long q1), .second, .val (.int p2), .val (.int p3), .val (.long q4), .second, .val (.long q5), .second, .val (.long cA), .second, .val (.int mA), .val (.int hA), .val (.int dA), .val (.long sA), .second, .val (.long cB), .second, .val (.int mB), .val (.int hB), .unset, .unset, .unset, .unset, .unset, .unset, .unset, .unset, .unset, .unset, .unset] [(.int p3)])) (fun _ kgo => XS.iload X7.here hx rfl (hb hby at_146) rfl kgo) ?_
          refine own_go (g' := (mkF m 150 #[.val (.long q0), .second, .val (.long q1), .second, .val (.int p2), .val (.int p3), .val (.long q4), .second, .val (.long q5), .second, .val (.long cA), .second, .val (.int mA), .val (.int hA), .val (.int dA), .val (.long sA), .second, .val (.long cB), .second, .val (.int mB), .val (.int hB), .unset, .unset, .unset, .unset, .unset, .unset, .unset, .unset, .unset, .unset, .unset] [(.int (8 : Int32)), (.int p3)])) (fun _ kgo => XS.bipush X7.here hx rfl (hb hby at_148) kgo) ?_
          refine own_go (g' := (mkF m 151 #[.val (.long q0), .second, .val (.long q1), .second, .val (.int p2), .val (.int p3), .val (.long q4), .second, .val (.long q5), .second, .val (.long cA), .second, .val (.int mA), .val (.int hA), .val (.int dA), .val (.long sA), .second, .val (.long cB), .second, .val (.int mB), .val (.int hB), .unset, .unset, .unset, .unset, .unset, .unset, .unset, .unset, .unset, .unset, .unset] [(.int (p3 &&& (8 : Int32)))])) (fun _ kgo => XS.iand X7.here hx rfl (hb hby at_150) rfl kgo) ?_
          have J8 : ∀ (db0 : Int64), (0 ≤ db0.toInt ∧ db0.toInt ≤ 1073741823) → own_Go p e below (own_Post s QQ 24 128) T7 (mkF m 164 #[.val (.long q0), .second, .val (.long q1), .second, .val (.int p2), .val (.int p3), .val (.long q4), .second, .val (.long q5), .second, .val (.long cA), .second, .val (.int mA), .val (.int hA), .val (.int dA), .val (.long sA), .second, .val (.long cB), .second, .val (.int mB), .val (.int hB), .unset, .unset, .unset, .unset, .unset, .unset, .unset, .unset, .unset, .unset, .unset] [(.long db0)]) := by
            intro db0 hdb
            refine own_go (g' := (mkF m 166 #[.val (.long q0), .second, .val (.long q1), .second, .val (.int p2), .val (.int p3), .val (.long q4), .second, .val (.long q5), .second, .val (.long cA), .second, .val (.int mA), .val (.int hA), .val (.int dA), .val (.long sA), .second, .val (.long cB), .second, .val (.int mB), .val (.int hB), .unset, .unset, .unset, .unset, .unset, .unset, .unset, .unset, .unset, .unset, .unset] [(.long cB), (.long db0)])) (fun _ kgo => XS.lload X7.here hx rfl (hb hby at_164) rfl kgo) ?_
            obtain ⟨v9, T9, L9, hQ9, X9, st9⟩ := own_callS X7 hx hZ (y := (⟨"java/lang/Math", "min", "(JJ)J"⟩ : MethodName)) hown (hw _ (List.mem_of_getElem? (i := 1) rfl)) (hw _ (List.mem_of_getElem? (i := 2) rfl)) (hw _ (List.mem_of_getElem? (i := 3) rfl)) (hw _ (List.mem_of_getElem? (i := 4) rfl)) ⟨by decide, by decide⟩ (argsL := [(.long db0), (.long cB)]) (rm1 l Z a0 hw db0 cB h0) e7 (g := (mkF m 166 #[.val (.long q0), .second, .val (.long q1), .second, .val (.int p2), .val (.int p3), .val (.long q4), .second, .val (.long q5), .second, .val (.long cA), .second, .val (.int mA), .val (.int hA), .val (.int dA), .val (.long sA), .second, .val (.long cB), .second, .val (.int mB), .val (.int hB), .unset, .unset, .unset, .unset, .unset, .unset, .unset, .unset, .unset, .unset, .unset] [(.long cB), (.long db0)])) rfl (by rw [hml]; rfl) (rest := []) (lenOf pd0_0 rfl) rfl (hb hby at_166) (W := 0) (by show 2 * 0 + _ ≤ _; exact Nat.le_of_eq rfl) (by decide) (by decide) (by decide) (by decide)
            obtain ⟨rfl, e9, rfl⟩ := hQ9
            have N9 := Fr.app N7 (Fr.nil n0)
            refine own_go (g' := (mkF m 169 #[.val (.long q0), .second, .val (.long q1), .second, .val (.int p2), .val (.int p3), .val (.long q4), .second, .val (.long q5), .second, .val (.long cA), .second, .val (.int mA), .val (.int hA), .val (.int dA), .val (.long sA), .second, .val (.long cB), .second, .val (.int mB), .val (.int hB), .unset, .unset, .unset, .unset, .unset, .unset, .unset, .unset, .unset, .unset, .unset] [(.long (own_min db0 cB))])) (st9) ?_
            refine own_go (g' := (mkF m 170 #[.val (.long q0), .second, .val (.long q1), .second, .val (.int p2), .val (.int p3), .val (.long q4), .second, .val (.long q5), .second, .val (.long cA), .second, .val (.int mA), .val (.int hA), .val (.int dA), .val (.long sA), .second, .val (.long cB), .second, .val (.int mB), .val (.int hB), .unset, .unset, .unset, .unset, .unset, .unset, .unset, .unset, .unset, .unset, .unset] [(.int ((own_min db0 cB).toInt32))])) (fun _ kgo => XS.l2i X9.here hx rfl (hb hby at_169) rfl kgo) ?_
            have hdeB := own_ds hdb hclB
            suffices JNedB : ∀ dB : Int32, dB = ((own_min db0 cB).toInt32) → own_Go p e below (own_Post s QQ 24 128) T9 (mkF m 170 #[.val (.long q0), .second, .val (.long q1), .second, .val (.int p2), .val (.int p3), .val (.long q4), .second, .val (.long q5), .second, .val (.long cA), .second, .val (.int mA), .val (.int hA), .val (.int dA), .val (.long sA), .second, .val (.long cB), .second, .val (.int mB), .val (.int hB), .unset, .unset, .unset, .unset, .unset, .unset, .unset, .unset, .unset, .unset, .unset] [(.int dB)]) from JNedB _ (rfl)
            intro dB edB
            rw [← edB] at hdeB
            refine own_go (g' := (mkF m 172 #[.val (.long q0), .second, .val (.long q1), .second, .val (.int p2), .val (.int p3), .val (.long q4), .second, .val (.long q5), .second, .val (.long cA), .second, .val (.int mA), .val (.int hA), .val (.int dA), .val (.long sA), .second, .val (.long cB), .second, .val (.int mB), .val (.int hB), .val (.int dB), .unset, .unset, .unset, .unset, .unset, .unset, .unset, .unset, .unset, .unset] [])) (fun _ kgo => XS.istore X9.here hx rfl (hb hby at_170) rfl (l' := #[.val (.long q0), .second, .val (.long q1), .second, .val (.int p2), .val (.int p3), .val (.long q4), .second, .val (.long q5), .second, .val (.long cA), .second, .val (.int mA), .val (.int hA), .val (.int dA), .val (.long sA), .second, .val (.long cB), .second, .val (.int mB), .val (.int hB), .val (.int dB), .unset, .unset, .unset, .unset, .unset, .unset, .unset, .unset, .unset, .unset]) rfl kgo) ?_
            refine own_go (g' := (mkF m 174 #[.val (.long q0), .second, .val (.long q1), .second, .val (.int p2), .val (.int p3), .val (.long q4), .second, .val (.long q5), .second, .val (.long cA), .second, .val (.int mA), .val (.int hA), .val (.int dA), .val (.long sA), .second, .val (.long cB), .second, .val (.int mB), .val (.int hB), .val (.int dB), .unset, .unset, .unset, .unset, .unset, .unset, .unset, .unset, .unset, .unset] [(.int p3)])) (fun _ kgo => XS.iload X9.here hx rfl (hb hby at_172) rfl kgo) ?_
            refine own_go (g' := (mkF m 176 #[.val (.long q0), .second, .val (.long q1), .second, .val (.int p2), .val (.int p3), .val (.long q4), .second, .val (.long q5), .second, .val (.long cA), .second, .val (.int mA), .val (.int hA), .val (.int dA), .val (.long sA), .second, .val (.long cB), .second, .val (.int mB), .val (.int hB), .val (.int dB), .unset, .unset, .unset, .unset, .unset, .unset, .unset, .unset, .unset, .unset] [(.int (16 : Int32)), (.int p3)])) (fun _ kgo => XS.bipush X9.here hx rfl (hb hby at_174) kgo) ?_
            refine own_go (g' := (mkF m 177 #[.val (.long q0), .second, .val (.long q1), .second, .val (.int p2), .val (.int p3), .val (.long q4), .second, .val (.long q5), .second, .val (.long cA), .second, .val (.int mA), .val (.int hA), .val (.int dA), .val (.long sA), .second, .val (.long cB), .second, .val (.int mB), .val (.int hB), .val (.int dB), .unset, .unset, .unset, .unset, .unset, .unset, .unset, .unset, .unset, .unset] [(.int (p3 &&& (16 : Int32)))])) (fun _ kgo => XS.iand X9.here hx rfl (hb hby at_176) rfl kgo) ?_
            have J10 : ∀ (sB : Int64), own_Go p e below (own_Post s QQ 24 128) T9 (mkF m 187 #[.val (.long q0), .second, .val (.long q1), .second, .val (.int p2), .val (.int p3), .val (.long q4), .second, .val (.long q5), .second, .val (.long cA), .second, .val (.int mA), .val (.int hA), .val (.int dA), .val (.long sA), .second, .val (.long cB), .second, .val (.int mB), .val (.int hB), .val (.int dB), .unset, .unset, .unset, .unset, .unset, .unset, .unset, .unset, .unset, .unset] [(.long sB)]) := by
              intro sB
              refine own_go (g' := (mkF m 189 #[.val (.long q0), .second, .val (.long q1), .second, .val (.int p2), .val (.int p3), .val (.long q4), .second, .val (.long q5), .second, .val (.long cA), .second, .val (.int mA), .val (.int hA), .val (.int dA), .val (.long sA), .second, .val (.long cB), .second, .val (.int mB), .val (.int hB), .val (.int dB), .val (.long sB), .second, .unset, .unset, .unset, .unset, .unset, .unset, .unset, .unset] [])) (fun _ kgo => XS.lstore X9.here hx rfl (hb hby at_187) rfl (l' := #[.val (.long q0), .second, .val (.long q1), .second, .val (.int p2), .val (.int p3), .val (.long q4), .second, .val (.long q5), .second, .val (.long cA), .second, .val (.int mA), .val (.int hA), .val (.int dA), .val (.long sA), .second, .val (.long cB), .second, .val (.int mB), .val (.int hB), .val (.int dB), .val (.long sB), .second, .unset, .unset, .unset, .unset, .unset, .unset, .unset, .unset]) rfl kgo) ?_
              refine own_go (g' := (mkF m 191 #[.val (.long q0), .second, .val (.long q1), .second, .val (.int p2), .val (.int p3), .val (.long q4), .second, .val (.long q5), .second, .val (.long cA), .second, .val (.int mA), .val (.int hA), .val (.int dA), .val (.long sA), .second, .val (.long cB), .second, .val (.int mB), .val (.int hB), .val (.int dB), .val (.long sB), .second, .unset, .unset, .unset, .unset, .unset, .unset, .unset, .unset] [(.long cA)])) (fun _ kgo => XS.lload X9.here hx rfl (hb hby at_189) rfl kgo) ?_
              refine own_go (g' := (mkF m 193 #[.val (.long q0), .second, .val (.long q1), .second, .val (.int p2), .val (.int p3), .val (.long q4), .second, .val (.long q5), .second, .val (.long cA), .second, .val (.int mA), .val (.int hA), .val (.int dA), .val (.long sA), .second, .val (.long cB), .second, .val (.int mB), .val (.int hB), .val (.int dB), .val (.long sB), .second, .unset, .unset, .unset, .unset, .unset, .unset, .unset, .unset] [(.long cB), (.long cA)])) (fun _ kgo => XS.lload X9.here hx rfl (hb hby at_191) rfl kgo) ?_
              refine own_go (g' := (mkF m 194 #[.val (.long q0), .second, .val (.long q1), .second, .val (.int p2), .val (.int p3), .val (.long q4), .second, .val (.long q5), .second, .val (.long cA), .second, .val (.int mA), .val (.int hA), .val (.int dA), .val (.long sA), .second, .val (.long cB), .second, .val (.int mB), .val (.int hB), .val (.int dB), .val (.long sB), .second, .unset, .unset, .unset, .unset, .unset, .unset, .unset, .unset] [(.int (lcmpW cA cB))])) (fun _ kgo => XS.lcmp X9.here hx rfl (hb hby at_193) rfl kgo) ?_
              have J11 : own_Go p e below (own_Post s QQ 24 128) T9 (mkF m 231 #[.val (.long q0), .second, .val (.long q1), .second, .val (.int p2), .val (.int p3), .val (.long q4), .second, .val (.long q5), .second, .val (.long cA), .second, .val (.int mA), .val (.int hA), .val (.int dA), .val (.long sA), .second, .val (.long cB), .second, .val (.int mB), .val (.int hB), .val (.int dB), .val (.long sB), .second, .unset, .unset, .unset, .unset, .unset, .unset, .unset, .unset] [(.int (own_b ((decide (cA = cB) && (decide (mA = mB) && (decide (hA = hB) && (decide (dA = dB) && decide (sA = sB))))))))]) := by
                suffices JNhex : ∀ ex : Bool, ex = ((decide (cA = cB) && (decide (mA = mB) && (decide (hA = hB) && (decide (dA = dB) && decide (sA = sB)))))) → own_Go p e below (own_Post s QQ 24 128) T9 (mkF m 231 #[.val (.long q0), .second, .val (.long q1), .second, .val (.int p2), .val (.int p3), .val (.long q4), .second, .val (.long q5), .second, .val (.long cA), .second, .val (.int mA), .val (.int hA), .val (.int dA), .val (.long sA), .second, .val (.long cB), .second, .val (.int mB), .val (.int hB), .val (.int dB), .val (.long sB), .second, .unset, .unset, .unset, .unset, .unset, .unset, .unset, .unset] [(.int (own_b ex))]) from JNhex _ (rfl)
                intro ex hex
                refine own_go (g' := (mkF m 233 #[.val (.long q0), .second, .val (.long q1), .second, .val (.int p2), .val (.int p3), .val (.long q4), .second, .val (.long q5), .second, .val (.long cA), .second, .val (.int mA), .val (.int hA), .val (.int dA), .val (.long sA), .second, .val (.long cB), .second, .val (.int mB), .val (.int hB), .val (.int dB), .val (.long sB), .second, .val (.int (own_b ex)), .unset, .unset, .unset, .unset, .unset, .unset, .unset] [])) (fun _ kgo => XS.istore X9.here hx rfl (hb hby at_231) rfl (l' := #[.val (.long q0), .second, .val (.long q1), .second, .val (.int p2), .val (.int p3), .val (.long q4), .second, .val (.long q5), .second, .val (.long cA), .second, .val (.int mA), .val (.int hA), .val (.int dA), .val (.long sA), .second, .val (.long cB), .second, .val (.int mB), .val (.int hB), .val (.int dB), .val (.long sB), .second, .val (.int (own_b ex)), .unset, .unset, .unset, .unset, .unset, .unset, .unset]) rfl kgo) ?_
                obtain ⟨T12, h12, X12, e12, E12, A12, D12, -, st12⟩ := newO X9 hx hZ hown (hw _ (List.mem_of_getElem? (i := 5) rfl)) (hw _ (List.mem_of_getElem? (i := 6) rfl)) (hw _ (List.mem_of_getElem? (i := 7) rfl)) e9 (g := (mkF m 233 #[.val (.long q0), .second, .val (.long q1), .second, .val (.int p2), .val (.int p3), .val (.long q4), .second, .val (.long q5), .second, .val (.long cA), .second, .val (.int mA), .val (.int hA), .val (.int dA), .val (.long sA), .second, .val (.long cB), .second, .val (.int mB), .val (.int hB), .val (.int dB), .val (.long sB), .second, .val (.int (own_b ex)), .unset, .unset, .unset, .unset, .unset, .unset, .unset] [])) rfl (hb hby at_233) (by decide) (by decide)
                obtain ⟨b12, ad12⟩ : ∃ z, z = h0.size := ⟨_, rfl⟩
                rw [← ad12] at A12 D12 st12
                have ge_b12 : n0 ≤ b12 := by rw [ad12]; exact Z0
                have Z12 : n0 ≤ h12.size := Nat.le_trans Z0 E12.1
                have F12_cells : Fld Z h12 b12 "com/example/seenset/seenset/filter/StableParameters" "cells" "J" (.long (0 : Int64)) := D12 (Or.inr (hw _ (List.mem_of_getElem? (i := 33) rfl))) (ty := .long) (by decide)
                have F12_max : Fld Z h12 b12 "com/example/seenset/seenset/filter/StableParameters" "max" "I" (.int (0 : Int32)) := D12 (Or.inr (hw _ (List.mem_of_getElem? (i := 35) rfl))) (ty := .int) (by decide)
                have F12_hashes : Fld Z h12 b12 "com/example/seenset/seenset/filter/StableParameters" "hashes" "I" (.int (0 : Int32)) := D12 (Or.inr (hw _ (List.mem_of_getElem? (i := 37) rfl))) (ty := .int) (by decide)
                have F12_decrement : Fld Z h12 b12 "com/example/seenset/seenset/filter/StableParameters" "decrement" "I" (.int (0 : Int32)) := D12 (Or.inr (hw _ (List.mem_of_getElem? (i := 39) rfl))) (ty := .int) (by decide)
                have F12_seed : Fld Z h12 b12 "com/example/seenset/seenset/filter/StableParameters" "seed" "J" (.long (0 : Int64)) := D12 (Or.inr (hw _ (List.mem_of_getElem? (i := 41) rfl))) (ty := .long) (by decide)
                refine own_go (g' := (mkF m 236 #[.val (.long q0), .second, .val (.long q1), .second, .val (.int p2), .val (.int p3), .val (.long q4), .second, .val (.long q5), .second, .val (.long cA), .second, .val (.int mA), .val (.int hA), .val (.int dA), .val (.long sA), .second, .val (.long cB), .second, .val (.int mB), .val (.int hB), .val (.int dB), .val (.long sB), .second, .val (.int (own_b ex)), .unset, .unset, .unset, .unset, .unset, .unset, .unset] [(.ref b12)])) (st12) ?_
                refine own_go (g' := (mkF m 237 #[.val (.long q0), .second, .val (.long q1), .second, .val (.int p2), .val (.int p3), .val (.long q4), .second, .val (.long q5), .second, .val (.long cA), .second, .val (.int mA), .val (.int hA), .val (.int dA), .val (.long sA), .second, .val (.long cB), .second, .val (.int mB), .val (.int hB), .val (.int dB), .val (.long sB), .second, .val (.int (own_b ex)), .unset, .unset, .unset, .unset, .unset, .unset, .unset] [(.ref b12), (.ref b12)])) (fun _ kgo => XS.dup X12.here hx rfl (hb hby at_236) rfl rfl kgo) ?_
                refine own_go (g' := (mkF m 239 #[.val (.long q0), .second, .val (.long q1), .second, .val (.int p2), .val (.int p3), .val (.long q4), .second, .val (.long q5), .second, .val (.long cA), .second, .val (.int mA), .val (.int hA), .val (.int dA), .val (.long sA), .second, .val (.long cB), .second, .val (.int mB), .val (.int hB), .val (.int dB), .val (.long sB), .second, .val (.int (own_b ex)), .unset, .unset, .unset, .unset, .unset, .unset, .unset] [(.long cA), (.ref b12), (.ref b12)])) (fun _ kgo => XS.lload X12.here hx rfl (hb hby at_237) rfl kgo) ?_
                refine own_go (g' := (mkF m 241 #[.val (.long q0), .second, .val (.long q1), .second, .val (.int p2), .val (.int p3), .val (.long q4), .second, .val (.long q5), .second, .val (.long cA), .second, .val (.int mA), .val (.int hA), .val (.int dA), .val (.long sA), .second, .val (.long cB), .second, .val (.int mB), .val (.int hB), .val (.int dB), .val (.long sB), .second, .val (.int (own_b ex)), .unset, .unset, .unset, .unset, .unset, .unset, .unset] [(.int mA), (.long cA), (.ref b12), (.ref b12)])) (fun _ kgo => XS.iload X12.here hx rfl (hb hby at_239) rfl kgo) ?_
                refine own_go (g' := (mkF m 243 #[.val (.long q0), .second, .val (.long q1), .second, .val (.int p2), .val (.int p3), .val (.long q4), .second, .val (.long q5), .second, .val (.long cA), .second, .val (.int mA), .val (.int hA), .val (.int dA), .val (.long sA), .second, .val (.long cB), .second, .val (.int mB), .val (.int hB), .val (.int dB), .val (.long sB), .second, .val (.int (own_b ex)), .unset, .unset, .unset, .unset, .unset, .unset, .unset] [(.int hA), (.int mA), (.long cA), (.ref b12), (.ref b12)])) (fun _ kgo => XS.iload X12.here hx rfl (hb hby at_241) rfl kgo) ?_
                refine own_go (g' := (mkF m 245 #[.val (.long q0), .second, .val (.long q1), .second, .val (.int p2), .val (.int p3), .val (.long q4), .second, .val (.long q5), .second, .val (.long cA), .second, .val (.int mA), .val (.int hA), .val (.int dA), .val (.long sA), .second, .val (.long cB), .second, .val (.int mB), .val (.int hB), .val (.int dB), .val (.long sB), .second, .val (.int (own_b ex)), .unset, .unset, .unset, .unset, .unset, .unset, .unset] [(.int dA), (.int hA), (.int mA), (.long cA), (.ref b12), (.ref b12)])) (fun _ kgo => XS.iload X12.here hx rfl (hb hby at_243) rfl kgo) ?_
                obtain ⟨v13, T13, L13, hQ13, X13, st13⟩ := own_callI X12 hx hZ (y := (⟨"com/example/seenset/seenset/filter/StableParameters", "<init>", "(JIII)V"⟩ : MethodName)) rfl hown (hw _ (List.mem_of_getElem? (i := 8) rfl)) (hw _ (List.mem_of_getElem? (i := 9) rfl)) (hw _ (List.mem_of_getElem? (i := 7) rfl)) (hw _ (List.mem_of_getElem? (i := 10) rfl)) ⟨by decide, by decide⟩ (a := b12) (argsL := [(.long cA), (.int mA), (.int hA), (.int dA)]) (ct4 l Z a0 hw b12 cA mA hA dA h12 n0 Z12 ge_b12 A12 F12_cells F12_max F12_hashes F12_decrement F12_seed hclA hmxA hhsA hdeA) e12 (g := (mkF m 245 #[.val (.long q0), .second, .val (.long q1), .second, .val (.int p2), .val (.int p3), .val (.long q4), .second, .val (.long q5), .second, .val (.long cA), .second, .val (.int mA), .val (.int hA), .val (.int dA), .val (.long sA), .second, .val (.long cB), .second, .val (.int mB), .val (.int hB), .val (.int dB), .val (.long sB), .second, .val (.int (own_b ex)), .unset, .unset, .unset, .unset, .unset, .unset, .unset] [(.int dA), (.int hA), (.int mA), (.long cA), (.ref b12), (.ref b12)])) rfl (by rw [hml]; rfl) (rest := [(.ref b12)]) (lenOf pd0_1 rfl) rfl (hb hby at_245) (W := 1) (by show 2 * 0 + _ ≤ _; exact Nat.le_of_eq rfl) (by decide) (by decide) (by decide) (by decide)
                obtain ⟨rfl, Nq13, Kq13, q13_0, q13_1, q13_2, q13_3, q13_4, q13_5⟩ := hQ13
                have N13 := Fr.app N9 Nq13
                have Z13 : n0 ≤ T13.heap.size := Nat.le_trans Z12 Kq13.1
                refine own_go (g' := (mkF m 248 #[.val (.long q0), .second, .val (.long q1), .second, .val (.int p2), .val (.int p3), .val (.long q4), .second, .val (.long q5), .second, .val (.long cA), .second, .val (.int mA), .val (.int hA), .val (.int dA), .val (.long sA), .second, .val (.long cB), .second, .val (.int mB), .val (.int hB), .val (.int dB), .val (.long sB), .second, .val (.int (own_b ex)), .unset, .unset, .unset, .unset, .unset, .unset, .unset] [(.ref b12)])) (st13) ?_
                refine own_go (g' := (mkF m 250 #[.val (.long q0), .second, .val (.long q1), .second, .val (.int p2), .val (.int p3), .val (.long q4), .second, .val (.long q5), .second, .val (.long cA), .second, .val (.int mA), .val (.int hA), .val (.int dA), .val (.long sA), .second, .val (.long cB), .second, .val (.int mB), .val (.int hB), .val (.int dB), .val (.long sB), .second, .val (.int (own_b ex)), .val (.ref b12), .unset, .unset, .unset, .unset, .unset, .unset] [])) (fun _ kgo => XS.astore X13.here hx rfl (hb hby at_248) rfl rfl (l' := #[.val (.long q0), .second, .val (.long q1), .second, .val (.int p2), .val (.int p3), .val (.long q4), .second, .val (.long q5), .second, .val (.long cA), .second, .val (.int mA), .val (.int hA), .val (.int dA), .val (.long sA), .second, .val (.long cB), .second, .val (.int mB), .val (.int hB), .val (.int dB), .val (.long sB), .second, .val (.int (own_b ex)), .val (.ref b12), .unset, .unset, .unset, .unset, .unset, .unset]) rfl kgo) ?_
                refine own_go (g' := (mkF m 252 #[.val (.long q0), .second, .val (.long q1), .second, .val (.int p2), .val (.int p3), .val (.long q4), .second, .val (.long q5), .second, .val (.long cA), .second, .val (.int mA), .val (.int hA), .val (.int dA), .val (.long sA), .second, .val (.long cB), .second, .val (.int mB), .val (.int hB), .val (.int dB), .val (.long sB), .second, .val (.int (own_b ex)), .val (.ref b12), .unset, .unset, .unset, .unset, .unset, .unset] [(.int p3)])) (fun _ kgo => XS.iload X13.here hx rfl (hb hby at_250) rfl kgo) ?_
                refine own_go (g' := (mkF m 254 #[.val (.long q0), .second, .val (.long q1), .second, .val (.int p2), .val (.int p3), .val (.long q4), .second, .val (.long q5), .second, .val (.long cA), .second, .val (.int mA), .val (.int hA), .val (.int dA), .val (.long sA), .second, .val (.long cB), .second, .val (.int mB), .val (.int hB), .val (.int dB), .val (.long sB), .second, .val (.int (own_b ex)), .val (.ref b12), .unset, .unset, .unset, .unset, .unset, .unset] [(.int (32 : Int32)), (.int p3)])) (fun _ kgo => XS.bipush X13.here hx rfl (hb hby at_252) kgo) ?_
                refine own_go (g' := (mkF m 255 #[.val (.long q0), .second, .val (.long q1), .second, .val (.int p2), .val (.int p3), .val (.long q4), .second, .val (.long q5), .second, .val (.long cA), .second, .val (.int mA), .val (.int hA), .val (.int dA), .val (.long sA), .second, .val (.long cB), .second, .val (.int mB), .val (.int hB), .val (.int dB), .val (.long sB), .second, .val (.int (own_b ex)), .val (.ref b12), .unset, .unset, .unset, .unset, .unset, .unset] [(.int (p3 &&& (32 : Int32)))])) (fun _ kgo => XS.iand X13.here hx rfl (hb hby at_254) rfl kgo) ?_
                by_cases hc14 : (p3 &&& (32 : Int32)) = (0 : Int32)
                ·
                  refine own_go (g' := (mkF m 267 #[.val (.long q0), .second, .val (.long q1), .second, .val (.int p2), .val (.int p3), .val (.long q4), .second, .val (.long q5), .second, .val (.long cA), .second, .val (.int mA), .val (.int hA), .val (.int dA), .val (.long sA), .second, .val (.long cB), .second, .val (.int mB), .val (.int hB), .val (.int dB), .val (.long sB), .second, .val (.int (own_b ex)), .val (.ref b12), .unset, .unset, .unset, .unset, .unset, .unset] [])) (fun _ kgo => XS.ifYes X13.here hx rfl (pc0 := 255) (pc' := 267) rfl (hb hby at_255) rfl ((if0 _ _).trans (teq hc14).1) (by decide) (by decide) kgo) ?_
                  have hsA0 := hsA hc14
                  have hsd : Fld Z T13.heap b12 "com/example/seenset/seenset/filter/StableParameters" "seed" "J" (.long sA) := by rw [hsA0]; exact q13_5
                  obtain ⟨T15, h15, X15, e15, E15, A15, D15, -, st15⟩ := newO X13 hx hZ hown (hw _ (List.mem_of_getElem? (i := 5) rfl)) (hw _ (List.mem_of_getElem? (i := 6) rfl)) (hw _ (List.mem_of_getElem? (i := 7) rfl)) rfl (g := (mkF m 267 #[.val (.long q0), .second, .val (.long q1), .second, .val (.int p2), .val (.int p3), .val (.long q4), .second, .val (.long q5), .second, .val (.long cA), .second, .val (.int mA), .val (.int hA), .val (.int dA), .val (.long sA), .second, .val (.long cB), .second, .val (.int mB), .val (.int hB), .val (.int dB), .val (.long sB), .second, .val (.int (own_b ex)), .val (.ref b12), .unset, .unset, .unset, .unset, .unset, .unset] [])) rfl (hb hby at_267) (by decide) (by decide)
                  obtain ⟨b15, ad15⟩ : ∃ z, z = T13.heap.size := ⟨_, rfl⟩
                  rw [← ad15] at A15 D15 st15
                  have ne_b12_b15 : b12 ≠ b15 := Nat.ne_of_lt (by rw [ad15]; exact q13_0.lt)
                  have ge_b15 : n0 ≤ b15 := by rw [ad15]; exact Z13
                  have Z15 : n0 ≤ h15.size := Nat.le_trans Z13 E15.1
                  have F15_cells : Fld Z h15 b15 "com/example/seenset/seenset/filter/StableParameters" "cells" "J" (.long (0 : Int64)) := D15 (Or.inr (hw _ (List.mem_of_getElem? (i := 33) rfl))) (ty := .long) (by decide)
                  have F15_max : Fld Z h15 b15 "com/example/seenset/seenset/filter/StableParameters" "max" "I" (.int (0 : Int32)) := D15 (Or.inr (hw _ (List.mem_of_getElem? (i := 35) rfl))) (ty := .int) (by decide)
                  have F15_hashes : Fld Z h15 b15 "com/example/seenset/seenset/filter/StableParameters" "hashes" "I" (.int (0 : Int32)) := D15 (Or.inr (hw _ (List.mem_of_getElem? (i := 37) rfl))) (ty := .int) (by decide)
                  have F15_decrement : Fld Z h15 b15 "com/example/seenset/seenset/filter/StableParameters" "decrement" "I" (.int (0 : Int32)) := D15 (Or.inr (hw _ (List.mem_of_getElem? (i := 39) rfl))) (ty := .int) (by decide)
                  have F15_seed : Fld Z h15 b15 "com/example/seenset/seenset/filter/StableParameters" "seed" "J" (.long (0 : Int64)) := D15 (Or.inr (hw _ (List.mem_of_getElem? (i := 41) rfl))) (ty := .long) (by decide)
                  refine own_go (g' := (mkF m 270 #[.val (.long q0), .second, .val (.long q1), .second, .val (.int p2), .val (.int p3), .val (.long q4), .second, .val (.long q5), .second, .val (.long cA), .second, .val (.int mA), .val (.int hA), .val (.int dA), .val (.long sA), .second, .val (.long cB), .second, .val (.int mB), .val (.int hB), .val (.int dB), .val (.long sB), .second, .val (.int (own_b ex)), .val (.ref b12), .unset, .unset, .unset, .unset, .unset, .unset] [(.ref b15)])) (st15) ?_
                  refine own_go (g' := (mkF m 271 #[.val (.long q0), .second, .val (.long q1), .second, .val (.int p2), .val (.int p3), .val (.long q4), .second, .val (.long q5), .second, .val (.long cA), .second, .val (.int mA), .val (.int hA), .val (.int dA), .val (.long sA), .second, .val (.long cB), .second, .val (.int mB), .val (.int hB), .val (.int dB), .val (.long sB), .second, .val (.int (own_b ex)), .val (.ref b12), .unset, .unset, .unset, .unset, .unset, .unset] [(.ref b15), (.ref b15)])) (fun _ kgo => XS.dup X15.here hx rfl (hb hby at_270) rfl rfl kgo) ?_
                  refine own_go (g' := (mkF m 273 #[.val (.long q0), .second, .val (.long q1), .second, .val (.int p2), .val (.int p3), .val (.long q4), .second, .val (.long q5), .second, .val (.long cA), .second, .val (.int mA), .val (.int hA), .val (.int dA), .val (.long sA), .second, .val (.long cB), .second, .val (.int mB), .val (.int hB), .val (.int dB), .val (.long sB), .second, .val (.int (own_b ex)), .val (.ref b12), .unset, .unset, .unset, .unset, .unset, .unset] [(.long cB), (.ref b15), (.ref b15)])) (fun _ kgo => XS.lload X15.here hx rfl (hb hby at_271) rfl kgo) ?_
                  refine own_go (g' := (mkF m 275 #[.val (.long q0), .second, .val (.long q1), .second, .val (.int p2), .val (.int p3), .val (.long q4), .second, .val (.long q5), .second, .val (.long cA), .second, .val (.int mA), .val (.int hA), .val (.int dA), .val (.long sA), .second, .val (.long cB), .second, .val (.int mB), .val (.int hB), .val (.int dB), .val (.long sB), .second, .val (.int (own_b ex)), .val (.ref b12), .unset, .unset, .unset, .unset, .unset, .unset] [(.int mB), (.long cB), (.ref b15), (.ref b15)])) (fun _ kgo => XS.iload X15.here hx rfl (hb hby at_273) rfl kgo) ?_
                  refine own_go (g' := (mkF m 277 #[.val (.long q0), .second, .val (.long q1), .second, .val (.int p2), .val (.int p3), .val (.long q4), .second, .val (.long q5), .second, .val (.long cA), .second, .val (.int mA), .val (.int hA), .val (.int dA), .val (.long sA), .second, .val (.long cB), .second, .val (.int mB), .val (.int hB), .val (.int dB), .val (.long sB), .second, .val (.int (own_b ex)), .val (.ref b12), .unset, .unset, .unset, .unset, .unset, .unset] [(.int hB), (.int mB), (.long cB), (.ref b15), (.ref b15)])) (fun _ kgo => XS.iload X15.here hx rfl (hb hby at_275) rfl kgo) ?_
                  refine own_go (g' := (mkF m 279 #[.val (.long q0), .second, .val (.long q1), .second, .val (.int p2), .val (.int p3), .val (.long q4), .second, .val (.long q5), .second, .val (.long cA), .second, .val (.int mA), .val (.int hA), .val (.int dA), .val (.long sA), .second, .val (.long cB), .second, .val (.int mB), .val (.int hB), .val (.int dB), .val (.long sB), .second, .val (.int (own_b ex)), .val (.ref b12), .unset, .unset, .unset, .unset, .unset, .unset] [(.int dB), (.int hB), (.int mB), (.long cB), (.ref b15), (.ref b15)])) (fun _ kgo => XS.iload X15.here hx rfl (hb hby at_277) rfl kgo) ?_
                  obtain ⟨v16, T16, L16, hQ16, X16, st16⟩ := own_callI X15 hx hZ (y := (⟨"com/example/seenset/seenset/filter/StableParameters", "<init>", "(JIII)V"⟩ : MethodName)) rfl hown (hw _ (List.mem_of_getElem? (i := 8) rfl)) (hw _ (List.mem_of_getElem? (i := 9) rfl)) (hw _ (List.mem_of_getElem? (i := 7) rfl)) (hw _ (List.mem_of_getElem? (i := 10) rfl)) ⟨by decide, by decide⟩ (a := b15) (argsL := [(.long cB), (.int mB), (.int hB), (.int dB)]) (ct4 l Z a0 hw b15 cB mB hB dB h15 n0 Z15 ge_b15 A15 F15_cells F15_max F15_hashes F15_decrement F15_seed hclB hmxB hhsB hdeB) e15 (g := (mkF m 279 #[.val (.long q0), .second, .val (.long q1), .second, .val (.int p2), .val (.int p3), .val (.long q4), .second, .val (.long q5), .second, .val (.long cA), .second, .val (.int mA), .val (.int hA), .val (.int dA), .val (.long sA), .second, .val (.long cB), .second, .val (.int mB), .val (.int hB), .val (.int dB), .val (.long sB), .second, .val (.int (own_b ex)), .val (.ref b12), .unset, .unset, .unset, .unset, .unset, .unset] [(.int dB), (.int hB), (.int mB), (.long cB), (.ref b15), (.ref b15)])) rfl (by rw [hml]; rfl) (rest := [(.ref b15)]) (lenOf pd0_1 rfl) rfl (hb hby at_279) (W := 1) (by show 2 * 0 + _ ≤ _; exact Nat.le_of_eq rfl) (by decide) (by decide) (by decide) (by decide)
                  obtain ⟨rfl, Nq16, Kq16, q16_0, q16_1, q16_2, q16_3, q16_4, q16_5⟩ := hQ16
                  have N16 := Fr.app N13 Nq16
                  have Z16 : n0 ≤ T16.heap.size := Nat.le_trans Z15 Kq16.1
                  refine own_go (g' := (mkF m 282 #[.val (.long q0), .second, .val (.long q1), .second, .val (.int p2), .val (.int p3), .val (.long q4), .second, .val (.long q5), .second, .val (.long cA), .second, .val (.int mA), .val (.int hA), .val (.int dA), .val (.long sA), .second, .val (.long cB), .second, .val (.int mB), .val (.int hB), .val (.int dB), .val (.long sB), .second, .val (.int (own_b ex)), .val (.ref b12), .unset, .unset, .unset, .unset, .unset, .unset] [(.ref b15)])) (st16) ?_
                  refine own_go (g' := (mkF m 284 #[.val (.long q0), .second, .val (.long q1), .second, .val (.int p2), .val (.int p3), .val (.long q4), .second, .val (.long q5), .second, .val (.long cA), .second, .val (.int mA), .val (.int hA), .val (.int dA), .val (.long sA), .second, .val (.long cB), .second, .val (.int mB), .val (.int hB), .val (.int dB), .val (.long sB), .second, .val (.int (own_b ex)), .val (.ref b12), .unset, .unset, .unset, .unset, .unset, .unset] [(.long sB), (.ref b15)])) (fun _ kgo => XS.lload X16.here hx rfl (hb hby at_282) rfl kgo) ?_
                  obtain ⟨v17, T17, L17, hQ17, X17, st17⟩ := own_callV X16 hx hZ (y := (⟨"com/example/seenset/seenset/filter/StableParameters", "withSeed", "(J)Lcom/example/seenset/seenset/filter/StableParameters;"⟩ : MethodName)) (z := (⟨"com/example/seenset/seenset/filter/StableParameters", "withSeed", "(J)Lcom/example/seenset/seenset/filter/StableParameters;"⟩ : MethodName)) hown (hw _ (List.mem_of_getElem? (i := 42) rfl)) (hw _ (List.mem_of_getElem? (i := 43) rfl)) (notFace_of_selects (args := #[]) (mvT hZ (hw _ (List.mem_of_getElem? (i := 45) rfl)))) (hw _ (List.mem_of_getElem? (i := 45) rfl)) (hw _ (List.mem_of_getElem? (i := 44) rfl)) (hw _ (List.mem_of_getElem? (i := 7) rfl)) (hw _ (List.mem_of_getElem? (i := 46) rfl)) ⟨by decide, by decide⟩ (a := b15) (argsL := [(.long sB)]) (rm8 l Z a0 hw b15 sB cB mB hB dB (0 : Int64) T16.heap n0 Z16 q16_1 q16_2 q16_3 q16_4 q16_5 hclB hmxB hhsB hdeB) rfl q16_0 (g := (mkF m 284 #[.val (.long q0), .second, .val (.long q1), .second, .val (.int p2), .val (.int p3), .val (.long q4), .second, .val (.long q5), .second, .val (.long cA), .second, .val (.int mA), .val (.int hA), .val (.int dA), .val (.long sA), .second, .val (.long cB), .second, .val (.int mB), .val (.int hB), .val (.int dB), .val (.long sB), .second, .val (.int (own_b ex)), .val (.ref b12), .unset, .unset, .unset, .unset, .unset, .unset] [(.long sB), (.ref b15)])) rfl (by rw [hml]; rfl) (rest := []) (lenOf pd0_2 rfl) rfl (hb hby at_284) (W := 0) (by show 2 * 0 + _ ≤ _; exact Nat.le_of_eq rfl) (by decide) (by decide) (by decide) (by decide)
                  obtain ⟨r17, rfl, Nq17, Kq17, pr17_0, q17_0, q17_1, q17_2, q17_3, q17_4, q17_5⟩ := hQ17
                  have fx18 : Exa Z T16.heap b12 "com/example/seenset/seenset/filter/StableParameters" := (Exa.keep (Exa.ext E15 q13_0) Kq16)
                  have ne_b12_r17 : b12 ≠ r17 := Nat.ne_of_lt (Nat.lt_of_lt_of_le fx18.lt pr17_0)
                  have ne_b15_r17 : b15 ≠ r17 := Nat.ne_of_lt (Nat.lt_of_lt_of_le q16_0.lt pr17_0)
                  have ge_r17 : n0 ≤ r17 := Nat.le_trans Z16 pr17_0
                  have N17 := Fr.app N16 Nq17
                  have Z17 : n0 ≤ T17.heap.size := Nat.le_trans Z16 Kq17.1
                  refine own_go (g' := (mkF m 287 #[.val (.long q0), .second, .val (.long q1), .second, .val (.int p2), .val (.int p3), .val (.long q4), .second, .val (.long q5), .second, .val (.long cA), .second, .val (.int mA), .val (.int hA), .val (.int dA), .val (.long sA), .second, .val (.long cB), .second, .val (.int mB), .val (.int hB), .val (.int dB), .val (.long sB), .second, .val (.int (own_b ex)), .val (.ref b12), .unset, .unset, .unset, .unset, .unset, .unset] [(.ref r17)])) (st17) ?_
                  refine own_go (g' := (mkF m 289 #[.val (.long q0), .second, .val (.long q1), .second, .val (.int p2), .val (.int p3), .val (.long q4), .second, .val (.long q5), .second, .val (.long cA), .second, .val (.int mA), .val (.int hA), .val (.int dA), .val (.long sA), .second, .val (.long cB), .second, .val (.int mB), .val (.int hB), .val (.int dB), .val (.long sB), .second, .val (.int (own_b ex)), .val (.ref b12), .val (.ref r17), .unset, .unset, .unset, .unset, .unset] [])) (fun _ kgo => XS.astore X17.here hx rfl (hb hby at_287) rfl rfl (l' := #[.val (.long q0), .second, .val (.long q1), .second, .val (.int p2), .val (.int p3), .val (.long q4), .second, .val (.long q5), .second, .val (.long cA), .second, .val (.int mA), .val (.int hA), .val (.int dA), .val (.long sA), .second, .val (.long cB), .second, .val (.int mB), .val (.int hB), .val (.int dB), .val (.long sB), .second, .val (.int (own_b ex)), .val (.ref b12), .val (.ref r17), .unset, .unset, .unset, .unset, .unset]) rfl kgo) ?_
                  refine own_go (g' := (mkF m 291 #[.val (.long q0), .second, .val (.long q1), .second, .val (.int p2), .val (.int p3), .val (.long q4), .second, .val (.long q5), .second, .val (.long cA), .second, .val (.int mA), .val (.int hA), .val (.int dA), .val (.long sA), .second, .val (.long cB), .second, .val (.int mB), .val (.int hB), .val (.int dB), .val (.long sB), .second, .val (.int (own_b ex)), .val (.ref b12), .val (.ref r17), .unset, .unset, .unset, .unset, .unset] [(.ref b12)])) (fun _ kgo => XS.aload X17.here hx rfl (hb hby at_289) rfl rfl kgo) ?_
                  refine own_go (g' := (mkF m 293 #[.val (.long q0), .second, .val (.long q1), .second, .val (.int p2), .val (.int p3), .val (.long q4), .second, .val (.long q5), .second, .val (.long cA), .second, .val (.int mA), .val (.int hA), .val (.int dA), .val (.long sA), .second, .val (.long cB), .second, .val (.int mB), .val (.int hB), .val (.int dB), .val (.long sB), .second, .val (.int (own_b ex)), .val (.ref b12), .val (.ref r17), .unset, .unset, .unset, .unset, .unset] [(.ref r17), (.ref b12)])) (fun _ kgo => XS.aload X17.here hx rfl (hb hby at_291) rfl rfl kgo) ?_
                  have fx20 : Fld Z T17.heap b12 "com/example/seenset/seenset/filter/StableParameters" "cells" "J" (.long cA) := (Fld.keep (Fld.keep (Fld.ext E15 q13_1) Kq16 (ninS ne_b12_b15 nin0)) Kq17 nin0)
                  have fx21 : Fld Z T17.heap b12 "com/example/seenset/seenset/filter/StableParameters" "max" "I" (.int mA) := (Fld.keep (Fld.keep (Fld.ext E15 q13_2) Kq16 (ninS ne_b12_b15 nin0)) Kq17 nin0)
                  have fx22 : Fld Z T17.heap b12 "com/example/seenset/seenset/filter/StableParameters" "hashes" "I" (.int hA) := (Fld.keep (Fld.keep (Fld.ext E15 q13_3) Kq16 (ninS ne_b12_b15 nin0)) Kq17 nin0)
                  have fx23 : Fld Z T17.heap b12 "com/example/seenset/seenset/filter/StableParameters" "decrement" "I" (.int dA) := (Fld.keep (Fld.keep (Fld.ext E15 q13_4) Kq16 (ninS ne_b12_b15 nin0)) Kq17 nin0)
                  have fx24 : Fld Z T17.heap b12 "com/example/seenset/seenset/filter/StableParameters" "seed" "J" (.long sA) := (Fld.keep (Fld.keep (Fld.ext E15 hsd) Kq16 (ninS ne_b12_b15 nin0)) Kq17 nin0)
                  have fx25 : Exa Z T17.heap b12 "com/example/seenset/seenset/filter/StableParameters" := (Exa.keep fx18 Kq17)
                  obtain ⟨v19, T19, L19, hQ19, X19, st19⟩ := own_callV X17 hx hZ (y := (⟨"com/example/seenset/seenset/filter/StableParameters", "equals", "(Ljava/lang/Object;)Z"⟩ : MethodName)) (z := (⟨"com/example/seenset/seenset/filter/StableParameters", "equals", "(Ljava/lang/Object;)Z"⟩ : MethodName)) hown (hw _ (List.mem_of_getElem? (i := 48) rfl)) (hw _ (List.mem_of_getElem? (i := 49) rfl)) (notFace_of_selects (args := #[]) (mvT hZ (hw _ (List.mem_of_getElem? (i := 51) rfl)))) (hw _ (List.mem_of_getElem? (i := 51) rfl)) (hw _ (List.mem_of_getElem? (i := 50) rfl)) (hw _ (List.mem_of_getElem? (i := 7) rfl)) (hw _ (List.mem_of_getElem? (i := 52) rfl)) ⟨by decide, by decide⟩ (a := b12) (argsL := [(.ref r17)]) (eqs l Z a0 hw b12 r17 cA mA hA dA sA cB mB hB dB sB T17.heap q17_0 fx20 fx21 fx22 fx23 fx24 q17_1 q17_2 q17_3 q17_4 q17_5) rfl fx25 (g := (mkF m 293 #[.val (.long q0), .second, .val (.long q1), .second, .val (.int p2), .val (.int p3), .val (.long q4), .second, .val (.long q5), .second, .val (.long cA), .second, .val (.int mA), .val (.int hA), .val (.int dA), .val (.long sA), .second, .val (.long cB), .second, .val (.int mB), .val (.int hB), .val (.int dB), .val (.long sB), .second, .val (.int (own_b ex)), .val (.ref b12), .val (.ref r17), .unset, .unset, .unset, .unset, .unset] [(.ref r17), (.ref b12)])) rfl (by rw [hml]; rfl) (rest := []) (lenOf pd0_3 rfl) rfl (hb hby at_293) (W := 0) (by show 2 * 0 + _ ≤ _; exact Nat.le_of_eq rfl) (by decide) (by decide) (by decide) (by decide)
                  obtain ⟨rfl, e19, rfl⟩ := hQ19
                  have N19 := Fr.app N17 (Fr.nil n0)
                  refine own_go (g' := (mkF m 296 #[.val (.long q0), .second, .val (.long q1), .second, .val (.int p2), .val (.int p3), .val (.long q4), .second, .val (.long q5), .second, .val (.long cA), .second, .val (.int mA), .val (.int hA), .val (.int dA), .val (.long sA), .second, .val (.long cB), .second, .val (.int mB), .val (.int hB), .val (.int dB), .val (.long sB), .second, .val (.int (own_b ex)), .val (.ref b12), .val (.ref r17), .unset, .unset, .unset, .unset, .unset] [(.int (own_b (decide (cA = cB ∧ mA = mB ∧ hA = hB ∧ dA = dB ∧ sA = sB))))])) (st19) ?_
                  suffices JNhab : ∀ ab : Bool, ab = (decide (cA = cB ∧ mA = mB ∧ hA = hB ∧ dA = dB ∧ sA = sB)) → own_Go p e below (own_Post s QQ 24 128) T19 (mkF m 296 #[.val (.long q0), .second, .val (.long q1), .second, .val (.int p2), .val (.int p3), .val (.long q4), .second, .val (.long q5), .second, .val (.long cA), .second, .val (.int mA), .val (.int hA), .val (.int dA), .val (.long sA), .second, .val (.long cB), .second, .val (.int mB), .val (.int hB), .val (.int dB), .val (.long sB), .second, .val (.int (own_b ex)), .val (.ref b12), .val (.ref r17), .unset, .unset, .unset, .unset, .unset] [(.int (own_b ab))]) from JNhab _ (rfl)
                  intro ab hab
                  refine own_go (g' := (mkF m 298 #[.val (.long q0), .second, .val (.long q1), .second, .val (.int p2), .val (.int p3), .val (.long q4), .second, .val (.long q5), .second, .val (.long cA), .second, .val (.int mA), .val (.int hA), .val (.int dA), .val (.long sA), .second, .val (.long cB), .second, .val (.int mB), .val (.int hB), .val (.int dB), .val (.long sB), .second, .val (.int (own_b ex)), .val (.ref b12), .val (.ref r17), .val (.int (own_b ab)), .unset, .unset, .unset, .unset] [])) (fun _ kgo => XS.istore X19.here hx rfl (hb hby at_296) rfl (l' := #[.val (.long q0), .second, .val (.long q1), .second, .val (.int p2), .val (.int p3), .val (.long q4), .second, .val (.long q5), .second, .val (.long cA), .second, .val (.int mA), .val (.int hA), .val (.int dA), .val (.long sA), .second, .val (.long cB), .second, .val (.int mB), .val (.int hB), .val (.int dB), .val (.long sB), .second, .val (.int (own_b ex)), .val (.ref b12), .val (.ref r17), .val (.int (own_b ab)), .unset, .unset, .unset, .unset]) rfl kgo) ?_
                  refine own_go (g' := (mkF m 300 #[.val (.long q0), .second, .val (.long q1), .second, .val (.int p2), .val (.int p3), .val (.long q4), .second, .val (.long q5), .second, .val (.long cA), .second, .val (.int mA), .val (.int hA), .val (.int dA), .val (.long sA), .second, .val (.long cB), .second, .val (.int mB), .val (.int hB), .val (.int dB), .val (.long sB), .second, .val (.int (own_b ex)), .val (.ref b12), .val (.ref r17), .val (.int (own_b ab)), .unset, .unset, .unset, .unset] [(.ref r17)])) (fun _ kgo => XS.aload X19.here hx rfl (hb hby at_298) rfl rfl kgo) ?_
                  refine own_go (g' := (mkF m 302 #[.val (.long q0), .second, .val (.long q1), .second, .val (.int p2), .val (.int p3), .val (.long q4), .second, .val (.long q5), .second, .val (.long cA), .second, .val (.int mA), .val (.int hA), .val (.int dA), .val (.long sA), .second, .val (.long cB), .second, .val (.int mB), .val (.int hB), .val (.int dB), .val (.long sB), .second, .val (.int (own_b ex)), .val (.ref b12), .val (.ref r17), .val (.int (own_b ab)), .unset, .unset, .unset, .unset] [(.ref b12), (.ref r17)])) (fun _ kgo => XS.aload X19.here hx rfl (hb hby at_300) rfl rfl kgo) ?_
                  obtain ⟨v26, T26, L26, hQ26, X26, st26⟩ := own_callV X19 hx hZ (y := (⟨"com/example/seenset/seenset/filter/StableParameters", "equals", "(Ljava/lang/Object;)Z"⟩ : MethodName)) (z := (⟨"com/example/seenset/seenset/filter/StableParameters", "equals", "(Ljava/lang/Object;)Z"⟩ : MethodName)) hown (hw _ (List.mem_of_getElem? (i := 48) rfl)) (hw _ (List.mem_of_getElem? (i := 49) rfl)) (notFace_of_selects (args := #[]) (mvT hZ (hw _ (List.mem_of_getElem? (i := 51) rfl)))) (hw _ (List.mem_of_getElem? (i := 51) rfl)) (hw _ (List.mem_of_getElem? (i := 50) rfl)) (hw _ (List.mem_of_getElem? (i := 7) rfl)) (hw _ (List.mem_of_getElem? (i := 52) rfl)) ⟨by decide, by decide⟩ (a := r17) (argsL := [(.ref b12)]) (eqs l Z a0 hw r17 b12 cB mB hB dB sB cA mA hA dA sA T17.heap fx25 q17_1 q17_2 q17_3 q17_4 q17_5 fx20 fx21 fx22 fx23 fx24) e19 q17_0 (g := (mkF m 302 #[.val (.long q0), .second, .val (.long q1), .second, .val (.int p2), .val (.int p3), .val (.long q4), .second, .val (.long q5), .second, .val (.long cA), .second, .val (.int mA), .val (.int hA), .val (.int dA), .val (.long sA), .second, .val (.long cB), .second, .val (.int mB), .val (.int hB), .val (.int dB), .val (.long sB), .second, .val (.int (own_b ex)), .val (.ref b12), .val (.ref r17), .val (.int (own_b ab)), .unset, .unset, .unset, .unset] [(.ref b12), (.ref r17)])) rfl (by rw [hml]; rfl) (rest := []) (lenOf pd0_3 rfl) rfl (hb hby at_302) (W := 0) (by show 2 * 0 + _ ≤ _; exact Nat.le_of_eq rfl) (by decide) (by decide) (by decide) (by decide)
                  obtain ⟨rfl, e26, rfl⟩ := hQ26
                  have N26 := Fr.app N19 (Fr.nil n0)
                  refine own_go (g' := (mkF m 305 #[.val (.long q0), .second, .val (.long q1), .second, .val (.int p2), .val (.int p3), .val (.long q4), .second, .val (.long q5), .second, .val (.long cA), .second, .val (.int mA), .val (.int hA), .val (.int dA), .val (.long sA), .second, .val (.long cB), .second, .val (.int mB), .val (.int hB), .val (.int dB), .val (.long sB), .second, .val (.int (own_b ex)), .val (.ref b12), .val (.ref r17), .val (.int (own_b ab)), .unset, .unset, .unset, .unset] [(.int (own_b (decide (cB = cA ∧ mB = mA ∧ hB = hA ∧ dB = dA ∧ sB = sA))))])) (st26) ?_
                  suffices JNhba : ∀ ba : Bool, ba = (decide (cB = cA ∧ mB = mA ∧ hB = hA ∧ dB = dA ∧ sB = sA)) → own_Go p e below (own_Post s QQ 24 128) T26 (mkF m 305 #[.val (.long q0), .second, .val (.long q1), .second, .val (.int p2), .val (.int p3), .val (.long q4), .second, .val (.long q5), .second, .val (.long cA), .second, .val (.int mA), .val (.int hA), .val (.int dA), .val (.long sA), .second, .val (.long cB), .second, .val (.int mB), .val (.int hB), .val (.int dB), .val (.long sB), .second, .val (.int (own_b ex)), .val (.ref b12), .val (.ref r17), .val (.int (own_b ab)), .unset, .unset, .unset, .unset] [(.int (own_b ba))]) from JNhba _ (rfl)
                  intro ba hba
                  refine own_go (g' := (mkF m 307 #[.val (.long q0), .second, .val (.long q1), .second, .val (.int p2), .val (.int p3), .val (.long q4), .second, .val (.long q5), .second, .val (.long cA), .second, .val (.int mA), .val (.int hA), .val (.int dA), .val (.long sA), .second, .val (.long cB), .second, .val (.int mB), .val (.int hB), .val (.int dB), .val (.long sB), .second, .val (.int (own_b ex)), .val (.ref b12), .val (.ref r17), .val (.int (own_b ab)), .val (.int (own_b ba)), .unset, .unset, .unset] [])) (fun _ kgo => XS.istore X26.here hx rfl (hb hby at_305) rfl (l' := #[.val (.long q0), .second, .val (.long q1), .second, .val (.int p2), .val (.int p3), .val (.long q4), .second, .val (.long q5), .second, .val (.long cA), .second, .val (.int mA), .val (.int hA), .val (.int dA), .val (.long sA), .second, .val (.long cB), .second, .val (.int mB), .val (.int hB), .val (.int dB), .val (.long sB), .second, .val (.int (own_b ex)), .val (.ref b12), .val (.ref r17), .val (.int (own_b ab)), .val (.int (own_b ba)), .unset, .unset, .unset]) rfl kgo) ?_
                  refine own_go (g' := (mkF m 309 #[.val (.long q0), .second, .val (.long q1), .second, .val (.int p2), .val (.int p3), .val (.long q4), .second, .val (.long q5), .second, .val (.long cA), .second, .val (.int mA), .val (.int hA), .val (.int dA), .val (.long sA), .second, .val (.long cB), .second, .val (.int mB), .val (.int hB), .val (.int dB), .val (.long sB), .second, .val (.int (own_b ex)), .val (.ref b12), .val (.ref r17), .val (.int (own_b ab)), .val (.int (own_b ba)), .unset, .unset, .unset] [(.ref b12)])) (fun _ kgo => XS.aload X26.here hx rfl (hb hby at_307) rfl rfl kgo) ?_
                  refine own_go (g' := (mkF m 311 #[.val (.long q0), .second, .val (.long q1), .second, .val (.int p2), .val (.int p3), .val (.long q4), .second, .val (.long q5), .second, .val (.long cA), .second, .val (.int mA), .val (.int hA), .val (.int dA), .val (.long sA), .second, .val (.long cB), .second, .val (.int mB), .val (.int hB), .val (.int dB), .val (.long sB), .second, .val (.int (own_b ex)), .val (.ref b12), .val (.ref r17), .val (.int (own_b ab)), .val (.int (own_b ba)), .unset, .unset, .unset] [(.ref b12), (.ref b12)])) (fun _ kgo => XS.aload X26.here hx rfl (hb hby at_309) rfl rfl kgo) ?_
                  obtain ⟨v27, T27, L27, hQ27, X27, st27⟩ := own_callV X26 hx hZ (y := (⟨"com/example/seenset/seenset/filter/StableParameters", "equals", "(Ljava/lang/Object;)Z"⟩ : MethodName)) (z := (⟨"com/example/seenset/seenset/filter/StableParameters", "equals", "(Ljava/lang/Object;)Z"⟩ : MethodName)) hown (hw _ (List.mem_of_getElem? (i := 48) rfl)) (hw _ (List.mem_of_getElem? (i := 49) rfl)) (notFace_of_selects (args := #[]) (mvT hZ (hw _ (List.mem_of_getElem? (i := 51) rfl)))) (hw _ (List.mem_of_getElem? (i := 51) rfl)) (hw _ (List.mem_of_getElem? (i := 50) rfl)) (hw _ (List.mem_of_getElem? (i := 7) rfl)) (hw _ (List.mem_of_getElem? (i := 52) rfl)) ⟨by decide, by decide⟩ (a := b12) (argsL := [(.ref b12)]) (eqs l Z a0 hw b12 b12 cA mA hA dA sA cA mA hA dA sA T17.heap fx25 fx20 fx21 fx22 fx23 fx24 fx20 fx21 fx22 fx23 fx24) e26 fx25 (g := (mkF m 311 #[.val (.long q0), .second, .val (.long q1), .second, .val (.int p2), .val (.int p3), .val (.long q4), .second, .val (.long q5), .second, .val (.long cA), .second, .val (.int mA), .val (.int hA), .val (.int dA), .val (.long sA), .second, .val (.long cB), .second, .val (.int mB), .val (.int hB), .val (.int dB), .val (.long sB), .second, .val (.int (own_b ex)), .val (.ref b12), .val (.ref r17), .val (.int (own_b ab)), .val (.int (own_b ba)), .unset, .unset, .unset] [(.ref b12), (.ref b12)])) rfl (by rw [hml]; rfl) (rest := []) (lenOf pd0_3 rfl) rfl (hb hby at_311) (W := 0) (by show 2 * 0 + _ ≤ _; exact Nat.le_of_eq rfl) (by decide) (by decide) (by decide) (by decide)
                  obtain ⟨rfl, e27, rfl⟩ := hQ27
                  have N27 := Fr.app N26 (Fr.nil n0)
                  refine own_go (g' := (mkF m 314 #[.val (.long q0), .second, .val (.long q1), .second, .val (.int p2), .val (.int p3), .val (.long q4), .second, .val (.long q5), .second, .val (.long cA), .second, .val (.int mA), .val (.int hA), .val (.int dA), .val (.long sA), .second, .val (.long cB), .second, .val (.int mB), .val (.int hB), .val (.int dB), .val (.long sB), .second, .val (.int (own_b ex)), .val (.ref b12), .val (.ref r17), .val (.int (own_b ab)), .val (.int (own_b ba)), .unset, .unset, .unset] [(.int (own_b (decide (cA = cA ∧ mA = mA ∧ hA = hA ∧ dA = dA ∧ sA = sA))))])) (st27) ?_
                  suffices JNhsf : ∀ sf : Bool, sf = (decide (cA = cA ∧ mA = mA ∧ hA = hA ∧ dA = dA ∧ sA = sA)) → own_Go p e below (own_Post s QQ 24 128) T27 (mkF m 314 #[.val (.long q0), .second, .val (.long q1), .second, .val (.int p2), .val (.int p3), .val (.long q4), .second, .val (.long q5), .second, .val (.long cA), .second, .val (.int mA), .val (.int hA), .val (.int dA), .val (.long sA), .second, .val (.long cB), .second, .val (.int mB), .val (.int hB), .val (.int dB), .val (.long sB), .second, .val (.int (own_b ex)), .val (.ref b12), .val (.ref r17), .val (.int (own_b ab)), .val (.int (own_b ba)), .unset, .unset, .unset] [(.int (own_b sf))]) from JNhsf _ (rfl)
                  intro sf hsf
                  refine own_go (g' := (mkF m 316 #[.val (.long q0), .second, .val (.long q1), .second, .val (.int p2), .val (.int p3), .val (.long q4), .second, .val (.long q5), .second, .val (.long cA), .second, .val (.int mA), .val (.int hA), .val (.int dA), .val (.long sA), .second, .val (.long cB), .second, .val (.int mB), .val (.int hB), .val (.int dB), .val (.long sB), .second, .val (.int (own_b ex)), .val (.ref b12), .val (.ref r17), .val (.int (own_b ab)), .val (.int (own_b ba)), .val (.int (own_b sf)), .unset, .unset] [])) (fun _ kgo => XS.istore X27.here hx rfl (hb hby at_314) rfl (l' := #[.val (.long q0), .second, .val (.long q1), .second, .val (.int p2), .val (.int p3), .val (.long q4), .second, .val (.long q5), .second, .val (.long cA), .second, .val (.int mA), .val (.int hA), .val (.int dA), .val (.long sA), .second, .val (.long cB), .second, .val (.int mB), .val (.int hB), .val (.int dB), .val (.long sB), .second, .val (.int (own_b ex)), .val (.ref b12), .val (.ref r17), .val (.int (own_b ab)), .val (.int (own_b ba)), .val (.int (own_b sf)), .unset, .unset]) rfl kgo) ?_
                  refine own_go (g' := (mkF m 318 #[.val (.long q0), .second, .val (.long q1), .second, .val (.int p2), .val (.int p3), .val (.long q4), .second, .val (.long q5), .second, .val (.long cA), .second, .val (.int mA), .val (.int hA), .val (.int dA), .val (.long sA), .second, .val (.long cB), .second, .val (.int mB), .val (.int hB), .val (.int dB), .val (.long sB), .second, .val (.int (own_b ex)), .val (.ref b12), .val (.ref r17), .val (.int (own_b ab)), .val (.int (own_b ba)), .val (.int (own_b sf)), .unset, .unset] [(.ref b12)])) (fun _ kgo => XS.aload X27.here hx rfl (hb hby at_316) rfl rfl kgo) ?_
                  refine own_go (g' := (mkF m 319 #[.val (.long q0), .second, .val (.long q1), .second, .val (.int p2), .val (.int p3), .val (.long q4), .second, .val (.long q5), .second, .val (.long cA), .second, .val (.int mA), .val (.int hA), .val (.int dA), .val (.long sA), .second, .val (.long cB), .second, .val (.int mB), .val (.int hB), .val (.int dB), .val (.long sB), .second, .val (.int (own_b ex)), .val (.ref b12), .val (.ref r17), .val (.int (own_b ab)), .val (.int (own_b ba)), .val (.int (own_b sf)), .unset, .unset] [.null, (.ref b12)])) (fun _ kgo => XS.aconstNull X27.here hx rfl (hb hby at_318) kgo) ?_
                  obtain ⟨v28, T28, L28, hQ28, X28, st28⟩ := own_callV X27 hx hZ (y := (⟨"com/example/seenset/seenset/filter/StableParameters", "equals", "(Ljava/lang/Object;)Z"⟩ : MethodName)) (z := (⟨"com/example/seenset/seenset/filter/StableParameters", "equals", "(Ljava/lang/Object;)Z"⟩ : MethodName)) hown (hw _ (List.mem_of_getElem? (i := 48) rfl)) (hw _ (List.mem_of_getElem? (i := 49) rfl)) (notFace_of_selects (args := #[]) (mvT hZ (hw _ (List.mem_of_getElem? (i := 51) rfl)))) (hw _ (List.mem_of_getElem? (i := 51) rfl)) (hw _ (List.mem_of_getElem? (i := 50) rfl)) (hw _ (List.mem_of_getElem? (i := 7) rfl)) (hw _ (List.mem_of_getElem? (i := 52) rfl)) ⟨by decide, by decide⟩ (a := b12) (argsL := [.null]) (eqn l Z a0 hw b12 T17.heap) e27 fx25 (g := (mkF m 319 #[.val (.long q0), .second, .val (.long q1), .second, .val (.int p2), .val (.int p3), .val (.long q4), .second, .val (.long q5), .second, .val (.long cA), .second, .val (.int mA), .val (.int hA), .val (.int dA), .val (.long sA), .second, .val (.long cB), .second, .val (.int mB), .val (.int hB), .val (.int dB), .val (.long sB), .second, .val (.int (own_b ex)), .val (.ref b12), .val (.ref r17), .val (.int (own_b ab)), .val (.int (own_b ba)), .val (.int (own_b sf)), .unset, .unset] [.null, (.ref b12)])) rfl (by rw [hml]; rfl) (rest := []) (lenOf pd0_3 rfl) rfl (hb hby at_319) (W := 0) (by show 2 * 0 + _ ≤ _; exact Nat.le_of_eq rfl) (by decide) (by decide) (by decide) (by decide)
                  obtain ⟨rfl, e28, rfl⟩ := hQ28
                  have N28 := Fr.app N27 (Fr.nil n0)
                  refine own_go (g' := (mkF m 322 #[.val (.long q0), .second, .val (.long q1), .second, .val (.int p2), .val (.int p3), .val (.long q4), .second, .val (.long q5), .second, .val (.long cA), .second, .val (.int mA), .val (.int hA), .val (.int dA), .val (.long sA), .second, .val (.long cB), .second, .val (.int mB), .val (.int hB), .val (.int dB), .val (.long sB), .second, .val (.int (own_b ex)), .val (.ref b12), .val (.ref r17), .val (.int (own_b ab)), .val (.int (own_b ba)), .val (.int (own_b sf)), .unset, .unset] [(.int (0 : Int32))])) (st28) ?_
                  refine own_go (g' := (mkF m 324 #[.val (.long q0), .second, .val (.long q1), .second, .val (.int p2), .val (.int p3), .val (.long q4), .second, .val (.long q5), .second, .val (.long cA), .second, .val (.int mA), .val (.int hA), .val (.int dA), .val (.long sA), .second, .val (.long cB), .second, .val (.int mB), .val (.int hB), .val (.int dB), .val (.long sB), .second, .val (.int (own_b ex)), .val (.ref b12), .val (.ref r17), .val (.int (own_b ab)), .val (.int (own_b ba)), .val (.int (own_b sf)), .val (.int (0 : Int32)), .unset] [])) (fun _ kgo => XS.istore X28.here hx rfl (hb hby at_322) rfl (l' := #[.val (.long q0), .second, .val (.long q1), .second, .val (.int p2), .val (.int p3), .val (.long q4), .second, .val (.long q5), .second, .val (.long cA), .second, .val (.int mA), .val (.int hA), .val (.int dA), .val (.long sA), .second, .val (.long cB), .second, .val (.int mB), .val (.int hB), .val (.int dB), .val (.long sB), .second, .val (.int (own_b ex)), .val (.ref b12), .val (.ref r17), .val (.int (own_b ab)), .val (.int (own_b ba)), .val (.int (own_b sf)), .val (.int (0 : Int32)), .unset]) rfl kgo) ?_
                  refine own_go (g' := (mkF m 326 #[.val (.long q0), .second, .val (.long q1), .second, .val (.int p2), .val (.int p3), .val (.long q4), .second, .val (.long q5), .second, .val (.long cA), .second, .val (.int mA), .val (.int hA), .val (.int dA), .val (.long sA), .second, .val (.long cB), .second, .val (.int mB), .val (.int hB), .val (.int dB), .val (.long sB), .second, .val (.int (own_b ex)), .val (.ref b12), .val (.ref r17), .val (.int (own_b ab)), .val (.int (own_b ba)), .val (.int (own_b sf)), .val (.int (0 : Int32)), .unset] [(.ref b12)])) (fun _ kgo => XS.aload X28.here hx rfl (hb hby at_324) rfl rfl kgo) ?_
                  refine own_go (g' := (mkF m 328 #[.val (.long q0), .second, .val (.long q1), .second, .val (.int p2), .val (.int p3), .val (.long q4), .second, .val (.long q5), .second, .val (.long cA), .second, .val (.int mA), .val (.int hA), .val (.int dA), .val (.long sA), .second, .val (.long cB), .second, .val (.int mB), .val (.int hB), .val (.int dB), .val (.long sB), .second, .val (.int (own_b ex)), .val (.ref b12), .val (.ref r17), .val (.int (own_b ab)), .val (.int (own_b ba)), .val (.int (own_b sf)), .val (.int (0 : Int32)), .unset] [(.int p2), (.ref b12)])) (fun _ kgo => XS.iload X28.here hx rfl (hb hby at_326) rfl kgo) ?_
                  have fx30 : Old Z n0 T17.heap := (Old.keep (Old.keep (Old.ext (Old.keep (Old.ext O0 E12) Kq13 (allS ge_b12 all0)) E15) Kq16 (allS ge_b15 all0)) Kq17 all0)
                  obtain ⟨v29, T29, L29, hQ29, X29, st29⟩ := own_callS X28 hx hZ (y := (⟨"java/lang/Integer", "valueOf", "(I)Ljava/lang/Integer;"⟩ : MethodName)) hown (hw _ (List.mem_of_getElem? (i := 54) rfl)) (hw _ (List.mem_of_getElem? (i := 55) rfl)) (hw _ (List.mem_of_getElem? (i := 22) rfl)) (hw _ (List.mem_of_getElem? (i := 56) rfl)) ⟨by decide, by decide⟩ (argsL := [(.int p2)]) (rm10 l Z a0 hw p2 ca cl T17.heap n0 Z17 (Sta.ext fx30.2 S0) (Sta.ext fx30.2 S1) (Arr.ext fx30.2 har) hsz (fun j hj => (hel j hj).imp fun a q => ⟨q.1, Exa.ext fx30.2 q.2⟩)) e28 (g := (mkF m 328 #[.val (.long q0), .second, .val (.long q1), .second, .val (.int p2), .val (.int p3), .val (.long q4), .second, .val (.long q5), .second, .val (.long cA), .second, .val (.int mA), .val (.int hA), .val (.int dA), .val (.long sA), .second, .val (.long cB), .second, .val (.int mB), .val (.int hB), .val (.int dB), .val (.long sB), .second, .val (.int (own_b ex)), .val (.ref b12), .val (.ref r17), .val (.int (own_b ab)), .val (.int (own_b ba)), .val (.int (own_b sf)), .val (.int (0 : Int32)), .unset] [(.int p2), (.ref b12)])) rfl (by rw [hml]; rfl) (rest := [(.ref b12)]) (lenOf pd0_4 rfl) rfl (hb hby at_328) (W := 1) (by show 2 * 0 + _ ≤ _; exact Nat.le_of_eq rfl) (by decide) (by decide) (by decide) (by decide)
                  obtain ⟨r29, rfl, Nq29, Kq29, q29_0⟩ := hQ29
                  have N29 := Fr.app N28 Nq29
                  have Z29 : n0 ≤ T29.heap.size := Nat.le_trans Z17 Kq29.1
                  refine own_go (g' := (mkF m 331 #[.val (.long q0), .second, .val (.long q1), .second, .val (.int p2), .val (.int p3), .val (.long q4), .second, .val (.long q5), .second, .val (.long cA), .second, .val (.int mA), .val (.int hA), .val (.int dA), .val (.long sA), .second, .val (.long cB), .second, .val (.int mB), .val (.int hB), .val (.int dB), .val (.long sB), .second, .val (.int (own_b ex)), .val (.ref b12), .val (.ref r17), .val (.int (own_b ab)), .val (.int (own_b ba)), .val (.int (own_b sf)), .val (.int (0 : Int32)), .unset] [(.ref r29), (.ref b12)])) (st29) ?_
                  have fx32 : Exa Z T29.heap b12 "com/example/seenset/seenset/filter/StableParameters" := (Exa.keep fx25 Kq29)
                  obtain ⟨v31, T31, L31, hQ31, X31, st31⟩ := own_callV X29 hx hZ (y := (⟨"com/example/seenset/seenset/filter/StableParameters", "equals", "(Ljava/lang/Object;)Z"⟩ : MethodName)) (z := (⟨"com/example/seenset/seenset/filter/StableParameters", "equals", "(Ljava/lang/Object;)Z"⟩ : MethodName)) hown (hw _ (List.mem_of_getElem? (i := 48) rfl)) (hw _ (List.mem_of_getElem? (i := 49) rfl)) (notFace_of_selects (args := #[]) (mvT hZ (hw _ (List.mem_of_getElem? (i := 51) rfl)))) (hw _ (List.mem_of_getElem? (i := 51) rfl)) (hw _ (List.mem_of_getElem? (i := 50) rfl)) (hw _ (List.mem_of_getElem? (i := 7) rfl)) (hw _ (List.mem_of_getElem? (i := 52) rfl)) ⟨by decide, by decide⟩ (a := b12) (argsL := [(.ref r29)]) (eqi l Z a0 hw b12 r29 T29.heap q29_0) rfl fx32 (g := (mkF m 331 #[.val (.long q0), .second, .val (.long q1), .second, .val (.int p2), .val (.int p3), .val (.long q4), .second, .val (.long q5), .second, .val (.long cA), .second, .val (.int mA), .val (.int hA), .val (.int dA), .val (.long sA), .second, .val (.long cB), .second, .val (.int mB), .val (.int hB), .val (.int dB), .val (.long sB), .second, .val (.int (own_b ex)), .val (.ref b12), .val (.ref r17), .val (.int (own_b ab)), .val (.int (own_b ba)), .val (.int (own_b sf)), .val (.int (0 : Int32)), .unset] [(.ref r29), (.ref b12)])) rfl (by rw [hml]; rfl) (rest := []) (lenOf pd0_3 rfl) rfl (hb hby at_331) (W := 0) (by show 2 * 0 + _ ≤ _; exact Nat.le_of_eq rfl) (by decide) (by decide) (by decide) (by decide)
                  obtain ⟨rfl, e31, rfl⟩ := hQ31
                  have N31 := Fr.app N29 (Fr.nil n0)
                  refine own_go (g' := (mkF m 334 #[.val (.long q0), .second, .val (.long q1), .second, .val (.int p2), .val (.int p3), .val (.long q4), .second, .val (.long q5), .second, .val (.long cA), .second, .val (.int mA), .val (.int hA), .val (.int dA), .val (.long sA), .second, .val (.long cB), .second, .val (.int mB), .val (.int hB), .val (.int dB), .val (.long sB), .second, .val (.int (own_b ex)), .val (.ref b12), .val (.ref r17), .val (.int (own_b ab)), .val (.int (own_b ba)), .val (.int (own_b sf)), .val (.int (0 : Int32)), .unset] [(.int (0 : Int32))])) (st31) ?_
                  refine own_go (g' := (mkF m 336 #[.val (.long q0), .second, .val (.long q1), .second, .val (.int p2), .val (.int p3), .val (.long q4), .second, .val (.long q5), .second, .val (.long cA), .second, .val (.int mA), .val (.int hA), .val (.int dA), .val (.long sA), .second, .val (.long cB), .second, .val (.int mB), .val (.int hB), .val (.int dB), .val (.long sB), .second, .val (.int (own_b ex)), .val (.ref b12), .val (.ref r17), .val (.int (own_b ab)), .val (.int (own_b ba)), .val (.int (own_b sf)), .val (.int (0 : Int32)), .val (.int (0 : Int32))] [])) (fun _ kgo => XS.istore X31.here hx rfl (hb hby at_334) rfl (l' := #[.val (.long q0), .second, .val (.long q1), .second, .val (.int p2), .val (.int p3), .val (.long q4), .second, .val (.long q5), .second, .val (.long cA), .second, .val (.int mA), .val (.int hA), .val (.int dA), .val (.long sA), .second, .val (.long cB), .second, .val (.int mB), .val (.int hB), .val (.int dB), .val (.long sB), .second, .val (.int (own_b ex)), .val (.ref b12), .val (.ref r17), .val (.int (own_b ab)), .val (.int (own_b ba)), .val (.int (own_b sf)), .val (.int (0 : Int32)), .val (.int (0 : Int32))]) rfl kgo) ?_
                  refine own_go (g' := (mkF m 338 #[.val (.long q0), .second, .val (.long q1), .second, .val (.int p2), .val (.int p3), .val (.long q4), .second, .val (.long q5), .second, .val (.long cA), .second, .val (.int mA), .val (.int hA), .val (.int dA), .val (.long sA), .second, .val (.long cB), .second, .val (.int mB), .val (.int hB), .val (.int dB), .val (.long sB), .second, .val (.int (own_b ex)), .val (.ref b12), .val (.ref r17), .val (.int (own_b ab)), .val (.int (own_b ba)), .val (.int (own_b sf)), .val (.int (0 : Int32)), .val (.int (0 : Int32))] [(.int (own_b ab))])) (fun _ kgo => XS.iload X31.here hx rfl (hb hby at_336) rfl kgo) ?_
                  refine own_go (g' := (mkF m 340 #[.val (.long q0), .second, .val (.long q1), .second, .val (.int p2), .val (.int p3), .val (.long q4), .second, .val (.long q5), .second, .val (.long cA), .second, .val (.int mA), .val (.int hA), .val (.int dA), .val (.long sA), .second, .val (.long cB), .second, .val (.int mB), .val (.int hB), .val (.int dB), .val (.long sB), .second, .val (.int (own_b ex)), .val (.ref b12), .val (.ref r17), .val (.int (own_b ab)), .val (.int (own_b ba)), .val (.int (own_b sf)), .val (.int (0 : Int32)), .val (.int (0 : Int32))] [(.int (own_b ex)), (.int (own_b ab))])) (fun _ kgo => XS.iload X31.here hx rfl (hb hby at_338) rfl kgo) ?_
                  refine own_go (g' := (mkF m 343 #[.val (.long q0), .second, .val (.long q1), .second, .val (.int p2), .val (.int p3), .val (.long q4), .second, .val (.long q5), .second, .val (.long cA), .second, .val (.int mA), .val (.int hA), .val (.int dA), .val (.long sA), .second, .val (.long cB), .second, .val (.int mB), .val (.int hB), .val (.int dB), .val (.long sB), .second, .val (.int (own_b ex)), .val (.ref b12), .val (.ref r17), .val (.int (own_b ab)), .val (.int (own_b ba)), .val (.int (own_b sf)), .val (.int (0 : Int32)), .val (.int (0 : Int32))] [])) (fun _ kgo => XS.icmpNo X31.here hx rfl (hb hby at_340) rfl (teq (congrArg own_b (show ab = ex from by subst hab; subst hex; rw [Bool.eq_iff_iff]; simp only [Bool.and_eq_true, decide_eq_true_eq, ← Int32.toInt_inj, ← Int64.toInt_inj] <;> omega))).2 kgo) ?_
                  refine own_go (g' := (mkF m 345 #[.val (.long q0), .second, .val (.long q1), .second, .val (.int p2), .val (.int p3), .val (.long q4), .second, .val (.long q5), .second, .val (.long cA), .second, .val (.int mA), .val (.int hA), .val (.int dA), .val (.long sA), .second, .val (.long cB), .second, .val (.int mB), .val (.int hB), .val (.int dB), .val (.long sB), .second, .val (.int (own_b ex)), .val (.ref b12), .val (.ref r17), .val (.int (own_b ab)), .val (.int (own_b ba)), .val (.int (own_b sf)), .val (.int (0 : Int32)), .val (.int (0 : Int32))] [(.int (own_b ba))])) (fun _ kgo => XS.iload X31.here hx rfl (hb hby at_343) rfl kgo) ?_
                  refine own_go (g' := (mkF m 347 #[.val (.long q0), .second, .val (.long q1), .second, .val (.int p2), .val (.int p3), .val (.long q4), .second, .val (.long q5), .second, .val (.long cA), .second, .val (.int mA), .val (.int hA), .val (.int dA), .val (.long sA), .second, .val (.long cB), .second, .val (.int mB), .val (.int hB), .val (.int dB), .val (.long sB), .second, .val (.int (own_b ex)), .val (.ref b12), .val (.ref r17), .val (.int (own_b ab)), .val (.int (own_b ba)), .val (.int (own_b sf)), .val (.int (0 : Int32)), .val (.int (0 : Int32))] [(.int (own_b ex)), (.int (own_b ba))])) (fun _ kgo => XS.iload X31.here hx rfl (hb hby at_345) rfl kgo) ?_
                  refine own_go (g' := (mkF m 350 #[.val (.long q0), .second, .val (.long q1), .second, .val (.int p2), .val (.int p3), .val (.long q4), .second, .val (.long q5), .second, .val (.long cA), .second, .val (.int mA), .val (.int hA), .val (.int dA), .val (.long sA), .second, .val (.long cB), .second, .val (.int mB), .val (.int hB), .val (.int dB), .val (.long sB), .second, .val (.int (own_b ex)), .val (.ref b12), .val (.ref r17), .val (.int (own_b ab)), .val (.int (own_b ba)), .val (.int (own_b sf)), .val (.int (0 : Int32)), .val (.int (0 : Int32))] [])) (fun _ kgo => XS.icmpNo X31.here hx rfl (hb hby at_347) rfl (teq (congrArg own_b (show ba = ex from by subst hba; subst hex; rw [Bool.eq_iff_iff]; simp only [Bool.and_eq_true, decide_eq_true_eq, ← Int32.toInt_inj, ← Int64.toInt_inj] <;> omega))).2 kgo) ?_
                  refine own_go (g' := (mkF m 352 #[.val (.long q0), .second, .val (.long q1), .second, .val (.int p2), .val (.int p3), .val (.long q4), .second, .val (.long q5), .second, .val (.long cA), .second, .val (.int mA), .val (.int hA), .val (.int dA), .val (.long sA), .second, .val (.long cB), .second, .val (.int mB), .val (.int hB), .val (.int dB), .val (.long sB), .second, .val (.int (own_b ex)), .val (.ref b12), .val (.ref r17), .val (.int (own_b ab)), .val (.int (own_b ba)), .val (.int (own_b sf)), .val (.int (0 : Int32)), .val (.int (0 : Int32))] [(.int (own_b sf))])) (fun _ kgo => XS.iload X31.here hx rfl (hb hby at_350) rfl kgo) ?_
                  refine own_go (g' := (mkF m 355 #[.val (.long q0), .second, .val (.long q1), .second, .val (.int p2), .val (.int p3), .val (.long q4), .second, .val (.long q5), .second, .val (.long cA), .second, .val (.int mA), .val (.int hA), .val (.int dA), .val (.long sA), .second, .val (.long cB), .second, .val (.int mB), .val (.int hB), .val (.int dB), .val (.long sB), .second, .val (.int (own_b ex)), .val (.ref b12), .val (.ref r17), .val (.int (own_b ab)), .val (.int (own_b ba)), .val (.int (own_b sf)), .val (.int (0 : Int32)), .val (.int (0 : Int32))] [])) (fun _ kgo => XS.ifNo X31.here hx rfl (hb hby at_352) rfl ((if0 _ _).trans (feq (own_b_n (by rw [hsf]; exact decide_eq_true ⟨rfl, rfl, rfl, rfl, rfl⟩))).1) kgo) ?_
                  refine own_go (g' := (mkF m 357 #[.val (.long q0), .second, .val (.long q1), .second, .val (.int p2), .val (.int p3), .val (.long q4), .second, .val (.long q5), .second, .val (.long cA), .second, .val (.int mA), .val (.int hA), .val (.int dA), .val (.long sA), .second, .val (.long cB), .second, .val (.int mB), .val (.int hB), .val (.int dB), .val (.long sB), .second, .val (.int (own_b ex)), .val (.ref b12), .val (.ref r17), .val (.int (own_b ab)), .val (.int (own_b ba)), .val (.int (own_b sf)), .val (.int (0 : Int32)), .val (.int (0 : Int32))] [(.int (0 : Int32))])) (fun _ kgo => XS.iload X31.here hx rfl (hb hby at_355) rfl kgo) ?_
                  refine own_go (g' := (mkF m 360 #[.val (.long q0), .second, .val (.long q1), .second, .val (.int p2), .val (.int p3), .val (.long q4), .second, .val (.long q5), .second, .val (.long cA), .second, .val (.int mA), .val (.int hA), .val (.int dA), .val (.long sA), .second, .val (.long cB), .second, .val (.int mB), .val (.int hB), .val (.int dB), .val (.long sB), .second, .val (.int (own_b ex)), .val (.ref b12), .val (.ref r17), .val (.int (own_b ab)), .val (.int (own_b ba)), .val (.int (own_b sf)), .val (.int (0 : Int32)), .val (.int (0 : Int32))] [])) (fun _ kgo => XS.ifNo X31.here hx rfl (hb hby at_357) rfl ((if0 _ _).trans (teq (by decide)).2) kgo) ?_
                  refine own_go (g' := (mkF m 362 #[.val (.long q0), .second, .val (.long q1), .second, .val (.int p2), .val (.int p3), .val (.long q4), .second, .val (.long q5), .second, .val (.long cA), .second, .val (.int mA), .val (.int hA), .val (.int dA), .val (.long sA), .second, .val (.long cB), .second, .val (.int mB), .val (.int hB), .val (.int dB), .val (.long sB), .second, .val (.int (own_b ex)), .val (.ref b12), .val (.ref r17), .val (.int (own_b ab)), .val (.int (own_b ba)), .val (.int (own_b sf)), .val (.int (0 : Int32)), .val (.int (0 : Int32))] [(.int (0 : Int32))])) (fun _ kgo => XS.iload X31.here hx rfl (hb hby at_360) rfl kgo) ?_
                  refine own_go (g' := (mkF m 365 #[.val (.long q0), .second, .val (.long q1), .second, .val (.int p2), .val (.int p3), .val (.long q4), .second, .val (.long q5), .second, .val (.long cA), .second, .val (.int mA), .val (.int hA), .val (.int dA), .val (.long sA), .second, .val (.long cB), .second, .val (.int mB), .val (.int hB), .val (.int dB), .val (.long sB), .second, .val (.int (own_b ex)), .val (.ref b12), .val (.ref r17), .val (.int (own_b ab)), .val (.int (own_b ba)), .val (.int (own_b sf)), .val (.int (0 : Int32)), .val (.int (0 : Int32))] [])) (fun _ kgo => XS.ifNo X31.here hx rfl (hb hby at_362) rfl ((if0 _ _).trans (teq (by decide)).2) kgo) ?_
                  refine own_go (g' := (mkF m 366 #[.val (.long q0), .second, .val (.long q1), .second, .val (.int p2), .val (.int p3), .val (.long q4), .second, .val (.long q5), .second, .val (.long cA), .second, .val (.int mA), .val (.int hA), .val (.int dA), .val (.long sA), .second, .val (.long cB), .second, .val (.int mB), .val (.int hB), .val (.int dB), .val (.long sB), .second, .val (.int (own_b ex)), .val (.ref b12), .val (.ref r17), .val (.int (own_b ab)), .val (.int (own_b ba)), .val (.int (own_b sf)), .val (.int (0 : Int32)), .val (.int (0 : Int32))] [(.int (1 : Int32))])) (fun _ kgo => XS.iconst X31.here hx rfl (hb hby at_365) kgo) ?_
                  refine own_go (g' := (mkF m 370 #[.val (.long q0), .second, .val (.long q1), .second, .val (.int p2), .val (.int p3), .val (.long q4), .second, .val (.long q5), .second, .val (.long cA), .second, .val (.int mA), .val (.int hA), .val (.int dA), .val (.long sA), .second, .val (.long cB), .second, .val (.int mB), .val (.int hB), .val (.int dB), .val (.long sB), .second, .val (.int (own_b ex)), .val (.ref b12), .val (.ref r17), .val (.int (own_b ab)), .val (.int (own_b ba)), .val (.int (own_b sf)), .val (.int (0 : Int32)), .val (.int (0 : Int32))] [(.int (1 : Int32))])) (fun _ kgo => XS.goto X31.here hx rfl (pc0 := 366) (pc' := 370) rfl (hb hby at_366) (by decide) (by decide) kgo) ?_
                  refine own_retN X31 hx .boolean Bd.returns Bd.notSynchronized (by simp) (hb hby at_370) (by decide) (by decide) ?_
                  show QQ _ T31.heap _
                  rw [e31]
                  rw [← hQQ]
                  exact ⟨rfl, N31⟩
                ·
                  refine own_go (g' := (mkF m 258 #[.val (.long q0), .second, .val (.long q1), .second, .val (.int p2), .val (.int p3), .val (.long q4), .second, .val (.long q5), .second, .val (.long cA), .second, .val (.int mA), .val (.int hA), .val (.int dA), .val (.long sA), .second, .val (.long cB), .second, .val (.int mB), .val (.int hB), .val (.int dB), .val (.long sB), .second, .val (.int (own_b ex)), .val (.ref b12), .unset, .unset, .unset, .unset, .unset, .unset] [])) (fun _ kgo => XS.ifNo X13.here hx rfl (hb hby at_255) rfl ((if0 _ _).trans (feq hc14).1) kgo) ?_
                  refine own_go (g' := (mkF m 260 #[.val (.long q0), .second, .val (.long q1), .second, .val (.int p2), .val (.int p3), .val (.long q4), .second, .val (.long q5), .second, .val (.long cA), .second, .val (.int mA), .val (.int hA), .val (.int dA), .val (.long sA), .second, .val (.long cB), .second, .val (.int mB), .val (.int hB), .val (.int dB), .val (.long sB), .second, .val (.int (own_b ex)), .val (.ref b12), .unset, .unset, .unset, .unset, .unset, .unset] [(.ref b12)])) (fun _ kgo => XS.aload X13.here hx rfl (hb hby at_258) rfl rfl kgo) ?_
                  refine own_go (g' := (mkF m 262 #[.val (.long q0), .second, .val (.long q1), .second, .val (.int p2), .val (.int p3), .val (.long q4), .second, .val (.long q5), .second, .val (.long cA), .second, .val (.int mA), .val (.int hA), .val (.int dA), .val (.long sA), .second, .val (.long cB), .second, .val (.int mB), .val (.int hB), .val (.int dB), .val (.long sB), .second, .val (.int (own_b ex)), .val (.ref b12), .unset, .unset, .unset, .unset, .unset, .unset] [(.long sA), (.ref b12)])) (fun _ kgo => XS.lload X13.here hx rfl (hb hby at_260) rfl kgo) ?_
                  obtain ⟨v33, T33, L33, hQ33, X33, st33⟩ := own_callV X13 hx hZ (y := (⟨"com/example/seenset/seenset/filter/StableParameters", "withSeed", "(J)Lcom/example/seenset/seenset/filter/StableParameters;"⟩ : MethodName)) (z := (⟨"com/example/seenset/seenset/filter/StableParameters", "withSeed", "(J)Lcom/example/seenset/seenset/filter/StableParameters;"⟩ : MethodName)) hown (hw _ (List.mem_of_getElem? (i := 42) rfl)) (hw _ (List.mem_of_getElem? (i := 43) rfl)) (notFace_of_selects (args := #[]) (mvT hZ (hw _ (List.mem_of_getElem? (i := 45) rfl)))) (hw _ (List.mem_of_getElem? (i := 45) rfl)) (hw _ (List.mem_of_getElem? (i := 44) rfl)) (hw _ (List.mem_of_getElem? (i := 7) rfl)) (hw _ (List.mem_of_getElem? (i := 46) rfl)) ⟨by decide, by decide⟩ (a := b12) (argsL := [(.long sA)]) (rm8 l Z a0 hw b12 sA cA mA hA dA (0 : Int64) T13.heap n0 Z13 q13_1 q13_2 q13_3 q13_4 q13_5 hclA hmxA hhsA hdeA) rfl q13_0 (g := (mkF m 262 #[.val (.long q0), .second, .val (.long q1), .second, .val (.int p2), .val (.int p3), .val (.long q4), .second, .val (.long q5), .second, .val (.long cA), .second, .val (.int mA), .val (.int hA), .val (.int dA), .val (.long sA), .second, .val (.long cB), .second, .val (.int mB), .val (.int hB), .val (.int dB), .val (.long sB), .second, .val (.int (own_b ex)), .val (.ref b12), .unset, .unset, .unset, .unset, .unset, .unset] [(.long sA), (.ref b12)])) rfl (by rw [hml]; rfl) (rest := []) (lenOf pd0_2 rfl) rfl (hb hby at_262) (W := 0) (by show 2 * 0 + _ ≤ _; exact Nat.le_of_eq rfl) (by decide) (by decide) (by decide) (by decide)
                  obtain ⟨r33, rfl, Nq33, Kq33, pr33_0, q33_0, q33_1, q33_2, q33_3, q33_4, q33_5⟩ := hQ33
                  have ne_b12_r33 : b12 ≠ r33 := Nat.ne_of_lt (Nat.lt_of_lt_of_le q13_0.lt pr33_0)
                  have ge_r33 : n0 ≤ r33 := Nat.le_trans Z13 pr33_0
                  have N33 := Fr.app N13 Nq33
                  have Z33 : n0 ≤ T33.heap.size := Nat.le_trans Z13 Kq33.1
                  refine own_go (g' := (mkF m 265 #[.val (.long q0), .second, .val (.long q1), .second, .val (.int p2), .val (.int p3), .val (.long q4), .second, .val (.long q5), .second, .val (.long cA), .second, .val (.int mA), .val (.int hA), .val (.int dA), .val (.long sA), .second, .val (.long cB), .second, .val (.int mB), .val (.int hB), .val (.int dB), .val (.long sB), .second, .val (.int (own_b ex)), .val (.ref b12), .unset, .unset, .unset, .unset, .unset, .unset] [(.ref r33)])) (st33) ?_
                  refine own_go (g' := (mkF m 267 #[.val (.long q0), .second, .val (.long q1), .second, .val (.int p2), .val (.int p3), .val (.long q4), .second, .val (.long q5), .second, .val (.long cA), .second, .val (.int mA), .val (.int hA), .val (.int dA), .val (.long sA), .second, .val (.long cB), .second, .val (.int mB), .val (.int hB), .val (.int dB), .val (.long sB), .second, .val (.int (own_b ex)), .val (.ref r33), .unset, .unset, .unset, .unset, .unset, .unset] [])) (fun _ kgo => XS.astore X33.here hx rfl (hb hby at_265) rfl rfl (l' := #[.val (.long q0), .second, .val (.long q1), .second, .val (.int p2), .val (.int p3), .val (.long q4), .second, .val (.long q5), .second, .val (.long cA), .second, .val (.int mA), .val (.int hA), .val (.int dA), .val (.long sA), .second, .val (.long cB), .second, .val (.int mB), .val (.int hB), .val (.int dB), .val (.long sB), .second, .val (.int (own_b ex)), .val (.ref r33), .unset, .unset, .unset, .unset, .unset, .unset]) rfl kgo) ?_
                  obtain ⟨T34, h34, X34, e34, E34, A34, D34, -, st34⟩ := newO X33 hx hZ hown (hw _ (List.mem_of_getElem? (i := 5) rfl)) (hw _ (List.mem_of_getElem? (i := 6) rfl)) (hw _ (List.mem_of_getElem? (i := 7) rfl)) rfl (g := (mkF m 267 #[.val (.long q0), .second, .val (.long q1), .second, .val (.int p2), .val (.int p3), .val (.long q4), .second, .val (.long q5), .second, .val (.long cA), .second, .val (.int mA), .val (.int hA), .val (.int dA), .val (.long sA), .second, .val (.long cB), .second, .val (.int mB), .val (.int hB), .val (.int dB), .val (.long sB), .second, .val (.int (own_b ex)), .val (.ref r33), .unset, .unset, .unset, .unset, .unset, .unset] [])) rfl (hb hby at_267) (by decide) (by decide)
                  obtain ⟨b34, ad34⟩ : ∃ z, z = T33.heap.size := ⟨_, rfl⟩
                  rw [← ad34] at A34 D34 st34
                  have fx35 : Exa Z T33.heap b12 "com/example/seenset/seenset/filter/StableParameters" := (Exa.keep q13_0 Kq33)
                  have ne_b12_b34 : b12 ≠ b34 := Nat.ne_of_lt (by rw [ad34]; exact fx35.lt)
                  have ne_r33_b34 : r33 ≠ b34 := Nat.ne_of_lt (by rw [ad34]; exact q33_0.lt)
                  have ge_b34 : n0 ≤ b34 := by rw [ad34]; exact Z33
                  have Z34 : n0 ≤ h34.size := Nat.le_trans Z33 E34.1
                  have F34_cells : Fld Z h34 b34 "com/example/seenset/seenset/filter/StableParameters" "cells" "J" (.long (0 : Int64)) := D34 (Or.inr (hw _ (List.mem_of_getElem? (i := 33) rfl))) (ty := .long) (by decide)
                  have F34_max : Fld Z h34 b34 "com/example/seenset/seenset/filter/StableParameters" "max" "I" (.int (0 : Int32)) := D34 (Or.inr (hw _ (List.mem_of_getElem? (i := 35) rfl))) (ty := .int) (by decide)
                  have F34_hashes : Fld Z h34 b34 "com/example/seenset/seenset/filter/StableParameters" "hashes" "I" (.int (0 : Int32)) := D34 (Or.inr (hw _ (List.mem_of_getElem? (i := 37) rfl))) (ty := .int) (by decide)
                  have F34_decrement : Fld Z h34 b34 "com/example/seenset/seenset/filter/StableParameters" "decrement" "I" (.int (0 : Int32)) := D34 (Or.inr (hw _ (List.mem_of_getElem? (i := 39) rfl))) (ty := .int) (by decide)
                  have F34_seed : Fld Z h34 b34 "com/example/seenset/seenset/filter/StableParameters" "seed" "J" (.long (0 : Int64)) := D34 (Or.inr (hw _ (List.mem_of_getElem? (i := 41) rfl))) (ty := .long) (by decide)
                  refine own_go (g' := (mkF m 270 #[.val (.long q0), .second, .val (.long q1), .second, .val (.int p2), .val (.int p3), .val (.long q4), .second, .val (.long q5), .second, .val (.long cA), .second, .val (.int mA), .val (.int hA), .val (.int dA), .val (.long sA), .second, .val (.long cB), .second, .val (.int mB), .val (.int hB), .val (.int dB), .val (.long sB), .second, .val (.int (own_b ex)), .val (.ref r33), .unset, .unset, .unset, .unset, .unset, .unset] [(.ref b34)])) (st34) ?_
                  refine own_go (g' := (mkF m 271 #[.val (.long q0), .second, .val (.long q1), .second, .val (.int p2), .val (.int p3), .val (.long q4), .second, .val (.long q5), .second, .val (.long cA), .second, .val (.int mA), .val (.int hA), .val (.int dA), .val (.long sA), .second, .val (.long cB), .second, .val (.int mB), .val (.int hB), .val (.int dB), .val (.long sB), .second, .val (.int (own_b ex)), .val (.ref r33), .unset, .unset, .unset, .unset, .unset, .unset] [(.ref b34), (.ref b34)])) (fun _ kgo => XS.dup X34.here hx rfl (hb hby at_270) rfl rfl kgo) ?_
                  refine own_go (g' := (mkF m 273 #[.val (.long q0), .second, .val (.long q1), .second, .val (.int p2), .val (.int p3), .val (.long q4), .second, .val (.long q5), .second, .val (.long cA), .second, .val (.int mA), .val (.int hA), .val (.int dA), .val (.long sA), .second, .val (.long cB), .second, .val (.int mB), .val (.int hB), .val (.int dB), .val (.long sB), .second, .val (.int (own_b ex)), .val (.ref r33), .unset, .unset, .unset, .unset, .unset, .unset] [(.long cB), (.ref b34), (.ref b34)])) (fun _ kgo => XS.lload X34.here hx rfl (hb hby at_271) rfl kgo) ?_
                  refine own_go (g' := (mkF m 275 #[.val (.long q0), .second, .val (.long q1), .second, .val (.int p2), .val (.int p3), .val (.long q4), .second, .val (.long q5), .second, .val (.long cA), .second, .val (.int mA), .val (.int hA), .val (.int dA), .val (.long sA), .second, .val (.long cB), .second, .val (.int mB), .val (.int hB), .val (.int dB), .val (.long sB), .second, .val (.int (own_b ex)), .val (.ref r33), .unset, .unset, .unset, .unset, .unset, .unset] [(.int mB), (.long cB), (.ref b34), (.ref b34)])) (fun _ kgo => XS.iload X34.here hx rfl (hb hby at_273) rfl kgo) ?_
                  refine own_go (g' := (mkF m 277 #[.val (.long q0), .second, .val (.long q1), .second, .val (.int p2), .val (.int p3), .val (.long q4), .second, .val (.long q5), .second, .val (.long cA), .second, .val (.int mA), .val (.int hA), .val (.int dA), .val (.long sA), .second, .val (.long cB), .second, .val (.int mB), .val (.int hB), .val (.int dB), .val (.long sB), .second, .val (.int (own_b ex)), .val (.ref r33), .unset, .unset, .unset, .unset, .unset, .unset] [(.int hB), (.int mB), (.long cB), (.ref b34), (.ref b34)])) (fun _ kgo => XS.iload X34.here hx rfl (hb hby at_275) rfl kgo) ?_
                  refine own_go (g' := (mkF m 279 #[.val (.long q0), .second, .val (.long q1), .second, .val (.int p2), .val (.int p3), .val (.long q4), .second, .val (.long q5), .second, .val (.long cA), .second, .val (.int mA), .val (.int hA), .val (.int dA), .val (.long sA), .second, .val (.long cB), .second, .val (.int mB), .val (.int hB), .val (.int dB), .val (.long sB), .second, .val (.int (own_b ex)), .val (.ref r33), .unset, .unset, .unset, .unset, .unset, .unset] [(.int dB), (.int hB), (.int mB), (.long cB), (.ref b34), (.ref b34)])) (fun _ kgo => XS.iload X34.here hx rfl (hb hby at_277) rfl kgo) ?_
                  obtain ⟨v36, T36, L36, hQ36, X36, st36⟩ := own_callI X34 hx hZ (y := (⟨"com/example/seenset/seenset/filter/StableParameters", "<init>", "(JIII)V"⟩ : MethodName)) rfl hown (hw _ (List.mem_of_getElem? (i := 8) rfl)) (hw _ (List.mem_of_getElem? (i := 9) rfl)) (hw _ (List.mem_of_getElem? (i := 7) rfl)) (hw _ (List.mem_of_getElem? (i := 10) rfl)) ⟨by decide, by decide⟩ (a := b34) (argsL := [(.long cB), (.int mB), (.int hB), (.int dB)]) (ct4 l Z a0 hw b34 cB mB hB dB h34 n0 Z34 ge_b34 A34 F34_cells F34_max F34_hashes F34_decrement F34_seed hclB hmxB hhsB hdeB) e34 (g := (mkF m 279 #[.val (.long q0), .second, .val (.long q1), .second, .val (.int p2), .val (.int p3), .val (.long q4), .second, .val (.long q5), .second, .val (.long cA), .second, .val (.int mA), .val (.int hA), .val (.int dA), .val (.long sA), .second, .val (.long cB), .second, .val (.int mB), .val (.int hB), .val (.int dB), .val (.long sB), .second, .val (.int (own_b ex)), .val (.ref r33), .unset, .unset, .unset, .unset, .unset, .unset] [(.int dB), (.int hB), (.int mB), (.long cB), (.ref b34), (.ref b34)])) rfl (by rw [hml]; rfl) (rest := [(.ref b34)]) (lenOf pd0_1 rfl) rfl (hb hby at_279) (W := 1) (by show 2 * 0 + _ ≤ _; exact Nat.le_of_eq rfl) (by decide) (by decide) (by decide) (by decide)
                  obtain ⟨rfl, Nq36, Kq36, q36_0, q36_1, q36_2, q36_3, q36_4, q36_5⟩ := hQ36
                  have N36 := Fr.app N33 Nq36
                  have Z36 : n0 ≤ T36.heap.size := Nat.le_trans Z34 Kq36.1
                  refine own_go (g' := (mkF m 282 #[.val (.long q0), .second, .val (.long q1), .second, .val (.int p2), .val (.int p3), .val (.long q4), .second, .val (.long q5), .second, .val (.long cA), .second, .val (.int mA), .val (.int hA), .val (.int dA), .val (.long sA), .second, .val (.long cB), .second, .val (.int mB), .val (.int hB), .val (.int dB), .val (.long sB), .second, .val (.int (own_b ex)), .val (.ref r33), .unset, .unset, .unset, .unset, .unset, .unset] [(.ref b34)])) (st36) ?_
                  refine own_go (g' := (mkF m 284 #[.val (.long q0), .second, .val (.long q1), .second, .val (.int p2), .val (.int p3), .val (.long q4), .second, .val (.long q5), .second, .val (.long cA), .second, .val (.int mA), .val (.int hA), .val (.int dA), .val (.long sA), .second, .val (.long cB), .second, .val (.int mB), .val (.int hB), .val (.int dB), .val (.long sB), .second, .val (.int (own_b ex)), .val (.ref r33), .unset, .unset, .unset, .unset, .unset, .unset] [(.long sB), (.ref b34)])) (fun _ kgo => XS.lload X36.here hx rfl (hb hby at_282) rfl kgo) ?_
                  obtain ⟨v37, T37, L37, hQ37, X37, st37⟩ := own_callV X36 hx hZ (y := (⟨"com/example/seenset/seenset/filter/StableParameters", "withSeed", "(J)Lcom/example/seenset/seenset/filter/StableParameters;"⟩ : MethodName)) (z := (⟨"com/example/seenset/seenset/filter/StableParameters", "withSeed", "(J)Lcom/example/seenset/seenset/filter/StableParameters;"⟩ : MethodName)) hown (hw _ (List.mem_of_getElem? (i := 42) rfl)) (hw _ (List.mem_of_getElem? (i := 43) rfl)) (notFace_of_selects (args := #[]) (mvT hZ (hw _ (List.mem_of_getElem? (i := 45) rfl)))) (hw _ (List.mem_of_getElem? (i := 45) rfl)) (hw _ (List.mem_of_getElem? (i := 44) rfl)) (hw _ (List.mem_of_getElem? (i := 7) rfl)) (hw _ (List.mem_of_getElem? (i := 46) rfl)) ⟨by decide, by decide⟩ (a := b34) (argsL := [(.long sB)]) (rm8 l Z a0 hw b34 sB cB mB hB dB (0 : Int64) T36.heap n0 Z36 q36_1 q36_2 q36_3 q36_4 q36_5 hclB hmxB hhsB hdeB) rfl q36_0 (g := (mkF m 284 #[.val (.long q0), .second, .val (.long q1), .second, .val (.int p2), .val (.int p3), .val (.long q4), .second, .val (.long q5), .second, .val (.long cA), .second, .val (.int mA), .val (.int hA), .val (.int dA), .val (.long sA), .second, .val (.long cB), .second, .val (.int mB), .val (.int hB), .val (.int dB), .val (.long sB), .second, .val (.int (own_b ex)), .val (.ref r33), .unset, .unset, .unset, .unset, .unset, .unset] [(.long sB), (.ref b34)])) rfl (by rw [hml]; rfl) (rest := []) (lenOf pd0_2 rfl) rfl (hb hby at_284) (W := 0) (by show 2 * 0 + _ ≤ _; exact Nat.le_of_eq rfl) (by decide) (by decide) (by decide) (by decide)
                  obtain ⟨r37, rfl, Nq37, Kq37, pr37_0, q37_0, q37_1, q37_2, q37_3, q37_4, q37_5⟩ := hQ37
                  have fx38 : Exa Z T36.heap b12 "com/example/seenset/seenset/filter/StableParameters" := (Exa.keep (Exa.ext E34 fx35) Kq36)
                  have ne_b12_r37 : b12 ≠ r37 := Nat.ne_of_lt (Nat.lt_of_lt_of_le fx38.lt pr37_0)
                  have fx39 : Exa Z T36.heap r33 "com/example/seenset/seenset/filter/StableParameters" := (Exa.keep (Exa.ext E34 q33_0) Kq36)
                  have ne_r33_r37 : r33 ≠ r37 := Nat.ne_of_lt (Nat.lt_of_lt_of_le fx39.lt pr37_0)
                  have ne_b34_r37 : b34 ≠ r37 := Nat.ne_of_lt (Nat.lt_of_lt_of_le q36_0.lt pr37_0)
                  have ge_r37 : n0 ≤ r37 := Nat.le_trans Z36 pr37_0
                  have N37 := Fr.app N36 Nq37
                  have Z37 : n0 ≤ T37.heap.size := Nat.le_trans Z36 Kq37.1
                  refine own_go (g' := (mkF m 287 #[.val (.long q0), .second, .val (.long q1), .second, .val (.int p2), .val (.int p3), .val (.long q4), .second, .val (.long q5), .second, .val (.long cA), .second, .val (.int mA), .val (.int hA), .val (.int dA), .val (.long sA), .second, .val (.long cB), .second, .val (.int mB), .val (.int hB), .val (.int dB), .val (.long sB), .second, .val (.int (own_b ex)), .val (.ref r33), .unset, .unset, .unset, .unset, .unset, .unset] [(.ref r37)])) (st37) ?_
                  refine own_go (g' := (mkF m 289 #[.val (.long q0), .second, .val (.long q1), .second, .val (.int p2), .val (.int p3), .val (.long q4), .second, .val (.long q5), .second, .val (.long cA), .second, .val (.int mA), .val (.int hA), .val (.int dA), .val (.long sA), .second, .val (.long cB), .second, .val (.int mB), .val (.int hB), .val (.int dB), .val (.long sB), .second, .val (.int (own_b ex)), .val (.ref r33), .val (.ref r37), .unset, .unset, .unset, .unset, .unset] [])) (fun _ kgo => XS.astore X37.here hx rfl (hb hby at_287) rfl rfl (l' := #[.val (.long q0), .second, .val (.long q1), .second, .val (.int p2), .val (.int p3), .val (.long q4), .second, .val (.long q5), .second, .val (.long cA), .second, .val (.int mA), .val (.int hA), .val (.int dA), .val (.long sA), .second, .val (.long cB), .second, .val (.int mB), .val (.int hB), .val (.int dB), .val (.long sB), .second, .val (.int (own_b ex)), .val (.ref r33), .val (.ref r37), .unset, .unset, .unset, .unset, .unset]) rfl kgo) ?_
                  refine own_go (g' := (mkF m 291 #[.val (.long q0), .second, .val (.long q1), .second, .val (.int p2), .val (.int p3), .val (.long q4), .second, .val (.long q5), .second, .val (.long cA), .second, .val (.int mA), .val (.int hA), .val (.int dA), .val (.long sA), .second, .val (.long cB), .second, .val (.int mB), .val (.int hB), .val (.int dB), .val (.long sB), .second, .val (.int (own_b ex)), .val (.ref r33), .val (.ref r37), .unset, .unset, .unset, .unset, .unset] [(.ref r33)])) (fun _ kgo => XS.aload X37.here hx rfl (hb hby at_289) rfl rfl kgo) ?_
                  refine own_go (g' := (mkF m 293 #[.val (.long q0), .second, .val (.long q1), .second, .val (.int p2), .val (.int p3), .val (.long q4), .second, .val (.long q5), .second, .val (.long cA), .second, .val (.int mA), .val (.int hA), .val (.int dA), .val (.long sA), .second, .val (.long cB), .second, .val (.int mB), .val (.int hB), .val (.int dB), .val (.long sB), .second, .val (.int (own_b ex)), .val (.ref r33), .val (.ref r37), .unset, .unset, .unset, .unset, .unset] [(.ref r37), (.ref r33)])) (fun _ kgo => XS.aload X37.here hx rfl (hb hby at_291) rfl rfl kgo) ?_
                  have fx41 : Fld Z T37.heap r33 "com/example/seenset/seenset/filter/StableParameters" "cells" "J" (.long cA) := (Fld.keep (Fld.keep (Fld.ext E34 q33_1) Kq36 (ninS ne_r33_b34 nin0)) Kq37 nin0)
                  have fx42 : Fld Z T37.heap r33 "com/example/seenset/seenset/filter/StableParameters" "max" "I" (.int mA) := (Fld.keep (Fld.keep (Fld.ext E34 q33_2) Kq36 (ninS ne_r33_b34 nin0)) Kq37 nin0)
                  have fx43 : Fld Z T37.heap r33 "com/example/seenset/seenset/filter/StableParameters" "hashes" "I" (.int hA) := (Fld.keep (Fld.keep (Fld.ext E34 q33_3) Kq36 (ninS ne_r33_b34 nin0)) Kq37 nin0)
                  have fx44 : Fld Z T37.heap r33 "com/example/seenset/seenset/filter/StableParameters" "decrement" "I" (.int dA) := (Fld.keep (Fld.keep (Fld.ext E34 q33_4) Kq36 (ninS ne_r33_b34 nin0)) Kq37 nin0)
                  have fx45 : Fld Z T37.heap r33 "com/example/seenset/seenset/filter/StableParameters" "seed" "J" (.long sA) := (Fld.keep (Fld.keep (Fld.ext E34 q33_5) Kq36 (ninS ne_r33_b34 nin0)) Kq37 nin0)
                  have fx46 : Exa Z T37.heap r33 "com/example/seenset/seenset/filter/StableParameters" := (Exa.keep fx39 Kq37)
                  obtain ⟨v40, T40, L40, hQ40, X40, st40⟩ := own_callV X37 hx hZ (y := (⟨"com/example/seenset/seenset/filter/StableParameters", "equals", "(Ljava/lang/Object;)Z"⟩ : MethodName)) (z := (⟨"com/example/seenset/seenset/filter/StableParameters", "equals", "(Ljava/lang/Object;)Z"⟩ : MethodName)) hown (hw _ (List.mem_of_getElem? (i := 48) rfl)) (hw _ (List.mem_of_getElem? (i := 49) rfl)) (notFace_of_selects (args := #[]) (mvT hZ (hw _ (List.mem_of_getElem? (i := 51) rfl)))) (hw _ (List.mem_of_getElem? (i := 51) rfl)) (hw _ (List.mem_of_getElem? (i := 50) rfl)) (hw _ (List.mem_of_getElem? (i := 7) rfl)) (hw _ (List.mem_of_getElem? (i := 52) rfl)) ⟨by decide, by decide⟩ (a := r33) (argsL := [(.ref r37)]) (eqs l Z a0 hw r33 r37 cA mA hA dA sA cB mB hB dB sB T37.heap q37_0 fx41 fx42 fx43 fx44 fx45 q37_1 q37_2 q37_3 q37_4 q37_5) rfl fx46 (g := (mkF m 293 #[.val (.long q0), .second, .val (.long q1), .second, .val (.int p2), .val (.int p3), .val (.long q4), .second, .val (.long q5), .second, .val (.long cA), .second, .val (.int mA), .val (.int hA), .val (.int dA), .val (.long sA), .second, .val (.long cB), .second, .val (.int mB), .val (.int hB), .val (.int dB), .val (.long sB), .second, .val (.int (own_b ex)), .val (.ref r33), .val (.ref r37), .unset, .unset, .unset, .unset, .unset] [(.ref r37), (.ref r33)])) rfl (by rw [hml]; rfl) (rest := []) (lenOf pd0_3 rfl) rfl (hb hby at_293) (W := 0) (by show 2 * 0 + _ ≤ _; exact Nat.le_of_eq rfl) (by decide) (by decide) (by decide) (by decide)
                  obtain ⟨rfl, e40, rfl⟩ := hQ40
                  have N40 := Fr.app N37 (Fr.nil n0)
                  refine own_go (g' := (mkF m 296 #[.val (.long q0), .second, .val (.long q1), .second, .val (.int p2), .val (.int p3), .val (.long q4), .second, .val (.long q5), .second, .val (.long cA), .second, .val (.int mA), .val (.int hA), .val (.int dA), .val (.long sA), .second, .val (.long cB), .second, .val (.int mB), .val (.int hB), .val (.int dB), .val (.long sB), .second, .val (.int (own_b ex)), .val (.ref r33), .val (.ref r37), .unset, .unset, .unset, .unset, .unset] [(.int (own_b (decide (cA = cB ∧ mA = mB ∧ hA = hB ∧ dA = dB ∧ sA = sB))))])) (st40) ?_
                  suffices JNhab : ∀ ab : Bool, ab = (decide (cA = cB ∧ mA = mB ∧ hA = hB ∧ dA = dB ∧ sA = sB)) → own_Go p e below (own_Post s QQ 24 128) T40 (mkF m 296 #[.val (.long q0), .second, .val (.long q1), .second, .val (.int p2), .val (.int p3), .val (.long q4), .second, .val (.long q5), .second, .val (.long cA), .second, .val (.int mA), .val (.int hA), .val (.int dA), .val (.long sA), .second, .val (.long cB), .second, .val (.int mB), .val (.int hB), .val (.int dB), .val (.long sB), .second, .val (.int (own_b ex)), .val (.ref r33), .val (.ref r37), .unset, .unset, .unset, .unset, .unset] [(.int (own_b ab))]) from JNhab _ (rfl)
                  intro ab hab
                  refine own_go (g' := (mkF m 298 #[.val (.long q0), .second, .val (.long q1), .second, .val (.int p2), .val (.int p3), .val (.long q4), .second, .val (.long q5), .second, .val (.long cA), .second, .val (.int mA), .val (.int hA), .val (.int dA), .val (.long sA), .second, .val (.long cB), .second, .val (.int mB), .val (.int hB), .val (.int dB), .val (.long sB), .second, .val (.int (own_b ex)), .val (.ref r33), .val (.ref r37), .val (.int (own_b ab)), .unset, .unset, .unset, .unset] [])) (fun _ kgo => XS.istore X40.here hx rfl (hb hby at_296) rfl (l' := #[.val (.long q0), .second, .val (.long q1), .second, .val (.int p2), .val (.int p3), .val (.long q4), .second, .val (.long q5), .second, .val (.long cA), .second, .val (.int mA), .val (.int hA), .val (.int dA), .val (.long sA), .second, .val (.long cB), .second, .val (.int mB), .val (.int hB), .val (.int dB), .val (.long sB), .second, .val (.int (own_b ex)), .val (.ref r33), .val (.ref r37), .val (.int (own_b ab)), .unset, .unset, .unset, .unset]) rfl kgo) ?_
                  refine own_go (g' := (mkF m 300 #[.val (.long q0), .second, .val (.long q1), .second, .val (.int p2), .val (.int p3), .val (.long q4), .second, .val (.long q5), .second, .val (.long cA), .second, .val (.int mA), .val (.int hA), .val (.int dA), .val (.long sA), .second, .val (.long cB), .second, .val (.int mB), .val (.int hB), .val (.int dB), .val (.long sB), .second, .val (.int (own_b ex)), .val (.ref r33), .val (.ref r37), .val (.int (own_b ab)), .unset, .unset, .unset, .unset] [(.ref r37)])) (fun _ kgo => XS.aload X40.here hx rfl (hb hby at_298) rfl rfl kgo) ?_
                  refine own_go (g' := (mkF m 302 #[.val (.long q0), .second, .val (.long q1), .second, .val (.int p2), .val (.int p3), .val (.long q4), .second, .val (.long q5), .second, .val (.long cA), .second, .val (.int mA), .val (.int hA), .val (.int dA), .val (.long sA), .second, .val (.long cB), .second, .val (.int mB), .val (.int hB), .val (.int dB), .val (.long sB), .second, .val (.int (own_b ex)), .val (.ref r33), .val (.ref r37), .val (.int (own_b ab)), .unset, .unset, .unset, .unset] [(.ref r33), (.ref r37)])) (fun _ kgo => XS.aload X40.here hx rfl (hb hby at_300) rfl rfl kgo) ?_
                  obtain ⟨v47, T47, L47, hQ47, X47, st47⟩ := own_callV X40 hx hZ (y := (⟨"com/example/seenset/seenset/filter/StableParameters", "equals", "(Ljava/lang/Object;)Z"⟩ : MethodName)) (z := (⟨"com/example/seenset/seenset/filter/StableParameters", "equals", "(Ljava/lang/Object;)Z"⟩ : MethodName)) hown (hw _ (List.mem_of_getElem? (i := 48) rfl)) (hw _ (List.mem_of_getElem? (i := 49) rfl)) (notFace_of_selects (args := #[]) (mvT hZ (hw _ (List.mem_of_getElem? (i := 51) rfl)))) (hw _ (List.mem_of_getElem? (i := 51) rfl)) (hw _ (List.mem_of_getElem? (i := 50) rfl)) (hw _ (List.mem_of_getElem? (i := 7) rfl)) (hw _ (List.mem_of_getElem? (i := 52) rfl)) ⟨by decide, by decide⟩ (a := r37) (argsL := [(.ref r33)]) (eqs l Z a0 hw r37 r33 cB mB hB dB sB cA mA hA dA sA T37.heap fx46 q37_1 q37_2 q37_3 q37_4 q37_5 fx41 fx42 fx43 fx44 fx45) e40 q37_0 (g := (mkF m 302 #[.val (.long q0), .second, .val (.long q1), .second, .val (.int p2), .val (.int p3), .val (.long q4), .second, .val (.long q5), .second, .val (.long cA), .second, .val (.int mA), .val (.int hA), .val (.int dA), .val (.long sA), .second, .val (.long cB), .second, .val (.int mB), .val (.int hB), .val (.int dB), .val (.long sB), .second, .val (.int (own_b ex)), .val (.ref r33), .val (.ref r37), .val (.int (own_b ab)), .unset, .unset, .unset, .unset] [(.ref r33), (.ref r37)])) rfl (by rw [hml]; rfl) (rest := []) (lenOf pd0_3 rfl) rfl (hb hby at_302) (W := 0) (by show 2 * 0 + _ ≤ _; exact Nat.le_of_eq rfl) (by decide) (by decide) (by decide) (by decide)
                  obtain ⟨rfl, e47, rfl⟩ := hQ47
                  have N47 := Fr.app N40 (Fr.nil n0)
                  refine own_go (g' := (mkF m 305 #[.val (.long q0), .second, .val (.long q1), .second, .val (.int p2), .val (.int p3), .val (.long q4), .second, .val (.long q5), .second, .val (.long cA), .second, .val (.int mA), .val (.int hA), .val (.int dA), .val (.long sA), .second, .val (.long cB), .second, .val (.int mB), .val (.int hB), .val (.int dB), .val (.long sB), .second, .val (.int (own_b ex)), .val (.ref r33), .val (.ref r37), .val (.int (own_b ab)), .unset, .unset, .unset, .unset] [(.int (own_b (decide (cB = cA ∧ mB = mA ∧ hB = hA ∧ dB = dA ∧ sB = sA))))])) (st47) ?_
                  suffices JNhba : ∀ ba : Bool, ba = (decide (cB = cA ∧ mB = mA ∧ hB = hA ∧ dB = dA ∧ sB = sA)) → own_Go p e below (own_Post s QQ 24 128) T47 (mkF m 305 #[.val (.long q0), .second, .val (.long q1), .second, .val (.int p2), .val (.int p3), .val (.long q4), .second, .val (.long q5), .second, .val (.long cA), .second, .val (.int mA), .val (.int hA), .val (.int dA), .val (.long sA), .second, .val (.long cB), .second, .val (.int mB), .val (.int hB), .val (.int dB), .val (.long sB), .second, .val (.int (own_b ex)), .val (.ref r33), .val (.ref r37), .val (.int (own_b ab)), .unset, .unset, .unset, .unset] [(.int (own_b ba))]) from JNhba _ (rfl)
                  intro ba hba
                  refine own_go (g' := (mkF m 307 #[.val (.long q0), .second, .val (.long q1), .second, .val (.int p2), .val (.int p3), .val (.long q4), .second, .val (.long q5), .second, .val (.long cA), .second, .val (.int mA), .val (.int hA), .val (.int dA), .val (.long sA), .second, .val (.long cB), .second, .val (.int mB), .val (.int hB), .val (.int dB), .val (.long sB), .second, .val (.int (own_b ex)), .val (.ref r33), .val (.ref r37), .val (.int (own_b ab)), .val (.int (own_b ba)), .unset, .unset, .unset] [])) (fun _ kgo => XS.istore X47.here hx rfl (hb hby at_305) rfl (l' := #[.val (.long q0), .second, .val (.long q1), .second, .val (.int p2), .val (.int p3), .val (.long q4), .second, .val (.long q5), .second, .val (.long cA), .second, .val (.int mA), .val (.int hA), .val (.int dA), .val (.long sA), .second, .val (.long cB), .second, .val (.int mB), .val (.int hB), .val (.int dB), .val (.long sB), .second, .val (.int (own_b ex)), .val (.ref r33), .val (.ref r37), .val (.int (own_b ab)), .val (.int (own_b ba)), .unset, .unset, .unset]) rfl kgo) ?_
                  refine own_go (g' := (mkF m 309 #[.val (.long q0), .second, .val (.long q1), .second, .val (.int p2), .val (.int p3), .val (.long q4), .second, .val (.long q5), .second, .val (.long cA), .second, .val (.int mA), .val (.int hA), .val (.int dA), .val (.long sA), .second, .val (.long cB), .second, .val (.int mB), .val (.int hB), .val (.int dB), .val (.long sB), .second, .val (.int (own_b ex)), .val (.ref r33), .val (.ref r37), .val (.int (own_b ab)), .val (.int (own_b ba)), .unset, .unset, .unset] [(.ref r33)])) (fun _ kgo => XS.aload X47.here hx rfl (hb hby at_307) rfl rfl kgo) ?_
                  refine own_go (g' := (mkF m 311 #[.val (.long q0), .second, .val (.long q1), .second, .val (.int p2), .val (.int p3), .val (.long q4), .second, .val (.long q5), .second, .val (.long cA), .second, .val (.int mA), .val (.int hA), .val (.int dA), .val (.long sA), .second, .val (.long cB), .second, .val (.int mB), .val (.int hB), .val (.int dB), .val (.long sB), .second, .val (.int (own_b ex)), .val (.ref r33), .val (.ref r37), .val (.int (own_b ab)), .val (.int (own_b ba)), .unset, .unset, .unset] [(.ref r33), (.ref r33)])) (fun _ kgo => XS.aload X47.here hx rfl (hb hby at_309) rfl rfl kgo) ?_
                  obtain ⟨v48, T48, L48, hQ48, X48, st48⟩ := own_callV X47 hx hZ (y := (⟨"com/example/seenset/seenset/filter/StableParameters", "equals", "(Ljava/lang/Object;)Z"⟩ : MethodName)) (z := (⟨"com/example/seenset/seenset/filter/StableParameters", "equals", "(Ljava/lang/Object;)Z"⟩ : MethodName)) hown (hw _ (List.mem_of_getElem? (i := 48) rfl)) (hw _ (List.mem_of_getElem? (i := 49) rfl)) (notFace_of_selects (args := #[]) (mvT hZ (hw _ (List.mem_of_getElem? (i := 51) rfl)))) (hw _ (List.mem_of_getElem? (i := 51) rfl)) (hw _ (List.mem_of_getElem? (i := 50) rfl)) (hw _ (List.mem_of_getElem? (i := 7) rfl)) (hw _ (List.mem_of_getElem? (i := 52) rfl)) ⟨by decide, by decide⟩ (a := r33) (argsL := [(.ref r33)]) (eqs l Z a0 hw r33 r33 cA mA hA dA sA cA mA hA dA sA T37.heap fx46 fx41 fx42 fx43 fx44 fx45 fx41 fx42 fx43 fx44 fx45) e47 fx46 (g := (mkF m 311 #[.val (.long q0), .second, .val (.long q1), .second, .val (.int p2), .val (.int p3), .val (.long q4), .second, .val (.long q5), .second, .val (.long cA), .second, .val (.int mA), .val (.int hA), .val (.int dA), .val (.long sA), .second, .val (.long cB), .second, .val (.int mB), .val (.int hB), .val (.int dB), .val (.long sB), .second, .val (.int (own_b ex)), .val (.ref r33), .val (.ref r37), .val (.int (own_b ab)), .val (.int (own_b ba)), .unset, .unset, .unset] [(.ref r33), (.ref r33)])) rfl (by rw [hml]; rfl) (rest := []) (lenOf pd0_3 rfl) rfl (hb hby at_311) (W := 0) (by show 2 * 0 + _ ≤ _; exact Nat.le_of_eq rfl) (by decide) (by decide) (by decide) (by decide)
                  obtain ⟨rfl, e48, rfl⟩ := hQ48
                  have N48 := Fr.app N47 (Fr.nil n0)
                  refine own_go (g' := (mkF m 314 #[.val (.long q0), .second, .val (.long q1), .second, .val (.int p2), .val (.int p3), .val (.long q4), .second, .val (.long q5), .second, .val (.long cA), .second, .val (.int mA), .val (.int hA), .val (.int dA), .val (.long sA), .second, .val (.long cB), .second, .val (.int mB), .val (.int hB), .val (.int dB), .val (.long sB), .second, .val (.int (own_b ex)), .val (.ref r33), .val (.ref r37), .val (.int (own_b ab)), .val (.int (own_b ba)), .unset, .unset, .unset] [(.int (own_b (decide (cA = cA ∧ mA = mA ∧ hA = hA ∧ dA = dA ∧ sA = sA))))])) (st48) ?_
                  suffices JNhsf : ∀ sf : Bool, sf = (decide (cA = cA ∧ mA = mA ∧ hA = hA ∧ dA = dA ∧ sA = sA)) → own_Go p e below (own_Post s QQ 24 128) T48 (mkF m 314 #[.val (.long q0), .second, .val (.long q1), .second, .val (.int p2), .val (.int p3), .val (.long q4), .second, .val (.long q5), .second, .val (.long cA), .second, .val (.int mA), .val (.int hA), .val (.int dA), .val (.long sA), .second, .val (.long cB), .second, .val (.int mB), .val (.int hB), .val (.int dB), .val (.long sB), .second, .val (.int (own_b ex)), .val (.ref r33), .val (.ref r37), .val (.int (own_b ab)), .val (.int (own_b ba)), .unset, .unset, .unset] [(.int (own_b sf))]) from JNhsf _ (rfl)
                  intro sf hsf
                  refine own_go (g' := (mkF m 316 #[.val (.long q0), .second, .val (.long q1), .second, .val (.int p2), .val (.int p3), .val (.long q4), .second, .val (.long q5), .second, .val (.long cA), .second, .val (.int mA), .val (.int hA), .val (.int dA), .val (.long sA), .second, .val (.long cB), .second, .val (.int mB), .val (.int hB), .val (.int dB), .val (.long sB), .second, .val (.int (own_b ex)), .val (.ref r33), .val (.ref r37), .val (.int (own_b ab)), .val (.int (own_b ba)), .val (.int (own_b sf)), .unset, .unset] [])) (fun _ kgo => XS.istore X48.here hx rfl (hb hby at_314) rfl (l' := #[.val (.long q0), .second, .val (.long q1), .second, .val (.int p2), .val (.int p3), .val (.long q4), .second, .val (.long q5), .second, .val (.long cA), .second, .val (.int mA), .val (.int hA), .val (.int dA), .val (.long sA), .second, .val (.long cB), .second, .val (.int mB), .val (.int hB), .val (.int dB), .val (.long sB), .second, .val (.int (own_b ex)), .val (.ref r33), .val (.ref r37), .val (.int (own_b ab)), .val (.int (own_b ba)), .val (.int (own_b sf)), .unset, .unset]) rfl kgo) ?_
                  refine own_go (g' := (mkF m 318 #[.val (.long q0), .second, .val (.long q1), .second, .val (.int p2), .val (.int p3), .val (.long q4), .second, .val (.long q5), .second, .val (.long cA), .second, .val (.int mA), .val (.int hA), .val (.int dA), .val (.long sA), .second, .val (.long cB), .second, .val (.int mB), .val (.int hB), .val (.int dB), .val (.long sB), .second, .val (.int (own_b ex)), .val (.ref r33), .val (.ref r37), .val (.int (own_b ab)), .val (.int (own_b ba)), .val (.int (own_b sf)), .unset, .unset] [(.ref r33)])) (fun _ kgo => XS.aload X48.here hx rfl (hb hby at_316) rfl rfl kgo) ?_
                  refine own_go (g' := (mkF m 319 #[.val (.long q0), .second, .val (.long q1), .second, .val (.int p2), .val (.int p3), .val (.long q4), .second, .val (.long q5), .second, .val (.long cA), .second, .val (.int mA), .val (.int hA), .val (.int dA), .val (.long sA), .second, .val (.long cB), .second, .val (.int mB), .val (.int hB), .val (.int dB), .val (.long sB), .second, .val (.int (own_b ex)), .val (.ref r33), .val (.ref r37), .val (.int (own_b ab)), .val (.int (own_b ba)), .val (.int (own_b sf)), .unset, .unset] [.null, (.ref r33)])) (fun _ kgo => XS.aconstNull X48.here hx rfl (hb hby at_318) kgo) ?_
                  obtain ⟨v49, T49, L49, hQ49, X49, st49⟩ := own_callV X48 hx hZ (y := (⟨"com/example/seenset/seenset/filter/StableParameters", "equals", "(Ljava/lang/Object;)Z"⟩ : MethodName)) (z := (⟨"com/example/seenset/seenset/filter/StableParameters", "equals", "(Ljava/lang/Object;)Z"⟩ : MethodName)) hown (hw _ (List.mem_of_getElem? (i := 48) rfl)) (hw _ (List.mem_of_getElem? (i := 49) rfl)) (notFace_of_selects (args := #[]) (mvT hZ (hw _ (List.mem_of_getElem? (i := 51) rfl)))) (hw _ (List.mem_of_getElem? (i := 51) rfl)) (hw _ (List.mem_of_getElem? (i := 50) rfl)) (hw _ (List.mem_of_getElem? (i := 7) rfl)) (hw _ (List.mem_of_getElem? (i := 52) rfl)) ⟨by decide, by decide⟩ (a := r33) (argsL := [.null]) (eqn l Z a0 hw r33 T37.heap) e48 fx46 (g := (mkF m 319 #[.val (.long q0), .second, .val (.long q1), .second, .val (.int p2), .val (.int p3), .val (.long q4), .second, .val (.long q5), .second, .val (.long cA), .second, .val (.int mA), .val (.int hA), .val (.int dA), .val (.long sA), .second, .val (.long cB), .second, .val (.int mB), .val (.int hB), .val (.int dB), .val (.long sB), .second, .val (.int (own_b ex)), .val (.ref r33), .val (.ref r37), .val (.int (own_b ab)), .val (.int (own_b ba)), .val (.int (own_b sf)), .unset, .unset] [.null, (.ref r33)])) rfl (by rw [hml]; rfl) (rest := []) (lenOf pd0_3 rfl) rfl (hb hby at_319) (W := 0) (by show 2 * 0 + _ ≤ _; exact Nat.le_of_eq rfl) (by decide) (by decide) (by decide) (by decide)
                  obtain ⟨rfl, e49, rfl⟩ := hQ49
                  have N49 := Fr.app N48 (Fr.nil n0)
                  refine own_go (g' := (mkF m 322 #[.val (.long q0), .second, .val (.long q1), .second, .val (.int p2), .val (.int p3), .val (.long q4), .second, .val (.long q5), .second, .val (.long cA), .second, .val (.int mA), .val (.int hA), .val (.int dA), .val (.long sA), .second, .val (.long cB), .second, .val (.int mB), .val (.int hB), .val (.int dB), .val (.long sB), .second, .val (.int (own_b ex)), .val (.ref r33), .val (.ref r37), .val (.int (own_b ab)), .val (.int (own_b ba)), .val (.int (own_b sf)), .unset, .unset] [(.int (0 : Int32))])) (st49) ?_
                  refine own_go (g' := (mkF m 324 #[.val (.long q0), .second, .val (.long q1), .second, .val (.int p2), .val (.int p3), .val (.long q4), .second, .val (.long q5), .second, .val (.long cA), .second, .val (.int mA), .val (.int hA), .val (.int dA), .val (.long sA), .second, .val (.long cB), .second, .val (.int mB), .val (.int hB), .val (.int dB), .val (.long sB), .second, .val (.int (own_b ex)), .val (.ref r33), .val (.ref r37), .val (.int (own_b ab)), .val (.int (own_b ba)), .val (.int (own_b sf)), .val (.int (0 : Int32)), .unset] [])) (fun _ kgo => XS.istore X49.here hx rfl (hb hby at_322) rfl (l' := #[.val (.long q0), .second, .val (.long q1), .second, .val (.int p2), .val (.int p3), .val (.long q4), .second, .val (.long q5), .second, .val (.long cA), .second, .val (.int mA), .val (.int hA), .val (.int dA), .val (.long sA), .second, .val (.long cB), .second, .val (.int mB), .val (.int hB), .val (.int dB), .val (.long sB), .second, .val (.int (own_b ex)), .val (.ref r33), .val (.ref r37), .val (.int (own_b ab)), .val (.int (own_b ba)), .val (.int (own_b sf)), .val (.int (0 : Int32)), .unset]) rfl kgo) ?_
                  refine own_go (g' := (mkF m 326 #[.val (.long q0), .second, .val (.long q1), .second, .val (.int p2), .val (.int p3), .val (.long q4), .second, .val (.long q5), .second, .val (.long cA), .second, .val (.int mA), .val (.int hA), .val (.int dA), .val (.long sA), .second, .val (.long cB), .second, .val (.int mB), .val (.int hB), .val (.int dB), .val (.long sB), .second, .val (.int (own_b ex)), .val (.ref r33), .val (.ref r37), .val (.int (own_b ab)), .val (.int (own_b ba)), .val (.int (own_b sf)), .val (.int (0 : Int32)), .unset] [(.ref r33)])) (fun _ kgo => XS.aload X49.here hx rfl (hb hby at_324) rfl rfl kgo) ?_
                  refine own_go (g' := (mkF m 328 #[.val (.long q0), .second, .val (.long q1), .second, .val (.int p2), .val (.int p3), .val (.long q4), .second, .val (.long q5), .second, .val (.long cA), .second, .val (.int mA), .val (.int hA), .val (.int dA), .val (.long sA), .second, .val (.long cB), .second, .val (.int mB), .val (.int hB), .val (.int dB), .val (.long sB), .second, .val (.int (own_b ex)), .val (.ref r33), .val (.ref r37), .val (.int (own_b ab)), .val (.int (own_b ba)), .val (.int (own_b sf)), .val (.int (0 : Int32)), .unset] [(.int p2), (.ref r33)])) (fun _ kgo => XS.iload X49.here hx rfl (hb hby at_326) rfl kgo) ?_
                  have fx51 : Old Z n0 T37.heap := (Old.keep (Old.keep (Old.ext (Old.keep (Old.keep (Old.ext O0 E12) Kq13 (allS ge_b12 all0)) Kq33 all0) E34) Kq36 (allS ge_b34 all0)) Kq37 all0)
                  obtain ⟨v50, T50, L50, hQ50, X50, st50⟩ := own_callS X49 hx hZ (y := (⟨"java/lang/Integer", "valueOf", "(I)Ljava/lang/Integer;"⟩ : MethodName)) hown (hw _ (List.mem_of_getElem? (i := 54) rfl)) (hw _ (List.mem_of_getElem? (i := 55) rfl)) (hw _ (List.mem_of_getElem? (i := 22) rfl)) (hw _ (List.mem_of_getElem? (i := 56) rfl)) ⟨by decide, by decide⟩ (argsL := [(.int p2)]) (rm10 l Z a0 hw p2 ca cl T37.heap n0 Z37 (Sta.ext fx51.2 S0) (Sta.ext fx51.2 S1) (Arr.ext fx51.2 har) hsz (fun j hj => (hel j hj).imp fun a q => ⟨q.1, Exa.ext fx51.2 q.2⟩)) e49 (g := (mkF m 328 #[.val (.long q0), .second, .val (.long q1), .second, .val (.int p2), .val (.int p3), .val (.long q4), .second, .val (.long q5), .second, .val (.long cA), .second, .val (.int mA), .val (.int hA), .val (.int dA), .val (.long sA), .second, .val (.long cB), .second, .val (.int mB), .val (.int hB), .val (.int dB), .val (.long sB), .second, .val (.int (own_b ex)), .val (.ref r33), .val (.ref r37), .val (.int (own_b ab)), .val (.int (own_b ba)), .val (.int (own_b sf)), .val (.int (0 : Int32)), .unset] [(.int p2), (.ref r33)])) rfl (by rw [hml]; rfl) (rest := [(.ref r33)]) (lenOf pd0_4 rfl) rfl (hb hby at_328) (W := 1) (by show 2 * 0 + _ ≤ _; exact Nat.le_of_eq rfl) (by decide) (by decide) (by decide) (by decide)
                  obtain ⟨r50, rfl, Nq50, Kq50, q50_0⟩ := hQ50
                  have N50 := Fr.app N49 Nq50
                  have Z50 : n0 ≤ T50.heap.size := Nat.le_trans Z37 Kq50.1
                  refine own_go (g' := (mkF m 331 #[.val (.long q0), .second, .val (.long q1), .second, .val (.int p2), .val (.int p3), .val (.long q4), .second, .val (.long q5), .second, .val (.long cA), .second, .val (.int mA), .val (.int hA), .val (.int dA), .val (.long sA), .second, .val (.long cB), .second, .val (.int mB), .val (.int hB), .val (.int dB), .val (.long sB), .second, .val (.int (own_b ex)), .val (.ref r33), .val (.ref r37), .val (.int (own_b ab)), .val (.int (own_b ba)), .val (.int (own_b sf)), .val (.int (0 : Int32)), .unset] [(.ref r50), (.ref r33)])) (st50) ?_
                  have fx53 : Exa Z T50.heap r33 "com/example/seenset/seenset/filter/StableParameters" := (Exa.keep fx46 Kq50)
                  obtain ⟨v52, T52, L52, hQ52, X52, st52⟩ := own_callV X50 hx hZ (y := (⟨"com/example/seenset/seenset/filter/StableParameters", "equals", "(Ljava/lang/Object;)Z"⟩ : MethodName)) (z := (⟨"com/example/seenset/seenset/filter/StableParameters", "equals", "(Ljava/lang/Object;)Z"⟩ : MethodName)) hown (hw _ (List.mem_of_getElem? (i := 48) rfl)) (hw _ (List.mem_of_getElem? (i := 49) rfl)) (notFace_of_selects (args := #[]) (mvT hZ (hw _ (List.mem_of_getElem? (i := 51) rfl)))) (hw _ (List.mem_of_getElem? (i := 51) rfl)) (hw _ (List.mem_of_getElem? (i := 50) rfl)) (hw _ (List.mem_of_getElem? (i := 7) rfl)) (hw _ (List.mem_of_getElem? (i := 52) rfl)) ⟨by decide, by decide⟩ (a := r33) (argsL := [(.ref r50)]) (eqi l Z a0 hw r33 r50 T50.heap q50_0) rfl fx53 (g := (mkF m 331 #[.val (.long q0), .second, .val (.long q1), .second, .val (.int p2), .val (.int p3), .val (.long q4), .second, .val (.long q5), .second, .val (.long cA), .second, .val (.int mA), .val (.int hA), .val (.int dA), .val (.long sA), .second, .val (.long cB), .second, .val (.int mB), .val (.int hB), .val (.int dB), .val (.long sB), .second, .val (.int (own_b ex)), .val (.ref r33), .val (.ref r37), .val (.int (own_b ab)), .val (.int (own_b ba)), .val (.int (own_b sf)), .val (.int (0 : Int32)), .unset] [(.ref r50), (.ref r33)])) rfl (by rw [hml]; rfl) (rest := []) (lenOf pd0_3 rfl) rfl (hb hby at_331) (W := 0) (by show 2 * 0 + _ ≤ _; exact Nat.le_of_eq rfl) (by decide) (by decide) (by decide) (by decide)
                  obtain ⟨rfl, e52, rfl⟩ := hQ52
                  have N52 := Fr.app N50 (Fr.nil n0)
                  refine own_go (g' := (mkF m 334 #[.val (.long q0), .second, .val (.long q1), .second, .val (.int p2), .val (.int p3), .val (.long q4), .second, .val (.long q5), .second, .val (.long cA), .second, .val (.int mA), .val (.int hA), .val (.int dA), .val (.long sA), .second, .val (.long cB), .second, .val (.int mB), .val (.int hB), .val (.int dB), .val (.long sB), .second, .val (.int (own_b ex)), .val (.ref r33), .val (.ref r37), .val (.int (own_b ab)), .val (.int (own_b ba)), .val (.int (own_b sf)), .val (.int (0 : Int32)), .unset] [(.int (0 : Int32))])) (st52) ?_
                  refine own_go (g' := (mkF m 336 #[.val (.long q0), .second, .val (.long q1), .second, .val (.int p2), .val (.int p3), .val (.long q4), .second, .val (.long q5), .second, .val (.long cA), .second, .val (.int mA), .val (.int hA), .val (.int dA), .val (.long sA), .second, .val (.long cB), .second, .val (.int mB), .val (.int hB), .val (.int dB), .val (.long sB), .second, .val (.int (own_b ex)), .val (.ref r33), .val (.ref r37), .val (.int (own_b ab)), .val (.int (own_b ba)), .val (.int (own_b sf)), .val (.int (0 : Int32)), .val (.int (0 : Int32))] [])) (fun _ kgo => XS.istore X52.here hx rfl (hb hby at_334) rfl (l' := #[.val (.long q0), .second, .val (.long q1), .second, .val (.int p2), .val (.int p3), .val (.long q4), .second, .val (.long q5), .second, .val (.long cA), .second, .val (.int mA), .val (.int hA), .val (.int dA), .val (.long sA), .second, .val (.long cB), .second, .val (.int mB), .val (.int hB), .val (.int dB), .val (.long sB), .second, .val (.int (own_b ex)), .val (.ref r33), .val (.ref r37), .val (.int (own_b ab)), .val (.int (own_b ba)), .val (.int (own_b sf)), .val (.int (0 : Int32)), .val (.int (0 : Int32))]) rfl kgo) ?_
                  refine own_go (g' := (mkF m 338 #[.val (.long q0), .second, .val (.long q1), .second, .val (.int p2), .val (.int p3), .val (.long q4), .second, .val (.long q5), .second, .val (.long cA), .second, .val (.int mA), .val (.int hA), .val (.int dA), .val (.long sA), .second, .val (.long cB), .second, .val (.int mB), .val (.int hB), .val (.int dB), .val (.long sB), .second, .val (.int (own_b ex)), .val (.ref r33), .val (.ref r37), .val (.int (own_b ab)), .val (.int (own_b ba)), .val (.int (own_b sf)), .val (.int (0 : Int32)), .val (.int (0 : Int32))] [(.int (own_b ab))])) (fun _ kgo => XS.iload X52.here hx rfl (hb hby at_336) rfl kgo) ?_
                  refine own_go (g' := (mkF m 340 #[.val (.long q0), .second, .val (.long q1), .second, .val (.int p2), .val (.int p3), .val (.long q4), .second, .val (.long q5), .second, .val (.long cA), .second, .val (.int mA), .val (.int hA), .val (.int dA), .val (.long sA), .second, .val (.long cB), .second, .val (.int mB), .val (.int hB), .val (.int dB), .val (.long sB), .second, .val (.int (own_b ex)), .val (.ref r33), .val (.ref r37), .val (.int (own_b ab)), .val (.int (own_b ba)), .val (.int (own_b sf)), .val (.int (0 : Int32)), .val (.int (0 : Int32))] [(.int (own_b ex)), (.int (own_b ab))])) (fun _ kgo => XS.iload X52.here hx rfl (hb hby at_338) rfl kgo) ?_
                  refine own_go (g' := (mkF m 343 #[.val (.long q0), .second, .val (.long q1), .second, .val (.int p2), .val (.int p3), .val (.long q4), .second, .val (.long q5), .second, .val (.long cA), .second, .val (.int mA), .val (.int hA), .val (.int dA), .val (.long sA), .second, .val (.long cB), .second, .val (.int mB), .val (.int hB), .val (.int dB), .val (.long sB), .second, .val (.int (own_b ex)), .val (.ref r33), .val (.ref r37), .val (.int (own_b ab)), .val (.int (own_b ba)), .val (.int (own_b sf)), .val (.int (0 : Int32)), .val (.int (0 : Int32))] [])) (fun _ kgo => XS.icmpNo X52.here hx rfl (hb hby at_340) rfl (teq (congrArg own_b (show ab = ex from by subst hab; subst hex; rw [Bool.eq_iff_iff]; simp only [Bool.and_eq_true, decide_eq_true_eq, ← Int32.toInt_inj, ← Int64.toInt_inj] <;> omega))).2 kgo) ?_
                  refine own_go (g' := (mkF m 345 #[.val (.long q0), .second, .val (.long q1), .second, .val (.int p2), .val (.int p3), .val (.long q4), .second, .val (.long q5), .second, .val (.long cA), .second, .val (.int mA), .val (.int hA), .val (.int dA), .val (.long sA), .second, .val (.long cB), .second, .val (.int mB), .val (.int hB), .val (.int dB), .val (.long sB), .second, .val (.int (own_b ex)), .val (.ref r33), .val (.ref r37), .val (.int (own_b ab)), .val (.int (own_b ba)), .val (.int (own_b sf)), .val (.int (0 : Int32)), .val (.int (0 : Int32))] [(.int (own_b ba))])) (fun _ kgo => XS.iload X52.here hx rfl (hb hby at_343) rfl kgo) ?_
                  refine own_go (g' := (mkF m 347 #[.val (.long q0), .second, .val (.long q1), .second, .val (.int p2), .val (.int p3), .val (.long q4), .second, .val (.long q5), .second, .val (.long cA), .second, .val (.int mA), .val (.int hA), .val (.int dA), .val (.long sA), .second, .val (.long cB), .second, .val (.int mB), .val (.int hB), .val (.int dB), .val (.long sB), .second, .val (.int (own_b ex)), .val (.ref r33), .val (.ref r37), .val (.int (own_b ab)), .val (.int (own_b ba)), .val (.int (own_b sf)), .val (.int (0 : Int32)), .val (.int (0 : Int32))] [(.int (own_b ex)), (.int (own_b ba))])) (fun _ kgo => XS.iload X52.here hx rfl (hb hby at_345) rfl kgo) ?_
                  refine own_go (g' := (mkF m 350 #[.val (.long q0), .second, .val (.long q1), .second, .val (.int p2), .val (.int p3), .val (.long q4), .second, .val (.long q5), .second, .val (.long cA), .second, .val (.int mA), .val (.int hA), .val (.int dA), .val (.long sA), .second, .val (.long cB), .second, .val (.int mB), .val (.int hB), .val (.int dB), .val (.long sB), .second, .val (.int (own_b ex)), .val (.ref r33), .val (.ref r37), .val (.int (own_b ab)), .val (.int (own_b ba)), .val (.int (own_b sf)), .val (.int (0 : Int32)), .val (.int (0 : Int32))] [])) (fun _ kgo => XS.icmpNo X52.here hx rfl (hb hby at_347) rfl (teq (congrArg own_b (show ba = ex from by subst hba; subst hex; rw [Bool.eq_iff_iff]; simp only [Bool.and_eq_true, decide_eq_true_eq, ← Int32.toInt_inj, ← Int64.toInt_inj] <;> omega))).2 kgo) ?_
                  refine own_go (g' := (mkF m 352 #[.val (.long q0), .second, .val (.long q1), .second, .val (.int p2), .val (.int p3), .val (.long q4), .second, .val (.long q5), .second, .val (.long cA), .second, .val (.int mA), .val (.int hA), .val (.int dA), .val (.long sA), .second, .val (.long cB), .second, .val (.int mB), .val (.int hB), .val (.int dB), .val (.long sB), .second, .val (.int (own_b ex)), .val (.ref r33), .val (.ref r37), .val (.int (own_b ab)), .val (.int (own_b ba)), .val (.int (own_b sf)), .val (.int (0 : Int32)), .val (.int (0 : Int32))] [(.int (own_b sf))])) (fun _ kgo => XS.iload X52.here hx rfl (hb hby at_350) rfl kgo) ?_
                  refine own_go (g' := (mkF m 355 #[.val (.long q0), .second, .val (.long q1), .second, .val (.int p2), .val (.int p3), .val (.long q4), .second, .val (.long q5), .second, .val (.long cA), .second, .val (.int mA), .val (.int hA), .val (.int dA), .val (.long sA), .second, .val (.long cB), .second, .val (.int mB), .val (.int hB), .val (.int dB), .val (.long sB), .second, .val (.int (own_b ex)), .val (.ref r33), .val (.ref r37), .val (.int (own_b ab)), .val (.int (own_b ba)), .val (.int (own_b sf)), .val (.int (0 : Int32)), .val (.int (0 : Int32))] [])) (fun _ kgo => XS.ifNo X52.here hx rfl (hb hby at_352) rfl ((if0 _ _).trans (feq (own_b_n (by rw [hsf]; exact decide_eq_true ⟨rfl, rfl, rfl, rfl, rfl⟩))).1) kgo) ?_
                  refine own_go (g' := (mkF m 357 #[.val (.long q0), .second, .val (.long q1), .second, .val (.int p2), .val (.int p3), .val (.long q4), .second, .val (.long q5), .second, .val (.long cA), .second, .val (.int mA), .val (.int hA), .val (.int dA), .val (.long sA), .second, .val (.long cB), .second, .val (.int mB), .val (.int hB), .val (.int dB), .val (.long sB), .second, .val (.int (own_b ex)), .val (.ref r33), .val (.ref r37), .val (.int (own_b ab)), .val (.int (own_b ba)), .val (.int (own_b sf)), .val (.int (0 : Int32)), .val (.int (0 : Int32))] [(.int (0 : Int32))])) (fun _ kgo => XS.iload X52.here hx rfl (hb hby at_355) rfl kgo) ?_
                  refine own_go (g' := (mkF m 360 #[.val (.long q0), .second, .val (.long q1), .second, .val (.int p2), .val (.int p3), .val (.long q4), .second, .val (.long q5), .second, .val (.long cA), .second, .val (.int mA), .val (.int hA), .val (.int dA), .val (.long sA), .second, .val (.long cB), .second, .val (.int mB), .val (.int hB), .val (.int dB), .val (.long sB), .second, .val (.int (own_b ex)), .val (.ref r33), .val (.ref r37), .val (.int (own_b ab)), .val (.int (own_b ba)), .val (.int (own_b sf)), .val (.int (0 : Int32)), .val (.int (0 : Int32))] [])) (fun _ kgo => XS.ifNo X52.here hx rfl (hb hby at_357) rfl ((if0 _ _).trans (teq (by decide)).2) kgo) ?_
                  refine own_go (g' := (mkF m 362 #[.val (.long q0), .second, .val (.long q1), .second, .val (.int p2), .val (.int p3), .val (.long q4), .second, .val (.long q5), .second, .val (.long cA), .second, .val (.int mA), .val (.int hA), .val (.int dA), .val (.long sA), .second, .val (.long cB), .second, .val (.int mB), .val (.int hB), .val (.int dB), .val (.long sB), .second, .val (.int (own_b ex)), .val (.ref r33), .val (.ref r37), .val (.int (own_b ab)), .val (.int (own_b ba)), .val (.int (own_b sf)), .val (.int (0 : Int32)), .val (.int (0 : Int32))] [(.int (0 : Int32))])) (fun _ kgo => XS.iload X52.here hx rfl (hb hby at_360) rfl kgo) ?_
                  refine own_go (g' := (mkF m 365 #[.val (.long q0), .second, .val (.long q1), .second, .val (.int p2), .val (.int p3), .val (.long q4), .second, .val (.long q5), .second, .val (.long cA), .second, .val (.int mA), .val (.int hA), .val (.int dA), .val (.long sA), .second, .val (.long cB), .second, .val (.int mB), .val (.int hB), .val (.int dB), .val (.long sB), .second, .val (.int (own_b ex)), .val (.ref r33), .val (.ref r37), .val (.int (own_b ab)), .val (.int (own_b ba)), .val (.int (own_b sf)), .val (.int (0 : Int32)), .val (.int (0 : Int32))] [])) (fun _ kgo => XS.ifNo X52.here hx rfl (hb hby at_362) rfl ((if0 _ _).trans (teq (by decide)).2) kgo) ?_
                  refine own_go (g' := (mkF m 366 #[.val (.long q0), .second, .val (.long q1), .second, .val (.int p2), .val (.int p3), .val (.long q4), .second, .val (.long q5), .second, .val (.long cA), .second, .val (.int mA), .val (.int hA), .val (.int dA), .val (.long sA), .second, .val (.long cB), .second, .val (.int mB), .val (.int hB), .val (.int dB), .val (.long sB), .second, .val (.int (own_b ex)), .val (.ref r33), .val (.ref r37), .val (.int (own_b ab)), .val (.int (own_b ba)), .val (.int (own_b sf)), .val (.int (0 : Int32)), .val (.int (0 : Int32))] [(.int (1 : Int32))])) (fun _ kgo => XS.iconst X52.here hx rfl (hb hby at_365) kgo) ?_
                  refine own_go (g' := (mkF m 370 #[.val (.long q0), .second, .val (.long q1), .second, .val (.int p2), .val (.int p3), .val (.long q4), .second, .val (.long q5), .second, .val (.long cA), .second, .val (.int mA), .val (.int hA), .val (.int dA), .val (.long sA), .second, .val (.long cB), .second, .val (.int mB), .val (.int hB), .val (.int dB), .val (.long sB), .second, .val (.int (own_b ex)), .val (.ref r33), .val (.ref r37), .val (.int (own_b ab)), .val (.int (own_b ba)), .val (.int (own_b sf)), .val (.int (0 : Int32)), .val (.int (0 : Int32))] [(.int (1 : Int32))])) (fun _ kgo => XS.goto X52.here hx rfl (pc0 := 366) (pc' := 370) rfl (hb hby at_366) (by decide) (by decide) kgo) ?_
                  refine own_retN X52 hx .boolean Bd.returns Bd.notSynchronized (by simp) (hb hby at_370) (by decide) (by decide) ?_
                  show QQ _ T52.heap _
                  rw [e52]
                  rw [← hQQ]
                  exact ⟨rfl, N52⟩
              by_cases hc54 : cA = cB
              ·
                refine own_go (g' := (mkF m 197 #[.val (.long q0), .second, .val (.long q1), .second, .val (.int p2), .val (.int p3), .val (.long q4), .second, .val (.long q5), .second, .val (.long cA), .second, .val (.int mA), .val (.int hA), .val (.int dA), .val (.long sA), .second, .val (.long cB), .second, .val (.int mB), .val (.int hB), .val (.int dB), .val (.long sB), .second, .unset, .unset, .unset, .unset, .unset, .unset, .unset, .unset] [])) (fun _ kgo => XS.ifNo X9.here hx rfl (hb hby at_194) rfl ((if0 _ _).trans (teq ((lw_eq _ _).mpr hc54)).2) kgo) ?_
                refine own_go (g' := (mkF m 199 #[.val (.long q0), .second, .val (.long q1), .second, .val (.int p2), .val (.int p3), .val (.long q4), .second, .val (.long q5), .second, .val (.long cA), .second, .val (.int mA), .val (.int hA), .val (.int dA), .val (.long sA), .second, .val (.long cB), .second, .val (.int mB), .val (.int hB), .val (.int dB), .val (.long sB), .second, .unset, .unset, .unset, .unset, .unset, .unset, .unset, .unset] [(.int mA)])) (fun _ kgo => XS.iload X9.here hx rfl (hb hby at_197) rfl kgo) ?_
                refine own_go (g' := (mkF m 201 #[.val (.long q0), .second, .val (.long q1), .second, .val (.int p2), .val (.int p3), .val (.long q4), .second, .val (.long q5), .second, .val (.long cA), .second, .val (.int mA), .val (.int hA), .val (.int dA), .val (.long sA), .second, .val (.long cB), .second, .val (.int mB), .val (.int hB), .val (.int dB), .val (.long sB), .second, .unset, .unset, .unset, .unset, .unset, .unset, .unset, .unset] [(.int mB), (.int mA)])) (fun _ kgo => XS.iload X9.here hx rfl (hb hby at_199) rfl kgo) ?_
                have J55 : own_Go p e below (own_Post s QQ 24 128) T9 (mkF m 231 #[.val (.long q0), .second, .val (.long q1), .second, .val (.int p2), .val (.int p3), .val (.long q4), .second, .val (.long q5), .second, .val (.long cA), .second, .val (.int mA), .val (.int hA), .val (.int dA), .val (.long sA), .second, .val (.long cB), .second, .val (.int mB), .val (.int hB), .val (.int dB), .val (.long sB), .second, .unset, .unset, .unset, .unset, .unset, .unset, .unset, .unset] [(.int (own_b ((decide (mA = mB) && (decide (hA = hB) && (decide (dA = dB) && decide (sA = sB)))))))]) := by
                  have hE11 : own_b ((decide (cA = cB) && (decide (mA = mB) && (decide (hA = hB) && (decide (dA = dB) && decide (sA = sB)))))) = (own_b ((decide (mA = mB) && (decide (hA = hB) && (decide (dA = dB) && decide (sA = sB)))))) := by simp only [decide_eq_true hc54]; first | done | rfl
                  exact own_cast (by rw [hE11]) J11
                by_cases hc56 : mA = mB
                ·
                  refine own_go (g' := (mkF m 204 #[.val (.long q0), .second, .val (.long q1), .second, .val (.int p2), .val (.int p3), .val (.long q4), .second, .val (.long q5), .second, .val (.long cA), .second, .val (.int mA), .val (.int hA), .val (.int dA), .val (.long sA), .second, .val (.long cB), .second, .val (.int mB), .val (.int hB), .val (.int dB), .val (.long sB), .second, .unset, .unset, .unset, .unset, .unset, .unset, .unset, .unset] [])) (fun _ kgo => XS.icmpNo X9.here hx rfl (hb hby at_201) rfl (teq hc56).2 kgo) ?_
                  refine own_go (g' := (mkF m 206 #[.val (.long q0), .second, .val (.long q1), .second, .val (.int p2), .val (.int p3), .val (.long q4), .second, .val (.long q5), .second, .val (.long cA), .second, .val (.int mA), .val (.int hA), .val (.int dA), .val (.long sA), .second, .val (.long cB), .second, .val (.int mB), .val (.int hB), .val (.int dB), .val (.long sB), .second, .unset, .unset, .unset, .unset, .unset, .unset, .unset, .unset] [(.int hA)])) (fun _ kgo => XS.iload X9.here hx rfl (hb hby at_204) rfl kgo) ?_
                  refine own_go (g' := (mkF m 208 #[.val (.long q0), .second, .val (.long q1), .second, .val (.int p2), .val (.int p3), .val (.long q4), .second, .val (.long q5), .second, .val (.long cA), .second, .val (.int mA), .val (.int hA), .val (.int dA), .val (.long sA), .second, .val (.long cB), .second, .val (.int mB), .val (.int hB), .val (.int dB), .val (.long sB), .second, .unset, .unset, .unset, .unset, .unset, .unset, .unset, .unset] [(.int hB), (.int hA)])) (fun _ kgo => XS.iload X9.here hx rfl (hb hby at_206) rfl kgo) ?_
                  have J57 : own_Go p e below (own_Post s QQ 24 128) T9 (mkF m 231 #[.val (.long q0), .second, .val (.long q1), .second, .val (.int p2), .val (.int p3), .val (.long q4), .second, .val (.long q5), .second, .val (.long cA), .second, .val (.int mA), .val (.int hA), .val (.int dA), .val (.long sA), .second, .val (.long cB), .second, .val (.int mB), .val (.int hB), .val (.int dB), .val (.long sB), .second, .unset, .unset, .unset, .unset, .unset, .unset, .unset, .unset] [(.int (own_b ((decide (hA = hB) && (decide (dA = dB) && decide (sA = sB))))))]) := by
                    have hE55 : own_b ((decide (mA = mB) && (decide (hA = hB) && (decide (dA = dB) && decide (sA = sB))))) = (own_b ((decide (hA = hB) && (decide (dA = dB) && decide (sA = sB))))) := by simp only [decide_eq_true hc56]; first | done | rfl
                    exact own_cast (by rw [hE55]) J55
                  by_cases hc58 : hA = hB
                  ·
                    refine own_go (g' := (mkF m 211 #[.val (.long q0), .second, .val (.long q1), .second, .val (.int p2), .val (.int p3), .val (.long q4), .second, .val (.long q5), .second, .val (.long cA), .second, .val (.int mA), .val (.int hA), .val (.int dA), .val (.long sA), .second, .val (.long cB), .second, .val (.int mB), .val (.int hB), .val (.int dB), .val (.long sB), .second, .unset, .unset, .unset, .unset, .unset, .unset, .unset, .unset] [])) (fun _ kgo => XS.icmpNo X9.here hx rfl (hb hby at_208) rfl (teq hc58).2 kgo) ?_
                    refine own_go (g' := (mkF m 213 #[.val (.long q0), .second, .val (.long q1), .second, .val (.int p2), .val (.int p3), .val (.long q4), .second, .val (.long q5), .second, .val (.long cA), .second, .val (.int mA), .val (.int hA), .val (.int dA), .val (.long sA), .second, .val (.long cB), .second, .val (.int mB), .val (.int hB), .val (.int dB), .val (.long sB), .second, .unset, .unset, .unset, .unset, .unset, .unset, .unset, .unset] [(.int dA)])) (fun _ kgo => XS.iload X9.here hx rfl (hb hby at_211) rfl kgo) ?_
                    refine own_go (g' := (mkF m 215 #[.val (.long q0), .second, .val (.long q1), .second, .val (.int p2), .val (.int p3), .val (.long q4), .second, .val (.long q5), .second, .val (.long cA), .second, .val (.int mA), .val (.int hA), .val (.int dA), .val (.long sA), .second, .val (.long cB), .second, .val (.int mB), .val (.int hB), .val (.int dB), .val (.long sB), .second, .unset, .unset, .unset, .unset, .unset, .unset, .unset, .unset] [(.int dB), (.int dA)])) (fun _ kgo => XS.iload X9.here hx rfl (hb hby at_213) rfl kgo) ?_
                    have J59 : own_Go p e below (own_Post s QQ 24 128) T9 (mkF m 231 #[.val (.long q0), .second, .val (.long q1), .second, .val (.int p2), .val (.int p3), .val (.long q4), .second, .val (.long q5), .second, .val (.long cA), .second, .val (.int mA), .val (.int hA), .val (.int dA), .val (.long sA), .second, .val (.long cB), .second, .val (.int mB), .val (.int hB), .val (.int dB), .val (.long sB), .second, .unset, .unset, .unset, .unset, .unset, .unset, .unset, .unset] [(.int (own_b ((decide (dA = dB) && decide (sA = sB)))))]) := by
                      have hE57 : own_b ((decide (hA = hB) && (decide (dA = dB) && decide (sA = sB)))) = (own_b ((decide (dA = dB) && decide (sA = sB)))) := by simp only [decide_eq_true hc58]; first | done | rfl
                      exact own_cast (by rw [hE57]) J57
                    by_cases hc60 : dA = dB
                    ·
                      refine own_go (g' := (mkF m 218 #[.val (.long q0), .second, .val (.long q1), .second, .val (.int p2), .val (.int p3), .val (.long q4), .second, .val (.long q5), .second, .val (.long cA), .second, .val (.int mA), .val (.int hA), .val (.int dA), .val (.long sA), .second, .val (.long cB), .second, .val (.int mB), .val (.int hB), .val (.int dB), .val (.long sB), .second, .unset, .unset, .unset, .unset, .unset, .unset, .unset, .unset] [])) (fun _ kgo => XS.icmpNo X9.here hx rfl (hb hby at_215) rfl (teq hc60).2 kgo) ?_
                      refine own_go (g' := (mkF m 220 #[.val (.long q0), .second, .val (.long q1), .second, .val (.int p2), .val (.int p3), .val (.long q4), .second, .val (.long q5), .second, .val (.long cA), .second, .val (.int mA), .val (.int hA), .val (.int dA), .val (.long sA), .second, .val (.long cB), .second, .val (.int mB), .val (.int hB), .val (.int dB), .val (.long sB), .second, .unset, .unset, .unset, .unset, .unset, .unset, .unset, .unset] [(.long sA)])) (fun _ kgo => XS.lload X9.here hx rfl (hb hby at_218) rfl kgo) ?_
                      refine own_go (g' := (mkF m 222 #[.val (.long q0), .second, .val (.long q1), .second, .val (.int p2), .val (.int p3), .val (.long q4), .second, .val (.long q5), .second, .val (.long cA), .second, .val (.int mA), .val (.int hA), .val (.int dA), .val (.long sA), .second, .val (.long cB), .second, .val (.int mB), .val (.int hB), .val (.int dB), .val (.long sB), .second, .unset, .unset, .unset, .unset, .unset, .unset, .unset, .unset] [(.long sB), (.long sA)])) (fun _ kgo => XS.lload X9.here hx rfl (hb hby at_220) rfl kgo) ?_
                      refine own_go (g' := (mkF m 223 #[.val (.long q0), .second, .val (.long q1), .second, .val (.int p2), .val (.int p3), .val (.long q4), .second, .val (.long q5), .second, .val (.long cA), .second, .val (.int mA), .val (.int hA), .val (.int dA), .val (.long sA), .second, .val (.long cB), .second, .val (.int mB), .val (.int hB), .val (.int dB), .val (.long sB), .second, .unset, .unset, .unset, .unset, .unset, .unset, .unset, .unset] [(.int (lcmpW sA sB))])) (fun _ kgo => XS.lcmp X9.here hx rfl (hb hby at_222) rfl kgo) ?_
                      have J61 : own_Go p e below (own_Post s QQ 24 128) T9 (mkF m 231 #[.val (.long q0), .second, .val (.long q1), .second, .val (.int p2), .val (.int p3), .val (.long q4), .second, .val (.long q5), .second, .val (.long cA), .second, .val (.int mA), .val (.int hA), .val (.int dA), .val (.long sA), .second, .val (.long cB), .second, .val (.int mB), .val (.int hB), .val (.int dB), .val (.long sB), .second, .unset, .unset, .unset, .unset, .unset, .unset, .unset, .unset] [(.int (own_b (decide (sA = sB))))]) := by
                        have hE59 : own_b ((decide (dA = dB) && decide (sA = sB))) = (own_b (decide (sA = sB))) := by simp only [decide_eq_true hc60]; first | done | rfl
                        exact own_cast (by rw [hE59]) J59
                      by_cases hc62 : sA = sB
                      ·
                        refine own_go (g' := (mkF m 226 #[.val (.long q0), .second, .val (.long q1), .second, .val (.int p2), .val (.int p3), .val (.long q4), .second, .val (.long q5), .second, .val (.long cA), .second, .val (.int mA), .val (.int hA), .val (.int dA), .val (.long sA), .second, .val (.long cB), .second, .val (.int mB), .val (.int hB), .val (.int dB), .val (.long sB), .second, .unset, .unset, .unset, .unset, .unset, .unset, .unset, .unset] [])) (fun _ kgo => XS.ifNo X9.here hx rfl (hb hby at_223) rfl ((if0 _ _).trans (teq ((lw_eq _ _).mpr hc62)).2) kgo) ?_
                        refine own_go (g' := (mkF m 227 #[.val (.long q0), .second, .val (.long q1), .second, .val (.int p2), .val (.int p3), .val (.long q4), .second, .val (.long q5), .second, .val (.long cA), .second, .val (.int mA), .val (.int hA), .val (.int dA), .val (.long sA), .second, .val (.long cB), .second, .val (.int mB), .val (.int hB), .val (.int dB), .val (.long sB), .second, .unset, .unset, .unset, .unset, .unset, .unset, .unset, .unset] [(.int (1 : Int32))])) (fun _ kgo => XS.iconst X9.here hx rfl (hb hby at_226) kgo) ?_
                        refine own_go (g' := (mkF m 231 #[.val (.long q0), .second, .val (.long q1), .second, .val (.int p2), .val (.int p3), .val (.long q4), .second, .val (.long q5), .second, .val (.long cA), .second, .val (.int mA), .val (.int hA), .val (.int dA), .val (.long sA), .second, .val (.long cB), .second, .val (.int mB), .val (.int hB), .val (.int dB), .val (.long sB), .second, .unset, .unset, .unset, .unset, .unset, .unset, .unset, .unset] [(.int (1 : Int32))])) (fun _ kgo => XS.goto X9.here hx rfl (pc0 := 227) (pc' := 231) rfl (hb hby at_227) (by decide) (by decide) kgo) ?_
                        have hE61 : own_b (decide (sA = sB)) = (1 : Int32) := by simp only [decide_eq_true hc62]; first | done | rfl
                        exact own_cast (by rw [hE61]) J61
                      ·
                        refine own_go (g' := (mkF m 230 #[.val (.long q0), .second, .val (.long q1), .second, .val (.int p2), .val (.int p3), .val (.long q4), .second, .val (.long q5), .second, .val (.long cA), .second, .val (.int mA), .val (.int hA), .val (.int dA), .val (.long sA), .second, .val (.long cB), .second, .val (.int mB), .val (.int hB), .val (.int dB), .val (.long sB), .second, .unset, .unset, .unset, .unset, .unset, .unset, .unset, .unset] [])) (fun _ kgo => XS.ifYes X9.here hx rfl (pc0 := 223) (pc' := 230) rfl (hb hby at_223) rfl ((if0 _ _).trans (feq (mt (lw_eq _ _).mp hc62)).2) (by decide) (by decide) kgo) ?_
                        refine own_go (g' := (mkF m 231 #[.val (.long q0), .second, .val (.long q1), .second, .val (.int p2), .val (.int p3), .val (.long q4), .second, .val (.long q5), .second, .val (.long cA), .second, .val (.int mA), .val (.int hA), .val (.int dA), .val (.long sA), .second, .val (.long cB), .second, .val (.int mB), .val (.int hB), .val (.int dB), .val (.long sB), .second, .unset, .unset, .unset, .unset, .unset, .unset, .unset, .unset] [(.int (0 : Int32))])) (fun _ kgo => XS.iconst X9.here hx rfl (hb hby at_230) kgo) ?_
                        have hE61 : own_b (decide (sA = sB)) = (0 : Int32) := by simp only [decide_eq_false hc62]; first | done | rfl
                        exact own_cast (by rw [hE61]) J61
                    ·
                      refine own_go (g' := (mkF m 230 #[.val (.long q0), .second, .val (.long q1), .second, .val (.int p2), .val (.int p3), .val (.long q4), .second, .val (.long q5), .second, .val (.long cA), .second, .val (.int mA), .val (.int hA), .val (.int dA), .val (.long sA), .second, .val (.long cB), .second, .val (.int mB), .val (.int hB), .val (.int dB), .val (.long sB), .second, .unset, .unset, .unset, .unset, .unset, .unset, .unset, .unset] [])) (fun _ kgo => XS.icmpYes X9.here hx rfl (pc0 := 215) (pc' := 230) rfl (hb hby at_215) rfl (feq hc60).2 (by decide) (by decide) kgo) ?_
                      refine own_go (g' := (mkF m 231 #[.val (.long q0), .second, .val (.long q1), .second, .val (.int p2), .val (.int p3), .val (.long q4), .second, .val (.long q5), .second, .val (.long cA), .second, .val (.int mA), .val (.int hA), .val (.int dA), .val (.long sA), .second, .val (.long cB), .second, .val (.int mB), .val (.int hB), .val (.int dB), .val (.long sB), .second, .unset, .unset, .unset, .unset, .unset, .unset, .unset, .unset] [(.int (0 : Int32))])) (fun _ kgo => XS.iconst X9.here hx rfl (hb hby at_230) kgo) ?_
                      have hE59 : own_b ((decide (dA = dB) && decide (sA = sB))) = (0 : Int32) := by simp only [decide_eq_false hc60]; first | done | rfl
                      exact own_cast (by rw [hE59]) J59
                  ·
                    refine own_go (g' := (mkF m 230 #[.val (.long q0), .second, .val (.long q1), .second, .val (.int p2), .val (.int p3), .val (.long q4), .second, .val (.long q5), .second, .val (.long cA), .second, .val (.int mA), .val (.int hA), .val (.int dA), .val (.long sA), .second, .val (.long cB), .second, .val (.int mB), .val (.int hB), .val (.int dB), .val (.long sB), .second, .unset, .unset, .unset, .unset, .unset, .unset, .unset, .unset] [])) (fun _ kgo => XS.icmpYes X9.here hx rfl (pc0 := 208) (pc' := 230) rfl (hb hby at_208) rfl (feq hc58).2 (by decide) (by decide) kgo) ?_
                    refine own_go (g' := (mkF m 231 #[.val (.long q0), .second, .val (.long q1), .second, .val (.int p2), .val (.int p3), .val (.long q4), .second, .val (.long q5), .second, .val (.long cA), .second, .val (.int mA), .val (.int hA), .val (.int dA), .val (.long sA), .second, .val (.long cB), .second, .val (.int mB), .val (.int hB), .val (.int dB), .val (.long sB), .second, .unset, .unset, .unset, .unset, .unset, .unset, .unset, .unset] [(.int (0 : Int32))])) (fun _ kgo => XS.iconst X9.here hx rfl (hb hby at_230) kgo) ?_
                    have hE57 : own_b ((decide (hA = hB) && (decide (dA = dB) && decide (sA = sB)))) = (0 : Int32) := by simp only [decide_eq_false hc58]; first | done | rfl
                    exact own_cast (by rw [hE57]) J57
                ·
                  refine own_go (g' := (mkF m 230 #[.val (.long q0), .second, .val (.long q1), .second, .val (.int p2), .val (.int p3), .val (.long q4), .second, .val (.long q5), .second, .val (.long cA), .second, .val (.int mA), .val (.int hA), .val (.int dA), .val (.long sA), .second, .val (.long cB), .second, .val (.int mB), .val (.int hB), .val (.int dB), .val (.long sB), .second, .unset, .unset, .unset, .unset, .unset, .unset, .unset, .unset] [])) (fun _ kgo => XS.icmpYes X9.here hx rfl (pc0 := 201) (pc' := 230) rfl (hb hby at_201) rfl (feq hc56).2 (by decide) (by decide) kgo) ?_
                  refine own_go (g' := (mkF m 231 #[.val (.long q0), .second, .val (.long q1), .second, .val (.int p2), .val (.int p3), .val (.long q4), .second, .val (.long q5), .second, .val (.long cA), .second, .val (.int mA), .val (.int hA), .val (.int dA), .val (.long sA), .second, .val (.long cB), .second, .val (.int mB), .val (.int hB), .val (.int dB), .val (.long sB), .second, .unset, .unset, .unset, .unset, .unset, .unset, .unset, .unset] [(.int (0 : Int32))])) (fun _ kgo => XS.iconst X9.here hx rfl (hb hby at_230) kgo) ?_
                  have hE55 : own_b ((decide (mA = mB) && (decide (hA = hB) && (decide (dA = dB) && decide (sA = sB))))) = (0 : Int32) := by simp only [decide_eq_false hc56]; first | done | rfl
                  exact own_cast (by rw [hE55]) J55
              ·
                refine own_go (g' := (mkF m 230 #[.val (.long q0), .second, .val (.long q1), .second, .val (.int p2), .val (.int p3), .val (.long q4), .second, .val (.long q5), .second, .val (.long cA), .second, .val (.int mA), .val (.int hA), .val (.int dA), .val (.long sA), .second, .val (.long cB), .second, .val (.int mB), .val (.int hB), .val (.int dB), .val (.long sB), .second, .unset, .unset, .unset, .unset, .unset, .unset, .unset, .unset] [])) (fun _ kgo => XS.ifYes X9.here hx rfl (pc0 := 194) (pc' := 230) rfl (hb hby at_194) rfl ((if0 _ _).trans (feq (mt (lw_eq _ _).mp hc54)).2) (by decide) (by decide) kgo) ?_
                refine own_go (g' := (mkF m 231 #[.val (.long q0), .second, .val (.long q1), .second, .val (.int p2), .val (.int p3), .val (.long q4), .second, .val (.long q5), .second, .val (.long cA), .second, .val (.int mA), .val (.int hA), .val (.int dA), .val (.long sA), .second, .val (.long cB), .second, .val (.int mB), .val (.int hB), .val (.int dB), .val (.long sB), .second, .unset, .unset, .unset, .unset, .unset, .unset, .unset, .unset] [(.int (0 : Int32))])) (fun _ kgo => XS.iconst X9.here hx rfl (hb hby at_230) kgo) ?_
                have hE11 : own_b ((decide (cA = cB) && (decide (mA = mB) && (decide (hA = hB) && (decide (dA = dB) && decide (sA = sB)))))) = (0 : Int32) := by simp only [decide_eq_false hc54]; first | done | rfl
                exact own_cast (by rw [hE11]) J11
            by_cases hc63 : (p3 &&& (16 : Int32)) = (0 : Int32)
            ·
              refine own_go (g' := (mkF m 185 #[.val (.long q0), .second, .val (.long q1), .second, .val (.int p2), .val (.int p3), .val (.long q4), .second, .val (.long q5), .second, .val (.long cA), .second, .val (.int mA), .val (.int hA), .val (.int dA), .val (.long sA), .second, .val (.long cB), .second, .val (.int mB), .val (.int hB), .val (.int dB), .unset, .unset, .unset, .unset, .unset, .unset, .unset, .unset, .unset, .unset] [])) (fun _ kgo => XS.ifYes X9.here hx rfl (pc0 := 177) (pc' := 185) rfl (hb hby at_177) rfl ((if0 _ _).trans (teq hc63).1) (by decide) (by decide) kgo) ?_
              refine own_go (g' := (mkF m 187 #[.val (.long q0), .second, .val (.long q1), .second, .val (.int p2), .val (.int p3), .val (.long q4), .second, .val (.long q5), .second, .val (.long cA), .second, .val (.int mA), .val (.int hA), .val (.int dA), .val (.long sA), .second, .val (.long cB), .second, .val (.int mB), .val (.int hB), .val (.int dB), .unset, .unset, .unset, .unset, .unset, .unset, .unset, .unset, .unset, .unset] [(.long sA)])) (fun _ kgo => XS.lload X9.here hx rfl (hb hby at_185) rfl kgo) ?_
              exact J10 sA
            ·
              refine own_go (g' := (mkF m 180 #[.val (.long q0), .second, .val (.long q1), .second, .val (.int p2), .val (.int p3), .val (.long q4), .second, .val (.long q5), .second, .val (.long cA), .second, .val (.int mA), .val (.int hA), .val (.int dA), .val (.long sA), .second, .val (.long cB), .second, .val (.int mB), .val (.int hB), .val (.int dB), .unset, .unset, .unset, .unset, .unset, .unset, .unset, .unset, .unset, .unset] [])) (fun _ kgo => XS.ifNo X9.here hx rfl (hb hby at_177) rfl ((if0 _ _).trans (feq hc63).1) kgo) ?_
              refine own_go (g' := (mkF m 182 #[.val (.long q0), .second, .val (.long q1), .second, .val (.int p2), .val (.int p3), .val (.long q4), .second, .val (.long q5), .second, .val (.long cA), .second, .val (.int mA), .val (.int hA), .val (.int dA), .val (.long sA), .second, .val (.long cB), .second, .val (.int mB), .val (.int hB), .val (.int dB), .unset, .unset, .unset, .unset, .unset, .unset, .unset, .unset, .unset, .unset] [(.long q5)])) (fun _ kgo => XS.lload X9.here hx rfl (hb hby at_180) rfl kgo) ?_
              refine own_go (g' := (mkF m 187 #[.val (.long q0), .second, .val (.long q1), .second, .val (.int p2), .val (.int p3), .val (.long q4), .second, .val (.long q5), .second, .val (.long cA), .second, .val (.int mA), .val (.int hA), .val (.int dA), .val (.long sA), .second, .val (.long cB), .second, .val (.int mB), .val (.int hB), .val (.int dB), .unset, .unset, .unset, .unset, .unset, .unset, .unset, .unset, .unset, .unset] [(.long q5)])) (fun _ kgo => XS.goto X9.here hx rfl (pc0 := 182) (pc' := 187) rfl (hb hby at_182) (by decide) (by decide) kgo) ?_
              exact J10 q5
          by_cases hc64 : (p3 &&& (8 : Int32)) = (0 : Int32)
          ·
            refine own_go (g' := (mkF m 161 #[.val (.long q0), .second, .val (.long q1), .second, .val (.int p2), .val (.int p3), .val (.long q4), .second, .val (.long q5), .second, .val (.long cA), .second, .val (.int mA), .val (.int hA), .val (.int dA), .val (.long sA), .second, .val (.long cB), .second, .val (.int mB), .val (.int hB), .unset, .unset, .unset, .unset, .unset, .unset, .unset, .unset, .unset, .unset, .unset] [])) (fun _ kgo => XS.ifYes X7.here hx rfl (pc0 := 151) (pc' := 161) rfl (hb hby at_151) rfl ((if0 _ _).trans (teq hc64).1) (by decide) (by decide) kgo) ?_
            refine own_go (g' := (mkF m 163 #[.val (.long q0), .second, .val (.long q1), .second, .val (.int p2), .val (.int p3), .val (.long q4), .second, .val (.long q5), .second, .val (.long cA), .second, .val (.int mA), .val (.int hA), .val (.int dA), .val (.long sA), .second, .val (.long cB), .second, .val (.int mB), .val (.int hB), .unset, .unset, .unset, .unset, .unset, .unset, .unset, .unset, .unset, .unset, .unset] [(.int dA)])) (fun _ kgo => XS.iload X7.here hx rfl (hb hby at_161) rfl kgo) ?_
            refine own_go (g' := (mkF m 164 #[.val (.long q0), .second, .val (.long q1), .second, .val (.int p2), .val (.int p3), .val (.long q4), .second, .val (.long q5), .second, .val (.long cA), .second, .val (.int mA), .val (.int hA), .val (.int dA), .val (.long sA), .second, .val (.long cB), .second, .val (.int mB), .val (.int hB), .unset, .unset, .unset, .unset, .unset, .unset, .unset, .unset, .unset, .unset, .unset] [(.long (dA.toInt64))])) (fun _ kgo => XS.i2l X7.here hx rfl (hb hby at_163) rfl kgo) ?_
            exact J8 (dA.toInt64) (by rw [c_i2l]; omega)
          ·
            refine own_go (g' := (mkF m 154 #[.val (.long q0), .second, .val (.long q1), .second, .val (.int p2), .val (.int p3), .val (.long q4), .second, .val (.long q5), .second, .val (.long cA), .second, .val (.int mA), .val (.int hA), .val (.int dA), .val (.long sA), .second, .val (.long cB), .second, .val (.int mB), .val (.int hB), .unset, .unset, .unset, .unset, .unset, .unset, .unset, .unset, .unset, .unset, .unset] [])) (fun _ kgo => XS.ifNo X7.here hx rfl (hb hby at_151) rfl ((if0 _ _).trans (feq hc64).1) kgo) ?_
            refine own_go (g' := (mkF m 155 #[.val (.long q0), .second, .val (.long q1), .second, .val (.int p2), .val (.int p3), .val (.long q4), .second, .val (.long q5), .second, .val (.long cA), .second, .val (.int mA), .val (.int hA), .val (.int dA), .val (.long sA), .second, .val (.long cB), .second, .val (.int mB), .val (.int hB), .unset, .unset, .unset, .unset, .unset, .unset, .unset, .unset, .unset, .unset, .unset] [(.long q1)])) (fun _ kgo => XS.lloadN X7.here hx rfl (hb hby at_154) rfl kgo) ?_
            refine own_go (g' := (mkF m 157 #[.val (.long q0), .second, .val (.long q1), .second, .val (.int p2), .val (.int p3), .val (.long q4), .second, .val (.long q5), .second, .val (.long cA), .second, .val (.int mA), .val (.int hA), .val (.int dA), .val (.long sA), .second, .val (.long cB), .second, .val (.int mB), .val (.int hB), .unset, .unset, .unset, .unset, .unset, .unset, .unset, .unset, .unset, .unset, .unset] [(.int (34 : Int32)), (.long q1)])) (fun _ kgo => XS.bipush X7.here hx rfl (hb hby at_155) kgo) ?_
            refine own_go (g' := (mkF m 158 #[.val (.long q0), .second, .val (.long q1), .second, .val (.int p2), .val (.int p3), .val (.long q4), .second, .val (.long q5), .second, .val (.long cA), .second, .val (.int mA), .val (.int hA), .val (.int dA), .val (.long sA), .second, .val (.long cB), .second, .val (.int mB), .val (.int hB), .unset, .unset, .unset, .unset, .unset, .unset, .unset, .unset, .unset, .unset, .unset] [(.long ((q1.toUInt64 >>> ((34 : Int32) &&& 0x3f).toInt64.toUInt64).toInt64))])) (fun _ kgo => XS.lushr X7.here hx rfl (hb hby at_157) rfl kgo) ?_
            refine own_go (g' := (mkF m 164 #[.val (.long q0), .second, .val (.long q1), .second, .val (.int p2), .val (.int p3), .val (.long q4), .second, .val (.long q5), .second, .val (.long cA), .second, .val (.int mA), .val (.int hA), .val (.int dA), .val (.long sA), .second, .val (.long cB), .second, .val (.int mB), .val (.int hB), .unset, .unset, .unset, .unset, .unset, .unset, .unset, .unset, .unset, .unset, .unset] [(.long ((q1.toUInt64 >>> ((34 : Int32) &&& 0x3f).toInt64.toUInt64).toInt64))])) (fun _ kgo => XS.goto X7.here hx rfl (pc0 := 158) (pc' := 164) rfl (hb hby at_158) (by decide) (by decide) kgo) ?_
            exact J8 ((q1.toUInt64 >>> ((34 : Int32) &&& 0x3f).toInt64.toUInt64).toInt64) (own_d0 _)
        by_cases hc65 : (p3 &&& (4 : Int32)) = (0 : Int32)
        ·
          refine own_go (g' := (mkF m 135 #[.val (.long q0), .second, .val (.long q1), .second, .val (.int p2), .val (.int p3), .val (.long q4), .second, .val (.long q5), .second, .val (.long cA), .second, .val (.int mA), .val (.int hA), .val (.int dA), .val (.long sA), .second, .val (.long cB), .second, .val (.int mB), .unset, .unset, .unset, .unset, .unset, .unset, .unset, .unset, .unset, .unset, .unset, .unset] [])) (fun _ kgo => XS.ifYes X2.here hx rfl (pc0 := 118) (pc' := 135) rfl (hb hby at_118) rfl ((if0 _ _).trans (teq hc65).1) (by decide) (by decide) kgo) ?_
          refine own_go (g' := (mkF m 137 #[.val (.long q0), .second, .val (.long q1), .second, .val (.int p2), .val (.int p3), .val (.long q4), .second, .val (.long q5), .second, .val (.long cA), .second, .val (.int mA), .val (.int hA), .val (.int dA), .val (.long sA), .second, .val (.long cB), .second, .val (.int mB), .unset, .unset, .unset, .unset, .unset, .unset, .unset, .unset, .unset, .unset, .unset, .unset] [(.int hA)])) (fun _ kgo => XS.iload X2.here hx rfl (hb hby at_135) rfl kgo) ?_
          refine own_go (g' := (mkF m 138 #[.val (.long q0), .second, .val (.long q1), .second, .val (.int p2), .val (.int p3), .val (.long q4), .second, .val (.long q5), .second, .val (.long cA), .second, .val (.int mA), .val (.int hA), .val (.int dA), .val (.long sA), .second, .val (.long cB), .second, .val (.int mB), .unset, .unset, .unset, .unset, .unset, .unset, .unset, .unset, .unset, .unset, .unset, .unset] [(.long (hA.toInt64))])) (fun _ kgo => XS.i2l X2.here hx rfl (hb hby at_137) rfl kgo) ?_
          exact J6 (hA.toInt64) (by rw [c_i2l]; omega)
        ·
          refine own_go (g' := (mkF m 121 #[.val (.long q0), .second, .val (.long q1), .second, .val (.int p2), .val (.int p3), .val (.long q4), .second, .val (.long q5), .second, .val (.long cA), .second, .val (.int mA), .val (.int hA), .val (.int dA), .val (.long sA), .second, .val (.long cB), .second, .val (.int mB), .unset, .unset, .unset, .unset, .unset, .unset, .unset, .unset, .unset, .unset, .unset, .unset] [])) (fun _ kgo => XS.ifNo X2.here hx rfl (hb hby at_118) rfl ((if0 _ _).trans (feq hc65).1) kgo) ?_
          refine own_go (g' := (mkF m 122 #[.val (.long q0), .second, .val (.long q1), .second, .val (.int p2), .val (.int p3), .val (.long q4), .second, .val (.long q5), .second, .val (.long cA), .second, .val (.int mA), .val (.int hA), .val (.int dA), .val (.long sA), .second, .val (.long cB), .second, .val (.int mB), .unset, .unset, .unset, .unset, .unset, .unset, .unset, .unset, .unset, .unset, .unset, .unset] [(.long (1 : Int64))])) (fun _ kgo => XS.lconst X2.here hx rfl (hb hby at_121) kgo) ?_
          refine own_go (g' := (mkF m 124 #[.val (.long q0), .second, .val (.long q1), .second, .val (.int p2), .val (.int p3), .val (.long q4), .second, .val (.long q5), .second, .val (.long cA), .second, .val (.int mA), .val (.int hA), .val (.int dA), .val (.long sA), .second, .val (.long cB), .second, .val (.int mB), .unset, .unset, .unset, .unset, .unset, .unset, .unset, .unset, .unset, .unset, .unset, .unset] [(.int p2), (.long (1 : Int64))])) (fun _ kgo => XS.iload X2.here hx rfl (hb hby at_122) rfl kgo) ?_
          refine own_go (g' := (mkF m 126 #[.val (.long q0), .second, .val (.long q1), .second, .val (.int p2), .val (.int p3), .val (.long q4), .second, .val (.long q5), .second, .val (.long cA), .second, .val (.int mA), .val (.int hA), .val (.int dA), .val (.long sA), .second, .val (.long cB), .second, .val (.int mB), .unset, .unset, .unset, .unset, .unset, .unset, .unset, .unset, .unset, .unset, .unset, .unset] [(.int (10 : Int32)), (.int p2), (.long (1 : Int64))])) (fun _ kgo => XS.bipush X2.here hx rfl (hb hby at_124) kgo) ?_
          refine own_go (g' := (mkF m 127 #[.val (.long q0), .second, .val (.long q1), .second, .val (.int p2), .val (.int p3), .val (.long q4), .second, .val (.long q5), .second, .val (.long cA), .second, .val (.int mA), .val (.int hA), .val (.int dA), .val (.long sA), .second, .val (.long cB), .second, .val (.int mB), .unset, .unset, .unset, .unset, .unset, .unset, .unset, .unset, .unset, .unset, .unset, .unset] [(.int ((p2.toUInt32 >>> ((10 : Int32) &&& 31).toUInt32).toInt32)), (.long (1 : Int64))])) (fun _ kgo => XS.iushr X2.here hx rfl (hb hby at_126) rfl kgo) ?_
          refine own_go (g' := (mkF m 129 #[.val (.long q0), .second, .val (.long q1), .second, .val (.int p2), .val (.int p3), .val (.long q4), .second, .val (.long q5), .second, .val (.long cA), .second, .val (.int mA), .val (.int hA), .val (.int dA), .val (.long sA), .second, .val (.long cB), .second, .val (.int mB), .unset, .unset, .unset, .unset, .unset, .unset, .unset, .unset, .unset, .unset, .unset, .unset] [(.int (63 : Int32)), (.int ((p2.toUInt32 >>> ((10 : Int32) &&& 31).toUInt32).toInt32)), (.long (1 : Int64))])) (fun _ kgo => XS.bipush X2.here hx rfl (hb hby at_127) kgo) ?_
          refine own_go (g' := (mkF m 130 #[.val (.long q0), .second, .val (.long q1), .second, .val (.int p2), .val (.int p3), .val (.long q4), .second, .val (.long q5), .second, .val (.long cA), .second, .val (.int mA), .val (.int hA), .val (.int dA), .val (.long sA), .second, .val (.long cB), .second, .val (.int mB), .unset, .unset, .unset, .unset, .unset, .unset, .unset, .unset, .unset, .unset, .unset, .unset] [(.int (((p2.toUInt32 >>> ((10 : Int32) &&& 31).toUInt32).toInt32) &&& (63 : Int32))), (.long (1 : Int64))])) (fun _ kgo => XS.iand X2.here hx rfl (hb hby at_129) rfl kgo) ?_
          refine own_go (g' := (mkF m 131 #[.val (.long q0), .second, .val (.long q1), .second, .val (.int p2), .val (.int p3), .val (.long q4), .second, .val (.long q5), .second, .val (.long cA), .second, .val (.int mA), .val (.int hA), .val (.int dA), .val (.long sA), .second, .val (.long cB), .second, .val (.int mB), .unset, .unset, .unset, .unset, .unset, .unset, .unset, .unset, .unset, .unset, .unset, .unset] [(.long ((((p2.toUInt32 >>> ((10 : Int32) &&& 31).toUInt32).toInt32) &&& (63 : Int32)).toInt64)), (.long (1 : Int64))])) (fun _ kgo => XS.i2l X2.here hx rfl (hb hby at_130) rfl kgo) ?_
          refine own_go (g' := (mkF m 132 #[.val (.long q0), .second, .val (.long q1), .second, .val (.int p2), .val (.int p3), .val (.long q4), .second, .val (.long q5), .second, .val (.long cA), .second, .val (.int mA), .val (.int hA), .val (.int dA), .val (.long sA), .second, .val (.long cB), .second, .val (.int mB), .unset, .unset, .unset, .unset, .unset, .unset, .unset, .unset, .unset, .unset, .unset, .unset] [(.long ((1 : Int64) + ((((p2.toUInt32 >>> ((10 : Int32) &&& 31).toUInt32).toInt32) &&& (63 : Int32)).toInt64)))])) (fun _ kgo => XS.ladd X2.here hx rfl (hb hby at_131) rfl kgo) ?_
          refine own_go (g' := (mkF m 138 #[.val (.long q0), .second, .val (.long q1), .second, .val (.int p2), .val (.int p3), .val (.long q4), .second, .val (.long q5), .second, .val (.long cA), .second, .val (.int mA), .val (.int hA), .val (.int dA), .val (.long sA), .second, .val (.long cB), .second, .val (.int mB), .unset, .unset, .unset, .unset, .unset, .unset, .unset, .unset, .unset, .unset, .unset, .unset] [(.long ((1 : Int64) + ((((p2.toUInt32 >>> ((10 : Int32) &&& 31).toUInt32).toInt32) &&& (63 : Int32)).toInt64)))])) (fun _ kgo => XS.goto X2.here hx rfl (pc0 := 132) (pc' := 138) rfl (hb hby at_132) (by decide) (by decide) kgo) ?_
          exact J6 ((1 : Int64) + ((((p2.toUInt32 >>> ((10 : Int32) &&& 31).toUInt32).toInt32) &&& (63 : Int32)).toInt64)) (own_h0 _)
      by_cases hc66 : (p3 &&& (2 : Int32)) = (0 : Int32)
      ·
        refine own_go (g' := (mkF m 110 #[.val (.long q0), .second, .val (.long q1), .second, .val (.int p2), .val (.int p3), .val (.long q4), .second, .val (.long q5), .second, .val (.long cA), .second, .val (.int mA), .val (.int hA), .val (.int dA), .val (.long sA), .second, .val (.long cB), .second, .unset, .unset, .unset, .unset, .unset, .unset, .unset, .unset, .unset, .unset, .unset, .unset, .unset] [])) (fun _ kgo => XS.ifYes X2.here hx rfl (pc0 := 92) (pc' := 110) rfl (hb hby at_92) rfl ((if0 _ _).trans (teq hc66).1) (by decide) (by decide) kgo) ?_
        refine own_go (g' := (mkF m 112 #[.val (.long q0), .second, .val (.long q1), .second, .val (.int p2), .val (.int p3), .val (.long q4), .second, .val (.long q5), .second, .val (.long cA), .second, .val (.int mA), .val (.int hA), .val (.int dA), .val (.long sA), .second, .val (.long cB), .second, .unset, .unset, .unset, .unset, .unset, .unset, .unset, .unset, .unset, .unset, .unset, .unset, .unset] [(.int mA)])) (fun _ kgo => XS.iload X2.here hx rfl (hb hby at_110) rfl kgo) ?_
        exact J5 mA hmxA
      ·
        refine own_go (g' := (mkF m 95 #[.val (.long q0), .second, .val (.long q1), .second, .val (.int p2), .val (.int p3), .val (.long q4), .second, .val (.long q5), .second, .val (.long cA), .second, .val (.int mA), .val (.int hA), .val (.int dA), .val (.long sA), .second, .val (.long cB), .second, .unset, .unset, .unset, .unset, .unset, .unset, .unset, .unset, .unset, .unset, .unset, .unset, .unset] [])) (fun _ kgo => XS.ifNo X2.here hx rfl (hb hby at_92) rfl ((if0 _ _).trans (feq hc66).1) kgo) ?_
        refine own_go (g' := (mkF m 96 #[.val (.long q0), .second, .val (.long q1), .second, .val (.int p2), .val (.int p3), .val (.long q4), .second, .val (.long q5), .second, .val (.long cA), .second, .val (.int mA), .val (.int hA), .val (.int dA), .val (.long sA), .second, .val (.long cB), .second, .unset, .unset, .unset, .unset, .unset, .unset, .unset, .unset, .unset, .unset, .unset, .unset, .unset] [(.int (1 : Int32))])) (fun _ kgo => XS.iconst X2.here hx rfl (hb hby at_95) kgo) ?_
        refine own_go (g' := (mkF m 97 #[.val (.long q0), .second, .val (.long q1), .second, .val (.int p2), .val (.int p3), .val (.long q4), .second, .val (.long q5), .second, .val (.long cA), .second, .val (.int mA), .val (.int hA), .val (.int dA), .val (.long sA), .second, .val (.long cB), .second, .unset, .unset, .unset, .unset, .unset, .unset, .unset, .unset, .unset, .unset, .unset, .unset, .unset] [(.int (1 : Int32)), (.int (1 : Int32))])) (fun _ kgo => XS.iconst X2.here hx rfl (hb hby at_96) kgo) ?_
        refine own_go (g' := (mkF m 99 #[.val (.long q0), .second, .val (.long q1), .second, .val (.int p2), .val (.int p3), .val (.long q4), .second, .val (.long q5), .second, .val (.long cA), .second, .val (.int mA), .val (.int hA), .val (.int dA), .val (.long sA), .second, .val (.long cB), .second, .unset, .unset, .unset, .unset, .unset, .unset, .unset, .unset, .unset, .unset, .unset, .unset, .unset] [(.int p2), (.int (1 : Int32)), (.int (1 : Int32))])) (fun _ kgo => XS.iload X2.here hx rfl (hb hby at_97) rfl kgo) ?_
        refine own_go (g' := (mkF m 100 #[.val (.long q0), .second, .val (.long q1), .second, .val (.int p2), .val (.int p3), .val (.long q4), .second, .val (.long q5), .second, .val (.long cA), .second, .val (.int mA), .val (.int hA), .val (.int dA), .val (.long sA), .second, .val (.long cB), .second, .unset, .unset, .unset, .unset, .unset, .unset, .unset, .unset, .unset, .unset, .unset, .unset, .unset] [(.int (2 : Int32)), (.int p2), (.int (1 : Int32)), (.int (1 : Int32))])) (fun _ kgo => XS.iconst X2.here hx rfl (hb hby at_99) kgo) ?_
        refine own_go (g' := (mkF m 101 #[.val (.long q0), .second, .val (.long q1), .second, .val (.int p2), .val (.int p3), .val (.long q4), .second, .val (.long q5), .second, .val (.long cA), .second, .val (.int mA), .val (.int hA), .val (.int dA), .val (.long sA), .second, .val (.long cB), .second, .unset, .unset, .unset, .unset, .unset, .unset, .unset, .unset, .unset, .unset, .unset, .unset, .unset] [(.int ((p2.toUInt32 >>> ((2 : Int32) &&& 31).toUInt32).toInt32)), (.int (1 : Int32)), (.int (1 : Int32))])) (fun _ kgo => XS.iushr X2.here hx rfl (hb hby at_100) rfl kgo) ?_
        refine own_go (g' := (mkF m 102 #[.val (.long q0), .second, .val (.long q1), .second, .val (.int p2), .val (.int p3), .val (.long q4), .second, .val (.long q5), .second, .val (.long cA), .second, .val (.int mA), .val (.int hA), .val (.int dA), .val (.long sA), .second, .val (.long cB), .second, .unset, .unset, .unset, .unset, .unset, .unset, .unset, .unset, .unset, .unset, .unset, .unset, .unset] [(.int (3 : Int32)), (.int ((p2.toUInt32 >>> ((2 : Int32) &&& 31).toUInt32).toInt32)), (.int (1 : Int32)), (.int (1 : Int32))])) (fun _ kgo => XS.iconst X2.here hx rfl (hb hby at_101) kgo) ?_
        refine own_go (g' := (mkF m 103 #[.val (.long q0), .second, .val (.long q1), .second, .val (.int p2), .val (.int p3), .val (.long q4), .second, .val (.long q5), .second, .val (.long cA), .second, .val (.int mA), .val (.int hA), .val (.int dA), .val (.long sA), .second, .val (.long cB), .second, .unset, .unset, .unset, .unset, .unset, .unset, .unset, .unset, .unset, .unset, .unset, .unset, .unset] [(.int (((p2.toUInt32 >>> ((2 : Int32) &&& 31).toUInt32).toInt32) &&& (3 : Int32))), (.int (1 : Int32)), (.int (1 : Int32))])) (fun _ kgo => XS.iand X2.here hx rfl (hb hby at_102) rfl kgo) ?_
        refine own_go (g' := (mkF m 104 #[.val (.long q0), .second, .val (.long q1), .second, .val (.int p2), .val (.int p3), .val (.long q4), .second, .val (.long q5), .second, .val (.long cA), .second, .val (.int mA), .val (.int hA), .val (.int dA), .val (.long sA), .second, .val (.long cB), .second, .unset, .unset, .unset, .unset, .unset, .unset, .unset, .unset, .unset, .unset, .unset, .unset, .unset] [(.int ((1 : Int32) + (((p2.toUInt32 >>> ((2 : Int32) &&& 31).toUInt32).toInt32) &&& (3 : Int32)))), (.int (1 : Int32))])) (fun _ kgo => XS.iadd X2.here hx rfl (hb hby at_103) rfl kgo) ?_
        refine own_go (g' := (mkF m 105 #[.val (.long q0), .second, .val (.long q1), .second, .val (.int p2), .val (.int p3), .val (.long q4), .second, .val (.long q5), .second, .val (.long cA), .second, .val (.int mA), .val (.int hA), .val (.int dA), .val (.long sA), .second, .val (.long cB), .second, .unset, .unset, .unset, .unset, .unset, .unset, .unset, .unset, .unset, .unset, .unset, .unset, .unset] [(.int ((1 : Int32) <<< (((1 : Int32) + (((p2.toUInt32 >>> ((2 : Int32) &&& 31).toUInt32).toInt32) &&& (3 : Int32))) &&& 31)))])) (fun _ kgo => XS.ishl X2.here hx rfl (hb hby at_104) rfl kgo) ?_
        refine own_go (g' := (mkF m 106 #[.val (.long q0), .second, .val (.long q1), .second, .val (.int p2), .val (.int p3), .val (.long q4), .second, .val (.long q5), .second, .val (.long cA), .second, .val (.int mA), .val (.int hA), .val (.int dA), .val (.long sA), .second, .val (.long cB), .second, .unset, .unset, .unset, .unset, .unset, .unset, .unset, .unset, .unset, .unset, .unset, .unset, .unset] [(.int (1 : Int32)), (.int ((1 : Int32) <<< (((1 : Int32) + (((p2.toUInt32 >>> ((2 : Int32) &&& 31).toUInt32).toInt32) &&& (3 : Int32))) &&& 31)))])) (fun _ kgo => XS.iconst X2.here hx rfl (hb hby at_105) kgo) ?_
        refine own_go (g' := (mkF m 107 #[.val (.long q0), .second, .val (.long q1), .second, .val (.int p2), .val (.int p3), .val (.long q4), .second, .val (.long q5), .second, .val (.long cA), .second, .val (.int mA), .val (.int hA), .val (.int dA), .val (.long sA), .second, .val (.long cB), .second, .unset, .unset, .unset, .unset, .unset, .unset, .unset, .unset, .unset, .unset, .unset, .unset, .unset] [(.int (((1 : Int32) <<< (((1 : Int32) + (((p2.toUInt32 >>> ((2 : Int32) &&& 31).toUInt32).toInt32) &&& (3 : Int32))) &&& 31)) - (1 : Int32)))])) (fun _ kgo => XS.isub X2.here hx rfl (hb hby at_106) rfl kgo) ?_
        refine own_go (g' := (mkF m 112 #[.val (.long q0), .second, .val (.long q1), .second, .val (.int p2), .val (.int p3), .val (.long q4), .second, .val (.long q5), .second, .val (.long cA), .second, .val (.int mA), .val (.int hA), .val (.int dA), .val (.long sA), .second, .val (.long cB), .second, .unset, .unset, .unset, .unset, .unset, .unset, .unset, .unset, .unset, .unset, .unset, .unset, .unset] [(.int (((1 : Int32) <<< (((1 : Int32) + (((p2.toUInt32 >>> ((2 : Int32) &&& 31).toUInt32).toInt32) &&& (3 : Int32))) &&& 31)) - (1 : Int32)))])) (fun _ kgo => XS.goto X2.here hx rfl (pc0 := 107) (pc' := 112) rfl (hb hby at_107) (by decide) (by decide) kgo) ?_
        exact J5 (((1 : Int32) <<< (((1 : Int32) + (((p2.toUInt32 >>> ((2 : Int32) &&& 31).toUInt32).toInt32) &&& (3 : Int32))) &&& 31)) - (1 : Int32)) (own_mx _ _ rfl)
    by_cases hc67 : (p3 &&& (1 : Int32)) = (0 : Int32)
    ·
      refine own_go (g' := (mkF m 84 #[.val (.long q0), .second, .val (.long q1), .second, .val (.int p2), .val (.int p3), .val (.long q4), .second, .val (.long q5), .second, .val (.long cA), .second, .val (.int mA), .val (.int hA), .val (.int dA), .val (.long sA), .second, .unset, .unset, .unset, .unset, .unset, .unset, .unset, .unset, .unset, .unset, .unset, .unset, .unset, .unset, .unset] [])) (fun _ kgo => XS.ifYes X2.here hx rfl (pc0 := 71) (pc' := 84) rfl (hb hby at_71) rfl ((if0 _ _).trans (teq hc67).1) (by decide) (by decide) kgo) ?_
      refine own_go (g' := (mkF m 86 #[.val (.long q0), .second, .val (.long q1), .second, .val (.int p2), .val (.int p3), .val (.long q4), .second, .val (.long q5), .second, .val (.long cA), .second, .val (.int mA), .val (.int hA), .val (.int dA), .val (.long sA), .second, .unset, .unset, .unset, .unset, .unset, .unset, .unset, .unset, .unset, .unset, .unset, .unset, .unset, .unset, .unset] [(.long cA)])) (fun _ kgo => XS.lload X2.here hx rfl (hb hby at_84) rfl kgo) ?_
      exact J4 cA hclA
    ·
      refine own_go (g' := (mkF m 74 #[.val (.long q0), .second, .val (.long q1), .second, .val (.int p2), .val (.int p3), .val (.long q4), .second, .val (.long q5), .second, .val (.long cA), .second, .val (.int mA), .val (.int hA), .val (.int dA), .val (.long sA), .second, .unset, .unset, .unset, .unset, .unset, .unset, .unset, .unset, .unset, .unset, .unset, .unset, .unset, .unset, .unset] [])) (fun _ kgo => XS.ifNo X2.here hx rfl (hb hby at_71) rfl ((if0 _ _).trans (feq hc67).1) kgo) ?_
      refine own_go (g' := (mkF m 75 #[.val (.long q0), .second, .val (.long q1), .second, .val (.int p2), .val (.int p3), .val (.long q4), .second, .val (.long q5), .second, .val (.long cA), .second, .val (.int mA), .val (.int hA), .val (.int dA), .val (.long sA), .second, .unset, .unset, .unset, .unset, .unset, .unset, .unset, .unset, .unset, .unset, .unset, .unset, .unset, .unset, .unset] [(.long (1 : Int64))])) (fun _ kgo => XS.lconst X2.here hx rfl (hb hby at_74) kgo) ?_
      refine own_go (g' := (mkF m 76 #[.val (.long q0), .second, .val (.long q1), .second, .val (.int p2), .val (.int p3), .val (.long q4), .second, .val (.long q5), .second, .val (.long cA), .second, .val (.int mA), .val (.int hA), .val (.int dA), .val (.long sA), .second, .unset, .unset, .unset, .unset, .unset, .unset, .unset, .unset, .unset, .unset, .unset, .unset, .unset, .unset, .unset] [(.long q1), (.long (1 : Int64))])) (fun _ kgo => XS.lloadN X2.here hx rfl (hb hby at_75) rfl kgo) ?_
      refine own_go (g' := (mkF m 79 #[.val (.long q0), .second, .val (.long q1), .second, .val (.int p2), .val (.int p3), .val (.long q4), .second, .val (.long q5), .second, .val (.long cA), .second, .val (.int mA), .val (.int hA), .val (.int dA), .val (.long sA), .second, .unset, .unset, .unset, .unset, .unset, .unset, .unset, .unset, .unset, .unset, .unset, .unset, .unset, .unset, .unset] [(.long (17179869183 : Int64)), (.long q1), (.long (1 : Int64))])) (X2.ldc2Long hx hown (mvT hZ (hw _ (List.mem_of_getElem? (i := 0) rfl))) (g := (mkF m 76 #[.val (.long q0), .second, .val (.long q1), .second, .val (.int p2), .val (.int p3), .val (.long q4), .second, .val (.long q5), .second, .val (.long cA), .second, .val (.int mA), .val (.int hA), .val (.int dA), .val (.long sA), .second, .unset, .unset, .unset, .unset, .unset, .unset, .unset, .unset, .unset, .unset, .unset, .unset, .unset, .unset, .unset] [(.long q1), (.long (1 : Int64))])) rfl (hb hby at_76)) ?_
      refine own_go (g' := (mkF m 80 #[.val (.long q0), .second, .val (.long q1), .second, .val (.int p2), .val (.int p3), .val (.long q4), .second, .val (.long q5), .second, .val (.long cA), .second, .val (.int mA), .val (.int hA), .val (.int dA), .val (.long sA), .second, .unset, .unset, .unset, .unset, .unset, .unset, .unset, .unset, .unset, .unset, .unset, .unset, .unset, .unset, .unset] [(.long (q1 &&& (17179869183 : Int64))), (.long (1 : Int64))])) (fun _ kgo => XS.land X2.here hx rfl (hb hby at_79) rfl kgo) ?_
      refine own_go (g' := (mkF m 81 #[.val (.long q0), .second, .val (.long q1), .second, .val (.int p2), .val (.int p3), .val (.long q4), .second, .val (.long q5), .second, .val (.long cA), .second, .val (.int mA), .val (.int hA), .val (.int dA), .val (.long sA), .second, .unset, .unset, .unset, .unset, .unset, .unset, .unset, .unset, .unset, .unset, .unset, .unset, .unset, .unset, .unset] [(.long ((1 : Int64) + (q1 &&& (17179869183 : Int64))))])) (fun _ kgo => XS.ladd X2.here hx rfl (hb hby at_80) rfl kgo) ?_
      refine own_go (g' := (mkF m 86 #[.val (.long q0), .second, .val (.long q1), .second, .val (.int p2), .val (.int p3), .val (.long q4), .second, .val (.long q5), .second, .val (.long cA), .second, .val (.int mA), .val (.int hA), .val (.int dA), .val (.long sA), .second, .unset, .unset, .unset, .unset, .unset, .unset, .unset, .unset, .unset, .unset, .unset, .unset, .unset, .unset, .unset] [(.long ((1 : Int64) + (q1 &&& (17179869183 : Int64))))])) (fun _ kgo => XS.goto X2.here hx rfl (pc0 := 81) (pc' := 86) rfl (hb hby at_81) (by decide) (by decide) kgo) ?_
      exact J4 ((1 : Int64) + (q1 &&& (17179869183 : Int64))) (own_cells q1)
  by_cases hc68 : (p3 &&& (32 : Int32)) = (0 : Int32)
  ·
    refine own_go (g' := (mkF m 64 #[.val (.long q0), .second, .val (.long q1), .second, .val (.int p2), .val (.int p3), .val (.long q4), .second, .val (.long q5), .second, .val (.long cA), .second, .val (.int mA), .val (.int hA), .val (.int dA), .unset, .unset, .unset, .unset, .unset, .unset, .unset, .unset, .unset, .unset, .unset, .unset, .unset, .unset, .unset, .unset, .unset] [])) (fun _ kgo => XS.ifYes X2.here hx rfl (pc0 := 56) (pc' := 64) rfl (hb hby at_56) rfl ((if0 _ _).trans (teq hc68).1) (by decide) (by decide) kgo) ?_
    refine own_go (g' := (mkF m 65 #[.val (.long q0), .second, .val (.long q1), .second, .val (.int p2), .val (.int p3), .val (.long q4), .second, .val (.long q5), .second, .val (.long cA), .second, .val (.int mA), .val (.int hA), .val (.int dA), .unset, .unset, .unset, .unset, .unset, .unset, .unset, .unset, .unset, .unset, .unset, .unset, .unset, .unset, .unset, .unset, .unset] [(.long (0 : Int64))])) (fun _ kgo => XS.lconst X2.here hx rfl (hb hby at_64) kgo) ?_
    exact J3 (0 : Int64) (fun _ => rfl)
  ·
    refine own_go (g' := (mkF m 59 #[.val (.long q0), .second, .val (.long q1), .second, .val (.int p2), .val (.int p3), .val (.long q4), .second, .val (.long q5), .second, .val (.long cA), .second, .val (.int mA), .val (.int hA), .val (.int dA), .unset, .unset, .unset, .unset, .unset, .unset, .unset, .unset, .unset, .unset, .unset, .unset, .unset, .unset, .unset, .unset, .unset] [])) (fun _ kgo => XS.ifNo X2.here hx rfl (hb hby at_56) rfl ((if0 _ _).trans (feq hc68).1) kgo) ?_
    refine own_go (g' := (mkF m 61 #[.val (.long q0), .second, .val (.long q1), .second, .val (.int p2), .val (.int p3), .val (.long q4), .second, .val (.long q5), .second, .val (.long cA), .second, .val (.int mA), .val (.int hA), .val (.int dA), .unset, .unset, .unset, .unset, .unset, .unset, .unset, .unset, .unset, .unset, .unset, .unset, .unset, .unset, .unset, .unset, .unset] [(.long q4)])) (fun _ kgo => XS.lload X2.here hx rfl (hb hby at_59) rfl kgo) ?_
    refine own_go (g' := (mkF m 65 #[.val (.long q0), .second, .val (.long q1), .second, .val (.int p2), .val (.int p3), .val (.long q4), .second, .val (.long q5), .second, .val (.long cA), .second, .val (.int mA), .val (.int hA), .val (.int dA), .unset, .unset, .unset, .unset, .unset, .unset, .unset, .unset, .unset, .unset, .unset, .unset, .unset, .unset, .unset, .unset, .unset] [(.long q4)])) (fun _ kgo => XS.goto X2.here hx rfl (pc0 := 61) (pc' := 65) rfl (hb hby at_61) (by decide) (by decide) kgo) ?_
    exact J3 q4 (fun q => absurd q hc68)
set_option maxRecDepth 65536 in
set_option maxHeartbeats 40000000 in
theorem comes_1 {Post : Tables → Env → Array Value → State → Outcome → State → Prop} (hpost : ∀ tb e args s v u, (limb_1_1.after args s (.returned v) u = true ∧ limb_1_2.after args s (.returned v) u = true ∧ True) → FrameEnd s (.returned v) u (Jvm.fieldLocs frame_1_writes args s ++ Jvm.arrayLocs frame_1_arrays args s ++ Jvm.staticLocs frame_1_statics s) 24 128 → Post tb e args s (.returned v) u) :
    ArmFor flags0 classFile x code maxLocals ret World_1 tables_1 room_1 Calls_1 rest_1 Pre_1 Post := by
  intro l hfl _ _ p e ha hc hk s m args below hf hA hF happ hP
  obtain ⟨hcalls, hrest, hpre⟩ := hP
  obtain ⟨-, -, -, hnamed, -, -, -, hat⟩ := (Spec.applies_iff hf).mp happ
  obtain ⟨hg, hn⟩ := and_e (Cond.before_iff.mp (show (Jvm.Cond.and given_1 narrow_1).before args s = true from hpre))
  obtain ⟨g1, g2⟩ := and_e hg
  obtain ⟨g3, g4⟩ := and_e g2
  obtain ⟨g5, g6⟩ := and_e g4
  obtain ⟨g7, g8⟩ := and_e g6
  obtain ⟨g9, g10⟩ := and_e g8
  obtain ⟨g11, g12⟩ := and_e g10
  obtain ⟨w0, w1, w2, w3, w4, w5, rfl⟩ : ∃ w0 w1 w2 w3 w4 w5 : Value, args = #[w0, w1, w2, w3, w4, w5] := by
    have hs : args.size = 6 := by simpa [Cond.value, given_1] using g1
    obtain ⟨L⟩ := args
    match L, hs with
    | [w0, w1, w2, w3, w4, w5], _ => exact ⟨w0, w1, w2, w3, w4, w5, rfl⟩
  have hw := fun d (hd : d ∈ tables_1) => atoms_spec (ws := Jvm.Cond.code x code maxLocals ret :: tables_1) hat d (List.mem_cons_of_mem _ hd)
  have hfit : Fit s := fun {y c} hc i hi => by
    obtain ⟨ha, rfl⟩ := Array.getElem?_eq_some_iff.mp hc
    have q := List.all_eq_true.mp ((Array.all_eq_true_iff_forall_mem.mp hF) _ (Array.getElem_mem ha)) i (List.mem_range.mpr hi)
    simpa [Array.getElem?_eq_getElem hi] using q
  obtain ⟨hsets, hown0⟩ := atoms_of _ (rest_1_c_eq ▸ (show rest_1_c.before _ s = true from hrest))
  obtain ⟨i0, ei0⟩ := isL_v g3
  obtain rfl : w0 = (.long i0) := Option.some.inj ei0
  obtain ⟨i1, ei1⟩ := isL_v g5
  obtain rfl : w1 = (.long i1) := Option.some.inj ei1
  obtain ⟨i2, ei2⟩ := is_v g7
  obtain rfl : w2 = (.int i2) := Option.some.inj ei2
  obtain ⟨i3, ei3⟩ := is_v g9
  obtain rfl : w3 = (.int i3) := Option.some.inj ei3
  obtain ⟨i4, ei4⟩ := isL_v g11
  obtain rfl : w4 = (.long i4) := Option.some.inj ei4
  obtain ⟨i5, ei5⟩ := isL_v g12
  obtain rfl : w5 = (.long i5) := Option.some.inj ei5
  obtain ⟨ca, cl, hca, har, hsz, hel⟩ := own_cache (hsets _ (List.mem_of_getElem? (i := 4) rfl)) (hsets _ (List.mem_of_getElem? (i := 6) rfl)) (hsets _ (List.mem_of_getElem? (i := 7) rfl)) (fun _ => rfl)
  have S1 : Sta s s.heap "java/lang/Integer$IntegerCache" "cache" "[Ljava/lang/Integer;" (.ref ca) := Sta.start hca (Or.inr ⟨hw _ (List.mem_of_getElem? (i := 58) rfl), (hsets _ (List.mem_of_getElem? (i := 2) rfl))⟩)
  have S0 : Sta s s.heap "java/lang/Integer$IntegerCache" "high" "I" (.int (127 : Int32)) := own_staI (Cond.before_iff.mp (hsets _ (List.mem_of_getElem? (i := 3) rfl))) (Or.inl (hsets _ (List.mem_of_getElem? (i := 1) rfl)))
  obtain ⟨n, o, h1, h2, h3, _, L, rfl, ⟨rfl, N⟩, hq⟩ := rm0 l s _ hw i0 i1 i2 i3 i4 i5 ca cl s.heap s.heap.size (Nat.le_refl _) (Old.start s) S0 S1 har hsz hel p e ha hc hk s m _ below hf ((Spec.applies_iff_loose hf).mp happ).1 ⟨rfl, State.Warmed39.refl s, rfl⟩ trivial
  refine ⟨n, _, h1, h2, h3, hpost _ _ _ _ _ _ ⟨Cond.after_iff.mpr rfl, Cond.after_iff.mpr (eq_i res_at (Term.int_eval (1)) rfl), trivial⟩ ⟨hq.1, hq.2.1, (hq.2.2.sift fun y hy => Or.inr (N y hy)).mono (by decide) (by decide)⟩⟩
theorem main_1_1 : Claimed_1_1 := comes_1 fun _ _ _ _ _ _ h hF => ⟨h.1, hF⟩
theorem main_1_2 : Claimed_1_2 := comes_1 fun _ _ _ _ _ _ h hF => ⟨h.2.1, hF⟩
end Jvm.Pilot.@@N@@
namespace Jvm.Pilot.@@N@@
open Jvm Jvm.ClassFile Sem Op Lib Jvm.Free Jvm.Stand Jvm.Pilot.@@N@@.Jvm.D
/-! MADE BY PROGRAM (witnessworld.py) out of the Statement's table words and the real class files: 18 classes; the members and pool entries that the words name. The judged class is class 1, her method 1. -/
namespace start1
open Jvm.ClassFile
def u (s : String) : CpInfo := .utf8 (stringToUtf16 s)
/-- a pool by its gaps: so many unusable entries, then the entry; so many at the end -/
def gap : Nat → List CpInfo → List CpInfo
  | 0, r => r
  | n + 1, r => .unusable :: gap n r
def poolList (es : List (Nat × CpInfo)) (last : Nat) : List CpInfo := es.foldr (fun e r => gap e.1 (e.2 :: r)) (gap last [])
def pool (es : List (Nat × CpInfo)) (last : Nat) : Array CpInfo := ⟨poolList es last⟩
def fileOf (pool : Array CpInfo) (this : Nat) (attrs : Array Attribute := #[]) (ms : Array MethodInfo := #[]) (fl : Nat := 33) (sup : Nat := 0) (ifs : Array Nat := #[]) (fds : Array FieldInfo := #[]) : ClassFile where
  minorVersion := 0
  majorVersion := 65
  constantPool := pool
  accessFlags := fl
  thisClass := this
  superClass := sup
  interfaces := ifs
  fields := fds
  methods := ms
  attributes := attrs
def plain (name : String) (sup : Option ClassId) : Class where
  name := name
  kind := .ordinary
  loader := none
  accessFlags := 33
  super := sup
  interfaces := #[]
  cf := none
  fields := #[]
  methods := #[]
  instanceTypes := #[]
  staticTypes := #[]
  resolved := #[]
  callSites := []
  init := .initialized
  statics := none
  mirror := none

def pool0 : Array CpInfo := pool [(5, u "<init>"), (0, u "()V"), (1, .class_ 10), (1, u "java/lang/Object")] 113

def k0c0 : Code := { maxStack := 0, maxLocals := 1, code := object_method_1_code, exceptionTable := #[], attributes := #[] }
def k0m0 : Method := { name := "<init>", desc := "()V", sig := { parameters := [], returnType := none }, accessFlags := 1, code := some k0c0 }
/-- java/lang/Object -/
def k0 : Class := { plain "java/lang/Object" none with
  accessFlags := 33
  interfaces := #[]
  cf := some (fileOf pool0 8 #[] #[{ accessFlags := 1, nameIndex := 5, descriptorIndex := 6, attributes := #[] }] 33 0 #[] #[])
  fields := #[]
  methods := #[k0m0]
  instanceTypes := #[]
  staticTypes := #[]
  resolved := Array.replicate 124 none
  statics := none }

def pool1 : Array CpInfo := pool [(2, .class_ 4), (1, u "java/lang/Object"), (0, u "<init>"), (0, u "()V"), (0, .long 17179869183), (1, .methodref 10 11), (0, .class_ 12), (0, .nameAndType 13 14), (0, u "java/lang/Math"), (0, u "min"), (0, u "(JJ)J"), (0, .class_ 16), (0, u "com/example/seenset/seenset/filter/StableParameters"), (0, .methodref 15 18), (0, .nameAndType 5 19), (0, u "(JIII)V"), (0, .methodref 15 21), (0, .nameAndType 22 23), (0, u "withSeed"), (0, u "(J)Lcom/example/seenset/seenset/filter/StableParameters;"), (0, .methodref 15 25), (0, .nameAndType 26 27), (0, u "equals"), (0, u "(Ljava/lang/Object;)Z"), (0, .methodref 29 30), (0, .class_ 31), (0, .nameAndType 32 33), (0, u "java/lang/Integer"), (0, u "valueOf"), (0, u "(I)Ljava/lang/Integer;"), (0, .class_ 35), (0, u "com/example/seenset/seenset/filter/StableParametersEqualsPinLaw"), (2, u "law"), (0, u "(JJIIJJ)Z")] 3

def k1m0 : Method := { name := "<init>", desc := "()V", sig := { parameters := [], returnType := none }, accessFlags := 1, code := none }
def k1c1 : Code := { maxStack := 7, maxLocals := 32, code := code, exceptionTable := #[], attributes := #[] }
def k1m1 : Method := { name := "law", desc := "(JJIIJJ)Z", sig := { parameters := [.long, .long, .int, .int, .long, .long], returnType := some .boolean }, accessFlags := 9, code := some k1c1 }
/-- com/example/seenset/seenset/filter/StableParametersEqualsPinLaw -/
def k1 : Class := { plain "com/example/seenset/seenset/filter/StableParametersEqualsPinLaw" (some 0) with
  accessFlags := 49
  interfaces := #[]
  cf := some (fileOf pool1 34 #[] #[{ accessFlags := 1, nameIndex := 5, descriptorIndex := 6, attributes := #[] }, { accessFlags := 9, nameIndex := 38, descriptorIndex := 39, attributes := #[] }] 49 2 #[] #[])
  fields := #[]
  methods := #[k1m0, k1m1]
  instanceTypes := #[]
  staticTypes := #[]
  resolved := Array.replicate 43 none
  statics := none }

def pool2 : Array CpInfo := pool [(1, .class_ 2), (0, u "java/lang/Math"), (1, .class_ 6), (1, u "java/lang/Object"), (0, u "<init>"), (0, u "()V"), (89, .class_ 100), (1, u "java/lang/Math$RandomNumberGeneratorHolder"), (20, u "(JJ)J"), (50, u "negativeZeroFloatBits"), (0, u "J"), (2, u "negativeZeroDoubleBits"), (24, u "min"), (43, u "$assertionsDisabled"), (0, u "Z"), (91, u "twoToTheDoubleScaleDown"), (0, u "D"), (4, u "twoToTheDoubleScaleUp"), (9, u "E"), (3, u "PI"), (2, u "TAU"), (2, u "DEGREES_TO_RADIANS"), (0, u "RADIANS_TO_DEGREES")] 94

def k2m0 : Method := { name := "<init>", desc := "()V", sig := { parameters := [], returnType := none }, accessFlags := 2, code := none }
def k2c1 : Code := { maxStack := 4, maxLocals := 4, code := jdk_29_method_70_code, exceptionTable := #[], attributes := #[] }
def k2m1 : Method := { name := "min", desc := "(JJ)J", sig := { parameters := [.long, .long], returnType := some .long }, accessFlags := 9, code := some k2c1 }
/-- java/lang/Math -/
def k2 : Class := { plain "java/lang/Math" (some 0) with
  accessFlags := 49
  interfaces := #[]
  cf := some (fileOf pool2 1 #[.nestMembers #[98]] #[{ accessFlags := 2, nameIndex := 7, descriptorIndex := 8, attributes := #[] }, { accessFlags := 9, nameIndex := 201, descriptorIndex := 121, attributes := #[] }] 49 4 #[] #[{ accessFlags := 25, nameIndex := 354, descriptorIndex := 339, attributes := #[] }, { accessFlags := 25, nameIndex := 358, descriptorIndex := 339, attributes := #[] }, { accessFlags := 25, nameIndex := 361, descriptorIndex := 339, attributes := #[] }, { accessFlags := 26, nameIndex := 364, descriptorIndex := 339, attributes := #[] }, { accessFlags := 26, nameIndex := 365, descriptorIndex := 339, attributes := #[] }, { accessFlags := 26, nameIndex := 172, descriptorIndex := 173, attributes := #[] }, { accessFlags := 26, nameIndex := 176, descriptorIndex := 173, attributes := #[] }, { accessFlags := 8, nameIndex := 344, descriptorIndex := 339, attributes := #[] }, { accessFlags := 8, nameIndex := 338, descriptorIndex := 339, attributes := #[] }, { accessFlags := 4120, nameIndex := 245, descriptorIndex := 246, attributes := #[] }])
  fields := #[{ name := "E", type := .double, accessFlags := 25, slot := 0, constantValue := 0 }, { name := "PI", type := .double, accessFlags := 25, slot := 1, constantValue := 0 }, { name := "TAU", type := .double, accessFlags := 25, slot := 2, constantValue := 0 }, { name := "DEGREES_TO_RADIANS", type := .double, accessFlags := 26, slot := 3, constantValue := 0 }, { name := "RADIANS_TO_DEGREES", type := .double, accessFlags := 26, slot := 4, constantValue := 0 }, { name := "negativeZeroFloatBits", type := .long, accessFlags := 26, slot := 5, constantValue := 0 }, { name := "negativeZeroDoubleBits", type := .long, accessFlags := 26, slot := 6, constantValue := 0 }, { name := "twoToTheDoubleScaleUp", type := .double, accessFlags := 8, slot := 7, constantValue := 0 }, { name := "twoToTheDoubleScaleDown", type := .double, accessFlags := 8, slot := 8, constantValue := 0 }, { name := "$assertionsDisabled", type := .boolean, accessFlags := 4120, slot := 9, constantValue := 0 }]
  methods := #[k2m0, k2m1]
  instanceTypes := #[]
  staticTypes := #[.double, .double, .double, .double, .double, .long, .long, .double, .double, .boolean]
  resolved := Array.replicate 460 none
  statics := none }

def pool3 : Array CpInfo := pool [(3, .methodref 4 5), (0, .class_ 6), (0, .nameAndType 7 8), (0, u "com/example/seenset/seenset/filter/StableParameters"), (0, u "<init>"), (0, u "(JIIIJ)V"), (0, .methodref 10 11), (0, .class_ 12), (0, .nameAndType 7 13), (0, u "java/lang/Object"), (0, u "()V"), (9, .methodref 4 24), (0, .nameAndType 25 26), (0, u "bitsPerCell"), (0, u "(I)I"), (0, .methodref 28 29), (0, .class_ 30), (0, .nameAndType 31 32), (0, u "com/example/seenset/seenset/util/Cells"), (0, u "maxCount"), (0, u "(I)J"), (3, .long 64), (1, .methodref 39 40), (0, .class_ 41), (0, .nameAndType 42 43), (0, u "java/lang/Math"), (0, u "min"), (0, u "(JJ)J"), (4, .fieldref 4 49), (0, .nameAndType 50 51), (0, u "cells"), (0, u "J"), (0, .fieldref 4 53), (0, .nameAndType 54 55), (0, u "max"), (0, u "I"), (0, .fieldref 4 57), (0, .nameAndType 58 55), (0, u "hashes"), (0, .fieldref 4 60), (0, .nameAndType 61 55), (0, u "decrement"), (0, .fieldref 4 63), (0, .nameAndType 64 51), (0, u "seed"), (31, .class_ 98), (1, u "java/lang/Integer"), (7, .methodref 96 107), (0, .nameAndType 108 26), (0, u "numberOfLeadingZeros"), (0, u "MAX_BITS"), (2, u "MAX_HASHES"), (1, u "(JIII)V"), (7, u "withSeed"), (0, u "(J)Lcom/example/seenset/seenset/filter/StableParameters;"), (5, u "equals"), (0, u "(Ljava/lang/Object;)Z")] 26

def k3c0 : Code := { maxStack := 8, maxLocals := 6, code := prog_32_method_1_code, exceptionTable := #[], attributes := #[] }
def k3m0 : Method := { name := "<init>", desc := "(JIII)V", sig := { parameters := [.long, .int, .int, .int], returnType := none }, accessFlags := 1, code := some k3c0 }
def k3c1 : Code := { maxStack := 6, maxLocals := 9, code := prog_32_method_2_code, exceptionTable := #[], attributes := #[] }
def k3m1 : Method := { name := "<init>", desc := "(JIIIJ)V", sig := { parameters := [.long, .int, .int, .int, .long], returnType := none }, accessFlags := 2, code := some k3c1 }
def k3c2 : Code := { maxStack := 9, maxLocals := 3, code := prog_32_method_10_code, exceptionTable := #[], attributes := #[] }
def k3m2 : Method := { name := "withSeed", desc := "(J)Lcom/example/seenset/seenset/filter/StableParameters;", sig := { parameters := [.long], returnType := some (.object "com/example/seenset/seenset/filter/StableParameters") }, accessFlags := 1, code := some k3c2 }
def k3c3 : Code := { maxStack := 4, maxLocals := 3, code := prog_32_method_14_code, exceptionTable := #[], attributes := #[] }
def k3m3 : Method := { name := "equals", desc := "(Ljava/lang/Object;)Z", sig := { parameters := [(.object "java/lang/Object")], returnType := some .boolean }, accessFlags := 1, code := some k3c3 }
def k3c4 : Code := { maxStack := 2, maxLocals := 1, code := prog_32_method_18_code, exceptionTable := #[], attributes := #[] }
def k3m4 : Method := { name := "bitsPerCell", desc := "(I)I", sig := { parameters := [.int], returnType := some .int }, accessFlags := 10, code := some k3c4 }
/-- com/example/seenset/seenset/filter/StableParameters -/
def k3 : Class := { plain "com/example/seenset/seenset/filter/StableParameters" (some 0) with
  accessFlags := 49
  interfaces := #[]
  cf := some (fileOf pool3 4 #[] #[{ accessFlags := 1, nameIndex := 7, descriptorIndex := 114, attributes := #[] }, { accessFlags := 2, nameIndex := 7, descriptorIndex := 8, attributes := #[] }, { accessFlags := 1, nameIndex := 122, descriptorIndex := 123, attributes := #[] }, { accessFlags := 1, nameIndex := 129, descriptorIndex := 130, attributes := #[] }, { accessFlags := 10, nameIndex := 25, descriptorIndex := 26, attributes := #[] }] 49 10 #[] #[{ accessFlags := 25, nameIndex := 109, descriptorIndex := 55, attributes := #[] }, { accessFlags := 25, nameIndex := 112, descriptorIndex := 55, attributes := #[] }, { accessFlags := 18, nameIndex := 50, descriptorIndex := 51, attributes := #[] }, { accessFlags := 18, nameIndex := 54, descriptorIndex := 55, attributes := #[] }, { accessFlags := 18, nameIndex := 58, descriptorIndex := 55, attributes := #[] }, { accessFlags := 18, nameIndex := 61, descriptorIndex := 55, attributes := #[] }, { accessFlags := 18, nameIndex := 64, descriptorIndex := 51, attributes := #[] }])
  fields := #[{ name := "MAX_BITS", type := .int, accessFlags := 25, slot := 0, constantValue := 0 }, { name := "MAX_HASHES", type := .int, accessFlags := 25, slot := 1, constantValue := 0 }, { name := "cells", type := .long, accessFlags := 18, slot := 0, constantValue := 0 }, { name := "max", type := .int, accessFlags := 18, slot := 1, constantValue := 0 }, { name := "hashes", type := .int, accessFlags := 18, slot := 2, constantValue := 0 }, { name := "decrement", type := .int, accessFlags := 18, slot := 3, constantValue := 0 }, { name := "seed", type := .long, accessFlags := 18, slot := 4, constantValue := 0 }]
  methods := #[k3m0, k3m1, k3m2, k3m3, k3m4]
  instanceTypes := #[.long, .int, .int, .int, .long]
  staticTypes := #[.int, .int]
  resolved := Array.replicate 157 none
  statics := none }

def pool4 : Array CpInfo := pool [(1, .class_ 2), (0, u "java/io/Serializable"), (0, .class_ 4), (0, u "java/lang/Object")] 2

/-- java/io/Serializable -/
def k4 : Class := { plain "java/io/Serializable" (some 0) with
  accessFlags := 1537
  interfaces := #[]
  cf := some (fileOf pool4 1 #[] #[] 1537 3 #[] #[])
  fields := #[]
  methods := #[]
  instanceTypes := #[]
  staticTypes := #[]
  resolved := Array.replicate 7 none
  statics := none }

def pool5 : Array CpInfo := pool [(1, .methodref 2 3), (0, .class_ 4), (0, .nameAndType 5 6), (0, u "java/lang/Object"), (0, u "<init>"), (0, u "()V"), (1, .class_ 10), (1, u "java/lang/Number"), (2, .class_ 14), (0, u "java/io/Serializable"), (0, u "serialVersionUID"), (0, u "J")] 20

def k5c0 : Code := { maxStack := 1, maxLocals := 1, code := jdk_18_method_1_code, exceptionTable := #[], attributes := #[] }
def k5m0 : Method := { name := "<init>", desc := "()V", sig := { parameters := [], returnType := none }, accessFlags := 1, code := some k5c0 }
/-- java/lang/Number -/
def k5 : Class := { plain "java/lang/Number" (some 0) with
  accessFlags := 1057
  interfaces := #[4]
  cf := some (fileOf pool5 8 #[] #[{ accessFlags := 1, nameIndex := 5, descriptorIndex := 6, attributes := #[] }] 1057 2 #[13] #[{ accessFlags := 26, nameIndex := 15, descriptorIndex := 16, attributes := #[] }])
  fields := #[{ name := "serialVersionUID", type := .long, accessFlags := 26, slot := 0, constantValue := 0 }]
  methods := #[k5m0]
  instanceTypes := #[]
  staticTypes := #[.long]
  resolved := Array.replicate 37 none
  statics := none }

def pool6 : Array CpInfo := pool [(1, .class_ 2), (0, u "java/lang/Comparable"), (0, .class_ 4), (0, u "java/lang/Object")] 7

/-- java/lang/Comparable -/
def k6 : Class := { plain "java/lang/Comparable" (some 0) with
  accessFlags := 1537
  interfaces := #[]
  cf := some (fileOf pool6 1 #[] #[] 1537 3 #[] #[])
  fields := #[]
  methods := #[]
  instanceTypes := #[]
  staticTypes := #[]
  resolved := Array.replicate 12 none
  statics := none }

def pool7 : Array CpInfo := pool [(1, .class_ 2), (0, u "java/lang/constant/Constable"), (0, .class_ 4), (0, u "java/lang/Object")] 6

/-- java/lang/constant/Constable -/
def k7 : Class := { plain "java/lang/constant/Constable" (some 0) with
  accessFlags := 1537
  interfaces := #[]
  cf := some (fileOf pool7 1 #[] #[] 1537 3 #[] #[])
  fields := #[]
  methods := #[]
  instanceTypes := #[]
  staticTypes := #[]
  resolved := Array.replicate 11 none
  statics := none }

def pool8 : Array CpInfo := pool [(1, .class_ 2), (0, u "java/lang/constant/ConstantDesc"), (0, .class_ 4), (0, u "java/lang/Object")] 32

/-- java/lang/constant/ConstantDesc -/
def k8 : Class := { plain "java/lang/constant/ConstantDesc" (some 0) with
  accessFlags := 1537
  interfaces := #[]
  cf := some (fileOf pool8 1 #[] #[] 1537 3 #[] #[])
  fields := #[]
  methods := #[]
  instanceTypes := #[]
  staticTypes := #[]
  resolved := Array.replicate 37 none
  statics := none }

def pool9 : Array CpInfo := pool [(1, .class_ 2), (0, u "java/lang/Integer"), (16, u "digits"), (0, u "[C"), (32, u "numberOfLeadingZeros"), (0, u "(I)I"), (12, u "<init>"), (17, u "DigitOnes"), (0, u "[B"), (2, u "DigitTens"), (10, .nameAndType 67 101), (0, u "()V"), (85, u "valueOf"), (0, u "(I)Ljava/lang/Integer;"), (0, .class_ 190), (0, u "java/lang/Integer$IntegerCache"), (0, .fieldref 189 192), (0, .nameAndType 193 194), (0, u "high"), (0, u "I"), (0, .fieldref 189 196), (0, .nameAndType 197 198), (0, u "cache"), (0, u "[Ljava/lang/Integer;"), (0, .methodref 1 200), (0, .nameAndType 67 201), (0, u "(I)V"), (0, .methodref 203 100), (0, .class_ 204), (0, u "java/lang/Number"), (0, .fieldref 1 206), (0, .nameAndType 207 194), (0, u "value"), (56, .integer 65536), (37, u "TYPE"), (0, u "Ljava/lang/Class;"), (0, .class_ 305), (0, u "java/lang/Comparable"), (0, .class_ 307), (0, u "java/lang/constant/Constable"), (0, .class_ 309), (0, u "java/lang/constant/ConstantDesc"), (0, u "MIN_VALUE"), (1, u "MAX_VALUE"), (3, u "SIZE"), (1, u "BYTES"), (1, u "serialVersionUID"), (0, u "J")] 131

def k9c0 : Code := { maxStack := 3, maxLocals := 1, code := jdk_33_method_22_code, exceptionTable := #[], attributes := #[] }
def k9m0 : Method := { name := "valueOf", desc := "(I)Ljava/lang/Integer;", sig := { parameters := [.int], returnType := some (.object "java/lang/Integer") }, accessFlags := 9, code := some k9c0 }
def k9c1 : Code := { maxStack := 2, maxLocals := 2, code := jdk_33_method_23_code, exceptionTable := #[], attributes := #[] }
def k9m1 : Method := { name := "<init>", desc := "(I)V", sig := { parameters := [.int], returnType := none }, accessFlags := 1, code := some k9c1 }
def k9c2 : Code := { maxStack := 3, maxLocals := 2, code := jdk_33_method_47_code, exceptionTable := #[], attributes := #[] }
def k9m2 : Method := { name := "numberOfLeadingZeros", desc := "(I)I", sig := { parameters := [.int], returnType := some .int }, accessFlags := 9, code := some k9c2 }
/-- java/lang/Integer -/
def k9 : Class := { plain "java/lang/Integer" (some 5) with
  accessFlags := 49
  interfaces := #[6, 7, 8]
  cf := some (fileOf pool9 1 #[.nestMembers #[189]] #[{ accessFlags := 9, nameIndex := 187, descriptorIndex := 188, attributes := #[] }, { accessFlags := 1, nameIndex := 67, descriptorIndex := 201, attributes := #[] }, { accessFlags := 9, nameIndex := 53, descriptorIndex := 54, attributes := #[] }] 49 203 #[304, 306, 308] #[{ accessFlags := 25, nameIndex := 310, descriptorIndex := 194, attributes := #[] }, { accessFlags := 25, nameIndex := 312, descriptorIndex := 194, attributes := #[] }, { accessFlags := 25, nameIndex := 302, descriptorIndex := 303, attributes := #[] }, { accessFlags := 24, nameIndex := 19, descriptorIndex := 20, attributes := #[] }, { accessFlags := 24, nameIndex := 89, descriptorIndex := 86, attributes := #[] }, { accessFlags := 24, nameIndex := 85, descriptorIndex := 86, attributes := #[] }, { accessFlags := 18, nameIndex := 207, descriptorIndex := 194, attributes := #[] }, { accessFlags := 25, nameIndex := 316, descriptorIndex := 194, attributes := #[] }, { accessFlags := 25, nameIndex := 318, descriptorIndex := 194, attributes := #[] }, { accessFlags := 26, nameIndex := 320, descriptorIndex := 321, attributes := #[] }])
  fields := #[{ name := "MIN_VALUE", type := .int, accessFlags := 25, slot := 0, constantValue := 0 }, { name := "MAX_VALUE", type := .int, accessFlags := 25, slot := 1, constantValue := 0 }, { name := "TYPE", type := (.object "java/lang/Class"), accessFlags := 25, slot := 2, constantValue := 0 }, { name := "digits", type := (.array .char), accessFlags := 24, slot := 3, constantValue := 0 }, { name := "DigitTens", type := (.array .byte), accessFlags := 24, slot := 4, constantValue := 0 }, { name := "DigitOnes", type := (.array .byte), accessFlags := 24, slot := 5, constantValue := 0 }, { name := "value", type := .int, accessFlags := 18, slot := 0, constantValue := 0 }, { name := "SIZE", type := .int, accessFlags := 25, slot := 6, constantValue := 0 }, { name := "BYTES", type := .int, accessFlags := 25, slot := 7, constantValue := 0 }, { name := "serialVersionUID", type := .long, accessFlags := 26, slot := 8, constantValue := 0 }]
  methods := #[k9m0, k9m1, k9m2]
  instanceTypes := #[.int]
  staticTypes := #[.int, .int, (.object "java/lang/Class"), (.array .char), (.array .byte), (.array .byte), .int, .int, .long]
  resolved := Array.replicate 453 none
  statics := none }

def pool10 : Array CpInfo := pool [(4, .class_ 6), (1, u "java/lang/Object"), (3, .class_ 12), (1, u "com/example/seenset/seenset/util/Cells"), (0, u "maxCount"), (0, u "(I)J"), (11, u "bits"), (0, u "I"), (2, u "mask"), (0, u "J"), (10, u "words"), (0, u "[J"), (0, .class_ 45), (0, u "com/example/seenset/seenset/util/Cells$Phase"), (2, u "phases"), (0, u "[Lcom/example/seenset/seenset/util/Cells$Phase;"), (5, u "phaseAfter"), (0, u "[I"), (2, u "step"), (0, .long 137438952896), (36, u "MAX_WORDS")] 37

def k10c0 : Code := { maxStack := 4, maxLocals := 1, code := prog_57_method_2_code, exceptionTable := #[], attributes := #[] }
def k10m0 : Method := { name := "maxCount", desc := "(I)J", sig := { parameters := [.int], returnType := some .long }, accessFlags := 9, code := some k10c0 }
/-- com/example/seenset/seenset/util/Cells -/
def k10 : Class := { plain "com/example/seenset/seenset/util/Cells" (some 0) with
  accessFlags := 49
  interfaces := #[]
  cf := some (fileOf pool10 10 #[.nestMembers #[44]] #[{ accessFlags := 9, nameIndex := 13, descriptorIndex := 14, attributes := #[] }] 49 4 #[] #[{ accessFlags := 26, nameIndex := 97, descriptorIndex := 31, attributes := #[] }, { accessFlags := 18, nameIndex := 26, descriptorIndex := 27, attributes := #[] }, { accessFlags := 18, nameIndex := 30, descriptorIndex := 31, attributes := #[] }, { accessFlags := 18, nameIndex := 42, descriptorIndex := 43, attributes := #[] }, { accessFlags := 18, nameIndex := 48, descriptorIndex := 49, attributes := #[] }, { accessFlags := 18, nameIndex := 55, descriptorIndex := 56, attributes := #[] }, { accessFlags := 18, nameIndex := 59, descriptorIndex := 27, attributes := #[] }])
  fields := #[{ name := "MAX_WORDS", type := .long, accessFlags := 26, slot := 0, constantValue := 0 }, { name := "bits", type := .int, accessFlags := 18, slot := 0, constantValue := 0 }, { name := "mask", type := .long, accessFlags := 18, slot := 1, constantValue := 0 }, { name := "words", type := (.array .long), accessFlags := 18, slot := 2, constantValue := 0 }, { name := "phases", type := (.array (.object "com/example/seenset/seenset/util/Cells$Phase")), accessFlags := 18, slot := 3, constantValue := 0 }, { name := "phaseAfter", type := (.array .int), accessFlags := 18, slot := 4, constantValue := 0 }, { name := "step", type := .int, accessFlags := 18, slot := 5, constantValue := 0 }]
  methods := #[k10m0]
  instanceTypes := #[.int, .long, (.array .long), (.array (.object "com/example/seenset/seenset/util/Cells$Phase")), (.array .int), .int]
  staticTypes := #[.long]
  resolved := Array.replicate 135 none
  statics := none }

def pool11 : Array CpInfo := pool [(2, .class_ 4), (1, u "java/lang/Object"), (0, u "<init>"), (0, u "()V"), (0, .class_ 8), (0, u "java/lang/Integer"), (7, .class_ 18), (1, u "java/lang/Integer$IntegerCache"), (0, u "$assertionsDisabled"), (0, u "Z"), (26, u "high"), (0, u "I"), (8, u "archivedCache"), (0, u "[Ljava/lang/Integer;"), (12, u "cache"), (0, u "low")] 27

def k11m0 : Method := { name := "<init>", desc := "()V", sig := { parameters := [], returnType := none }, accessFlags := 2, code := none }
/-- java/lang/Integer$IntegerCache -/
def k11 : Class := { plain "java/lang/Integer$IntegerCache" (some 0) with
  accessFlags := 48
  interfaces := #[]
  cf := some (fileOf pool11 16 #[.nestHost 7] #[{ accessFlags := 2, nameIndex := 5, descriptorIndex := 6, attributes := #[] }] 48 2 #[] #[{ accessFlags := 24, nameIndex := 72, descriptorIndex := 48, attributes := #[] }, { accessFlags := 24, nameIndex := 47, descriptorIndex := 48, attributes := #[] }, { accessFlags := 24, nameIndex := 71, descriptorIndex := 58, attributes := #[] }, { accessFlags := 8, nameIndex := 57, descriptorIndex := 58, attributes := #[] }, { accessFlags := 4120, nameIndex := 19, descriptorIndex := 20, attributes := #[] }])
  fields := #[{ name := "low", type := .int, accessFlags := 24, slot := 0, constantValue := 0 }, { name := "high", type := .int, accessFlags := 24, slot := 1, constantValue := 0 }, { name := "cache", type := (.array (.object "java/lang/Integer")), accessFlags := 24, slot := 2, constantValue := 0 }, { name := "archivedCache", type := (.array (.object "java/lang/Integer")), accessFlags := 8, slot := 3, constantValue := 0 }, { name := "$assertionsDisabled", type := .boolean, accessFlags := 4120, slot := 4, constantValue := 0 }]
  methods := #[k11m0]
  instanceTypes := #[]
  staticTypes := #[.int, .int, (.array (.object "java/lang/Integer")), (.array (.object "java/lang/Integer")), .boolean]
  resolved := Array.replicate 100 none
  statics := some 0 }

def pool12 : Array CpInfo := pool [(1, u "java/lang/Cloneable"), (0, .class_ 1), (0, u "java/lang/Object"), (0, .class_ 3)] 3

/-- java/lang/Cloneable -/
def k12 : Class := { plain "java/lang/Cloneable" (some 0) with
  accessFlags := 1537
  interfaces := #[]
  cf := some (fileOf pool12 2 #[] #[] 1537 4 #[] #[])
  fields := #[]
  methods := #[]
  instanceTypes := #[]
  staticTypes := #[]
  resolved := Array.replicate 8 none
  statics := none }

/-- the primitive byte -/
def k13 : Class := { plain "byte" none with kind := .primitive 'B', accessFlags := 0x411 }
/-- [B -/
def k14 : Class := { plain "[B" (some 0) with kind := .array 13 .byte, interfaces := #[12, 4], accessFlags := 1041 }

/-- the primitive int -/
def k15 : Class := { plain "int" none with kind := .primitive 'I', accessFlags := 0x411 }
/-- [I -/
def k16 : Class := { plain "[I" (some 0) with kind := .array 15 .int, interfaces := #[12, 4], accessFlags := 1041 }

/-- [Ljava/lang/Integer; -/
def k17 : Class := { plain "[Ljava/lang/Integer;" (some 0) with kind := .array 9 (.object "java/lang/Integer"), interfaces := #[12, 4], accessFlags := 1041 }

def heap : Heap := #[{ cls := 11, slots := #[.int 0, .int 127, .ref 1, .null, .int 0], vm := .statics 11 },
  { cls := 17, slots := #[.ref 2, .ref 3, .ref 4, .ref 5, .ref 6, .ref 7, .ref 8, .ref 9, .ref 10, .ref 11, .ref 12, .ref 13, .ref 14, .ref 15, .ref 16, .ref 17, .ref 18, .ref 19, .ref 20, .ref 21, .ref 22, .ref 23, .ref 24, .ref 25, .ref 26, .ref 27, .ref 28, .ref 29, .ref 30, .ref 31, .ref 32, .ref 33, .ref 34, .ref 35, .ref 36, .ref 37, .ref 38, .ref 39, .ref 40, .ref 41, .ref 42, .ref 43, .ref 44, .ref 45, .ref 46, .ref 47, .ref 48, .ref 49, .ref 50, .ref 51, .ref 52, .ref 53, .ref 54, .ref 55, .ref 56, .ref 57, .ref 58, .ref 59, .ref 60, .ref 61, .ref 62, .ref 63, .ref 64, .ref 65, .ref 66, .ref 67, .ref 68, .ref 69, .ref 70, .ref 71, .ref 72, .ref 73, .ref 74, .ref 75, .ref 76, .ref 77, .ref 78, .ref 79, .ref 80, .ref 81, .ref 82, .ref 83, .ref 84, .ref 85, .ref 86, .ref 87, .ref 88, .ref 89, .ref 90, .ref 91, .ref 92, .ref 93, .ref 94, .ref 95, .ref 96, .ref 97, .ref 98, .ref 99, .ref 100, .ref 101, .ref 102, .ref 103, .ref 104, .ref 105, .ref 106, .ref 107, .ref 108, .ref 109, .ref 110, .ref 111, .ref 112, .ref 113, .ref 114, .ref 115, .ref 116, .ref 117, .ref 118, .ref 119, .ref 120, .ref 121, .ref 122, .ref 123, .ref 124, .ref 125, .ref 126, .ref 127, .ref 128, .ref 129, .ref 130, .ref 131, .ref 132, .ref 133, .ref 134, .ref 135, .ref 136, .ref 137, .ref 138, .ref 139, .ref 140, .ref 141, .ref 142, .ref 143, .ref 144, .ref 145, .ref 146, .ref 147, .ref 148, .ref 149, .ref 150, .ref 151, .ref 152, .ref 153, .ref 154, .ref 155, .ref 156, .ref 157, .ref 158, .ref 159, .ref 160, .ref 161, .ref 162, .ref 163, .ref 164, .ref 165, .ref 166, .ref 167, .ref 168, .ref 169, .ref 170, .ref 171, .ref 172, .ref 173, .ref 174, .ref 175, .ref 176, .ref 177, .ref 178, .ref 179, .ref 180, .ref 181, .ref 182, .ref 183, .ref 184, .ref 185, .ref 186, .ref 187, .ref 188, .ref 189, .ref 190, .ref 191, .ref 192, .ref 193, .ref 194, .ref 195, .ref 196, .ref 197, .ref 198, .ref 199, .ref 200, .ref 201, .ref 202, .ref 203, .ref 204, .ref 205, .ref 206, .ref 207, .ref 208, .ref 209, .ref 210, .ref 211, .ref 212, .ref 213, .ref 214, .ref 215, .ref 216, .ref 217, .ref 218, .ref 219, .ref 220, .ref 221, .ref 222, .ref 223, .ref 224, .ref 225, .ref 226, .ref 227, .ref 228, .ref 229, .ref 230, .ref 231, .ref 232, .ref 233, .ref 234, .ref 235, .ref 236, .ref 237, .ref 238, .ref 239, .ref 240, .ref 241, .ref 242, .ref 243, .ref 244, .ref 245, .ref 246, .ref 247, .ref 248, .ref 249, .ref 250, .ref 251, .ref 252, .ref 253, .ref 254, .ref 255, .ref 256, .ref 257], vm := .none },
  { cls := 9, slots := #[.int (-128)], vm := .none },
  { cls := 9, slots := #[.int (-127)], vm := .none },
  { cls := 9, slots := #[.int (-126)], vm := .none },
  { cls := 9, slots := #[.int (-125)], vm := .none },
  { cls := 9, slots := #[.int (-124)], vm := .none },
  { cls := 9, slots := #[.int (-123)], vm := .none },
  { cls := 9, slots := #[.int (-122)], vm := .none },
  { cls := 9, slots := #[.int (-121)], vm := .none },
  { cls := 9, slots := #[.int (-120)], vm := .none },
  { cls := 9, slots := #[.int (-119)], vm := .none },
  { cls := 9, slots := #[.int (-118)], vm := .none },
  { cls := 9, slots := #[.int (-117)], vm := .none },
  { cls := 9, slots := #[.int (-116)], vm := .none },
  { cls := 9, slots := #[.int (-115)], vm := .none },
  { cls := 9, slots := #[.int (-114)], vm := .none },
  { cls := 9, slots := #[.int (-113)], vm := .none },
  { cls := 9, slots := #[.int (-112)], vm := .none },
  { cls := 9, slots := #[.int (-111)], vm := .none },
  { cls := 9, slots := #[.int (-110)], vm := .none },
  { cls := 9, slots := #[.int (-109)], vm := .none },
  { cls := 9, slots := #[.int (-108)], vm := .none },
  { cls := 9, slots := #[.int (-107)], vm := .none },
  { cls := 9, slots := #[.int (-106)], vm := .none },
  { cls := 9, slots := #[.int (-105)], vm := .none },
  { cls := 9, slots := #[.int (-104)], vm := .none },
  { cls := 9, slots := #[.int (-103)], vm := .none },
  { cls := 9, slots := #[.int (-102)], vm := .none },
  { cls := 9, slots := #[.int (-101)], vm := .none },
  { cls := 9, slots := #[.int (-100)], vm := .none },
  { cls := 9, slots := #[.int (-99)], vm := .none },
  { cls := 9, slots := #[.int (-98)], vm := .none },
  { cls := 9, slots := #[.int (-97)], vm := .none },
  { cls := 9, slots := #[.int (-96)], vm := .none },
  { cls := 9, slots := #[.int (-95)], vm := .none },
  { cls := 9, slots := #[.int (-94)], vm := .none },
  { cls := 9, slots := #[.int (-93)], vm := .none },
  { cls := 9, slots := #[.int (-92)], vm := .none },
  { cls := 9, slots := #[.int (-91)], vm := .none },
  { cls := 9, slots := #[.int (-90)], vm := .none },
  { cls := 9, slots := #[.int (-89)], vm := .none },
  { cls := 9, slots := #[.int (-88)], vm := .none },
  { cls := 9, slots := #[.int (-87)], vm := .none },
  { cls := 9, slots := #[.int (-86)], vm := .none },
  { cls := 9, slots := #[.int (-85)], vm := .none },
  { cls := 9, slots := #[.int (-84)], vm := .none },
  { cls := 9, slots := #[.int (-83)], vm := .none },
  { cls := 9, slots := #[.int (-82)], vm := .none },
  { cls := 9, slots := #[.int (-81)], vm := .none },
  { cls := 9, slots := #[.int (-80)], vm := .none },
  { cls := 9, slots := #[.int (-79)], vm := .none },
  { cls := 9, slots := #[.int (-78)], vm := .none },
  { cls := 9, slots := #[.int (-77)], vm := .none },
  { cls := 9, slots := #[.int (-76)], vm := .none },
  { cls := 9, slots := #[.int (-75)], vm := .none },
  { cls := 9, slots := #[.int (-74)], vm := .none },
  { cls := 9, slots := #[.int (-73)], vm := .none },
  { cls := 9, slots := #[.int (-72)], vm := .none },
  { cls := 9, slots := #[.int (-71)], vm := .none },
  { cls := 9, slots := #[.int (-70)], vm := .none },
  { cls := 9, slots := #[.int (-69)], vm := .none },
  { cls := 9, slots := #[.int (-68)], vm := .none },
  { cls := 9, slots := #[.int (-67)], vm := .none },
  { cls := 9, slots := #[.int (-66)], vm := .none },
  { cls := 9, slots := #[.int (-65)], vm := .none },
  { cls := 9, slots := #[.int (-64)], vm := .none },
  { cls := 9, slots := #[.int (-63)], vm := .none },
  { cls := 9, slots := #[.int (-62)], vm := .none },
  { cls := 9, slots := #[.int (-61)], vm := .none },
  { cls := 9, slots := #[.int (-60)], vm := .none },
  { cls := 9, slots := #[.int (-59)], vm := .none },
  { cls := 9, slots := #[.int (-58)], vm := .none },
  { cls := 9, slots := #[.int (-57)], vm := .none },
  { cls := 9, slots := #[.int (-56)], vm := .none },
  { cls := 9, slots := #[.int (-55)], vm := .none },
  { cls := 9, slots := #[.int (-54)], vm := .none },
  { cls := 9, slots := #[.int (-53)], vm := .none },
  { cls := 9, slots := #[.int (-52)], vm := .none },
  { cls := 9, slots := #[.int (-51)], vm := .none },
  { cls := 9, slots := #[.int (-50)], vm := .none },
  { cls := 9, slots := #[.int (-49)], vm := .none },
  { cls := 9, slots := #[.int (-48)], vm := .none },
  { cls := 9, slots := #[.int (-47)], vm := .none },
  { cls := 9, slots := #[.int (-46)], vm := .none },
  { cls := 9, slots := #[.int (-45)], vm := .none },
  { cls := 9, slots := #[.int (-44)], vm := .none },
  { cls := 9, slots := #[.int (-43)], vm := .none },
  { cls := 9, slots := #[.int (-42)], vm := .none },
  { cls := 9, slots := #[.int (-41)], vm := .none },
  { cls := 9, slots := #[.int (-40)], vm := .none },
  { cls := 9, slots := #[.int (-39)], vm := .none },
  { cls := 9, slots := #[.int (-38)], vm := .none },
  { cls := 9, slots := #[.int (-37)], vm := .none },
  { cls := 9, slots := #[.int (-36)], vm := .none },
  { cls := 9, slots := #[.int (-35)], vm := .none },
  { cls := 9, slots := #[.int (-34)], vm := .none },
  { cls := 9, slots := #[.int (-33)], vm := .none },
  { cls := 9, slots := #[.int (-32)], vm := .none },
  { cls := 9, slots := #[.int (-31)], vm := .none },
  { cls := 9, slots := #[.int (-30)], vm := .none },
  { cls := 9, slots := #[.int (-29)], vm := .none },
  { cls := 9, slots := #[.int (-28)], vm := .none },
  { cls := 9, slots := #[.int (-27)], vm := .none },
  { cls := 9, slots := #[.int (-26)], vm := .none },
  { cls := 9, slots := #[.int (-25)], vm := .none },
  { cls := 9, slots := #[.int (-24)], vm := .none },
  { cls := 9, slots := #[.int (-23)], vm := .none },
  { cls := 9, slots := #[.int (-22)], vm := .none },
  { cls := 9, slots := #[.int (-21)], vm := .none },
  { cls := 9, slots := #[.int (-20)], vm := .none },
  { cls := 9, slots := #[.int (-19)], vm := .none },
  { cls := 9, slots := #[.int (-18)], vm := .none },
  { cls := 9, slots := #[.int (-17)], vm := .none },
  { cls := 9, slots := #[.int (-16)], vm := .none },
  { cls := 9, slots := #[.int (-15)], vm := .none },
  { cls := 9, slots := #[.int (-14)], vm := .none },
  { cls := 9, slots := #[.int (-13)], vm := .none },
  { cls := 9, slots := #[.int (-12)], vm := .none },
  { cls := 9, slots := #[.int (-11)], vm := .none },
  { cls := 9, slots := #[.int (-10)], vm := .none },
  { cls := 9, slots := #[.int (-9)], vm := .none },
  { cls := 9, slots := #[.int (-8)], vm := .none },
  { cls := 9, slots := #[.int (-7)], vm := .none },
  { cls := 9, slots := #[.int (-6)], vm := .none },
  { cls := 9, slots := #[.int (-5)], vm := .none },
  { cls := 9, slots := #[.int (-4)], vm := .none },
  { cls := 9, slots := #[.int (-3)], vm := .none },
  { cls := 9, slots := #[.int (-2)], vm := .none },
  { cls := 9, slots := #[.int (-1)], vm := .none },
  { cls := 9, slots := #[.int 0], vm := .none },
  { cls := 9, slots := #[.int 1], vm := .none },
  { cls := 9, slots := #[.int 2], vm := .none },
  { cls := 9, slots := #[.int 3], vm := .none },
  { cls := 9, slots := #[.int 4], vm := .none },
  { cls := 9, slots := #[.int 5], vm := .none },
  { cls := 9, slots := #[.int 6], vm := .none },
  { cls := 9, slots := #[.int 7], vm := .none },
  { cls := 9, slots := #[.int 8], vm := .none },
  { cls := 9, slots := #[.int 9], vm := .none },
  { cls := 9, slots := #[.int 10], vm := .none },
  { cls := 9, slots := #[.int 11], vm := .none },
  { cls := 9, slots := #[.int 12], vm := .none },
  { cls := 9, slots := #[.int 13], vm := .none },
  { cls := 9, slots := #[.int 14], vm := .none },
  { cls := 9, slots := #[.int 15], vm := .none },
  { cls := 9, slots := #[.int 16], vm := .none },
  { cls := 9, slots := #[.int 17], vm := .none },
  { cls := 9, slots := #[.int 18], vm := .none },
  { cls := 9, slots := #[.int 19], vm := .none },
  { cls := 9, slots := #[.int 20], vm := .none },
  { cls := 9, slots := #[.int 21], vm := .none },
  { cls := 9, slots := #[.int 22], vm := .none },
  { cls := 9, slots := #[.int 23], vm := .none },
  { cls := 9, slots := #[.int 24], vm := .none },
  { cls := 9, slots := #[.int 25], vm := .none },
  { cls := 9, slots := #[.int 26], vm := .none },
  { cls := 9, slots := #[.int 27], vm := .none },
  { cls := 9, slots := #[.int 28], vm := .none },
  { cls := 9, slots := #[.int 29], vm := .none },
  { cls := 9, slots := #[.int 30], vm := .none },
  { cls := 9, slots := #[.int 31], vm := .none },
  { cls := 9, slots := #[.int 32], vm := .none },
  { cls := 9, slots := #[.int 33], vm := .none },
  { cls := 9, slots := #[.int 34], vm := .none },
  { cls := 9, slots := #[.int 35], vm := .none },
  { cls := 9, slots := #[.int 36], vm := .none },
  { cls := 9, slots := #[.int 37], vm := .none },
  { cls := 9, slots := #[.int 38], vm := .none },
  { cls := 9, slots := #[.int 39], vm := .none },
  { cls := 9, slots := #[.int 40], vm := .none },
  { cls := 9, slots := #[.int 41], vm := .none },
  { cls := 9, slots := #[.int 42], vm := .none },
  { cls := 9, slots := #[.int 43], vm := .none },
  { cls := 9, slots := #[.int 44], vm := .none },
  { cls := 9, slots := #[.int 45], vm := .none },
  { cls := 9, slots := #[.int 46], vm := .none },
  { cls := 9, slots := #[.int 47], vm := .none },
  { cls := 9, slots := #[.int 48], vm := .none },
  { cls := 9, slots := #[.int 49], vm := .none },
  { cls := 9, slots := #[.int 50], vm := .none },
  { cls := 9, slots := #[.int 51], vm := .none },
  { cls := 9, slots := #[.int 52], vm := .none },
  { cls := 9, slots := #[.int 53], vm := .none },
  { cls := 9, slots := #[.int 54], vm := .none },
  { cls := 9, slots := #[.int 55], vm := .none },
  { cls := 9, slots := #[.int 56], vm := .none },
  { cls := 9, slots := #[.int 57], vm := .none },
  { cls := 9, slots := #[.int 58], vm := .none },
  { cls := 9, slots := #[.int 59], vm := .none },
  { cls := 9, slots := #[.int 60], vm := .none },
  { cls := 9, slots := #[.int 61], vm := .none },
  { cls := 9, slots := #[.int 62], vm := .none },
  { cls := 9, slots := #[.int 63], vm := .none },
  { cls := 9, slots := #[.int 64], vm := .none },
  { cls := 9, slots := #[.int 65], vm := .none },
  { cls := 9, slots := #[.int 66], vm := .none },
  { cls := 9, slots := #[.int 67], vm := .none },
  { cls := 9, slots := #[.int 68], vm := .none },
  { cls := 9, slots := #[.int 69], vm := .none },
  { cls := 9, slots := #[.int 70], vm := .none },
  { cls := 9, slots := #[.int 71], vm := .none },
  { cls := 9, slots := #[.int 72], vm := .none },
  { cls := 9, slots := #[.int 73], vm := .none },
  { cls := 9, slots := #[.int 74], vm := .none },
  { cls := 9, slots := #[.int 75], vm := .none },
  { cls := 9, slots := #[.int 76], vm := .none },
  { cls := 9, slots := #[.int 77], vm := .none },
  { cls := 9, slots := #[.int 78], vm := .none },
  { cls := 9, slots := #[.int 79], vm := .none },
  { cls := 9, slots := #[.int 80], vm := .none },
  { cls := 9, slots := #[.int 81], vm := .none },
  { cls := 9, slots := #[.int 82], vm := .none },
  { cls := 9, slots := #[.int 83], vm := .none },
  { cls := 9, slots := #[.int 84], vm := .none },
  { cls := 9, slots := #[.int 85], vm := .none },
  { cls := 9, slots := #[.int 86], vm := .none },
  { cls := 9, slots := #[.int 87], vm := .none },
  { cls := 9, slots := #[.int 88], vm := .none },
  { cls := 9, slots := #[.int 89], vm := .none },
  { cls := 9, slots := #[.int 90], vm := .none },
  { cls := 9, slots := #[.int 91], vm := .none },
  { cls := 9, slots := #[.int 92], vm := .none },
  { cls := 9, slots := #[.int 93], vm := .none },
  { cls := 9, slots := #[.int 94], vm := .none },
  { cls := 9, slots := #[.int 95], vm := .none },
  { cls := 9, slots := #[.int 96], vm := .none },
  { cls := 9, slots := #[.int 97], vm := .none },
  { cls := 9, slots := #[.int 98], vm := .none },
  { cls := 9, slots := #[.int 99], vm := .none },
  { cls := 9, slots := #[.int 100], vm := .none },
  { cls := 9, slots := #[.int 101], vm := .none },
  { cls := 9, slots := #[.int 102], vm := .none },
  { cls := 9, slots := #[.int 103], vm := .none },
  { cls := 9, slots := #[.int 104], vm := .none },
  { cls := 9, slots := #[.int 105], vm := .none },
  { cls := 9, slots := #[.int 106], vm := .none },
  { cls := 9, slots := #[.int 107], vm := .none },
  { cls := 9, slots := #[.int 108], vm := .none },
  { cls := 9, slots := #[.int 109], vm := .none },
  { cls := 9, slots := #[.int 110], vm := .none },
  { cls := 9, slots := #[.int 111], vm := .none },
  { cls := 9, slots := #[.int 112], vm := .none },
  { cls := 9, slots := #[.int 113], vm := .none },
  { cls := 9, slots := #[.int 114], vm := .none },
  { cls := 9, slots := #[.int 115], vm := .none },
  { cls := 9, slots := #[.int 116], vm := .none },
  { cls := 9, slots := #[.int 117], vm := .none },
  { cls := 9, slots := #[.int 118], vm := .none },
  { cls := 9, slots := #[.int 119], vm := .none },
  { cls := 9, slots := #[.int 120], vm := .none },
  { cls := 9, slots := #[.int 121], vm := .none },
  { cls := 9, slots := #[.int 122], vm := .none },
  { cls := 9, slots := #[.int 123], vm := .none },
  { cls := 9, slots := #[.int 124], vm := .none },
  { cls := 9, slots := #[.int 125], vm := .none },
  { cls := 9, slots := #[.int 126], vm := .none },
  { cls := 9, slots := #[.int 127], vm := .none }]
def classes : Array Class := #[k0, k1, k2, k3, k4, k5, k6, k7, k8, k9, k10, k11, k12, k13, k14, k15, k16, k17]
def interned : List (Array UInt16 × Addr) := []
def slotsUsed : Nat := 517
def theMethod : MethodId := ⟨1, 1⟩
def args0 : Array Value := #[.long 5, .long 7, .int 200, .int 9, .long 10, .long 11]
def aboutOver (below : List Frame) : State where
  vm := { classes := classes, interned := interned.toArray }
  heap := heap
  slotsUsed := slotsUsed
  threads := #[{ frames := .invoking theMethod args0 :: below }]
def below0 : List Frame := [.native { method := ⟨0, 0⟩, args := #[] }]
def about1 : State := aboutOver below0
def p0 : Program := .bare "" "" ""
def e0 : Env := launch0.env 0 0 0
theorem w_frames : about1.frames = Frame.invoking theMethod args0 :: below0 := rfl
set_option maxRecDepth 65536 in
theorem w_args : argsFit about1.vm theMethod args0 = true := by decide +kernel
set_option maxRecDepth 65536 in
theorem w_heap : heapFits about1 = true := by decide +kernel
set_option maxRecDepth 65536 in
theorem w_runnable : about1.curStatus? = some .runnable := by decide +kernel
set_option maxRecDepth 65536 in
theorem w_alone : about1.alone = true := by decide +kernel
set_option maxRecDepth 65536 in
theorem w_named : about1.methodNamed? x = some theMethod := by decide +kernel
set_option maxRecDepth 65536 in
theorem w_hears : about1.hears theMethod below0 = true := by decide +kernel
set_option maxRecDepth 65536 in
theorem w_ripe : about1.ripe theMethod args0 below0 = true := by decide +kernel
theorem w_running : about1.status = .running := rfl
set_option maxRecDepth 65536 in
theorem w_room : about1.hasRoom e0.platform room_1 = true :=
  launch0.hasRoom_least _ room_1 (by decide +kernel) (by decide +kernel) (by decide +kernel) (by decide +kernel) (by decide +kernel) (by decide +kernel)
theorem allAtoms_all (ts : List Jvm.Cond) (a : Array Jvm.Value) (st : Jvm.State) : (allAtoms ts).before a st = ts.all (fun c => c.before a st) := by
  induction ts with
  | nil => rfl
  | cons c t ih =>
    show (Jvm.Cond.and c (allAtoms t)).before a st = _
    rw [Jvm.Cond.before_and, ih, List.all_cons]
def words1 : List Jvm.Cond := Jvm.Cond.code x code maxLocals ret :: tables_1
/-- a 'code' word, met by the world's own term for the bytes: nothing is compared byte by byte -/
theorem code_word {y : MethodName} {bytes : ByteArray} {mx : Nat} {rt : Option FieldType} {a : Array Value} {s : State} {m : MethodId} {meth : Method} {c : Code} (h1 : s.methodNamed? y = some m) (h2 : s.vm.method? m = some meth) (h3 : meth.code = some c) (h4 : c.code = bytes)
    (h5 : (c.maxLocals == mx && c.exceptionTable.isEmpty && decide (c.maxStack ≤ mostOperands) && decide (meth.sig.returnType = rt) && !meth.locks && decide (parseMethodDescriptor y.desc = some meth.sig)) = true) : (Jvm.Cond.code y bytes mx rt).before a s = true := by
  simp only [Bool.and_eq_true, beq_iff_eq, Bool.not_eq_true', decide_eq_true_eq] at h5
  obtain ⟨⟨⟨⟨⟨g1, g2⟩, g3⟩, g4⟩, g5⟩, g6⟩ := h5
  simp [Cond.before, Cond.holds, Cond.value, h1, h2, h3, h4, g1, g2, g3, g4, g5, g6]
def isCode : Jvm.Cond → Bool
  | .code _ _ _ _ => true
  | _ => false
theorem all_split {L : List Jvm.Cond} {P : Jvm.Cond → Bool} (h1 : L.all (fun c => isCode c || P c) = true) (h2 : ∀ c ∈ L.filter isCode, P c = true) : L.all P = true := by
  refine List.all_eq_true.mpr fun c hc => ?_
  have h := List.all_eq_true.mp h1 c hc
  rcases Bool.eq_false_or_eq_true (isCode c) with hi | hi
  · exact h2 c (List.mem_filter.mpr ⟨hc, hi⟩)
  · simpa [hi] using h
set_option maxRecDepth 65536 in
theorem w_c0 : (Jvm.Cond.code x code maxLocals ret).before args0 about1 = true := code_word (m := ⟨1, 1⟩) (meth := k1m1) (c := k1c1) (by decide +kernel) rfl rfl rfl (by decide +kernel)
set_option maxRecDepth 65536 in
theorem w_c1 : (Jvm.Cond.code ({ cls := "java/lang/Math", name := "min", desc := "(JJ)J" } : Jvm.MethodName) jdk_29_method_70_code (4 : Nat) (Option.some Jvm.ClassFile.FieldType.long)).before args0 about1 = true := code_word (m := ⟨2, 1⟩) (meth := k2m1) (c := k2c1) (by decide +kernel) rfl rfl rfl (by decide +kernel)
set_option maxRecDepth 65536 in
theorem w_c2 : (Jvm.Cond.code ({ cls := "com/example/seenset/seenset/filter/StableParameters", name := "<init>", desc := "(JIII)V" } : Jvm.MethodName) prog_32_method_1_code (6 : Nat) (Option.none : Option Jvm.ClassFile.FieldType)).before args0 about1 = true := code_word (m := ⟨3, 0⟩) (meth := k3m0) (c := k3c0) (by decide +kernel) rfl rfl rfl (by decide +kernel)
set_option maxRecDepth 65536 in
theorem w_c3 : (Jvm.Cond.code ({ cls := "com/example/seenset/seenset/filter/StableParameters", name := "<init>", desc := "(JIIIJ)V" } : Jvm.MethodName) prog_32_method_2_code (9 : Nat) (Option.none : Option Jvm.ClassFile.FieldType)).before args0 about1 = true := code_word (m := ⟨3, 1⟩) (meth := k3m1) (c := k3c1) (by decide +kernel) rfl rfl rfl (by decide +kernel)
set_option maxRecDepth 65536 in
theorem w_c4 : (Jvm.Cond.code ({ cls := "java/lang/Object", name := "<init>", desc := "()V" } : Jvm.MethodName) object_method_1_code (1 : Nat) (Option.none : Option Jvm.ClassFile.FieldType)).before args0 about1 = true := code_word (m := ⟨0, 0⟩) (meth := k0m0) (c := k0c0) (by decide +kernel) rfl rfl rfl (by decide +kernel)
set_option maxRecDepth 65536 in
theorem w_c5 : (Jvm.Cond.code ({ cls := "com/example/seenset/seenset/filter/StableParameters", name := "bitsPerCell", desc := "(I)I" } : Jvm.MethodName) prog_32_method_18_code (1 : Nat) (Option.some Jvm.ClassFile.FieldType.int)).before args0 about1 = true := code_word (m := ⟨3, 4⟩) (meth := k3m4) (c := k3c4) (by decide +kernel) rfl rfl rfl (by decide +kernel)
set_option maxRecDepth 65536 in
theorem w_c6 : (Jvm.Cond.code ({ cls := "java/lang/Integer", name := "numberOfLeadingZeros", desc := "(I)I" } : Jvm.MethodName) jdk_33_method_47_code (2 : Nat) (Option.some Jvm.ClassFile.FieldType.int)).before args0 about1 = true := code_word (m := ⟨9, 2⟩) (meth := k9m2) (c := k9c2) (by decide +kernel) rfl rfl rfl (by decide +kernel)
set_option maxRecDepth 65536 in
theorem w_c7 : (Jvm.Cond.code ({ cls := "com/example/seenset/seenset/util/Cells", name := "maxCount", desc := "(I)J" } : Jvm.MethodName) prog_57_method_2_code (1 : Nat) (Option.some Jvm.ClassFile.FieldType.long)).before args0 about1 = true := code_word (m := ⟨10, 0⟩) (meth := k10m0) (c := k10c0) (by decide +kernel) rfl rfl rfl (by decide +kernel)
set_option maxRecDepth 65536 in
theorem w_c8 : (Jvm.Cond.code ({ cls := "com/example/seenset/seenset/filter/StableParameters", name := "withSeed", desc := "(J)Lcom/example/seenset/seenset/filter/StableParameters;" } : Jvm.MethodName) prog_32_method_10_code (3 : Nat) (Option.some (Jvm.ClassFile.FieldType.object "com/example/seenset/seenset/filter/StableParameters"))).before args0 about1 = true := code_word (m := ⟨3, 2⟩) (meth := k3m2) (c := k3c2) (by decide +kernel) rfl rfl rfl (by decide +kernel)
set_option maxRecDepth 65536 in
theorem w_c9 : (Jvm.Cond.code ({ cls := "com/example/seenset/seenset/filter/StableParameters", name := "equals", desc := "(Ljava/lang/Object;)Z" } : Jvm.MethodName) prog_32_method_14_code (3 : Nat) (Option.some Jvm.ClassFile.FieldType.boolean)).before args0 about1 = true := code_word (m := ⟨3, 3⟩) (meth := k3m3) (c := k3c3) (by decide +kernel) rfl rfl rfl (by decide +kernel)
set_option maxRecDepth 65536 in
theorem w_c10 : (Jvm.Cond.code ({ cls := "java/lang/Integer", name := "valueOf", desc := "(I)Ljava/lang/Integer;" } : Jvm.MethodName) jdk_33_method_22_code (1 : Nat) (Option.some (Jvm.ClassFile.FieldType.object "java/lang/Integer"))).before args0 about1 = true := code_word (m := ⟨9, 0⟩) (meth := k9m0) (c := k9c0) (by decide +kernel) rfl rfl rfl (by decide +kernel)
set_option maxRecDepth 65536 in
theorem w_c11 : (Jvm.Cond.code ({ cls := "java/lang/Integer", name := "<init>", desc := "(I)V" } : Jvm.MethodName) jdk_33_method_23_code (2 : Nat) (Option.none : Option Jvm.ClassFile.FieldType)).before args0 about1 = true := code_word (m := ⟨9, 1⟩) (meth := k9m1) (c := k9c1) (by decide +kernel) rfl rfl rfl (by decide +kernel)
set_option maxRecDepth 65536 in
theorem w_c12 : (Jvm.Cond.code ({ cls := "java/lang/Number", name := "<init>", desc := "()V" } : Jvm.MethodName) jdk_18_method_1_code (1 : Nat) (Option.none : Option Jvm.ClassFile.FieldType)).before args0 about1 = true := code_word (m := ⟨5, 0⟩) (meth := k5m0) (c := k5c0) (by decide +kernel) rfl rfl rfl (by decide +kernel)
def codes1 : List Jvm.Cond := [Jvm.Cond.code x code maxLocals ret, Jvm.Cond.code ({ cls := "java/lang/Math", name := "min", desc := "(JJ)J" } : Jvm.MethodName) jdk_29_method_70_code (4 : Nat) (Option.some Jvm.ClassFile.FieldType.long), Jvm.Cond.code ({ cls := "com/example/seenset/seenset/filter/StableParameters", name := "<init>", desc := "(JIII)V" } : Jvm.MethodName) prog_32_method_1_code (6 : Nat) (Option.none : Option Jvm.ClassFile.FieldType), Jvm.Cond.code ({ cls := "com/example/seenset/seenset/filter/StableParameters", name := "<init>", desc := "(JIIIJ)V" } : Jvm.MethodName) prog_32_method_2_code (9 : Nat) (Option.none : Option Jvm.ClassFile.FieldType), Jvm.Cond.code ({ cls := "java/lang/Object", name := "<init>", desc := "()V" } : Jvm.MethodName) object_method_1_code (1 : Nat) (Option.none : Option Jvm.ClassFile.FieldType), Jvm.Cond.code ({ cls := "com/example/seenset/seenset/filter/StableParameters", name := "bitsPerCell", desc := "(I)I" } : Jvm.MethodName) prog_32_method_18_code (1 : Nat) (Option.some Jvm.ClassFile.FieldType.int), Jvm.Cond.code ({ cls := "java/lang/Integer", name := "numberOfLeadingZeros", desc := "(I)I" } : Jvm.MethodName) jdk_33_method_47_code (2 : Nat) (Option.some Jvm.ClassFile.FieldType.int), Jvm.Cond.code ({ cls := "com/example/seenset/seenset/util/Cells", name := "maxCount", desc := "(I)J" } : Jvm.MethodName) prog_57_method_2_code (1 : Nat) (Option.some Jvm.ClassFile.FieldType.long), Jvm.Cond.code ({ cls := "com/example/seenset/seenset/filter/StableParameters", name := "withSeed", desc := "(J)Lcom/example/seenset/seenset/filter/StableParameters;" } : Jvm.MethodName) prog_32_method_10_code (3 : Nat) (Option.some (Jvm.ClassFile.FieldType.object "com/example/seenset/seenset/filter/StableParameters")), Jvm.Cond.code ({ cls := "com/example/seenset/seenset/filter/StableParameters", name := "equals", desc := "(Ljava/lang/Object;)Z" } : Jvm.MethodName) prog_32_method_14_code (3 : Nat) (Option.some Jvm.ClassFile.FieldType.boolean), Jvm.Cond.code ({ cls := "java/lang/Integer", name := "valueOf", desc := "(I)Ljava/lang/Integer;" } : Jvm.MethodName) jdk_33_method_22_code (1 : Nat) (Option.some (Jvm.ClassFile.FieldType.object "java/lang/Integer")), Jvm.Cond.code ({ cls := "java/lang/Integer", name := "<init>", desc := "(I)V" } : Jvm.MethodName) jdk_33_method_23_code (2 : Nat) (Option.none : Option Jvm.ClassFile.FieldType), Jvm.Cond.code ({ cls := "java/lang/Number", name := "<init>", desc := "()V" } : Jvm.MethodName) jdk_18_method_1_code (1 : Nat) (Option.none : Option Jvm.ClassFile.FieldType)]
set_option maxRecDepth 65536 in
theorem codes_eq : words1.filter isCode = codes1 := rfl
theorem w_codes : ∀ c ∈ words1.filter isCode, c.before args0 about1 = true := by
  rw [codes_eq]
  intro c hc
  simp only [codes1, List.mem_cons, List.not_mem_nil, or_false] at hc
  rcases hc with rfl | rfl | rfl | rfl | rfl | rfl | rfl | rfl | rfl | rfl | rfl | rfl | rfl
  · exact w_c0
  · exact w_c1
  · exact w_c2
  · exact w_c3
  · exact w_c4
  · exact w_c5
  · exact w_c6
  · exact w_c7
  · exact w_c8
  · exact w_c9
  · exact w_c10
  · exact w_c11
  · exact w_c12
set_option maxRecDepth 65536 in
theorem w_t1 : (words1.take 24).all (fun c => isCode c || c.before args0 about1) = true := by decide +kernel
set_option maxRecDepth 65536 in
theorem w_t2 : ((words1.drop 24).take 24).all (fun c => isCode c || c.before args0 about1) = true := by decide +kernel
set_option maxRecDepth 65536 in
theorem w_t3 : (((words1.drop 24).drop 24).take 24).all (fun c => isCode c || c.before args0 about1) = true := by decide +kernel
set_option maxRecDepth 65536 in
theorem w_t4 : (((words1.drop 24).drop 24).drop 24).all (fun c => isCode c || c.before args0 about1) = true := by decide +kernel
theorem w_tables : (allAtoms (Jvm.Cond.code x code maxLocals ret :: tables_1)).before args0 about1 = true := by
  rw [allAtoms_all]
  show words1.all (fun c => c.before args0 about1) = true
  refine all_split ?_ w_codes
  rw [← List.take_append_drop 24 words1, List.all_append, w_t1, ← List.take_append_drop 24 (words1.drop 24), List.all_append, w_t2, ← List.take_append_drop 24 ((words1.drop 24).drop 24), List.all_append, w_t3, w_t4]
  rfl
set_option maxRecDepth 65536 in
theorem w_rest : rest_1_c.before args0 about1 = true := by decide +kernel
set_option maxRecDepth 65536 in
theorem w_case : (Jvm.Cond.and given_1 narrow_1).before args0 about1 = true := by decide +kernel
theorem w_applies : (headSpec (Jvm.Cond.code x code maxLocals ret :: tables_1) room_1).applies x e0.platform about1 = true :=
  (Spec.applies_iff w_frames).mpr ⟨w_running, w_runnable, w_alone, w_named, w_hears, w_ripe, w_room, w_tables⟩
theorem atStart : AtStart classFile x code maxLocals ret World_1 tables_1 room_1 Calls_1 rest_1 Pre_1 launch0 p0 e0 about1 theMethod args0 below0 :=
  ⟨lists_1, trivial, launch0.admits_env _ _ _, launch0.least_env, fairChoices_fair.cas, fairChoices_fair.clock, w_frames, w_args, w_heap, w_applies, trivial, w_rest, w_case⟩
end start1
theorem witness_1 : WitnessClaimed_1 := ⟨start1.p0, start1.e0, start1.about1, start1.theMethod, start1.args0, start1.below0, start1.atStart⟩
end Jvm.Pilot.@@N@@
