import JvmDerived
import JvmDerived.Pilot.@@N@@Statement
import JvmDerived.Pilot.@@N@@Code
set_option linter.unusedVariables false
set_option linter.unusedSimpArgs false
namespace Jvm.Pilot.@@N@@
open Jvm Jvm.ClassFile Sem Op Lib Jvm.Free Jvm.Stand Jvm.LawKit Jvm.RoadKit Bundle Jvm.Pilot.@@N@@.Jvm.D
/-! own_..: the walk in goal form: own_Go says that from a frame on the run comes to its end as the contract says; every step turns the goal for one frame into the goal for the next, so a branch is a case split and a join a 'have'. -/
def own_Post (s : State) (Q : Option Value → Heap → List Loc → Prop) (cs ss : Nat) (o : Outcome) (u : State) : Prop := ∃ v L, o = .returned v ∧ Q v u.heap L ∧ FrameEnd s o u L cs ss
def own_Go (p : Program) (e : Env) (below : List Frame) (Qf : Outcome → State → Prop) (T : State) (g : JFrame) : Prop := ∃ s₂ o, Steps p.tables e below (T.setTop g) s₂ ∧ s₂.status = .running ∧ Ended s₂ below o ∧ Qf o s₂
abbrev own_Met (l : Launch) (Z : State) (y : MethodName) (bytes : ByteArray) (maxL : Nat) (ret : Option FieldType) (ws : List Jvm.Cond) (rm : Room) (as' : Array Value) (h0 : Heap) (cs ss : Nat) (Q : Option Value → Heap → List Loc → Prop) : Prop :=
  MetFree l y (head1 (Jvm.Cond.code y bytes maxL ret :: ws) rm) (fun a U => a = as' ∧ Z.Warmed39 U.vm ∧ U.heap = h0) (fun _ _ _ _ _ => True) (fun _ U o U' => ∃ v L, o = .returned v ∧ Q v U'.heap L ∧ FrameEnd U o U' L cs ss)
def own_b (b : Bool) : Int32 := if b then 1 else 0
theorem own_b_t {b : Bool} (h : b = true) : own_b b = 1 := by subst h; rfl
theorem own_b_f {b : Bool} (h : ¬ b = true) : own_b b = 0 := by rw [Bool.eq_false_iff.mpr h]; rfl
theorem own_b_n {b : Bool} (h : b = true) : ¬ own_b b = 0 := by subst h; decide
theorem own_b_nar (b : Bool) : nar .boolean (own_b b) = own_b b := by cases b <;> rfl
theorem own_b_fits (b : Bool) : fits .boolean (.int (own_b b)) = true := by cases b <;> rfl
theorem own_b_inj {a b : Bool} (h : own_b a = own_b b) : a = b := by cases a <;> cases b <;> first | rfl | exact absurd h (by decide)
section Own
variable {p : Program} {l : Launch} {e : Env} {R : Room} {s : State} {m : MethodId} {args : Array Value} {below : List Frame} {meth : Method} {c : Code} {T T' : State} {locs : List Loc} {cells slots : Nat} {Z : State} {a0 : Array Value} {h : Heap}
theorem own_go {Qf : Outcome → State → Prop} {g g' : JFrame} (h : ∀ t, Steps p.tables e below (T'.setTop g') t → Steps p.tables e below (T.setTop g) t) (k : own_Go p e below Qf T' g') : own_Go p e below Qf T g := by
  obtain ⟨s₂, o, h1, h2⟩ := k
  exact ⟨s₂, o, h _ h1, h2⟩
theorem own_cast {Qf : Outcome → State → Prop} {g g' : JFrame} (q : g = g') (k : own_Go p e below Qf T g') : own_Go p e below Qf T g := q ▸ k
theorem own_met {y : MethodName} {bytes : ByteArray} {maxL : Nat} {ret : Option FieldType} {ws : List Jvm.Cond} {rm : Room} {as' : Array Value} {h0 : Heap} {cs ss : Nat} {Q : Option Value → Heap → List Loc → Prop} (hp : plainFor y = true)
    (body : ∀ (p : Program) (e : Env) (s : State) (m : MethodId) (below : List Frame) (meth : Method) (c : Code) (s₁ : State), BodyLoose p l y (head1 (Jvm.Cond.code y bytes maxL ret :: ws) rm) bytes maxL ret e s m as' below meth c s₁ → c.maxLocals = maxL → Z.Warmed39 s.vm →
      Stand p l e rm s m as' below meth c s₁ [] 0 0 → s₁.heap = h0 → own_Go p e below (own_Post s Q cs ss) s₁ (entryFrame m as' maxL)) : own_Met l Z y bytes maxL ret ws rm as' h0 cs ss Q := by
  refine MetFree.of_bodySF hp hisR ?_
  intro p e s m args below meth c s₁ Bd hml0 hP hK
  obtain ⟨rfl, hZ, hh⟩ := hP
  exact body p e s m below meth c s₁ Bd hml0 hZ (Stand.of_body Bd) (by rw [← hh, Bd.state]; rfl)
theorem own_retN (X : Stand p l e R s m args below meth c T locs cells slots) (hx : p.tables.exec = Jvm.exec) (t : FieldType) (hret : meth.sig.returnType = some t) (hlk : meth.locks = false) (ht : t = .boolean ∨ t = .byte ∨ t = .char ∨ t = .short) {pc : Nat} {Ls : Array Slot} {z : Int32} {rest : List Value} (hd : decode c.code pc = .ok (.ireturn, 1))
    {Q : Option Value → Heap → List Loc → Prop} {cs ss : Nat} (hc : cells ≤ cs) (hs : slots ≤ ss) (hQ : Q (some (.int (nar t z))) T.heap locs) : own_Go p e below (own_Post s Q cs ss) T (mkF m pc Ls (.int z :: rest)) := by
  obtain ⟨fs, hr, hrun, hended, hW, hsame⟩ := X.leave (v := some (.int (nar t z))) (fun h => by rw [hret] at h; cases h) hlk
  exact ⟨_, _, retN X hx hret ht hd hr, hrun, hended, _, _, rfl, hQ, ⟨_, rfl⟩, hW, hsame.mono hc hs⟩
theorem own_retI (X : Stand p l e R s m args below meth c T locs cells slots) (hx : p.tables.exec = Jvm.exec) (hret : meth.sig.returnType = some .int) (hlk : meth.locks = false) {pc : Nat} {Ls : Array Slot} {z : Int32} {rest : List Value} (hd : decode c.code pc = .ok (.ireturn, 1))
    {Q : Option Value → Heap → List Loc → Prop} {cs ss : Nat} (hc : cells ≤ cs) (hs : slots ≤ ss) (hQ : Q (some (.int z)) T.heap locs) : own_Go p e below (own_Post s Q cs ss) T (mkF m pc Ls (.int z :: rest)) := by
  obtain ⟨fs, hr, hrun, hended, hW, hsame⟩ := X.leave (v := some (.int z)) (fun h => by rw [hret] at h; cases h) hlk
  exact ⟨_, _, retOut X hx hret rfl (Or.inl ⟨rfl, Or.inl rfl, _, rfl⟩) hd hr, hrun, hended, _, _, rfl, hQ, ⟨_, rfl⟩, hW, hsame.mono hc hs⟩
theorem own_retJ (X : Stand p l e R s m args below meth c T locs cells slots) (hx : p.tables.exec = Jvm.exec) (hret : meth.sig.returnType = some .long) (hlk : meth.locks = false) {pc : Nat} {Ls : Array Slot} {z : Int64} {rest : List Value} (hd : decode c.code pc = .ok (.lreturn, 1))
    {Q : Option Value → Heap → List Loc → Prop} {cs ss : Nat} (hc : cells ≤ cs) (hs : slots ≤ ss) (hQ : Q (some (.long z)) T.heap locs) : own_Go p e below (own_Post s Q cs ss) T (mkF m pc Ls (.long z :: rest)) := by
  obtain ⟨fs, hr, hrun, hended, hW, hsame⟩ := X.leave (v := some (.long z)) (fun h => by rw [hret] at h; cases h) hlk
  exact ⟨_, _, retOut X hx hret rfl (Or.inr (Or.inl ⟨rfl, rfl, _, rfl⟩)) hd hr, hrun, hended, _, _, rfl, hQ, ⟨_, rfl⟩, hW, hsame.mono hc hs⟩
theorem own_retA (X : Stand p l e R s m args below meth c T locs cells slots) (hx : p.tables.exec = Jvm.exec) {t : FieldType} (hret : meth.sig.returnType = some t) (hlk : meth.locks = false) (ht : t.isReference = true) {pc : Nat} {Ls : Array Slot} {w : Value} {rest : List Value} (hw : w.isRef = true) (hd : decode c.code pc = .ok (.areturn, 1))
    {Q : Option Value → Heap → List Loc → Prop} {cs ss : Nat} (hc : cells ≤ cs) (hs : slots ≤ ss) (hQ : Q (some w) T.heap locs) : own_Go p e below (own_Post s Q cs ss) T (mkF m pc Ls (w :: rest)) := by
  obtain ⟨fs, hr, hrun, hended, hW, hsame⟩ := X.leave (v := some w) (fun h => by rw [hret] at h; cases h) hlk
  have hn : narrow t w = w := by rcases ref_cases hw with rfl | ⟨a, rfl⟩ <;> cases t <;> first | rfl | cases ht
  exact ⟨_, _, retOut X hx hret hn (Or.inr (Or.inr (Or.inr (Or.inr ⟨rfl, ht, hw⟩)))) hd hr, hrun, hended, _, _, rfl, hQ, ⟨_, rfl⟩, hW, hsame.mono hc hs⟩
theorem own_retV (X : Stand p l e R s m args below meth c T locs cells slots) (hx : p.tables.exec = Jvm.exec) (hret : meth.sig.returnType = none) (hlk : meth.locks = false) {pc : Nat} {Ls : Array Slot} (hd : decode c.code pc = .ok (.return_, 1))
    {Q : Option Value → Heap → List Loc → Prop} {cs ss : Nat} (hc : cells ≤ cs) (hs : slots ≤ ss) (hQ : Q none T.heap locs) : own_Go p e below (own_Post s Q cs ss) T (mkF m pc Ls []) := by
  obtain ⟨fs, hr, hrun, hended, hW, hsame⟩ := X.leave (v := none) (fun _ => rfl) hlk
  exact ⟨_, _, X.returnOut hx hret hd hr, hrun, hended, _, _, rfl, hQ, ⟨_, rfl⟩, hW, hsame.mono hc hs⟩
theorem own_callS (X : Stand p l e R s m args below meth c T locs cells slots) (hx : p.tables.exec = Jvm.exec) (hZ : Z.Warmed39 s.vm) {own : String} {index : Nat} {y : MethodName} {bytes : ByteArray} {maxL : Nat} {ret : Option FieldType} (hown : s.vm.findClass own = some m.cls)
    (w1 : (Jvm.Cond.methodLink own index y).before a0 Z = true) (w2 : (Jvm.Cond.static y).before a0 Z = true) (w3 : (Jvm.Cond.initialized y.cls).before a0 Z = true) (w4 : (Jvm.Cond.code y bytes maxL ret).before a0 Z = true)
    (hy : y.cls ≠ "java/lang/invoke/MethodHandle" ∧ y.cls ≠ "java/lang/invoke/VarHandle") {rm : Room} {argsL : List Value} {Q : Option Value → Heap → List Loc → Prop} (hM : own_Met l Z y bytes maxL ret [] rm argsL.toArray h rm.cells rm.slots Q) (eT : T.heap = h)
    {g : JFrame} (hg : g.method = m) (hsize : g.locals.size = c.maxLocals) {rest : List Value} (hlen : ∀ sig, parseMethodDescriptor y.desc = some sig → argsL.length = sig.parameters.length) (hstack : g.stack = argsL.reverse ++ rest)
    (hdg : decode c.code g.pc = .ok (.invokestatic index, 3)) {W : Nat} (hW : 2 * g.monitorRoom + (rest.map fun v => v.category).sum ≤ W) (hf : rm.frames + 1 ≤ R.frames) (hl : W + (maxL + 11) + rm.locals ≤ R.locals) (hc : cells + rm.cells ≤ R.cells) (hs : slots + rm.slots ≤ R.slots) :
    ∃ (v : Option Value) (T' : State) (L : List Loc), Q v T'.heap L ∧ Stand p l e R s m args below meth c T' (locs ++ L) (cells + rm.cells) (slots + rm.slots) ∧
      ∀ t, Steps p.tables e below (T'.setTop { g with pc := g.pc + 3, stack := v.toList ++ rest }) t → Steps p.tables e below (T.setTop g) t := by
  obtain ⟨v, _, ⟨T', L', k', n'⟩, -, X', ⟨L, hQ, l1, l2, l3⟩, st⟩ := Jvm.LawKit.callS X hx hown (mvT hZ w1) (mvT hZ w2) (mvT hZ w3) (mvT hZ w4) hy (backOf (W := W) hM hZ w4 w3 hf hl) hg hsize hlen hstack hW hdg (fun _ _ => ⟨rfl, eT, hc, hs⟩)
  dsimp only [Pt.U, Pt.locs, Pt.cells, Pt.slots] at X' l1 l2 l3 st hQ
  subst l1 l2 l3
  exact ⟨v, T', L, hQ, X', st⟩
theorem own_callI (X : Stand p l e R s m args below meth c T locs cells slots) (hx : p.tables.exec = Jvm.exec) (hZ : Z.Warmed39 s.vm) {own : String} {index : Nat} {y : MethodName} {bytes : ByteArray} {maxL : Nat} (hy1 : y.name = "<init>") (hown : s.vm.findClass own = some m.cls)
    (w1 : (Jvm.Cond.methodLink own index y).before a0 Z = true) (w2 : (Jvm.Cond.instanceMethod y).before a0 Z = true) (w3 : (Jvm.Cond.initialized y.cls).before a0 Z = true) (w4 : (Jvm.Cond.code y bytes maxL none).before a0 Z = true)
    (hy : y.cls ≠ "java/lang/invoke/MethodHandle" ∧ y.cls ≠ "java/lang/invoke/VarHandle") {rm : Room} {a : Addr} {argsL : List Value} {Q : Option Value → Heap → List Loc → Prop} (hM : own_Met l Z y bytes maxL none [] rm (.ref a :: argsL).toArray h rm.cells rm.slots Q) (eT : T.heap = h)
    {g : JFrame} (hg : g.method = m) (hsize : g.locals.size = c.maxLocals) {rest : List Value} (hlen : ∀ sig, parseMethodDescriptor y.desc = some sig → argsL.length = sig.parameters.length) (hstack : g.stack = argsL.reverse ++ .ref a :: rest)
    (hdg : decode c.code g.pc = .ok (.invokespecial index, 3)) {W : Nat} (hW : 2 * g.monitorRoom + (rest.map fun v => v.category).sum ≤ W) (hf : rm.frames + 1 ≤ R.frames) (hl : W + (maxL + 11) + rm.locals ≤ R.locals) (hc : cells + rm.cells ≤ R.cells) (hs : slots + rm.slots ≤ R.slots) :
    ∃ (v : Option Value) (T' : State) (L : List Loc), Q v T'.heap L ∧ Stand p l e R s m args below meth c T' (locs ++ L) (cells + rm.cells) (slots + rm.slots) ∧
      ∀ t, Steps p.tables e below (T'.setTop { g with pc := g.pc + 3, stack := v.toList ++ rest }) t → Steps p.tables e below (T.setTop g) t := by
  obtain ⟨v, _, ⟨T', L', k', n'⟩, -, X', ⟨L, hQ, l1, l2, l3⟩, st⟩ := X.specialBack hx hy1 hown (mvT hZ w1) (mvT hZ w2) (mvT hZ w4) hy (backOf (W := W) hM hZ w4 w3 hf hl) hg hsize (Steps.refl _) hlen hstack hW hdg (fun _ _ => ⟨rfl, eT, hc, hs⟩)
  dsimp only [Pt.U, Pt.locs, Pt.cells, Pt.slots] at X' l1 l2 l3 st hQ
  subst l1 l2 l3
  exact ⟨v, T', L, hQ, X', fun _ k => st.trans k⟩
theorem own_callV (X : Stand p l e R s m args below meth c T locs cells slots) (hx : p.tables.exec = Jvm.exec) (hZ : Z.Warmed39 s.vm) {own C : String} {index : Nat} {y z : MethodName} {bytes : ByteArray} {maxL : Nat} {ret : Option FieldType} (hown : s.vm.findClass own = some m.cls)
    (w1 : (Jvm.Cond.methodLink own index y).before a0 Z = true) (w2 : (Jvm.Cond.declares y).before a0 Z = true) (hnf : NotFace s y) (ws : (Jvm.Cond.selects C y z).before a0 Z = true) (wi : (Jvm.Cond.instanceMethod z).before a0 Z = true) (w3 : (Jvm.Cond.initialized z.cls).before a0 Z = true) (w4 : (Jvm.Cond.code z bytes maxL ret).before a0 Z = true)
    (hy : y.cls ≠ "java/lang/invoke/MethodHandle" ∧ y.cls ≠ "java/lang/invoke/VarHandle") {rm : Room} {a : Addr} {argsL : List Value} {Q : Option Value → Heap → List Loc → Prop} (hM : own_Met l Z z bytes maxL ret [] rm (.ref a :: argsL).toArray h rm.cells rm.slots Q) (eT : T.heap = h) (E : Exa Z h a C)
    {g : JFrame} (hg : g.method = m) (hsize : g.locals.size = c.maxLocals) {rest : List Value} (hlen : ∀ sig, parseMethodDescriptor y.desc = some sig → argsL.length = sig.parameters.length) (hstack : g.stack = argsL.reverse ++ .ref a :: rest)
    (hdg : decode c.code g.pc = .ok (.invokevirtual index, 3)) {W : Nat} (hW : 2 * g.monitorRoom + (rest.map fun v => v.category).sum ≤ W) (hf : rm.frames + 1 ≤ R.frames) (hl : W + (maxL + 11) + rm.locals ≤ R.locals) (hc : cells + rm.cells ≤ R.cells) (hs : slots + rm.slots ≤ R.slots) :
    ∃ (v : Option Value) (T' : State) (L : List Loc), Q v T'.heap L ∧ Stand p l e R s m args below meth c T' (locs ++ L) (cells + rm.cells) (slots + rm.slots) ∧
      ∀ t, Steps p.tables e below (T'.setTop { g with pc := g.pc + 3, stack := v.toList ++ rest }) t → Steps p.tables e below (T.setTop g) t := by
  obtain ⟨cq, kq, qa, qb, qc⟩ := isOf hZ eT E
  obtain ⟨v, _, ⟨T', L', k', n'⟩, -, X', ⟨L, hQ, l1, l2, l3⟩, st⟩ := X.virtualBack hx hown (mvT hZ w1) (mvT hZ w2) hnf (mvT hZ ws) (mvT hZ wi) hy (backOf (W := W) hM hZ w4 w3 hf hl) qa qc hg hsize (Steps.refl _) hlen hstack hW hdg (fun _ _ => ⟨rfl, eT, hc, hs⟩)
  dsimp only [Pt.U, Pt.locs, Pt.cells, Pt.slots] at X' l1 l2 l3 st hQ
  subst l1 l2 l3
  exact ⟨v, T', L, hQ, X', fun _ k => st.trans k⟩
theorem own_irem {g : JFrame} {target : State} (X : Stand p l e R s m args below meth c T locs cells slots) (hx : p.tables.exec = Jvm.exec) (hg : g.method = m) {x y : Int32} {rest : List Value} (hd : decode c.code g.pc = .ok (.irem, 1)) (hs : g.stack = .int y :: .int x :: rest) (hy : y ≠ 0)
    (hr : Steps p.tables e below (T.setTop { g with pc := g.pc + 1, stack := .int (x % y) :: rest }) target) : Steps p.tables e below (T.setTop g) target := iremM X hx hg hd hs hy hr
theorem own_lrem {g : JFrame} {target : State} (X : Stand p l e R s m args below meth c T locs cells slots) (hx : p.tables.exec = Jvm.exec) (hg : g.method = m) {x y : Int64} {rest : List Value} (hd : decode c.code g.pc = .ok (.lrem, 1)) (hs : g.stack = .long y :: .long x :: rest) (hy : y ≠ 0)
    (hr : Steps p.tables e below (T.setTop { g with pc := g.pc + 1, stack := .long (x % y) :: rest }) target) : Steps p.tables e below (T.setTop g) target :=
  XS.lrem X.here hx hg hd hs hy (by rw [lrem_mod]; exact hr)
theorem own_fldJ {t : Term} {C n d : String} {a : Addr} {z : Int64} (ht : t.eval args s none [] s = some (.ref a)) (q : (Jvm.Cond.eq (.field t C n d) (.long z)).value args s none s [] = some true) : Fld s s.heap a C n d (.long z) := by
  obtain ⟨x, y, ha, hb, -, k2⟩ := cmp_v (Or.inl q)
  obtain rfl : y = .long z := Option.some.inj (hb.symm.trans (long_at z))
  obtain ⟨w, rfl⟩ := k2
  have e : w = z := gotT (eq_L ha hb) q
  subst e
  exact Fld.start ((fld_at ht).symm.trans ha)
theorem own_ns_exa {a : Addr} {C : String} (E : Exa Z h a C) : ∃ c : Cell, h[a]? = some c ∧ c.vm.isStatics = false := by
  obtain ⟨c, k, h1, -, -, h4, -⟩ := E
  exact ⟨c, h1, h4⟩
theorem own_ns_arv {a : Addr} {k : ClassId} {ty : FieldType} {z : Int32} {vs : List Value} {dv : Value} (F : Arv Z h a k ty z vs dv) : ∃ c : Cell, h[a]? = some c ∧ c.vm.isStatics = false := by
  obtain ⟨c, A, -⟩ := F
  exact ⟨c, A.1, A.plain⟩
theorem own_sta_keep {h' : Heap} {C n d : String} {w : Value} {ws : List Addr} (F : Sta Z h C n d w) (K : Keep h h' ws) (hn : ∀ x ∈ ws, ∃ c : Cell, h[x]? = some c ∧ c.vm.isStatics = false) : Sta Z h' C n d w := by
  obtain ⟨cf, i, k, f, st, cell, h1, h2, h3, h4, h5, h6, h7⟩ := F
  exact ⟨cf, i, k, f, st, cell, h1, h2, h3, h4, K.2.1 st cell h5 (fun q => by obtain ⟨c, e1, e2⟩ := hn st q; cases h5.symm.trans e1; rw [e2] at h6; cases h6), h6, h7⟩
end Own
def own_nx (dn : Bool) (nx la : Int64) : Int64 := if dn = true ∨ nx = la then nx else nx + 1
def own_dn (dn : Bool) (nx la : Int64) : Bool := dn || decide (nx = la)
def own_rw (dn : Bool) (nx rw : Int64) : Int64 := if dn = true then rw else nx
abbrev own_has (f la : Int64) (i : Int) : Prop := f.toInt ≤ la.toInt ∧ f.toInt + i ≤ la.toInt
def own_inv (f la : Int64) (i : Int) (nx : Int64) (dn : Bool) : Prop := (own_has f la i → dn = false ∧ nx.toInt = f.toInt + i) ∧ (¬ own_has f la i → dn = true)
theorem own_inv_0 (f la : Int64) : own_inv f la 0 f (decide (la < f)) := by
  refine ⟨fun h => ?_, fun h => ?_⟩
  · unfold own_has at h
    refine ⟨decide_eq_false (by rw [Int64.lt_iff_toInt_lt]; omega), by omega⟩
  · unfold own_has at h
    exact decide_eq_true (by rw [Int64.lt_iff_toInt_lt]; omega)
theorem own_inv_has {f la : Int64} {i : Int} {nx : Int64} {dn : Bool} (h : own_inv f la i nx dn) : (!dn) = decide (own_has f la i) := by
  by_cases q : own_has f la i
  · rw [(h.1 q).1, decide_eq_true q]; rfl
  · rw [h.2 q, decide_eq_false q]; rfl
theorem own_inv_next {f la : Int64} {i : Int} {nx : Int64} {dn : Bool} (h : own_inv f la i nx dn) (h0 : 0 ≤ i) : own_inv f la (i + 1) (own_nx dn nx la) (own_dn dn nx la) := by
  by_cases q : own_has f la i
  · obtain ⟨rfl, h2⟩ := h.1 q
    by_cases r : nx = la
    · have e1 : own_dn false nx la = true := by simp [own_dn, r]
      have hn : ¬ own_has f la (i + 1) := by
        unfold own_has at q ⊢
        rw [r] at h2
        omega
      exact ⟨fun c => absurd c hn, fun _ => e1⟩
    · have e1 : own_dn false nx la = false := by simp [own_dn, r]
      have e2 : own_nx false nx la = nx + 1 := by simp [own_nx, r]
      have r2 : nx.toInt ≠ la.toInt := fun c => r (Int64.toInt_inj.mp c)
      have e3 := c_ladd nx 1
      have e4 := rng64 (nx + 1)
      have e5 := rng64 la
      have e6 : (1 : Int64).toInt = 1 := by decide
      have e7 := rng64 nx
      rw [e6] at e3
      unfold own_has at q
      have hy : own_has f la (i + 1) := by unfold own_has; omega
      exact ⟨fun _ => ⟨e1, by rw [e2]; omega⟩, fun c => absurd hy c⟩
  · have e1 : own_dn dn nx la = true := by rw [h.2 q]; rfl
    have hn : ¬ own_has f la (i + 1) := by unfold own_has at q ⊢; omega
    exact ⟨fun c => absurd c hn, fun _ => e1⟩
theorem own_inv_row {f la : Int64} {i : Int32} {nx rw : Int64} {dn : Bool} (h : own_inv f la i.toInt nx dn) (hd : (!dn) = true) : own_rw dn nx rw = f + i.toInt64 := by
  have q : own_has f la i.toInt := by
    rw [own_inv_has h] at hd
    exact of_decide_eq_true hd
  obtain ⟨rfl, h2⟩ := h.1 q
  have e3 := c_ladd f i.toInt64
  rw [c_i2l] at e3
  have e4 := rng64 (f + i.toInt64)
  have e7 := rng64 nx
  show nx = f + i.toInt64
  rw [← Int64.toInt_inj]
  omega
theorem d1_0 : decode prog_22_method_1_code 0 = .ok (.aload_n 0, 1) := by decide +kernel
theorem d1_1 : decode prog_22_method_1_code 1 = .ok (.invokespecial 1, 3) := by decide +kernel
theorem d1_4 : decode prog_22_method_1_code 4 = .ok (.aload_n 0, 1) := by decide +kernel
theorem d1_5 : decode prog_22_method_1_code 5 = .ok (.lload_n 3, 1) := by decide +kernel
theorem d1_6 : decode prog_22_method_1_code 6 = .ok (.putfield 7, 3) := by decide +kernel
theorem d1_9 : decode prog_22_method_1_code 9 = .ok (.aload_n 0, 1) := by decide +kernel
theorem d1_10 : decode prog_22_method_1_code 10 = .ok (.lload_n 1, 1) := by decide +kernel
theorem d1_11 : decode prog_22_method_1_code 11 = .ok (.putfield 13, 3) := by decide +kernel
theorem d1_14 : decode prog_22_method_1_code 14 = .ok (.aload_n 0, 1) := by decide +kernel
theorem d1_15 : decode prog_22_method_1_code 15 = .ok (.lload_n 1, 1) := by decide +kernel
theorem d1_16 : decode prog_22_method_1_code 16 = .ok (.lload_n 3, 1) := by decide +kernel
theorem d1_17 : decode prog_22_method_1_code 17 = .ok (.lcmp, 1) := by decide +kernel
theorem d1_18 : decode prog_22_method_1_code 18 = .ok (.ifCond .le 7, 3) := by decide +kernel
theorem d1_21 : decode prog_22_method_1_code 21 = .ok (.iconst 1, 1) := by decide +kernel
theorem d1_22 : decode prog_22_method_1_code 22 = .ok (.goto 4, 3) := by decide +kernel
theorem d1_25 : decode prog_22_method_1_code 25 = .ok (.iconst 0, 1) := by decide +kernel
theorem d1_26 : decode prog_22_method_1_code 26 = .ok (.putfield 16, 3) := by decide +kernel
theorem d1_29 : decode prog_22_method_1_code 29 = .ok (.return_, 1) := by decide +kernel
theorem pn_rm1 : plainName "com/example/table_salt/tablesalt/rows/IdRange" = true := by first | (simp [plainName, overriddenIn]; done) | decide +kernel
theorem ef_rm1 (m : MethodId) (o0 : Addr) (q1 : Int64) (q2 : Int64) : entryFrame m #[(.ref o0), (.long q1), (.long q2)] 5 = mkF m 0 #[.val (.ref o0), .val (.long q1), .second, .val (.long q2), .second] [] := by first | (simp [entryFrame, mkF, argsToLocals, Value.category]; done) | rfl
set_option maxRecDepth 65536 in
set_option maxHeartbeats 40000000 in
theorem rm1 (l : Launch) (Z : State) (a0 : Array Value) (hw : ∀ d ∈ tables_1, d.before a0 Z = true) (o0 : Addr) (q1 : Int64) (q2 : Int64)  (h0 : Heap) (n0 : Nat) (Z0 : n0 ≤ h0.size) (g_o0 : n0 ≤ o0) (P0 : Exa Z h0 o0 "com/example/table_salt/tablesalt/rows/IdRange") (P1 : Fld Z h0 o0 "com/example/table_salt/tablesalt/rows/IdRange" "last" "J" (.long (0 : Int64))) (P2 : Fld Z h0 o0 "com/example/table_salt/tablesalt/rows/IdRange" "next" "J" (.long (0 : Int64))) (P3 : Fld Z h0 o0 "com/example/table_salt/tablesalt/rows/IdRange" "done" "Z" (.int (0 : Int32))) :
    own_Met l Z (⟨"com/example/table_salt/tablesalt/rows/IdRange", "<init>", "(JJ)V"⟩ : MethodName) prog_22_method_1_code 5 none [] ({ frames := 1, cells := 0, slots := 0, locals := 12 } : Room) #[(.ref o0), (.long q1), (.long q2)] h0 0 0 (fun v h L => v = none ∧ Fr n0 L ∧ Keep h0 h [o0] ∧ Exa Z h o0 "com/example/table_salt/tablesalt/rows/IdRange" ∧ Fld Z h o0 "com/example/table_salt/tablesalt/rows/IdRange" "last" "J" (.long q2) ∧ Fld Z h o0 "com/example/table_salt/tablesalt/rows/IdRange" "next" "J" (.long q1) ∧ Fld Z h o0 "com/example/table_salt/tablesalt/rows/IdRange" "done" "Z" (.int (own_b (decide (q2 < q1))))) := by
  refine own_met (plainFor_of_name pn_rm1) ?_
  intro p e s m below meth c s₁ Bd hml0 hZ X0 e0
  have hx := Bd.exec
  have hby := Bd.bytes
  have hml : c.maxLocals = 5 := hml0
  have hown : s.vm.findClass "com/example/table_salt/tablesalt/rows/IdRange" = some m.cls := findClass_of_methodNamed Bd.named
  have hnm := (name_of_methodNamed Bd.named Bd.method).1
  refine own_cast (ef_rm1 m o0 q1 q2) ?_
  generalize hQQ : (fun (v : Option Value) (h : Heap) (L : List Loc) => v = none ∧ Fr n0 L ∧ Keep h0 h [o0] ∧ Exa Z h o0 "com/example/table_salt/tablesalt/rows/IdRange" ∧ Fld Z h o0 "com/example/table_salt/tablesalt/rows/IdRange" "last" "J" (.long q2) ∧ Fld Z h o0 "com/example/table_salt/tablesalt/rows/IdRange" "next" "J" (.long q1) ∧ Fld Z h o0 "com/example/table_salt/tablesalt/rows/IdRange" "done" "Z" (.int (own_b (decide (q2 < q1))))) = QQ
  have N0 := Fr.nil n0
  have K0 := Keep.refl h0 [o0]
  refine own_go (g' := (mkF m 1 #[.val (.ref o0), .val (.long q1), .second, .val (.long q2), .second] [(.ref o0)])) (fun _ k => XS.aloadN X0.here hx rfl (hb hby d1_0) rfl rfl k) ?_
  obtain ⟨T1, X1, e1, st1⟩ := initO X0 hx hZ hown (hw _ (List.mem_of_getElem? (i := 6) rfl)) (hw _ (List.mem_of_getElem? (i := 7) rfl)) (hw _ (List.mem_of_getElem? (i := 8) rfl)) e0 (g := (mkF m 1 #[.val (.ref o0), .val (.long q1), .second, .val (.long q2), .second] [(.ref o0)])) rfl (by rw [hml]; rfl) rfl (hb hby d1_1) (by decide) (W := 0) (by show 2 * 0 + _ ≤ _; exact Nat.le_of_eq rfl) (by decide)
  refine own_go (g' := (mkF m 4 #[.val (.ref o0), .val (.long q1), .second, .val (.long q2), .second] [])) (st1) ?_
  refine own_go (g' := (mkF m 5 #[.val (.ref o0), .val (.long q1), .second, .val (.long q2), .second] [(.ref o0)])) (fun _ k => XS.aloadN X1.here hx rfl (hb hby d1_4) rfl rfl k) ?_
  refine own_go (g' := (mkF m 6 #[.val (.ref o0), .val (.long q1), .second, .val (.long q2), .second] [(.long q2), (.ref o0)])) (fun _ k => XS.lloadN X1.here hx rfl (hb hby d1_5) rfl k) ?_
  obtain ⟨T2, h2, X2, e2, W2, st2⟩ := putF X1 hx hZ hown (host := "") (Or.inl (hw _ (List.mem_of_getElem? (i := 9) rfl))) Via.refl e1 P1 P0 (Or.inr ⟨(hw _ (List.mem_of_getElem? (i := 10) rfl)), rfl, hnm⟩) (hw _ (List.mem_of_getElem? (i := 1) rfl)) (ty := .long) (by decide) rfl rfl (g := (mkF m 6 #[.val (.ref o0), .val (.long q1), .second, .val (.long q2), .second] [(.long q2), (.ref o0)])) rfl rfl (hb hby d1_6)
  have w2 := Fld.same W2 P1
  have N2 := Fr.snoc X2 N0 g_o0
  have Z2 : n0 ≤ h2.size := by rw [W2.size]; exact Z0
  have K2 : Keep h0 h2 [o0] := K0.wr W2 (Or.inl (List.mem_of_getElem? (i := 0) rfl))
  refine own_go (g' := (mkF m 9 #[.val (.ref o0), .val (.long q1), .second, .val (.long q2), .second] [])) (st2) ?_
  refine own_go (g' := (mkF m 10 #[.val (.ref o0), .val (.long q1), .second, .val (.long q2), .second] [(.ref o0)])) (fun _ k => XS.aloadN X2.here hx rfl (hb hby d1_9) rfl rfl k) ?_
  refine own_go (g' := (mkF m 11 #[.val (.ref o0), .val (.long q1), .second, .val (.long q2), .second] [(.long q1), (.ref o0)])) (fun _ k => XS.lloadN X2.here hx rfl (hb hby d1_10) rfl k) ?_
  have f3 : Fld Z h2 o0 "com/example/table_salt/tablesalt/rows/IdRange" "next" "J" (.long (0 : Int64)) := (Fld.other W2 P2 (Or.inr (slot_ne (Or.inl (hw _ (List.mem_of_getElem? (i := 12) rfl))) (Or.inr (hw _ (List.mem_of_getElem? (i := 10) rfl))) (by decide) (t := .long) (t' := .long) (by decide) (by decide))))
  have f4 : Exa Z h2 o0 "com/example/table_salt/tablesalt/rows/IdRange" := (Exa.wr W2 P0)
  obtain ⟨T5, h5, X5, e5, W5, st5⟩ := putF X2 hx hZ hown (host := "") (Or.inl (hw _ (List.mem_of_getElem? (i := 11) rfl))) Via.refl e2 f3 f4 (Or.inl (hw _ (List.mem_of_getElem? (i := 12) rfl))) (hw _ (List.mem_of_getElem? (i := 1) rfl)) (ty := .long) (by decide) rfl rfl (g := (mkF m 11 #[.val (.ref o0), .val (.long q1), .second, .val (.long q2), .second] [(.long q1), (.ref o0)])) rfl rfl (hb hby d1_11)
  have w5 := Fld.same W5 f3
  have N5 := Fr.snoc X5 N2 g_o0
  have Z5 : n0 ≤ h5.size := by rw [W5.size]; exact Z2
  have K5 : Keep h0 h5 [o0] := K2.wr W5 (Or.inl (List.mem_of_getElem? (i := 0) rfl))
  refine own_go (g' := (mkF m 14 #[.val (.ref o0), .val (.long q1), .second, .val (.long q2), .second] [])) (st5) ?_
  refine own_go (g' := (mkF m 15 #[.val (.ref o0), .val (.long q1), .second, .val (.long q2), .second] [(.ref o0)])) (fun _ k => XS.aloadN X5.here hx rfl (hb hby d1_14) rfl rfl k) ?_
  refine own_go (g' := (mkF m 16 #[.val (.ref o0), .val (.long q1), .second, .val (.long q2), .second] [(.long q1), (.ref o0)])) (fun _ k => XS.lloadN X5.here hx rfl (hb hby d1_15) rfl k) ?_
  refine own_go (g' := (mkF m 17 #[.val (.ref o0), .val (.long q1), .second, .val (.long q2), .second] [(.long q2), (.long q1), (.ref o0)])) (fun _ k => XS.lloadN X5.here hx rfl (hb hby d1_16) rfl k) ?_
  refine own_go (g' := (mkF m 18 #[.val (.ref o0), .val (.long q1), .second, .val (.long q2), .second] [(.int (lcmpW q1 q2)), (.ref o0)])) (fun _ k => XS.lcmp X5.here hx rfl (hb hby d1_17) rfl k) ?_
  have J6 : own_Go p e below (own_Post s QQ 0 0) T5 (mkF m 26 #[.val (.ref o0), .val (.long q1), .second, .val (.long q2), .second] [(.int (own_b (decide (q2 < q1)))), (.ref o0)]) := by
    have f7 : Fld Z h5 o0 "com/example/table_salt/tablesalt/rows/IdRange" "done" "Z" (.int (0 : Int32)) := (Fld.other W5 (Fld.other W2 P3 (Or.inr (slot_ne (Or.inl (hw _ (List.mem_of_getElem? (i := 14) rfl))) (Or.inr (hw _ (List.mem_of_getElem? (i := 10) rfl))) (by decide) (t := .boolean) (t' := .long) (by decide) (by decide)))) (Or.inr (slot_ne (Or.inl (hw _ (List.mem_of_getElem? (i := 14) rfl))) (Or.inl (hw _ (List.mem_of_getElem? (i := 12) rfl))) (by decide) (t := .boolean) (t' := .long) (by decide) (by decide))))
    have f8 : Exa Z h5 o0 "com/example/table_salt/tablesalt/rows/IdRange" := (Exa.wr W5 f4)
    obtain ⟨T9, h9, X9, e9, W9, st9⟩ := putFN X5 hx hZ hown (hw _ (List.mem_of_getElem? (i := 13) rfl)) Via.refl e5 f7 f8 (Or.inl (hw _ (List.mem_of_getElem? (i := 14) rfl))) (hw _ (List.mem_of_getElem? (i := 1) rfl)) (ty := .boolean) (v := (.int (own_b (decide (q2 < q1))))) (v' := (.int (own_b (decide (q2 < q1))))) (by decide) (congrArg Value.int (own_b_nar _)) (own_b_fits _) (g := (mkF m 26 #[.val (.ref o0), .val (.long q1), .second, .val (.long q2), .second] [(.int (own_b (decide (q2 < q1)))), (.ref o0)])) rfl rfl (hb hby d1_26)
    have w9 := Fld.same W9 f7
    have N9 := Fr.snoc X9 N5 g_o0
    have Z9 : n0 ≤ h9.size := by rw [W9.size]; exact Z5
    have K9 : Keep h0 h9 [o0] := K5.wr W9 (Or.inl (List.mem_of_getElem? (i := 0) rfl))
    refine own_go (g' := (mkF m 29 #[.val (.ref o0), .val (.long q1), .second, .val (.long q2), .second] [])) (st9) ?_
    refine own_retV X9 hx Bd.returns Bd.notSynchronized (hb hby d1_29) (by decide) (by decide) ?_
    show QQ _ T9.heap _
    rw [e9]
    have f10 : Exa Z h9 o0 "com/example/table_salt/tablesalt/rows/IdRange" := (Exa.wr W9 f8)
    have f11 : Fld Z h9 o0 "com/example/table_salt/tablesalt/rows/IdRange" "last" "J" (.long q2) := (Fld.other W9 (Fld.other W5 w2 (Or.inr (slot_ne (Or.inr (hw _ (List.mem_of_getElem? (i := 10) rfl))) (Or.inl (hw _ (List.mem_of_getElem? (i := 12) rfl))) (by decide) (t := .long) (t' := .long) (by decide) (by decide)))) (Or.inr (slot_ne (Or.inr (hw _ (List.mem_of_getElem? (i := 10) rfl))) (Or.inl (hw _ (List.mem_of_getElem? (i := 14) rfl))) (by decide) (t := .long) (t' := .boolean) (by decide) (by decide))))
    have f12 : Fld Z h9 o0 "com/example/table_salt/tablesalt/rows/IdRange" "next" "J" (.long q1) := (Fld.other W9 w5 (Or.inr (slot_ne (Or.inl (hw _ (List.mem_of_getElem? (i := 12) rfl))) (Or.inl (hw _ (List.mem_of_getElem? (i := 14) rfl))) (by decide) (t := .long) (t' := .boolean) (by decide) (by decide))))
    rw [← hQQ]
    exact ⟨rfl, N9, K9, f10, f11, f12, w9⟩
  by_cases hc13 : q2 < q1
  ·
    refine own_go (g' := (mkF m 21 #[.val (.ref o0), .val (.long q1), .second, .val (.long q2), .second] [(.ref o0)])) (fun _ k => XS.ifNo X5.here hx rfl (hb hby d1_18) rfl ((if0 _ _).trans (tlt ((lw_gt _ _).mpr hc13)).2.2.2) k) ?_
    refine own_go (g' := (mkF m 22 #[.val (.ref o0), .val (.long q1), .second, .val (.long q2), .second] [(.int (1 : Int32)), (.ref o0)])) (fun _ k => XS.iconst X5.here hx rfl (hb hby d1_21) k) ?_
    refine own_go (g' := (mkF m 26 #[.val (.ref o0), .val (.long q1), .second, .val (.long q2), .second] [(.int (1 : Int32)), (.ref o0)])) (fun _ k => XS.goto X5.here hx rfl (pc0 := 22) (pc' := 26) rfl (hb hby d1_22) (by decide) (by decide) k) ?_
    have hE6 : own_b (decide (q2 < q1)) = (1 : Int32) := by simp only [decide_eq_true hc13]; first | done | rfl
    exact own_cast (by rw [hE6]) J6
  ·
    refine own_go (g' := (mkF m 25 #[.val (.ref o0), .val (.long q1), .second, .val (.long q2), .second] [(.ref o0)])) (fun _ k => XS.ifYes X5.here hx rfl (pc0 := 18) (pc' := 25) rfl (hb hby d1_18) rfl ((if0 _ _).trans (flt (mt (lw_gt _ _).mp hc13)).2.2.2) (by decide) (by decide) k) ?_
    refine own_go (g' := (mkF m 26 #[.val (.ref o0), .val (.long q1), .second, .val (.long q2), .second] [(.int (0 : Int32)), (.ref o0)])) (fun _ k => XS.iconst X5.here hx rfl (hb hby d1_25) k) ?_
    have hE6 : own_b (decide (q2 < q1)) = (0 : Int32) := by simp only [decide_eq_false hc13]; first | done | rfl
    exact own_cast (by rw [hE6]) J6
theorem d4_0 : decode method_2_code 0 = .ok (.lload_n 0, 1) := by decide +kernel
theorem d4_1 : decode method_2_code 1 = .ok (.lload_n 2, 1) := by decide +kernel
theorem d4_2 : decode method_2_code 2 = .ok (.lcmp, 1) := by decide +kernel
theorem d4_3 : decode method_2_code 3 = .ok (.ifCond .le 5, 3) := by decide +kernel
theorem d4_6 : decode method_2_code 6 = .ok (.iconst 0, 1) := by decide +kernel
theorem d4_7 : decode method_2_code 7 = .ok (.ireturn, 1) := by decide +kernel
theorem d4_8 : decode method_2_code 8 = .ok (.lload_n 0, 1) := by decide +kernel
theorem d4_9 : decode method_2_code 9 = .ok (.ldc2_w 9, 3) := by decide +kernel
theorem d4_12 : decode method_2_code 12 = .ok (.iload 4, 2) := by decide +kernel
theorem d4_14 : decode method_2_code 14 = .ok (.i2l, 1) := by decide +kernel
theorem d4_15 : decode method_2_code 15 = .ok (.lsub, 1) := by decide +kernel
theorem d4_16 : decode method_2_code 16 = .ok (.lcmp, 1) := by decide +kernel
theorem d4_17 : decode method_2_code 17 = .ok (.ifCond .le 5, 3) := by decide +kernel
theorem d4_20 : decode method_2_code 20 = .ok (.iconst 0, 1) := by decide +kernel
theorem d4_21 : decode method_2_code 21 = .ok (.ireturn, 1) := by decide +kernel
theorem d4_22 : decode method_2_code 22 = .ok (.lload_n 0, 1) := by decide +kernel
theorem d4_23 : decode method_2_code 23 = .ok (.iload 4, 2) := by decide +kernel
theorem d4_25 : decode method_2_code 25 = .ok (.i2l, 1) := by decide +kernel
theorem d4_26 : decode method_2_code 26 = .ok (.ladd, 1) := by decide +kernel
theorem d4_27 : decode method_2_code 27 = .ok (.lload_n 2, 1) := by decide +kernel
theorem d4_28 : decode method_2_code 28 = .ok (.lcmp, 1) := by decide +kernel
theorem d4_29 : decode method_2_code 29 = .ok (.ifCond .gt 7, 3) := by decide +kernel
theorem d4_32 : decode method_2_code 32 = .ok (.iconst 1, 1) := by decide +kernel
theorem d4_33 : decode method_2_code 33 = .ok (.goto 4, 3) := by decide +kernel
theorem d4_36 : decode method_2_code 36 = .ok (.iconst 0, 1) := by decide +kernel
theorem d4_37 : decode method_2_code 37 = .ok (.ireturn, 1) := by decide +kernel
theorem pn_rm4 : plainName "com/example/table_salt/tablesalt/rows/IdRangeNextPinLaw" = true := by first | (simp [plainName, overriddenIn]; done) | decide +kernel
theorem ef_rm4 (m : MethodId) (q0 : Int64) (q1 : Int64) (p2 : Int32) : entryFrame m #[(.long q0), (.long q1), (.int p2)] 5 = mkF m 0 #[.val (.long q0), .second, .val (.long q1), .second, .val (.int p2)] [] := by first | (simp [entryFrame, mkF, argsToLocals, Value.category]; done) | rfl
set_option maxRecDepth 65536 in
set_option maxHeartbeats 40000000 in
theorem rm4 (l : Launch) (Z : State) (a0 : Array Value) (hw : ∀ d ∈ tables_1, d.before a0 Z = true) (q0 : Int64) (q1 : Int64) (p2 : Int32)  (h0 : Heap) (hi : 0 ≤ p2.toInt ∧ p2.toInt ≤ 5) :
    own_Met l Z (⟨"com/example/table_salt/tablesalt/rows/IdRangeNextPinLaw", "has", "(JJI)Z"⟩ : MethodName) method_2_code 5 (some .boolean) [] ({ frames := 0, cells := 0, slots := 0, locals := 0 } : Room) #[(.long q0), (.long q1), (.int p2)] h0 0 0 (fun v h L => v = some (.int (own_b (decide (own_has q0 q1 p2.toInt)))) ∧ h = h0 ∧ L = []) := by
  refine own_met (plainFor_of_name pn_rm4) ?_
  intro p e s m below meth c s₁ Bd hml0 hZ X0 e0
  have hx := Bd.exec
  have hby := Bd.bytes
  have hml : c.maxLocals = 5 := hml0
  have hown : s.vm.findClass "com/example/table_salt/tablesalt/rows/IdRangeNextPinLaw" = some m.cls := findClass_of_methodNamed Bd.named
  have hnm := (name_of_methodNamed Bd.named Bd.method).1
  refine own_cast (ef_rm4 m q0 q1 p2) ?_
  generalize hQQ : (fun (v : Option Value) (h : Heap) (L : List Loc) => v = some (.int (own_b (decide (own_has q0 q1 p2.toInt)))) ∧ h = h0 ∧ L = []) = QQ
  refine own_go (g' := (mkF m 1 #[.val (.long q0), .second, .val (.long q1), .second, .val (.int p2)] [(.long q0)])) (fun _ k => XS.lloadN X0.here hx rfl (hb hby d4_0) rfl k) ?_
  refine own_go (g' := (mkF m 2 #[.val (.long q0), .second, .val (.long q1), .second, .val (.int p2)] [(.long q1), (.long q0)])) (fun _ k => XS.lloadN X0.here hx rfl (hb hby d4_1) rfl k) ?_
  refine own_go (g' := (mkF m 3 #[.val (.long q0), .second, .val (.long q1), .second, .val (.int p2)] [(.int (lcmpW q0 q1))])) (fun _ k => XS.lcmp X0.here hx rfl (hb hby d4_2) rfl k) ?_
  by_cases hc1 : q1 < q0
  ·
    refine own_go (g' := (mkF m 6 #[.val (.long q0), .second, .val (.long q1), .second, .val (.int p2)] [])) (fun _ k => XS.ifNo X0.here hx rfl (hb hby d4_3) rfl ((if0 _ _).trans (tlt ((lw_gt _ _).mpr hc1)).2.2.2) k) ?_
    refine own_go (g' := (mkF m 7 #[.val (.long q0), .second, .val (.long q1), .second, .val (.int p2)] [(.int (0 : Int32))])) (fun _ k => XS.iconst X0.here hx rfl (hb hby d4_6) k) ?_
    refine own_retN X0 hx .boolean Bd.returns Bd.notSynchronized (by simp) (hb hby d4_7) (by decide) (by decide) ?_
    show QQ _ s₁.heap _
    rw [e0]
    rw [← hQQ]
    have hv : own_b (decide (own_has q0 q1 p2.toInt)) = 0 := own_b_f (by have g1 := c_lsub (9223372036854775807 : Int64) p2.toInt64; have g2 := c_ladd q0 p2.toInt64; have g3 : (9223372036854775807 : Int64).toInt = 9223372036854775807 := (by decide); rw [c_i2l] at g1 g2; rw [g3] at g1; have g4 := rng64 ((9223372036854775807 : Int64) - p2.toInt64); have g5 := rng64 (q0 + p2.toInt64); have g6 := rng64 q0; have g7 := rng64 q1; unfold own_has; simp only [decide_eq_true_eq, ← Int32.toInt_inj, ← Int64.toInt_inj, Int32.lt_iff_toInt_lt, Int64.lt_iff_toInt_lt, Int32.le_iff_toInt_le, Int64.le_iff_toInt_le, Int32.reduceToInt, Int64.reduceToInt] at hc1 ⊢ <;> omega)
    exact ⟨by rw [hv]; rfl, rfl, rfl⟩
  ·
    refine own_go (g' := (mkF m 8 #[.val (.long q0), .second, .val (.long q1), .second, .val (.int p2)] [])) (fun _ k => XS.ifYes X0.here hx rfl (pc0 := 3) (pc' := 8) rfl (hb hby d4_3) rfl ((if0 _ _).trans (flt (mt (lw_gt _ _).mp hc1)).2.2.2) (by decide) (by decide) k) ?_
    refine own_go (g' := (mkF m 9 #[.val (.long q0), .second, .val (.long q1), .second, .val (.int p2)] [(.long q0)])) (fun _ k => XS.lloadN X0.here hx rfl (hb hby d4_8) rfl k) ?_
    refine own_go (g' := (mkF m 12 #[.val (.long q0), .second, .val (.long q1), .second, .val (.int p2)] [(.long (9223372036854775807 : Int64)), (.long q0)])) (X0.ldc2Long hx hown (mvT hZ (hw _ (List.mem_of_getElem? (i := 28) rfl))) (g := (mkF m 9 #[.val (.long q0), .second, .val (.long q1), .second, .val (.int p2)] [(.long q0)])) rfl (hb hby d4_9)) ?_
    refine own_go (g' := (mkF m 14 #[.val (.long q0), .second, .val (.long q1), .second, .val (.int p2)] [(.int p2), (.long (9223372036854775807 : Int64)), (.long q0)])) (fun _ k => XS.iload X0.here hx rfl (hb hby d4_12) rfl k) ?_
    refine own_go (g' := (mkF m 15 #[.val (.long q0), .second, .val (.long q1), .second, .val (.int p2)] [(.long (p2.toInt64)), (.long (9223372036854775807 : Int64)), (.long q0)])) (fun _ k => XS.i2l X0.here hx rfl (hb hby d4_14) rfl k) ?_
    refine own_go (g' := (mkF m 16 #[.val (.long q0), .second, .val (.long q1), .second, .val (.int p2)] [(.long ((9223372036854775807 : Int64) - (p2.toInt64))), (.long q0)])) (fun _ k => XS.lsub X0.here hx rfl (hb hby d4_15) rfl k) ?_
    refine own_go (g' := (mkF m 17 #[.val (.long q0), .second, .val (.long q1), .second, .val (.int p2)] [(.int (lcmpW q0 ((9223372036854775807 : Int64) - (p2.toInt64))))])) (fun _ k => XS.lcmp X0.here hx rfl (hb hby d4_16) rfl k) ?_
    by_cases hc2 : ((9223372036854775807 : Int64) - (p2.toInt64)) < q0
    ·
      refine own_go (g' := (mkF m 20 #[.val (.long q0), .second, .val (.long q1), .second, .val (.int p2)] [])) (fun _ k => XS.ifNo X0.here hx rfl (hb hby d4_17) rfl ((if0 _ _).trans (tlt ((lw_gt _ _).mpr hc2)).2.2.2) k) ?_
      refine own_go (g' := (mkF m 21 #[.val (.long q0), .second, .val (.long q1), .second, .val (.int p2)] [(.int (0 : Int32))])) (fun _ k => XS.iconst X0.here hx rfl (hb hby d4_20) k) ?_
      refine own_retN X0 hx .boolean Bd.returns Bd.notSynchronized (by simp) (hb hby d4_21) (by decide) (by decide) ?_
      show QQ _ s₁.heap _
      rw [e0]
      rw [← hQQ]
      have hv : own_b (decide (own_has q0 q1 p2.toInt)) = 0 := own_b_f (by have g1 := c_lsub (9223372036854775807 : Int64) p2.toInt64; have g2 := c_ladd q0 p2.toInt64; have g3 : (9223372036854775807 : Int64).toInt = 9223372036854775807 := (by decide); rw [c_i2l] at g1 g2; rw [g3] at g1; have g4 := rng64 ((9223372036854775807 : Int64) - p2.toInt64); have g5 := rng64 (q0 + p2.toInt64); have g6 := rng64 q0; have g7 := rng64 q1; unfold own_has; simp only [decide_eq_true_eq, ← Int32.toInt_inj, ← Int64.toInt_inj, Int32.lt_iff_toInt_lt, Int64.lt_iff_toInt_lt, Int32.le_iff_toInt_le, Int64.le_iff_toInt_le, Int32.reduceToInt, Int64.reduceToInt] at hc1 hc2 ⊢ <;> omega)
      exact ⟨by rw [hv]; rfl, rfl, rfl⟩
    ·
      refine own_go (g' := (mkF m 22 #[.val (.long q0), .second, .val (.long q1), .second, .val (.int p2)] [])) (fun _ k => XS.ifYes X0.here hx rfl (pc0 := 17) (pc' := 22) rfl (hb hby d4_17) rfl ((if0 _ _).trans (flt (mt (lw_gt _ _).mp hc2)).2.2.2) (by decide) (by decide) k) ?_
      refine own_go (g' := (mkF m 23 #[.val (.long q0), .second, .val (.long q1), .second, .val (.int p2)] [(.long q0)])) (fun _ k => XS.lloadN X0.here hx rfl (hb hby d4_22) rfl k) ?_
      refine own_go (g' := (mkF m 25 #[.val (.long q0), .second, .val (.long q1), .second, .val (.int p2)] [(.int p2), (.long q0)])) (fun _ k => XS.iload X0.here hx rfl (hb hby d4_23) rfl k) ?_
      refine own_go (g' := (mkF m 26 #[.val (.long q0), .second, .val (.long q1), .second, .val (.int p2)] [(.long (p2.toInt64)), (.long q0)])) (fun _ k => XS.i2l X0.here hx rfl (hb hby d4_25) rfl k) ?_
      refine own_go (g' := (mkF m 27 #[.val (.long q0), .second, .val (.long q1), .second, .val (.int p2)] [(.long (q0 + (p2.toInt64)))])) (fun _ k => XS.ladd X0.here hx rfl (hb hby d4_26) rfl k) ?_
      refine own_go (g' := (mkF m 28 #[.val (.long q0), .second, .val (.long q1), .second, .val (.int p2)] [(.long q1), (.long (q0 + (p2.toInt64)))])) (fun _ k => XS.lloadN X0.here hx rfl (hb hby d4_27) rfl k) ?_
      refine own_go (g' := (mkF m 29 #[.val (.long q0), .second, .val (.long q1), .second, .val (.int p2)] [(.int (lcmpW (q0 + (p2.toInt64)) q1))])) (fun _ k => XS.lcmp X0.here hx rfl (hb hby d4_28) rfl k) ?_
      by_cases hc3 : q1 < (q0 + (p2.toInt64))
      ·
        refine own_go (g' := (mkF m 36 #[.val (.long q0), .second, .val (.long q1), .second, .val (.int p2)] [])) (fun _ k => XS.ifYes X0.here hx rfl (pc0 := 29) (pc' := 36) rfl (hb hby d4_29) rfl ((if0 _ _).trans (tlt ((lw_gt _ _).mpr hc3)).2.2.1) (by decide) (by decide) k) ?_
        refine own_go (g' := (mkF m 37 #[.val (.long q0), .second, .val (.long q1), .second, .val (.int p2)] [(.int (0 : Int32))])) (fun _ k => XS.iconst X0.here hx rfl (hb hby d4_36) k) ?_
        refine own_retN X0 hx .boolean Bd.returns Bd.notSynchronized (by simp) (hb hby d4_37) (by decide) (by decide) ?_
        show QQ _ s₁.heap _
        rw [e0]
        rw [← hQQ]
        have hv : own_b (decide (own_has q0 q1 p2.toInt)) = 0 := own_b_f (by have g1 := c_lsub (9223372036854775807 : Int64) p2.toInt64; have g2 := c_ladd q0 p2.toInt64; have g3 : (9223372036854775807 : Int64).toInt = 9223372036854775807 := (by decide); rw [c_i2l] at g1 g2; rw [g3] at g1; have g4 := rng64 ((9223372036854775807 : Int64) - p2.toInt64); have g5 := rng64 (q0 + p2.toInt64); have g6 := rng64 q0; have g7 := rng64 q1; unfold own_has; simp only [decide_eq_true_eq, ← Int32.toInt_inj, ← Int64.toInt_inj, Int32.lt_iff_toInt_lt, Int64.lt_iff_toInt_lt, Int32.le_iff_toInt_le, Int64.le_iff_toInt_le, Int32.reduceToInt, Int64.reduceToInt] at hc1 hc2 hc3 ⊢ <;> omega)
        exact ⟨by rw [hv]; rfl, rfl, rfl⟩
      ·
        refine own_go (g' := (mkF m 32 #[.val (.long q0), .second, .val (.long q1), .second, .val (.int p2)] [])) (fun _ k => XS.ifNo X0.here hx rfl (hb hby d4_29) rfl ((if0 _ _).trans (flt (mt (lw_gt _ _).mp hc3)).2.2.1) k) ?_
        refine own_go (g' := (mkF m 33 #[.val (.long q0), .second, .val (.long q1), .second, .val (.int p2)] [(.int (1 : Int32))])) (fun _ k => XS.iconst X0.here hx rfl (hb hby d4_32) k) ?_
        refine own_go (g' := (mkF m 37 #[.val (.long q0), .second, .val (.long q1), .second, .val (.int p2)] [(.int (1 : Int32))])) (fun _ k => XS.goto X0.here hx rfl (pc0 := 33) (pc' := 37) rfl (hb hby d4_33) (by decide) (by decide) k) ?_
        refine own_retN X0 hx .boolean Bd.returns Bd.notSynchronized (by simp) (hb hby d4_37) (by decide) (by decide) ?_
        show QQ _ s₁.heap _
        rw [e0]
        rw [← hQQ]
        have hv : own_b (decide (own_has q0 q1 p2.toInt)) = 1 := own_b_t (by have g1 := c_lsub (9223372036854775807 : Int64) p2.toInt64; have g2 := c_ladd q0 p2.toInt64; have g3 : (9223372036854775807 : Int64).toInt = 9223372036854775807 := (by decide); rw [c_i2l] at g1 g2; rw [g3] at g1; have g4 := rng64 ((9223372036854775807 : Int64) - p2.toInt64); have g5 := rng64 (q0 + p2.toInt64); have g6 := rng64 q0; have g7 := rng64 q1; unfold own_has; simp only [decide_eq_true_eq, ← Int32.toInt_inj, ← Int64.toInt_inj, Int32.lt_iff_toInt_lt, Int64.lt_iff_toInt_lt, Int32.le_iff_toInt_le, Int64.le_iff_toInt_le, Int32.reduceToInt, Int64.reduceToInt] at hc1 hc2 hc3 ⊢ <;> omega)
        exact ⟨by rw [hv]; rfl, rfl, rfl⟩
theorem d5_0 : decode prog_22_method_2_code 0 = .ok (.aload_n 0, 1) := by decide +kernel
theorem d5_1 : decode prog_22_method_2_code 1 = .ok (.getfield 16, 3) := by decide +kernel
theorem d5_4 : decode prog_22_method_2_code 4 = .ok (.ifCond .eq 5, 3) := by decide +kernel
theorem d5_7 : decode prog_22_method_2_code 7 = .ok (.iconst 0, 1) := by decide +kernel
theorem d5_8 : decode prog_22_method_2_code 8 = .ok (.ireturn, 1) := by decide +kernel
theorem d5_9 : decode prog_22_method_2_code 9 = .ok (.aload_n 1, 1) := by decide +kernel
theorem d5_10 : decode prog_22_method_2_code 10 = .ok (.iconst 0, 1) := by decide +kernel
theorem d5_11 : decode prog_22_method_2_code 11 = .ok (.aload_n 0, 1) := by decide +kernel
theorem d5_12 : decode prog_22_method_2_code 12 = .ok (.getfield 13, 3) := by decide +kernel
theorem d5_15 : decode prog_22_method_2_code 15 = .ok (.lastore, 1) := by decide +kernel
theorem d5_16 : decode prog_22_method_2_code 16 = .ok (.aload_n 0, 1) := by decide +kernel
theorem d5_17 : decode prog_22_method_2_code 17 = .ok (.getfield 13, 3) := by decide +kernel
theorem d5_20 : decode prog_22_method_2_code 20 = .ok (.aload_n 0, 1) := by decide +kernel
theorem d5_21 : decode prog_22_method_2_code 21 = .ok (.getfield 7, 3) := by decide +kernel
theorem d5_24 : decode prog_22_method_2_code 24 = .ok (.lcmp, 1) := by decide +kernel
theorem d5_25 : decode prog_22_method_2_code 25 = .ok (.ifCond .ne 11, 3) := by decide +kernel
theorem d5_28 : decode prog_22_method_2_code 28 = .ok (.aload_n 0, 1) := by decide +kernel
theorem d5_29 : decode prog_22_method_2_code 29 = .ok (.iconst 1, 1) := by decide +kernel
theorem d5_30 : decode prog_22_method_2_code 30 = .ok (.putfield 16, 3) := by decide +kernel
theorem d5_33 : decode prog_22_method_2_code 33 = .ok (.goto 13, 3) := by decide +kernel
theorem d5_36 : decode prog_22_method_2_code 36 = .ok (.aload_n 0, 1) := by decide +kernel
theorem d5_37 : decode prog_22_method_2_code 37 = .ok (.dup, 1) := by decide +kernel
theorem d5_38 : decode prog_22_method_2_code 38 = .ok (.getfield 13, 3) := by decide +kernel
theorem d5_41 : decode prog_22_method_2_code 41 = .ok (.lconst 1, 1) := by decide +kernel
theorem d5_42 : decode prog_22_method_2_code 42 = .ok (.ladd, 1) := by decide +kernel
theorem d5_43 : decode prog_22_method_2_code 43 = .ok (.putfield 13, 3) := by decide +kernel
theorem d5_46 : decode prog_22_method_2_code 46 = .ok (.iconst 1, 1) := by decide +kernel
theorem d5_47 : decode prog_22_method_2_code 47 = .ok (.ireturn, 1) := by decide +kernel
theorem pn_rm5 : plainName "com/example/table_salt/tablesalt/rows/IdRange" = true := by first | (simp [plainName, overriddenIn]; done) | decide +kernel
theorem ef_rm5 (m : MethodId) (o0 : Addr) (o1 : Addr) : entryFrame m #[(.ref o0), (.ref o1)] 2 = mkF m 0 #[.val (.ref o0), .val (.ref o1)] [] := by first | (simp [entryFrame, mkF, argsToLocals, Value.category]; done) | rfl
set_option maxRecDepth 65536 in
set_option maxHeartbeats 40000000 in
theorem rm5 (l : Launch) (Z : State) (a0 : Array Value) (hw : ∀ d ∈ tables_1, d.before a0 Z = true) (o0 : Addr) (o1 : Addr) (nx : Int64) (dn : Bool) (rw : Int64) (kk : ClassId) (la : Int64) (h0 : Heap) (n0 : Nat) (Z0 : n0 ≤ h0.size) (g_o0 : n0 ≤ o0) (g_o1 : n0 ≤ o1) (P0 : Exa Z h0 o0 "com/example/table_salt/tablesalt/rows/IdRange") (P1 : Fld Z h0 o0 "com/example/table_salt/tablesalt/rows/IdRange" "last" "J" (.long la)) (P2 : Fld Z h0 o0 "com/example/table_salt/tablesalt/rows/IdRange" "next" "J" (.long nx)) (P3 : Fld Z h0 o0 "com/example/table_salt/tablesalt/rows/IdRange" "done" "Z" (.int (own_b dn))) (P4 : Arv Z h0 o1 kk .long (1 : Int32) [(.long rw)] (.long (0 : Int64))) (hne : o0 ≠ o1) :
    own_Met l Z (⟨"com/example/table_salt/tablesalt/rows/IdRange", "next", "([J)Z"⟩ : MethodName) prog_22_method_2_code 2 (some .boolean) [] ({ frames := 0, cells := 0, slots := 0, locals := 0 } : Room) #[(.ref o0), (.ref o1)] h0 0 0 (fun v h L => v = some (.int (own_b (!dn))) ∧ Fr n0 L ∧ Keep h0 h [o0, o1] ∧ Exa Z h o0 "com/example/table_salt/tablesalt/rows/IdRange" ∧ Fld Z h o0 "com/example/table_salt/tablesalt/rows/IdRange" "last" "J" (.long la) ∧ Fld Z h o0 "com/example/table_salt/tablesalt/rows/IdRange" "next" "J" (.long (own_nx dn nx la)) ∧ Fld Z h o0 "com/example/table_salt/tablesalt/rows/IdRange" "done" "Z" (.int (own_b (own_dn dn nx la))) ∧ Arv Z h o1 kk .long (1 : Int32) [(.long (own_rw dn nx rw))] (.long (0 : Int64))) := by
  refine own_met (plainFor_of_name pn_rm5) ?_
  intro p e s m below meth c s₁ Bd hml0 hZ X0 e0
  have hx := Bd.exec
  have hby := Bd.bytes
  have hml : c.maxLocals = 2 := hml0
  have hown : s.vm.findClass "com/example/table_salt/tablesalt/rows/IdRange" = some m.cls := findClass_of_methodNamed Bd.named
  have hnm := (name_of_methodNamed Bd.named Bd.method).1
  refine own_cast (ef_rm5 m o0 o1) ?_
  generalize hQQ : (fun (v : Option Value) (h : Heap) (L : List Loc) => v = some (.int (own_b (!dn))) ∧ Fr n0 L ∧ Keep h0 h [o0, o1] ∧ Exa Z h o0 "com/example/table_salt/tablesalt/rows/IdRange" ∧ Fld Z h o0 "com/example/table_salt/tablesalt/rows/IdRange" "last" "J" (.long la) ∧ Fld Z h o0 "com/example/table_salt/tablesalt/rows/IdRange" "next" "J" (.long (own_nx dn nx la)) ∧ Fld Z h o0 "com/example/table_salt/tablesalt/rows/IdRange" "done" "Z" (.int (own_b (own_dn dn nx la))) ∧ Arv Z h o1 kk .long (1 : Int32) [(.long (own_rw dn nx rw))] (.long (0 : Int64))) = QQ
  have N0 := Fr.nil n0
  have K0 := Keep.refl h0 [o0, o1]
  refine own_go (g' := (mkF m 1 #[.val (.ref o0), .val (.ref o1)] [(.ref o0)])) (fun _ k => XS.aloadN X0.here hx rfl (hb hby d5_0) rfl rfl k) ?_
  obtain ⟨T1, X1, e1, st1⟩ := getF X0 hx hZ hown (host := "") (Or.inl (hw _ (List.mem_of_getElem? (i := 13) rfl))) Via.refl e0 P3 (g := (mkF m 1 #[.val (.ref o0), .val (.ref o1)] [(.ref o0)])) rfl rfl (hb hby d5_1)
  refine own_go (g' := (mkF m 4 #[.val (.ref o0), .val (.ref o1)] [(.int (own_b dn))])) (st1) ?_
  by_cases hc2 : dn = true
  ·
    refine own_go (g' := (mkF m 7 #[.val (.ref o0), .val (.ref o1)] [])) (fun _ k => XS.ifNo X1.here hx rfl (hb hby d5_4) rfl ((if0 _ _).trans (feq (own_b_n hc2)).1) k) ?_
    refine own_go (g' := (mkF m 8 #[.val (.ref o0), .val (.ref o1)] [(.int (0 : Int32))])) (fun _ k => XS.iconst X1.here hx rfl (hb hby d5_7) k) ?_
    refine own_retN X1 hx .boolean Bd.returns Bd.notSynchronized (by simp) (hb hby d5_8) (by decide) (by decide) ?_
    show QQ _ T1.heap _
    rw [e1]
    have hq : own_b (!dn) = (0 : Int32) := by simp [own_b, hc2]
    have c3 : Fld Z h0 o0 "com/example/table_salt/tablesalt/rows/IdRange" "next" "J" (.long (own_nx dn nx la)) := by
      rw [show ((.long (own_nx dn nx la)) : Value) = (.long nx) from (by simp [own_nx, own_dn, own_rw, own_b, hc2])]
      exact P2
    have c4 : Fld Z h0 o0 "com/example/table_salt/tablesalt/rows/IdRange" "done" "Z" (.int (own_b (own_dn dn nx la))) := by
      rw [show ((.int (own_b (own_dn dn nx la))) : Value) = (.int (own_b dn)) from (by simp [own_nx, own_dn, own_rw, own_b, hc2])]
      exact P3
    have c5 : Arv Z h0 o1 kk .long (1 : Int32) [(.long (own_rw dn nx rw))] (.long (0 : Int64)) := by
      rw [show ([(.long (own_rw dn nx rw))] : List Value) = [(.long rw)] from (by simp [own_nx, own_dn, own_rw, own_b, hc2])]
      exact P4
    rw [← hQQ]
    exact ⟨by rw [hq]; rfl, N0, K0, P0, P1, c3, c4, c5⟩
  ·
    refine own_go (g' := (mkF m 9 #[.val (.ref o0), .val (.ref o1)] [])) (fun _ k => XS.ifYes X1.here hx rfl (pc0 := 4) (pc' := 9) rfl (hb hby d5_4) rfl ((if0 _ _).trans (teq (own_b_f hc2)).1) (by decide) (by decide) k) ?_
    refine own_go (g' := (mkF m 10 #[.val (.ref o0), .val (.ref o1)] [(.ref o1)])) (fun _ k => XS.aloadN X1.here hx rfl (hb hby d5_9) rfl rfl k) ?_
    refine own_go (g' := (mkF m 11 #[.val (.ref o0), .val (.ref o1)] [(.int (0 : Int32)), (.ref o1)])) (fun _ k => XS.iconst X1.here hx rfl (hb hby d5_10) k) ?_
    refine own_go (g' := (mkF m 12 #[.val (.ref o0), .val (.ref o1)] [(.ref o0), (.int (0 : Int32)), (.ref o1)])) (fun _ k => XS.aloadN X1.here hx rfl (hb hby d5_11) rfl rfl k) ?_
    obtain ⟨T6, X6, e6, st6⟩ := getF X1 hx hZ hown (host := "") (Or.inl (hw _ (List.mem_of_getElem? (i := 11) rfl))) Via.refl e1 P2 (g := (mkF m 12 #[.val (.ref o0), .val (.ref o1)] [(.ref o0), (.int (0 : Int32)), (.ref o1)])) rfl rfl (hb hby d5_12)
    refine own_go (g' := (mkF m 15 #[.val (.ref o0), .val (.ref o1)] [(.long nx), (.int (0 : Int32)), (.ref o1)])) (st6) ?_
    obtain ⟨cl7, Ar7, qk7, sz7, nn7, Hs7, Gs7⟩ := id P4
    have hin7 : ¬ ((0 : Int32) < 0 ∨ cl7.slots.size ≤ ((0 : Int32)).toNatClampNeg) := inb_of sz7 ⟨by decide, by decide⟩
    obtain ⟨T7, h7, X7, e7, W7, st7⟩ := stJ X6 hx hZ e6 Ar7 (j := (0 : Int32)) hin7 (g := (mkF m 15 #[.val (.ref o0), .val (.ref o1)] [(.long nx), (.int (0 : Int32)), (.ref o1)])) rfl rfl (hb hby d5_15)
    have V7 : Arv Z h7 o1 kk .long (1 : Int32) [(.long nx)] (.long (0 : Int64)) := Arv.set Ar7 qk7 sz7 nn7 Hs7 Gs7 rfl W7 0 rfl (Nat.le_of_ble_eq_true rfl)
    have N7 := Fr.snoc X7 N0 g_o1
    have Z7 : n0 ≤ h7.size := by rw [W7.size]; exact Z0
    have K7 : Keep h0 h7 [o0, o1] := K0.wr W7 (Or.inl (List.mem_of_getElem? (i := 1) rfl))
    refine own_go (g' := (mkF m 16 #[.val (.ref o0), .val (.ref o1)] [])) (st7) ?_
    refine own_go (g' := (mkF m 17 #[.val (.ref o0), .val (.ref o1)] [(.ref o0)])) (fun _ k => XS.aloadN X7.here hx rfl (hb hby d5_16) rfl rfl k) ?_
    have f8 : Fld Z h7 o0 "com/example/table_salt/tablesalt/rows/IdRange" "next" "J" (.long nx) := (Fld.other W7 P2 (Or.inl hne))
    obtain ⟨T9, X9, e9, st9⟩ := getF X7 hx hZ hown (host := "") (Or.inl (hw _ (List.mem_of_getElem? (i := 11) rfl))) Via.refl e7 f8 (g := (mkF m 17 #[.val (.ref o0), .val (.ref o1)] [(.ref o0)])) rfl rfl (hb hby d5_17)
    refine own_go (g' := (mkF m 20 #[.val (.ref o0), .val (.ref o1)] [(.long nx)])) (st9) ?_
    refine own_go (g' := (mkF m 21 #[.val (.ref o0), .val (.ref o1)] [(.ref o0), (.long nx)])) (fun _ k => XS.aloadN X9.here hx rfl (hb hby d5_20) rfl rfl k) ?_
    have f10 : Fld Z h7 o0 "com/example/table_salt/tablesalt/rows/IdRange" "last" "J" (.long la) := (Fld.other W7 P1 (Or.inl hne))
    obtain ⟨T11, X11, e11, st11⟩ := getF X9 hx hZ hown (host := "") (Or.inl (hw _ (List.mem_of_getElem? (i := 9) rfl))) Via.refl e9 f10 (g := (mkF m 21 #[.val (.ref o0), .val (.ref o1)] [(.ref o0), (.long nx)])) rfl rfl (hb hby d5_21)
    refine own_go (g' := (mkF m 24 #[.val (.ref o0), .val (.ref o1)] [(.long la), (.long nx)])) (st11) ?_
    refine own_go (g' := (mkF m 25 #[.val (.ref o0), .val (.ref o1)] [(.int (lcmpW nx la))])) (fun _ k => XS.lcmp X11.here hx rfl (hb hby d5_24) rfl k) ?_
    by_cases hc12 : nx = la
    ·
      refine own_go (g' := (mkF m 28 #[.val (.ref o0), .val (.ref o1)] [])) (fun _ k => XS.ifNo X11.here hx rfl (hb hby d5_25) rfl ((if0 _ _).trans (teq ((lw_eq _ _).mpr hc12)).2) k) ?_
      refine own_go (g' := (mkF m 29 #[.val (.ref o0), .val (.ref o1)] [(.ref o0)])) (fun _ k => XS.aloadN X11.here hx rfl (hb hby d5_28) rfl rfl k) ?_
      refine own_go (g' := (mkF m 30 #[.val (.ref o0), .val (.ref o1)] [(.int (1 : Int32)), (.ref o0)])) (fun _ k => XS.iconst X11.here hx rfl (hb hby d5_29) k) ?_
      have f13 : Fld Z h7 o0 "com/example/table_salt/tablesalt/rows/IdRange" "done" "Z" (.int (own_b dn)) := (Fld.other W7 P3 (Or.inl hne))
      have f14 : Exa Z h7 o0 "com/example/table_salt/tablesalt/rows/IdRange" := (Exa.wr W7 P0)
      obtain ⟨T15, h15, X15, e15, W15, st15⟩ := putFN X11 hx hZ hown (hw _ (List.mem_of_getElem? (i := 13) rfl)) Via.refl e11 f13 f14 (Or.inl (hw _ (List.mem_of_getElem? (i := 14) rfl))) (hw _ (List.mem_of_getElem? (i := 1) rfl)) (ty := .boolean) (v := (.int (1 : Int32))) (v' := (.int (1 : Int32))) (by decide) rfl rfl (g := (mkF m 30 #[.val (.ref o0), .val (.ref o1)] [(.int (1 : Int32)), (.ref o0)])) rfl rfl (hb hby d5_30)
      have w15 := Fld.same W15 f13
      have N15 := Fr.snoc X15 N7 g_o0
      have Z15 : n0 ≤ h15.size := by rw [W15.size]; exact Z7
      have K15 : Keep h0 h15 [o0, o1] := K7.wr W15 (Or.inl (List.mem_of_getElem? (i := 0) rfl))
      refine own_go (g' := (mkF m 33 #[.val (.ref o0), .val (.ref o1)] [])) (st15) ?_
      refine own_go (g' := (mkF m 46 #[.val (.ref o0), .val (.ref o1)] [])) (fun _ k => XS.goto X15.here hx rfl (pc0 := 33) (pc' := 46) rfl (hb hby d5_33) (by decide) (by decide) k) ?_
      refine own_go (g' := (mkF m 47 #[.val (.ref o0), .val (.ref o1)] [(.int (1 : Int32))])) (fun _ k => XS.iconst X15.here hx rfl (hb hby d5_46) k) ?_
      refine own_retN X15 hx .boolean Bd.returns Bd.notSynchronized (by simp) (hb hby d5_47) (by decide) (by decide) ?_
      show QQ _ T15.heap _
      rw [e15]
      have hq : own_b (!dn) = (1 : Int32) := by simp [own_b, hc2, hc12]
      have f16 : Exa Z h15 o0 "com/example/table_salt/tablesalt/rows/IdRange" := (Exa.wr W15 f14)
      have f17 : Fld Z h15 o0 "com/example/table_salt/tablesalt/rows/IdRange" "last" "J" (.long la) := (Fld.other W15 f10 (Or.inr (slot_ne (Or.inr (hw _ (List.mem_of_getElem? (i := 10) rfl))) (Or.inl (hw _ (List.mem_of_getElem? (i := 14) rfl))) (by decide) (t := .long) (t' := .boolean) (by decide) (by decide))))
      have f18 : Fld Z h15 o0 "com/example/table_salt/tablesalt/rows/IdRange" "next" "J" (.long nx) := (Fld.other W15 f8 (Or.inr (slot_ne (Or.inl (hw _ (List.mem_of_getElem? (i := 12) rfl))) (Or.inl (hw _ (List.mem_of_getElem? (i := 14) rfl))) (by decide) (t := .long) (t' := .boolean) (by decide) (by decide))))
      have c19 : Fld Z h15 o0 "com/example/table_salt/tablesalt/rows/IdRange" "next" "J" (.long (own_nx dn nx la)) := by
        rw [show ((.long (own_nx dn nx la)) : Value) = (.long nx) from (by simp [own_nx, own_dn, own_rw, own_b, hc2, hc12])]
        exact f18
      have c20 : Fld Z h15 o0 "com/example/table_salt/tablesalt/rows/IdRange" "done" "Z" (.int (own_b (own_dn dn nx la))) := by
        rw [show ((.int (own_b (own_dn dn nx la))) : Value) = (.int (1 : Int32)) from (by simp [own_nx, own_dn, own_rw, own_b, hc2, hc12])]
        exact w15
      have f21 : Arv Z h15 o1 kk .long (1 : Int32) [(.long nx)] (.long (0 : Int64)) := (Arv.other V7 W15 (Ne.symm hne))
      have c22 : Arv Z h15 o1 kk .long (1 : Int32) [(.long (own_rw dn nx rw))] (.long (0 : Int64)) := by
        rw [show ([(.long (own_rw dn nx rw))] : List Value) = [(.long nx)] from (by simp [own_nx, own_dn, own_rw, own_b, hc2, hc12])]
        exact f21
      rw [← hQQ]
      exact ⟨by rw [hq]; rfl, N15, K15, f16, f17, c19, c20, c22⟩
    ·
      refine own_go (g' := (mkF m 36 #[.val (.ref o0), .val (.ref o1)] [])) (fun _ k => XS.ifYes X11.here hx rfl (pc0 := 25) (pc' := 36) rfl (hb hby d5_25) rfl ((if0 _ _).trans (feq (mt (lw_eq _ _).mp hc12)).2) (by decide) (by decide) k) ?_
      refine own_go (g' := (mkF m 37 #[.val (.ref o0), .val (.ref o1)] [(.ref o0)])) (fun _ k => XS.aloadN X11.here hx rfl (hb hby d5_36) rfl rfl k) ?_
      refine own_go (g' := (mkF m 38 #[.val (.ref o0), .val (.ref o1)] [(.ref o0), (.ref o0)])) (fun _ k => XS.dup X11.here hx rfl (hb hby d5_37) rfl rfl k) ?_
      obtain ⟨T23, X23, e23, st23⟩ := getF X11 hx hZ hown (host := "") (Or.inl (hw _ (List.mem_of_getElem? (i := 11) rfl))) Via.refl e11 f8 (g := (mkF m 38 #[.val (.ref o0), .val (.ref o1)] [(.ref o0), (.ref o0)])) rfl rfl (hb hby d5_38)
      refine own_go (g' := (mkF m 41 #[.val (.ref o0), .val (.ref o1)] [(.long nx), (.ref o0)])) (st23) ?_
      refine own_go (g' := (mkF m 42 #[.val (.ref o0), .val (.ref o1)] [(.long (1 : Int64)), (.long nx), (.ref o0)])) (fun _ k => XS.lconst X23.here hx rfl (hb hby d5_41) k) ?_
      refine own_go (g' := (mkF m 43 #[.val (.ref o0), .val (.ref o1)] [(.long (nx + (1 : Int64))), (.ref o0)])) (fun _ k => XS.ladd X23.here hx rfl (hb hby d5_42) rfl k) ?_
      have f24 : Exa Z h7 o0 "com/example/table_salt/tablesalt/rows/IdRange" := (Exa.wr W7 P0)
      obtain ⟨T25, h25, X25, e25, W25, st25⟩ := putF X23 hx hZ hown (host := "") (Or.inl (hw _ (List.mem_of_getElem? (i := 11) rfl))) Via.refl e23 f8 f24 (Or.inl (hw _ (List.mem_of_getElem? (i := 12) rfl))) (hw _ (List.mem_of_getElem? (i := 1) rfl)) (ty := .long) (by decide) rfl rfl (g := (mkF m 43 #[.val (.ref o0), .val (.ref o1)] [(.long (nx + (1 : Int64))), (.ref o0)])) rfl rfl (hb hby d5_43)
      have w25 := Fld.same W25 f8
      have N25 := Fr.snoc X25 N7 g_o0
      have Z25 : n0 ≤ h25.size := by rw [W25.size]; exact Z7
      have K25 : Keep h0 h25 [o0, o1] := K7.wr W25 (Or.inl (List.mem_of_getElem? (i := 0) rfl))
      refine own_go (g' := (mkF m 46 #[.val (.ref o0), .val (.ref o1)] [])) (st25) ?_
      refine own_go (g' := (mkF m 47 #[.val (.ref o0), .val (.ref o1)] [(.int (1 : Int32))])) (fun _ k => XS.iconst X25.here hx rfl (hb hby d5_46) k) ?_
      refine own_retN X25 hx .boolean Bd.returns Bd.notSynchronized (by simp) (hb hby d5_47) (by decide) (by decide) ?_
      show QQ _ T25.heap _
      rw [e25]
      have hq : own_b (!dn) = (1 : Int32) := by simp [own_b, hc2, hc12]
      have f26 : Exa Z h25 o0 "com/example/table_salt/tablesalt/rows/IdRange" := (Exa.wr W25 f24)
      have f27 : Fld Z h25 o0 "com/example/table_salt/tablesalt/rows/IdRange" "last" "J" (.long la) := (Fld.other W25 f10 (Or.inr (slot_ne (Or.inr (hw _ (List.mem_of_getElem? (i := 10) rfl))) (Or.inl (hw _ (List.mem_of_getElem? (i := 12) rfl))) (by decide) (t := .long) (t' := .long) (by decide) (by decide))))
      have c28 : Fld Z h25 o0 "com/example/table_salt/tablesalt/rows/IdRange" "next" "J" (.long (own_nx dn nx la)) := by
        rw [show ((.long (own_nx dn nx la)) : Value) = (.long (nx + (1 : Int64))) from (by simp [own_nx, own_dn, own_rw, own_b, hc2, hc12])]
        exact w25
      have f29 : Fld Z h25 o0 "com/example/table_salt/tablesalt/rows/IdRange" "done" "Z" (.int (own_b dn)) := (Fld.other W25 (Fld.other W7 P3 (Or.inl hne)) (Or.inr (slot_ne (Or.inl (hw _ (List.mem_of_getElem? (i := 14) rfl))) (Or.inl (hw _ (List.mem_of_getElem? (i := 12) rfl))) (by decide) (t := .boolean) (t' := .long) (by decide) (by decide))))
      have c30 : Fld Z h25 o0 "com/example/table_salt/tablesalt/rows/IdRange" "done" "Z" (.int (own_b (own_dn dn nx la))) := by
        rw [show ((.int (own_b (own_dn dn nx la))) : Value) = (.int (own_b dn)) from (by simp [own_nx, own_dn, own_rw, own_b, hc2, hc12])]
        exact f29
      have f31 : Arv Z h25 o1 kk .long (1 : Int32) [(.long nx)] (.long (0 : Int64)) := (Arv.other V7 W25 (Ne.symm hne))
      have c32 : Arv Z h25 o1 kk .long (1 : Int32) [(.long (own_rw dn nx rw))] (.long (0 : Int64)) := by
        rw [show ([(.long (own_rw dn nx rw))] : List Value) = [(.long nx)] from (by simp [own_nx, own_dn, own_rw, own_b, hc2, hc12])]
        exact f31
      rw [← hQQ]
      exact ⟨by rw [hq]; rfl, N25, K25, f26, f27, c28, c30, c32⟩
theorem d3_0 : decode method_3_code 0 = .ok (.lload_n 2, 1) := by decide +kernel
theorem d3_1 : decode method_3_code 1 = .ok (.lload 4, 2) := by decide +kernel
theorem d3_3 : decode method_3_code 3 = .ok (.iload 6, 2) := by decide +kernel
theorem d3_5 : decode method_3_code 5 = .ok (.invokestatic 11, 3) := by decide +kernel
theorem d3_8 : decode method_3_code 8 = .ok (.istore 7, 2) := by decide +kernel
theorem d3_10 : decode method_3_code 10 = .ok (.aload_n 0, 1) := by decide +kernel
theorem d3_11 : decode method_3_code 11 = .ok (.aload_n 1, 1) := by decide +kernel
theorem d3_12 : decode method_3_code 12 = .ok (.invokevirtual 17, 3) := by decide +kernel
theorem d3_15 : decode method_3_code 15 = .ok (.istore 8, 2) := by decide +kernel
theorem d3_17 : decode method_3_code 17 = .ok (.iload 8, 2) := by decide +kernel
theorem d3_19 : decode method_3_code 19 = .ok (.iload 7, 2) := by decide +kernel
theorem d3_21 : decode method_3_code 21 = .ok (.if_icmp .eq 5, 3) := by decide +kernel
theorem d3_26 : decode method_3_code 26 = .ok (.iload 8, 2) := by decide +kernel
theorem d3_28 : decode method_3_code 28 = .ok (.ifCond .eq 21, 3) := by decide +kernel
theorem d3_31 : decode method_3_code 31 = .ok (.aload_n 1, 1) := by decide +kernel
theorem d3_32 : decode method_3_code 32 = .ok (.iconst 0, 1) := by decide +kernel
theorem d3_33 : decode method_3_code 33 = .ok (.laload, 1) := by decide +kernel
theorem d3_34 : decode method_3_code 34 = .ok (.lload_n 2, 1) := by decide +kernel
theorem d3_35 : decode method_3_code 35 = .ok (.iload 6, 2) := by decide +kernel
theorem d3_37 : decode method_3_code 37 = .ok (.i2l, 1) := by decide +kernel
theorem d3_38 : decode method_3_code 38 = .ok (.ladd, 1) := by decide +kernel
theorem d3_39 : decode method_3_code 39 = .ok (.lcmp, 1) := by decide +kernel
theorem d3_40 : decode method_3_code 40 = .ok (.ifCond .ne 7, 3) := by decide +kernel
theorem d3_43 : decode method_3_code 43 = .ok (.iconst 1, 1) := by decide +kernel
theorem d3_44 : decode method_3_code 44 = .ok (.goto 4, 3) := by decide +kernel
theorem d3_48 : decode method_3_code 48 = .ok (.ireturn, 1) := by decide +kernel
theorem d3_49 : decode method_3_code 49 = .ok (.iconst 1, 1) := by decide +kernel
theorem d3_50 : decode method_3_code 50 = .ok (.ireturn, 1) := by decide +kernel
theorem pn_rm3 : plainName "com/example/table_salt/tablesalt/rows/IdRangeNextPinLaw" = true := by first | (simp [plainName, overriddenIn]; done) | decide +kernel
theorem pd3_0 : parseMethodDescriptor "(JJI)Z" = some ⟨[.long, .long, .int], some .boolean⟩ := by decide +kernel
theorem pd3_1 : parseMethodDescriptor "([J)Z" = some ⟨[(.array .long)], some .boolean⟩ := by decide +kernel
theorem ef_rm3 (m : MethodId) (o0 : Addr) (o1 : Addr) (q2 : Int64) (q3 : Int64) (p4 : Int32) : entryFrame m #[(.ref o0), (.ref o1), (.long q2), (.long q3), (.int p4)] 9 = mkF m 0 #[.val (.ref o0), .val (.ref o1), .val (.long q2), .second, .val (.long q3), .second, .val (.int p4), .unset, .unset] [] := by first | (simp [entryFrame, mkF, argsToLocals, Value.category]; done) | rfl
set_option maxRecDepth 65536 in
set_option maxHeartbeats 40000000 in
theorem rm3 (l : Launch) (Z : State) (a0 : Array Value) (hw : ∀ d ∈ tables_1, d.before a0 Z = true) (o0 : Addr) (o1 : Addr) (q2 : Int64) (q3 : Int64) (p4 : Int32) (nx : Int64) (dn : Bool) (rw : Int64) (kk : ClassId) (h0 : Heap) (n0 : Nat) (Z0 : n0 ≤ h0.size) (g_o0 : n0 ≤ o0) (g_o1 : n0 ≤ o1) (P0 : Exa Z h0 o0 "com/example/table_salt/tablesalt/rows/IdRange") (P1 : Fld Z h0 o0 "com/example/table_salt/tablesalt/rows/IdRange" "last" "J" (.long q3)) (P2 : Fld Z h0 o0 "com/example/table_salt/tablesalt/rows/IdRange" "next" "J" (.long nx)) (P3 : Fld Z h0 o0 "com/example/table_salt/tablesalt/rows/IdRange" "done" "Z" (.int (own_b dn))) (P4 : Arv Z h0 o1 kk .long (1 : Int32) [(.long rw)] (.long (0 : Int64))) (hne : o0 ≠ o1) (hi : 0 ≤ p4.toInt ∧ p4.toInt ≤ 5) (hinv : own_inv q2 q3 p4.toInt nx dn) :
    own_Met l Z (⟨"com/example/table_salt/tablesalt/rows/IdRangeNextPinLaw", "step", "(Lcom/example/table_salt/tablesalt/rows/IdRange;[JJJI)Z"⟩ : MethodName) method_3_code 9 (some .boolean) [] ({ frames := 1, cells := 0, slots := 0, locals := 16 } : Room) #[(.ref o0), (.ref o1), (.long q2), (.long q3), (.int p4)] h0 0 0 (fun v h L => v = some (.int (1 : Int32)) ∧ Fr n0 L ∧ Keep h0 h [o0, o1] ∧ ∃ (nx' : Int64), ∃ (dn' : Bool), ∃ (rw' : Int64), own_inv q2 q3 (p4.toInt + 1) nx' dn' ∧ Exa Z h o0 "com/example/table_salt/tablesalt/rows/IdRange" ∧ Fld Z h o0 "com/example/table_salt/tablesalt/rows/IdRange" "last" "J" (.long q3) ∧ Fld Z h o0 "com/example/table_salt/tablesalt/rows/IdRange" "next" "J" (.long nx') ∧ Fld Z h o0 "com/example/table_salt/tablesalt/rows/IdRange" "done" "Z" (.int (own_b dn')) ∧ Arv Z h o1 kk .long (1 : Int32) [(.long rw')] (.long (0 : Int64))) := by
  refine own_met (plainFor_of_name pn_rm3) ?_
  intro p e s m below meth c s₁ Bd hml0 hZ X0 e0
  have hx := Bd.exec
  have hby := Bd.bytes
  have hml : c.maxLocals = 9 := hml0
  have hown : s.vm.findClass "com/example/table_salt/tablesalt/rows/IdRangeNextPinLaw" = some m.cls := findClass_of_methodNamed Bd.named
  have hnm := (name_of_methodNamed Bd.named Bd.method).1
  refine own_cast (ef_rm3 m o0 o1 q2 q3 p4) ?_
  generalize hQQ : (fun (v : Option Value) (h : Heap) (L : List Loc) => v = some (.int (1 : Int32)) ∧ Fr n0 L ∧ Keep h0 h [o0, o1] ∧ ∃ (nx' : Int64), ∃ (dn' : Bool), ∃ (rw' : Int64), own_inv q2 q3 (p4.toInt + 1) nx' dn' ∧ Exa Z h o0 "com/example/table_salt/tablesalt/rows/IdRange" ∧ Fld Z h o0 "com/example/table_salt/tablesalt/rows/IdRange" "last" "J" (.long q3) ∧ Fld Z h o0 "com/example/table_salt/tablesalt/rows/IdRange" "next" "J" (.long nx') ∧ Fld Z h o0 "com/example/table_salt/tablesalt/rows/IdRange" "done" "Z" (.int (own_b dn')) ∧ Arv Z h o1 kk .long (1 : Int32) [(.long rw')] (.long (0 : Int64))) = QQ
  have N0 := Fr.nil n0
  have K0 := Keep.refl h0 [o0, o1]
  refine own_go (g' := (mkF m 1 #[.val (.ref o0), .val (.ref o1), .val (.long q2), .second, .val (.long q3), .second, .val (.int p4), .unset, .unset] [(.long q2)])) (fun _ k => XS.lloadN X0.here hx rfl (hb hby d3_0) rfl k) ?_
  refine own_go (g' := (mkF m 3 #[.val (.ref o0), .val (.ref o1), .val (.long q2), .second, .val (.long q3), .second, .val (.int p4), .unset, .unset] [(.long q3), (.long q2)])) (fun _ k => XS.lload X0.here hx rfl (hb hby d3_1) rfl k) ?_
  refine own_go (g' := (mkF m 5 #[.val (.ref o0), .val (.ref o1), .val (.long q2), .second, .val (.long q3), .second, .val (.int p4), .unset, .unset] [(.int p4), (.long q3), (.long q2)])) (fun _ k => XS.iload X0.here hx rfl (hb hby d3_3) rfl k) ?_
  obtain ⟨v1, T1, L1, hQ1, X1, st1⟩ := own_callS X0 hx hZ (y := (⟨"com/example/table_salt/tablesalt/rows/IdRangeNextPinLaw", "has", "(JJI)Z"⟩ : MethodName)) hown (hw _ (List.mem_of_getElem? (i := 20) rfl)) (hw _ (List.mem_of_getElem? (i := 21) rfl)) (hw _ (List.mem_of_getElem? (i := 18) rfl)) (hw _ (List.mem_of_getElem? (i := 22) rfl)) ⟨by decide, by decide⟩ (argsL := [(.long q2), (.long q3), (.int p4)]) (rm4 l Z a0 hw q2 q3 p4 h0 hi) e0 (g := (mkF m 5 #[.val (.ref o0), .val (.ref o1), .val (.long q2), .second, .val (.long q3), .second, .val (.int p4), .unset, .unset] [(.int p4), (.long q3), (.long q2)])) rfl (by rw [hml]; rfl) (rest := []) (lenOf pd3_0 rfl) rfl (hb hby d3_5) (W := 0) (by show 2 * 0 + _ ≤ _; exact Nat.le_of_eq rfl) (by decide) (by decide) (by decide) (by decide)
  obtain ⟨rfl, e1, rfl⟩ := hQ1
  have N1 := Fr.app N0 (Fr.nil n0)
  refine own_go (g' := (mkF m 8 #[.val (.ref o0), .val (.ref o1), .val (.long q2), .second, .val (.long q3), .second, .val (.int p4), .unset, .unset] [(.int (own_b (decide (own_has q2 q3 p4.toInt))))])) (st1) ?_
  refine own_go (g' := (mkF m 10 #[.val (.ref o0), .val (.ref o1), .val (.long q2), .second, .val (.long q3), .second, .val (.int p4), .val (.int (own_b (decide (own_has q2 q3 p4.toInt)))), .unset] [])) (fun _ k => XS.istore X1.here hx rfl (hb hby d3_8) rfl (l' := #[.val (.ref o0), .val (.ref o1), .val (.long q2), .second, .val (.long q3), .second, .val (.int p4), .val (.int (own_b (decide (own_has q2 q3 p4.toInt)))), .unset]) rfl k) ?_
  refine own_go (g' := (mkF m 11 #[.val (.ref o0), .val (.ref o1), .val (.long q2), .second, .val (.long q3), .second, .val (.int p4), .val (.int (own_b (decide (own_has q2 q3 p4.toInt)))), .unset] [(.ref o0)])) (fun _ k => XS.aloadN X1.here hx rfl (hb hby d3_10) rfl rfl k) ?_
  refine own_go (g' := (mkF m 12 #[.val (.ref o0), .val (.ref o1), .val (.long q2), .second, .val (.long q3), .second, .val (.int p4), .val (.int (own_b (decide (own_has q2 q3 p4.toInt)))), .unset] [(.ref o1), (.ref o0)])) (fun _ k => XS.aloadN X1.here hx rfl (hb hby d3_11) rfl rfl k) ?_
  obtain ⟨v2, T2, L2, hQ2, X2, st2⟩ := own_callV X1 hx hZ (y := (⟨"com/example/table_salt/tablesalt/rows/IdRange", "next", "([J)Z"⟩ : MethodName)) (z := (⟨"com/example/table_salt/tablesalt/rows/IdRange", "next", "([J)Z"⟩ : MethodName)) hown (hw _ (List.mem_of_getElem? (i := 23) rfl)) (hw _ (List.mem_of_getElem? (i := 24) rfl)) (notFace_of_selects (args := #[]) (mvT hZ (hw _ (List.mem_of_getElem? (i := 26) rfl)))) (hw _ (List.mem_of_getElem? (i := 26) rfl)) (hw _ (List.mem_of_getElem? (i := 25) rfl)) (hw _ (List.mem_of_getElem? (i := 2) rfl)) (hw _ (List.mem_of_getElem? (i := 27) rfl)) ⟨by decide, by decide⟩ (a := o0) (argsL := [(.ref o1)]) (rm5 l Z a0 hw o0 o1 nx dn rw kk q3 h0 n0 Z0 g_o0 g_o1 P0 P1 P2 P3 P4 hne) e1 P0 (g := (mkF m 12 #[.val (.ref o0), .val (.ref o1), .val (.long q2), .second, .val (.long q3), .second, .val (.int p4), .val (.int (own_b (decide (own_has q2 q3 p4.toInt)))), .unset] [(.ref o1), (.ref o0)])) rfl (by rw [hml]; rfl) (rest := []) (lenOf pd3_1 rfl) rfl (hb hby d3_12) (W := 0) (by show 2 * 0 + _ ≤ _; exact Nat.le_of_eq rfl) (by decide) (by decide) (by decide) (by decide)
  obtain ⟨rfl, Nq2, Kq2, q2_0, q2_1, q2_2, q2_3, q2_4⟩ := hQ2
  have N2 := Fr.app N1 Nq2
  have Z2 : n0 ≤ T2.heap.size := Nat.le_trans Z0 Kq2.1
  have KK2 : Keep h0 T2.heap [o0, o1] := K0.trans Kq2 (allS (Or.inl (List.mem_of_getElem? (i := 0) rfl)) (allS (Or.inl (List.mem_of_getElem? (i := 1) rfl)) all0))
  refine own_go (g' := (mkF m 15 #[.val (.ref o0), .val (.ref o1), .val (.long q2), .second, .val (.long q3), .second, .val (.int p4), .val (.int (own_b (decide (own_has q2 q3 p4.toInt)))), .unset] [(.int (own_b (!dn)))])) (st2) ?_
  refine own_go (g' := (mkF m 17 #[.val (.ref o0), .val (.ref o1), .val (.long q2), .second, .val (.long q3), .second, .val (.int p4), .val (.int (own_b (decide (own_has q2 q3 p4.toInt)))), .val (.int (own_b (!dn)))] [])) (fun _ k => XS.istore X2.here hx rfl (hb hby d3_15) rfl (l' := #[.val (.ref o0), .val (.ref o1), .val (.long q2), .second, .val (.long q3), .second, .val (.int p4), .val (.int (own_b (decide (own_has q2 q3 p4.toInt)))), .val (.int (own_b (!dn)))]) rfl k) ?_
  refine own_go (g' := (mkF m 19 #[.val (.ref o0), .val (.ref o1), .val (.long q2), .second, .val (.long q3), .second, .val (.int p4), .val (.int (own_b (decide (own_has q2 q3 p4.toInt)))), .val (.int (own_b (!dn)))] [(.int (own_b (!dn)))])) (fun _ k => XS.iload X2.here hx rfl (hb hby d3_17) rfl k) ?_
  refine own_go (g' := (mkF m 21 #[.val (.ref o0), .val (.ref o1), .val (.long q2), .second, .val (.long q3), .second, .val (.int p4), .val (.int (own_b (decide (own_has q2 q3 p4.toInt)))), .val (.int (own_b (!dn)))] [(.int (own_b (decide (own_has q2 q3 p4.toInt)))), (.int (own_b (!dn)))])) (fun _ k => XS.iload X2.here hx rfl (hb hby d3_19) rfl k) ?_
  refine own_go (g' := (mkF m 26 #[.val (.ref o0), .val (.ref o1), .val (.long q2), .second, .val (.long q3), .second, .val (.int p4), .val (.int (own_b (decide (own_has q2 q3 p4.toInt)))), .val (.int (own_b (!dn)))] [])) (fun _ k => XS.icmpYes X2.here hx rfl (pc0 := 21) (pc' := 26) rfl (hb hby d3_21) rfl (teq (congrArg own_b (own_inv_has hinv))).1 (by decide) (by decide) k) ?_
  refine own_go (g' := (mkF m 28 #[.val (.ref o0), .val (.ref o1), .val (.long q2), .second, .val (.long q3), .second, .val (.int p4), .val (.int (own_b (decide (own_has q2 q3 p4.toInt)))), .val (.int (own_b (!dn)))] [(.int (own_b (!dn)))])) (fun _ k => XS.iload X2.here hx rfl (hb hby d3_26) rfl k) ?_
  by_cases hc3 : (!dn) = true
  ·
    refine own_go (g' := (mkF m 31 #[.val (.ref o0), .val (.ref o1), .val (.long q2), .second, .val (.long q3), .second, .val (.int p4), .val (.int (own_b (decide (own_has q2 q3 p4.toInt)))), .val (.int (own_b (!dn)))] [])) (fun _ k => XS.ifNo X2.here hx rfl (hb hby d3_28) rfl ((if0 _ _).trans (feq (own_b_n hc3)).1) k) ?_
    refine own_go (g' := (mkF m 32 #[.val (.ref o0), .val (.ref o1), .val (.long q2), .second, .val (.long q3), .second, .val (.int p4), .val (.int (own_b (decide (own_has q2 q3 p4.toInt)))), .val (.int (own_b (!dn)))] [(.ref o1)])) (fun _ k => XS.aloadN X2.here hx rfl (hb hby d3_31) rfl rfl k) ?_
    refine own_go (g' := (mkF m 33 #[.val (.ref o0), .val (.ref o1), .val (.long q2), .second, .val (.long q3), .second, .val (.int p4), .val (.int (own_b (decide (own_has q2 q3 p4.toInt)))), .val (.int (own_b (!dn)))] [(.int (0 : Int32)), (.ref o1)])) (fun _ k => XS.iconst X2.here hx rfl (hb hby d3_32) k) ?_
    obtain ⟨cl4, Ar4, qk4, sz4, nn4, Hs4, Gs4⟩ := id q2_4
    have hin4 : ¬ ((0 : Int32) < 0 ∨ cl4.slots.size ≤ ((0 : Int32)).toNatClampNeg) := inb_of sz4 ⟨by decide, by decide⟩
    have hat4 : cl4.slots[((0 : Int32)).toNatClampNeg]? = some (.long (own_rw dn nx rw)) := Has.at Hs4 hin4 rfl
    refine own_go (g' := (mkF m 34 #[.val (.ref o0), .val (.ref o1), .val (.long q2), .second, .val (.long q3), .second, .val (.int p4), .val (.int (own_b (decide (own_has q2 q3 p4.toInt)))), .val (.int (own_b (!dn)))] [(.long (own_rw dn nx rw))])) (X2.laload hx (j := (0 : Int32)) (v := (.long (own_rw dn nx rw))) Ar4.1 (State.isArrayOf_alike hZ.alike Ar4.2.1) Ar4.2.2 hin4 hat4 (g := (mkF m 33 #[.val (.ref o0), .val (.ref o1), .val (.long q2), .second, .val (.long q3), .second, .val (.int p4), .val (.int (own_b (decide (own_has q2 q3 p4.toInt)))), .val (.int (own_b (!dn)))] [(.int (0 : Int32)), (.ref o1)])) rfl rfl (hb hby d3_33)) ?_
    refine own_go (g' := (mkF m 35 #[.val (.ref o0), .val (.ref o1), .val (.long q2), .second, .val (.long q3), .second, .val (.int p4), .val (.int (own_b (decide (own_has q2 q3 p4.toInt)))), .val (.int (own_b (!dn)))] [(.long q2), (.long (own_rw dn nx rw))])) (fun _ k => XS.lloadN X2.here hx rfl (hb hby d3_34) rfl k) ?_
    refine own_go (g' := (mkF m 37 #[.val (.ref o0), .val (.ref o1), .val (.long q2), .second, .val (.long q3), .second, .val (.int p4), .val (.int (own_b (decide (own_has q2 q3 p4.toInt)))), .val (.int (own_b (!dn)))] [(.int p4), (.long q2), (.long (own_rw dn nx rw))])) (fun _ k => XS.iload X2.here hx rfl (hb hby d3_35) rfl k) ?_
    refine own_go (g' := (mkF m 38 #[.val (.ref o0), .val (.ref o1), .val (.long q2), .second, .val (.long q3), .second, .val (.int p4), .val (.int (own_b (decide (own_has q2 q3 p4.toInt)))), .val (.int (own_b (!dn)))] [(.long (p4.toInt64)), (.long q2), (.long (own_rw dn nx rw))])) (fun _ k => XS.i2l X2.here hx rfl (hb hby d3_37) rfl k) ?_
    refine own_go (g' := (mkF m 39 #[.val (.ref o0), .val (.ref o1), .val (.long q2), .second, .val (.long q3), .second, .val (.int p4), .val (.int (own_b (decide (own_has q2 q3 p4.toInt)))), .val (.int (own_b (!dn)))] [(.long (q2 + (p4.toInt64))), (.long (own_rw dn nx rw))])) (fun _ k => XS.ladd X2.here hx rfl (hb hby d3_38) rfl k) ?_
    refine own_go (g' := (mkF m 40 #[.val (.ref o0), .val (.ref o1), .val (.long q2), .second, .val (.long q3), .second, .val (.int p4), .val (.int (own_b (decide (own_has q2 q3 p4.toInt)))), .val (.int (own_b (!dn)))] [(.int (lcmpW (own_rw dn nx rw) (q2 + (p4.toInt64))))])) (fun _ k => XS.lcmp X2.here hx rfl (hb hby d3_39) rfl k) ?_
    refine own_go (g' := (mkF m 43 #[.val (.ref o0), .val (.ref o1), .val (.long q2), .second, .val (.long q3), .second, .val (.int p4), .val (.int (own_b (decide (own_has q2 q3 p4.toInt)))), .val (.int (own_b (!dn)))] [])) (fun _ k => XS.ifNo X2.here hx rfl (hb hby d3_40) rfl ((if0 _ _).trans (teq ((lw_eq _ _).mpr (own_inv_row hinv hc3))).2) k) ?_
    refine own_go (g' := (mkF m 44 #[.val (.ref o0), .val (.ref o1), .val (.long q2), .second, .val (.long q3), .second, .val (.int p4), .val (.int (own_b (decide (own_has q2 q3 p4.toInt)))), .val (.int (own_b (!dn)))] [(.int (1 : Int32))])) (fun _ k => XS.iconst X2.here hx rfl (hb hby d3_43) k) ?_
    refine own_go (g' := (mkF m 48 #[.val (.ref o0), .val (.ref o1), .val (.long q2), .second, .val (.long q3), .second, .val (.int p4), .val (.int (own_b (decide (own_has q2 q3 p4.toInt)))), .val (.int (own_b (!dn)))] [(.int (1 : Int32))])) (fun _ k => XS.goto X2.here hx rfl (pc0 := 44) (pc' := 48) rfl (hb hby d3_44) (by decide) (by decide) k) ?_
    refine own_retN X2 hx .boolean Bd.returns Bd.notSynchronized (by simp) (hb hby d3_48) (by decide) (by decide) ?_
    show QQ _ T2.heap _
    rw [← hQQ]
    exact ⟨rfl, N2, KK2, own_nx dn nx q3, own_dn dn nx q3, own_rw dn nx rw, own_inv_next hinv hi.1, q2_0, q2_1, q2_2, q2_3, q2_4⟩
  ·
    refine own_go (g' := (mkF m 49 #[.val (.ref o0), .val (.ref o1), .val (.long q2), .second, .val (.long q3), .second, .val (.int p4), .val (.int (own_b (decide (own_has q2 q3 p4.toInt)))), .val (.int (own_b (!dn)))] [])) (fun _ k => XS.ifYes X2.here hx rfl (pc0 := 28) (pc' := 49) rfl (hb hby d3_28) rfl ((if0 _ _).trans (teq (own_b_f hc3)).1) (by decide) (by decide) k) ?_
    refine own_go (g' := (mkF m 50 #[.val (.ref o0), .val (.ref o1), .val (.long q2), .second, .val (.long q3), .second, .val (.int p4), .val (.int (own_b (decide (own_has q2 q3 p4.toInt)))), .val (.int (own_b (!dn)))] [(.int (1 : Int32))])) (fun _ k => XS.iconst X2.here hx rfl (hb hby d3_49) k) ?_
    refine own_retN X2 hx .boolean Bd.returns Bd.notSynchronized (by simp) (hb hby d3_50) (by decide) (by decide) ?_
    show QQ _ T2.heap _
    rw [← hQQ]
    exact ⟨rfl, N2, KK2, own_nx dn nx q3, own_dn dn nx q3, own_rw dn nx rw, own_inv_next hinv hi.1, q2_0, q2_1, q2_2, q2_3, q2_4⟩
theorem pn_rm0 : plainName "com/example/table_salt/tablesalt/rows/IdRangeNextPinLaw" = true := by first | (simp [plainName, overriddenIn]; done) | decide +kernel
theorem pd0_0 : parseMethodDescriptor "(JJ)V" = some ⟨[.long, .long], none⟩ := by decide +kernel
theorem pd0_1 : parseMethodDescriptor "(Lcom/example/table_salt/tablesalt/rows/IdRange;[JJJI)Z" = some ⟨[(.object "com/example/table_salt/tablesalt/rows/IdRange"), (.array .long), .long, .long, .int], some .boolean⟩ := by decide +kernel
theorem ef_rm0 (m : MethodId) (q0 : Int64) (q1 : Int64) (p2 : Int32) : entryFrame m #[(.long q0), (.long q1), (.int p2)] maxLocals = mkF m 0 #[.val (.long q0), .second, .val (.long q1), .second, .val (.int p2), .unset, .unset, .unset, .unset] [] := by first | (simp [entryFrame, mkF, argsToLocals, Value.category, maxLocals]; done) | rfl
set_option maxRecDepth 65536 in
set_option maxHeartbeats 40000000 in
theorem rm0 (l : Launch) (Z : State) (a0 : Array Value) (hw : ∀ d ∈ tables_1, d.before a0 Z = true) (q0 : Int64) (q1 : Int64) (p2 : Int32)  (h0 : Heap) (n0 : Nat) (Z0 : n0 ≤ h0.size) :
    own_Met l Z x code maxLocals ret tables_1 room_1 #[(.long q0), (.long q1), (.int p2)] h0 16 128 (fun v h L => v = some (.int 1) ∧ Fr n0 L) := by
  refine own_met (plainFor_of_name pn_rm0) ?_
  intro p e s m below meth c s₁ Bd hml0 hZ X0 e0
  have hx := Bd.exec
  have hby := Bd.bytes
  have hml : c.maxLocals = 9 := hml0
  have hown : s.vm.findClass "com/example/table_salt/tablesalt/rows/IdRangeNextPinLaw" = some m.cls := findClass_of_methodNamed Bd.named
  have hnm := (name_of_methodNamed Bd.named Bd.method).1
  refine own_cast (ef_rm0 m q0 q1 p2) ?_
  generalize hQQ : (fun (v : Option Value) (h : Heap) (L : List Loc) => v = some (.int 1) ∧ Fr n0 L) = QQ
  have N0 := Fr.nil n0
  refine own_go (g' := (mkF m 2 #[.val (.long q0), .second, .val (.long q1), .second, .val (.int p2), .unset, .unset, .unset, .unset] [(.int p2)])) (fun _ k => XS.iload X0.here hx rfl (hb hby at_0) rfl k) ?_
  refine own_go (g' := (mkF m 4 #[.val (.long q0), .second, .val (.long q1), .second, .val (.int p2), .unset, .unset, .unset, .unset] [(.int (8 : Int32)), (.int p2)])) (fun _ k => XS.bipush X0.here hx rfl (hb hby at_2) k) ?_
  refine own_go (g' := (mkF m 5 #[.val (.long q0), .second, .val (.long q1), .second, .val (.int p2), .unset, .unset, .unset, .unset] [(.int (p2 &&& (8 : Int32)))])) (fun _ k => XS.iand X0.here hx rfl (hb hby at_4) rfl k) ?_
  have J1 : ∀ (la : Int64), own_Go p e below (own_Post s QQ 16 128) s₁ (mkF m 26 #[.val (.long q0), .second, .val (.long q1), .second, .val (.int p2), .val (.long la), .second, .unset, .unset] []) := by
    intro la
    obtain ⟨T2, h2, X2, e2, E2, A2, D2, -, st2⟩ := newO X0 hx hZ hown (hw _ (List.mem_of_getElem? (i := 0) rfl)) (hw _ (List.mem_of_getElem? (i := 1) rfl)) (hw _ (List.mem_of_getElem? (i := 2) rfl)) e0 (g := (mkF m 26 #[.val (.long q0), .second, .val (.long q1), .second, .val (.int p2), .val (.long la), .second, .unset, .unset] [])) rfl (hb hby at_26) (by decide) (by decide)
    obtain ⟨b2, g2⟩ : ∃ z, z = h0.size := ⟨_, rfl⟩
    rw [← g2] at A2 D2 st2
    have ge_b2 : n0 ≤ b2 := by rw [g2]; exact Z0
    have Z2 : n0 ≤ h2.size := Nat.le_trans Z0 E2.1
    have F2_last : Fld Z h2 b2 "com/example/table_salt/tablesalt/rows/IdRange" "last" "J" (.long (0 : Int64)) := D2 (Or.inr (hw _ (List.mem_of_getElem? (i := 10) rfl))) (ty := .long) (by decide)
    have F2_next : Fld Z h2 b2 "com/example/table_salt/tablesalt/rows/IdRange" "next" "J" (.long (0 : Int64)) := D2 (Or.inl (hw _ (List.mem_of_getElem? (i := 12) rfl))) (ty := .long) (by decide)
    have F2_done : Fld Z h2 b2 "com/example/table_salt/tablesalt/rows/IdRange" "done" "Z" (.int (0 : Int32)) := D2 (Or.inl (hw _ (List.mem_of_getElem? (i := 14) rfl))) (ty := .boolean) (by decide)
    refine own_go (g' := (mkF m 29 #[.val (.long q0), .second, .val (.long q1), .second, .val (.int p2), .val (.long la), .second, .unset, .unset] [(.ref b2)])) (st2) ?_
    refine own_go (g' := (mkF m 30 #[.val (.long q0), .second, .val (.long q1), .second, .val (.int p2), .val (.long la), .second, .unset, .unset] [(.ref b2), (.ref b2)])) (fun _ k => XS.dup X2.here hx rfl (hb hby at_29) rfl rfl k) ?_
    refine own_go (g' := (mkF m 31 #[.val (.long q0), .second, .val (.long q1), .second, .val (.int p2), .val (.long la), .second, .unset, .unset] [(.long q0), (.ref b2), (.ref b2)])) (fun _ k => XS.lloadN X2.here hx rfl (hb hby at_30) rfl k) ?_
    refine own_go (g' := (mkF m 33 #[.val (.long q0), .second, .val (.long q1), .second, .val (.int p2), .val (.long la), .second, .unset, .unset] [(.long la), (.long q0), (.ref b2), (.ref b2)])) (fun _ k => XS.lload X2.here hx rfl (hb hby at_31) rfl k) ?_
    obtain ⟨v3, T3, L3, hQ3, X3, st3⟩ := own_callI X2 hx hZ (y := (⟨"com/example/table_salt/tablesalt/rows/IdRange", "<init>", "(JJ)V"⟩ : MethodName)) rfl hown (hw _ (List.mem_of_getElem? (i := 3) rfl)) (hw _ (List.mem_of_getElem? (i := 4) rfl)) (hw _ (List.mem_of_getElem? (i := 2) rfl)) (hw _ (List.mem_of_getElem? (i := 5) rfl)) ⟨by decide, by decide⟩ (a := b2) (argsL := [(.long q0), (.long la)]) (rm1 l Z a0 hw b2 q0 la h2 n0 Z2 ge_b2 A2 F2_last F2_next F2_done) e2 (g := (mkF m 33 #[.val (.long q0), .second, .val (.long q1), .second, .val (.int p2), .val (.long la), .second, .unset, .unset] [(.long la), (.long q0), (.ref b2), (.ref b2)])) rfl (by rw [hml]; rfl) (rest := [(.ref b2)]) (lenOf pd0_0 rfl) rfl (hb hby at_33) (W := 1) (by show 2 * 0 + _ ≤ _; exact Nat.le_of_eq rfl) (by decide) (by decide) (by decide) (by decide)
    obtain ⟨rfl, Nq3, Kq3, q3_0, q3_1, q3_2, q3_3⟩ := hQ3
    have N3 := Fr.app N0 Nq3
    have Z3 : n0 ≤ T3.heap.size := Nat.le_trans Z2 Kq3.1
    refine own_go (g' := (mkF m 36 #[.val (.long q0), .second, .val (.long q1), .second, .val (.int p2), .val (.long la), .second, .unset, .unset] [(.ref b2)])) (st3) ?_
    refine own_go (g' := (mkF m 38 #[.val (.long q0), .second, .val (.long q1), .second, .val (.int p2), .val (.long la), .second, .val (.ref b2), .unset] [])) (fun _ k => XS.astore X3.here hx rfl (hb hby at_36) rfl rfl (l' := #[.val (.long q0), .second, .val (.long q1), .second, .val (.int p2), .val (.long la), .second, .val (.ref b2), .unset]) rfl k) ?_
    refine own_go (g' := (mkF m 39 #[.val (.long q0), .second, .val (.long q1), .second, .val (.int p2), .val (.long la), .second, .val (.ref b2), .unset] [(.int (1 : Int32))])) (fun _ k => XS.iconst X3.here hx rfl (hb hby at_38) k) ?_
    obtain ⟨T4, h4, k4, X4, e4, E4, A4, st4⟩ := newP X3 hx hZ (hw _ (List.mem_of_getElem? (i := 15) rfl)) rfl (g := (mkF m 39 #[.val (.long q0), .second, .val (.long q1), .second, .val (.int p2), .val (.long la), .second, .val (.ref b2), .unset] [(.int (1 : Int32))])) rfl (hb hby at_39) rfl (by decide) (cap := 1) (by decide) (by decide) (by decide) (by decide)
    obtain ⟨b4, g4⟩ : ∃ z, z = T3.heap.size := ⟨_, rfl⟩
    rw [← g4] at A4 st4
    have ne_b2_b4 : b2 ≠ b4 := Nat.ne_of_lt (by rw [g4]; exact q3_0.lt)
    have ge_b4 : n0 ≤ b4 := by rw [g4]; exact Z3
    have Z4 : n0 ≤ h4.size := Nat.le_trans Z3 E4.1
    have V4 : Arv Z h4 b4 k4 .long (1 : Int32) [(.long (0 : Int64))] (.long (0 : Int64)) := (Arv.new A4 (by decide)).pad (pad_rep [] (.long (0 : Int64)) 1)
    refine own_go (g' := (mkF m 41 #[.val (.long q0), .second, .val (.long q1), .second, .val (.int p2), .val (.long la), .second, .val (.ref b2), .unset] [(.ref b4)])) (st4) ?_
    refine own_go (g' := (mkF m 43 #[.val (.long q0), .second, .val (.long q1), .second, .val (.int p2), .val (.long la), .second, .val (.ref b2), .val (.ref b4)] [])) (fun _ k => XS.astore X4.here hx rfl (hb hby at_41) rfl rfl (l' := #[.val (.long q0), .second, .val (.long q1), .second, .val (.int p2), .val (.long la), .second, .val (.ref b2), .val (.ref b4)]) rfl k) ?_
    have inv0 : own_inv q0 la (0 : Int32).toInt q0 (decide (la < q0)) := own_inv_0 _ _
    refine own_go (g' := (mkF m 45 #[.val (.long q0), .second, .val (.long q1), .second, .val (.int p2), .val (.long la), .second, .val (.ref b2), .val (.ref b4)] [(.ref b2)])) (fun _ k => XS.aload X4.here hx rfl (hb hby at_43) rfl rfl k) ?_
    refine own_go (g' := (mkF m 47 #[.val (.long q0), .second, .val (.long q1), .second, .val (.int p2), .val (.long la), .second, .val (.ref b2), .val (.ref b4)] [(.ref b4), (.ref b2)])) (fun _ k => XS.aload X4.here hx rfl (hb hby at_45) rfl rfl k) ?_
    refine own_go (g' := (mkF m 48 #[.val (.long q0), .second, .val (.long q1), .second, .val (.int p2), .val (.long la), .second, .val (.ref b2), .val (.ref b4)] [(.long q0), (.ref b4), (.ref b2)])) (fun _ k => XS.lloadN X4.here hx rfl (hb hby at_47) rfl k) ?_
    refine own_go (g' := (mkF m 50 #[.val (.long q0), .second, .val (.long q1), .second, .val (.int p2), .val (.long la), .second, .val (.ref b2), .val (.ref b4)] [(.long la), (.long q0), (.ref b4), (.ref b2)])) (fun _ k => XS.lload X4.here hx rfl (hb hby at_48) rfl k) ?_
    refine own_go (g' := (mkF m 51 #[.val (.long q0), .second, .val (.long q1), .second, .val (.int p2), .val (.long la), .second, .val (.ref b2), .val (.ref b4)] [(.int (0 : Int32)), (.long la), (.long q0), (.ref b4), (.ref b2)])) (fun _ k => XS.iconst X4.here hx rfl (hb hby at_50) k) ?_
    have f6 : Exa Z h4 b2 "com/example/table_salt/tablesalt/rows/IdRange" := (Exa.ext E4 q3_0)
    have f7 : Fld Z h4 b2 "com/example/table_salt/tablesalt/rows/IdRange" "last" "J" (.long la) := (Fld.ext E4 q3_1)
    have f8 : Fld Z h4 b2 "com/example/table_salt/tablesalt/rows/IdRange" "next" "J" (.long q0) := (Fld.ext E4 q3_2)
    have f9 : Fld Z h4 b2 "com/example/table_salt/tablesalt/rows/IdRange" "done" "Z" (.int (own_b (decide (la < q0)))) := (Fld.ext E4 q3_3)
    obtain ⟨v5, T5, L5, hQ5, X5, st5⟩ := own_callS X4 hx hZ (y := (⟨"com/example/table_salt/tablesalt/rows/IdRangeNextPinLaw", "step", "(Lcom/example/table_salt/tablesalt/rows/IdRange;[JJJI)Z"⟩ : MethodName)) hown (hw _ (List.mem_of_getElem? (i := 16) rfl)) (hw _ (List.mem_of_getElem? (i := 17) rfl)) (hw _ (List.mem_of_getElem? (i := 18) rfl)) (hw _ (List.mem_of_getElem? (i := 19) rfl)) ⟨by decide, by decide⟩ (argsL := [(.ref b2), (.ref b4), (.long q0), (.long la), (.int (0 : Int32))]) (rm3 l Z a0 hw b2 b4 q0 la (0 : Int32) q0 (decide (la < q0)) (0 : Int64) k4 h4 n0 Z4 ge_b2 ge_b4 f6 f7 f8 f9 V4 ne_b2_b4 ⟨by decide, by decide⟩ inv0) e4 (g := (mkF m 51 #[.val (.long q0), .second, .val (.long q1), .second, .val (.int p2), .val (.long la), .second, .val (.ref b2), .val (.ref b4)] [(.int (0 : Int32)), (.long la), (.long q0), (.ref b4), (.ref b2)])) rfl (by rw [hml]; rfl) (rest := []) (lenOf pd0_1 rfl) rfl (hb hby at_51) (W := 0) (by show 2 * 0 + _ ≤ _; exact Nat.le_of_eq rfl) (by decide) (by decide) (by decide) (by decide)
    obtain ⟨rfl, Nq5, Kq5, nx'5, dn'5, rw'5, pr5_0, q5_0, q5_1, q5_2, q5_3, q5_4⟩ := hQ5
    have N5 := Fr.app N3 Nq5
    have Z5 : n0 ≤ T5.heap.size := Nat.le_trans Z4 Kq5.1
    have inv5 : own_inv q0 la (1 : Int32).toInt nx'5 dn'5 := by have q := pr5_0; simp only [Int32.reduceToInt, Int.reduceAdd] at q ⊢; exact q
    refine own_go (g' := (mkF m 54 #[.val (.long q0), .second, .val (.long q1), .second, .val (.int p2), .val (.long la), .second, .val (.ref b2), .val (.ref b4)] [(.int (1 : Int32))])) (st5) ?_
    refine own_go (g' := (mkF m 57 #[.val (.long q0), .second, .val (.long q1), .second, .val (.int p2), .val (.long la), .second, .val (.ref b2), .val (.ref b4)] [])) (fun _ k => XS.ifNo X5.here hx rfl (hb hby at_54) rfl ((if0 _ _).trans (feq (by decide)).1) k) ?_
    refine own_go (g' := (mkF m 59 #[.val (.long q0), .second, .val (.long q1), .second, .val (.int p2), .val (.long la), .second, .val (.ref b2), .val (.ref b4)] [(.ref b2)])) (fun _ k => XS.aload X5.here hx rfl (hb hby at_57) rfl rfl k) ?_
    refine own_go (g' := (mkF m 61 #[.val (.long q0), .second, .val (.long q1), .second, .val (.int p2), .val (.long la), .second, .val (.ref b2), .val (.ref b4)] [(.ref b4), (.ref b2)])) (fun _ k => XS.aload X5.here hx rfl (hb hby at_59) rfl rfl k) ?_
    refine own_go (g' := (mkF m 62 #[.val (.long q0), .second, .val (.long q1), .second, .val (.int p2), .val (.long la), .second, .val (.ref b2), .val (.ref b4)] [(.long q0), (.ref b4), (.ref b2)])) (fun _ k => XS.lloadN X5.here hx rfl (hb hby at_61) rfl k) ?_
    refine own_go (g' := (mkF m 64 #[.val (.long q0), .second, .val (.long q1), .second, .val (.int p2), .val (.long la), .second, .val (.ref b2), .val (.ref b4)] [(.long la), (.long q0), (.ref b4), (.ref b2)])) (fun _ k => XS.lload X5.here hx rfl (hb hby at_62) rfl k) ?_
    refine own_go (g' := (mkF m 65 #[.val (.long q0), .second, .val (.long q1), .second, .val (.int p2), .val (.long la), .second, .val (.ref b2), .val (.ref b4)] [(.int (1 : Int32)), (.long la), (.long q0), (.ref b4), (.ref b2)])) (fun _ k => XS.iconst X5.here hx rfl (hb hby at_64) k) ?_
    obtain ⟨v10, T10, L10, hQ10, X10, st10⟩ := own_callS X5 hx hZ (y := (⟨"com/example/table_salt/tablesalt/rows/IdRangeNextPinLaw", "step", "(Lcom/example/table_salt/tablesalt/rows/IdRange;[JJJI)Z"⟩ : MethodName)) hown (hw _ (List.mem_of_getElem? (i := 16) rfl)) (hw _ (List.mem_of_getElem? (i := 17) rfl)) (hw _ (List.mem_of_getElem? (i := 18) rfl)) (hw _ (List.mem_of_getElem? (i := 19) rfl)) ⟨by decide, by decide⟩ (argsL := [(.ref b2), (.ref b4), (.long q0), (.long la), (.int (1 : Int32))]) (rm3 l Z a0 hw b2 b4 q0 la (1 : Int32) nx'5 dn'5 rw'5 k4 T5.heap n0 Z5 ge_b2 ge_b4 q5_0 q5_1 q5_2 q5_3 q5_4 ne_b2_b4 ⟨by decide, by decide⟩ inv5) rfl (g := (mkF m 65 #[.val (.long q0), .second, .val (.long q1), .second, .val (.int p2), .val (.long la), .second, .val (.ref b2), .val (.ref b4)] [(.int (1 : Int32)), (.long la), (.long q0), (.ref b4), (.ref b2)])) rfl (by rw [hml]; rfl) (rest := []) (lenOf pd0_1 rfl) rfl (hb hby at_65) (W := 0) (by show 2 * 0 + _ ≤ _; exact Nat.le_of_eq rfl) (by decide) (by decide) (by decide) (by decide)
    obtain ⟨rfl, Nq10, Kq10, nx'10, dn'10, rw'10, pr10_0, q10_0, q10_1, q10_2, q10_3, q10_4⟩ := hQ10
    have N10 := Fr.app N5 Nq10
    have Z10 : n0 ≤ T10.heap.size := Nat.le_trans Z5 Kq10.1
    have inv10 : own_inv q0 la (2 : Int32).toInt nx'10 dn'10 := by have q := pr10_0; simp only [Int32.reduceToInt, Int.reduceAdd] at q ⊢; exact q
    refine own_go (g' := (mkF m 68 #[.val (.long q0), .second, .val (.long q1), .second, .val (.int p2), .val (.long la), .second, .val (.ref b2), .val (.ref b4)] [(.int (1 : Int32))])) (st10) ?_
    refine own_go (g' := (mkF m 71 #[.val (.long q0), .second, .val (.long q1), .second, .val (.int p2), .val (.long la), .second, .val (.ref b2), .val (.ref b4)] [])) (fun _ k => XS.ifNo X10.here hx rfl (hb hby at_68) rfl ((if0 _ _).trans (feq (by decide)).1) k) ?_
    refine own_go (g' := (mkF m 73 #[.val (.long q0), .second, .val (.long q1), .second, .val (.int p2), .val (.long la), .second, .val (.ref b2), .val (.ref b4)] [(.ref b2)])) (fun _ k => XS.aload X10.here hx rfl (hb hby at_71) rfl rfl k) ?_
    refine own_go (g' := (mkF m 75 #[.val (.long q0), .second, .val (.long q1), .second, .val (.int p2), .val (.long la), .second, .val (.ref b2), .val (.ref b4)] [(.ref b4), (.ref b2)])) (fun _ k => XS.aload X10.here hx rfl (hb hby at_73) rfl rfl k) ?_
    refine own_go (g' := (mkF m 76 #[.val (.long q0), .second, .val (.long q1), .second, .val (.int p2), .val (.long la), .second, .val (.ref b2), .val (.ref b4)] [(.long q0), (.ref b4), (.ref b2)])) (fun _ k => XS.lloadN X10.here hx rfl (hb hby at_75) rfl k) ?_
    refine own_go (g' := (mkF m 78 #[.val (.long q0), .second, .val (.long q1), .second, .val (.int p2), .val (.long la), .second, .val (.ref b2), .val (.ref b4)] [(.long la), (.long q0), (.ref b4), (.ref b2)])) (fun _ k => XS.lload X10.here hx rfl (hb hby at_76) rfl k) ?_
    refine own_go (g' := (mkF m 79 #[.val (.long q0), .second, .val (.long q1), .second, .val (.int p2), .val (.long la), .second, .val (.ref b2), .val (.ref b4)] [(.int (2 : Int32)), (.long la), (.long q0), (.ref b4), (.ref b2)])) (fun _ k => XS.iconst X10.here hx rfl (hb hby at_78) k) ?_
    obtain ⟨v11, T11, L11, hQ11, X11, st11⟩ := own_callS X10 hx hZ (y := (⟨"com/example/table_salt/tablesalt/rows/IdRangeNextPinLaw", "step", "(Lcom/example/table_salt/tablesalt/rows/IdRange;[JJJI)Z"⟩ : MethodName)) hown (hw _ (List.mem_of_getElem? (i := 16) rfl)) (hw _ (List.mem_of_getElem? (i := 17) rfl)) (hw _ (List.mem_of_getElem? (i := 18) rfl)) (hw _ (List.mem_of_getElem? (i := 19) rfl)) ⟨by decide, by decide⟩ (argsL := [(.ref b2), (.ref b4), (.long q0), (.long la), (.int (2 : Int32))]) (rm3 l Z a0 hw b2 b4 q0 la (2 : Int32) nx'10 dn'10 rw'10 k4 T10.heap n0 Z10 ge_b2 ge_b4 q10_0 q10_1 q10_2 q10_3 q10_4 ne_b2_b4 ⟨by decide, by decide⟩ inv10) rfl (g := (mkF m 79 #[.val (.long q0), .second, .val (.long q1), .second, .val (.int p2), .val (.long la), .second, .val (.ref b2), .val (.ref b4)] [(.int (2 : Int32)), (.long la), (.long q0), (.ref b4), (.ref b2)])) rfl (by rw [hml]; rfl) (rest := []) (lenOf pd0_1 rfl) rfl (hb hby at_79) (W := 0) (by show 2 * 0 + _ ≤ _; exact Nat.le_of_eq rfl) (by decide) (by decide) (by decide) (by decide)
    obtain ⟨rfl, Nq11, Kq11, nx'11, dn'11, rw'11, pr11_0, q11_0, q11_1, q11_2, q11_3, q11_4⟩ := hQ11
    have N11 := Fr.app N10 Nq11
    have Z11 : n0 ≤ T11.heap.size := Nat.le_trans Z10 Kq11.1
    have inv11 : own_inv q0 la (3 : Int32).toInt nx'11 dn'11 := by have q := pr11_0; simp only [Int32.reduceToInt, Int.reduceAdd] at q ⊢; exact q
    refine own_go (g' := (mkF m 82 #[.val (.long q0), .second, .val (.long q1), .second, .val (.int p2), .val (.long la), .second, .val (.ref b2), .val (.ref b4)] [(.int (1 : Int32))])) (st11) ?_
    refine own_go (g' := (mkF m 85 #[.val (.long q0), .second, .val (.long q1), .second, .val (.int p2), .val (.long la), .second, .val (.ref b2), .val (.ref b4)] [])) (fun _ k => XS.ifNo X11.here hx rfl (hb hby at_82) rfl ((if0 _ _).trans (feq (by decide)).1) k) ?_
    refine own_go (g' := (mkF m 87 #[.val (.long q0), .second, .val (.long q1), .second, .val (.int p2), .val (.long la), .second, .val (.ref b2), .val (.ref b4)] [(.ref b2)])) (fun _ k => XS.aload X11.here hx rfl (hb hby at_85) rfl rfl k) ?_
    refine own_go (g' := (mkF m 89 #[.val (.long q0), .second, .val (.long q1), .second, .val (.int p2), .val (.long la), .second, .val (.ref b2), .val (.ref b4)] [(.ref b4), (.ref b2)])) (fun _ k => XS.aload X11.here hx rfl (hb hby at_87) rfl rfl k) ?_
    refine own_go (g' := (mkF m 90 #[.val (.long q0), .second, .val (.long q1), .second, .val (.int p2), .val (.long la), .second, .val (.ref b2), .val (.ref b4)] [(.long q0), (.ref b4), (.ref b2)])) (fun _ k => XS.lloadN X11.here hx rfl (hb hby at_89) rfl k) ?_
    refine own_go (g' := (mkF m 92 #[.val (.long q0), .second, .val (.long q1), .second, .val (.int p2), .val (.long la), .second, .val (.ref b2), .val (.ref b4)] [(.long la), (.long q0), (.ref b4), (.ref b2)])) (fun _ k => XS.lload X11.here hx rfl (hb hby at_90) rfl k) ?_
    refine own_go (g' := (mkF m 93 #[.val (.long q0), .second, .val (.long q1), .second, .val (.int p2), .val (.long la), .second, .val (.ref b2), .val (.ref b4)] [(.int (3 : Int32)), (.long la), (.long q0), (.ref b4), (.ref b2)])) (fun _ k => XS.iconst X11.here hx rfl (hb hby at_92) k) ?_
    obtain ⟨v12, T12, L12, hQ12, X12, st12⟩ := own_callS X11 hx hZ (y := (⟨"com/example/table_salt/tablesalt/rows/IdRangeNextPinLaw", "step", "(Lcom/example/table_salt/tablesalt/rows/IdRange;[JJJI)Z"⟩ : MethodName)) hown (hw _ (List.mem_of_getElem? (i := 16) rfl)) (hw _ (List.mem_of_getElem? (i := 17) rfl)) (hw _ (List.mem_of_getElem? (i := 18) rfl)) (hw _ (List.mem_of_getElem? (i := 19) rfl)) ⟨by decide, by decide⟩ (argsL := [(.ref b2), (.ref b4), (.long q0), (.long la), (.int (3 : Int32))]) (rm3 l Z a0 hw b2 b4 q0 la (3 : Int32) nx'11 dn'11 rw'11 k4 T11.heap n0 Z11 ge_b2 ge_b4 q11_0 q11_1 q11_2 q11_3 q11_4 ne_b2_b4 ⟨by decide, by decide⟩ inv11) rfl (g := (mkF m 93 #[.val (.long q0), .second, .val (.long q1), .second, .val (.int p2), .val (.long la), .second, .val (.ref b2), .val (.ref b4)] [(.int (3 : Int32)), (.long la), (.long q0), (.ref b4), (.ref b2)])) rfl (by rw [hml]; rfl) (rest := []) (lenOf pd0_1 rfl) rfl (hb hby at_93) (W := 0) (by show 2 * 0 + _ ≤ _; exact Nat.le_of_eq rfl) (by decide) (by decide) (by decide) (by decide)
    obtain ⟨rfl, Nq12, Kq12, nx'12, dn'12, rw'12, pr12_0, q12_0, q12_1, q12_2, q12_3, q12_4⟩ := hQ12
    have N12 := Fr.app N11 Nq12
    have Z12 : n0 ≤ T12.heap.size := Nat.le_trans Z11 Kq12.1
    have inv12 : own_inv q0 la (4 : Int32).toInt nx'12 dn'12 := by have q := pr12_0; simp only [Int32.reduceToInt, Int.reduceAdd] at q ⊢; exact q
    refine own_go (g' := (mkF m 96 #[.val (.long q0), .second, .val (.long q1), .second, .val (.int p2), .val (.long la), .second, .val (.ref b2), .val (.ref b4)] [(.int (1 : Int32))])) (st12) ?_
    refine own_go (g' := (mkF m 99 #[.val (.long q0), .second, .val (.long q1), .second, .val (.int p2), .val (.long la), .second, .val (.ref b2), .val (.ref b4)] [])) (fun _ k => XS.ifNo X12.here hx rfl (hb hby at_96) rfl ((if0 _ _).trans (feq (by decide)).1) k) ?_
    refine own_go (g' := (mkF m 101 #[.val (.long q0), .second, .val (.long q1), .second, .val (.int p2), .val (.long la), .second, .val (.ref b2), .val (.ref b4)] [(.ref b2)])) (fun _ k => XS.aload X12.here hx rfl (hb hby at_99) rfl rfl k) ?_
    refine own_go (g' := (mkF m 103 #[.val (.long q0), .second, .val (.long q1), .second, .val (.int p2), .val (.long la), .second, .val (.ref b2), .val (.ref b4)] [(.ref b4), (.ref b2)])) (fun _ k => XS.aload X12.here hx rfl (hb hby at_101) rfl rfl k) ?_
    refine own_go (g' := (mkF m 104 #[.val (.long q0), .second, .val (.long q1), .second, .val (.int p2), .val (.long la), .second, .val (.ref b2), .val (.ref b4)] [(.long q0), (.ref b4), (.ref b2)])) (fun _ k => XS.lloadN X12.here hx rfl (hb hby at_103) rfl k) ?_
    refine own_go (g' := (mkF m 106 #[.val (.long q0), .second, .val (.long q1), .second, .val (.int p2), .val (.long la), .second, .val (.ref b2), .val (.ref b4)] [(.long la), (.long q0), (.ref b4), (.ref b2)])) (fun _ k => XS.lload X12.here hx rfl (hb hby at_104) rfl k) ?_
    refine own_go (g' := (mkF m 107 #[.val (.long q0), .second, .val (.long q1), .second, .val (.int p2), .val (.long la), .second, .val (.ref b2), .val (.ref b4)] [(.int (4 : Int32)), (.long la), (.long q0), (.ref b4), (.ref b2)])) (fun _ k => XS.iconst X12.here hx rfl (hb hby at_106) k) ?_
    obtain ⟨v13, T13, L13, hQ13, X13, st13⟩ := own_callS X12 hx hZ (y := (⟨"com/example/table_salt/tablesalt/rows/IdRangeNextPinLaw", "step", "(Lcom/example/table_salt/tablesalt/rows/IdRange;[JJJI)Z"⟩ : MethodName)) hown (hw _ (List.mem_of_getElem? (i := 16) rfl)) (hw _ (List.mem_of_getElem? (i := 17) rfl)) (hw _ (List.mem_of_getElem? (i := 18) rfl)) (hw _ (List.mem_of_getElem? (i := 19) rfl)) ⟨by decide, by decide⟩ (argsL := [(.ref b2), (.ref b4), (.long q0), (.long la), (.int (4 : Int32))]) (rm3 l Z a0 hw b2 b4 q0 la (4 : Int32) nx'12 dn'12 rw'12 k4 T12.heap n0 Z12 ge_b2 ge_b4 q12_0 q12_1 q12_2 q12_3 q12_4 ne_b2_b4 ⟨by decide, by decide⟩ inv12) rfl (g := (mkF m 107 #[.val (.long q0), .second, .val (.long q1), .second, .val (.int p2), .val (.long la), .second, .val (.ref b2), .val (.ref b4)] [(.int (4 : Int32)), (.long la), (.long q0), (.ref b4), (.ref b2)])) rfl (by rw [hml]; rfl) (rest := []) (lenOf pd0_1 rfl) rfl (hb hby at_107) (W := 0) (by show 2 * 0 + _ ≤ _; exact Nat.le_of_eq rfl) (by decide) (by decide) (by decide) (by decide)
    obtain ⟨rfl, Nq13, Kq13, nx'13, dn'13, rw'13, pr13_0, q13_0, q13_1, q13_2, q13_3, q13_4⟩ := hQ13
    have N13 := Fr.app N12 Nq13
    have Z13 : n0 ≤ T13.heap.size := Nat.le_trans Z12 Kq13.1
    have inv13 : own_inv q0 la (5 : Int32).toInt nx'13 dn'13 := by have q := pr13_0; simp only [Int32.reduceToInt, Int.reduceAdd] at q ⊢; exact q
    refine own_go (g' := (mkF m 110 #[.val (.long q0), .second, .val (.long q1), .second, .val (.int p2), .val (.long la), .second, .val (.ref b2), .val (.ref b4)] [(.int (1 : Int32))])) (st13) ?_
    refine own_go (g' := (mkF m 113 #[.val (.long q0), .second, .val (.long q1), .second, .val (.int p2), .val (.long la), .second, .val (.ref b2), .val (.ref b4)] [])) (fun _ k => XS.ifNo X13.here hx rfl (hb hby at_110) rfl ((if0 _ _).trans (feq (by decide)).1) k) ?_
    refine own_go (g' := (mkF m 115 #[.val (.long q0), .second, .val (.long q1), .second, .val (.int p2), .val (.long la), .second, .val (.ref b2), .val (.ref b4)] [(.ref b2)])) (fun _ k => XS.aload X13.here hx rfl (hb hby at_113) rfl rfl k) ?_
    refine own_go (g' := (mkF m 117 #[.val (.long q0), .second, .val (.long q1), .second, .val (.int p2), .val (.long la), .second, .val (.ref b2), .val (.ref b4)] [(.ref b4), (.ref b2)])) (fun _ k => XS.aload X13.here hx rfl (hb hby at_115) rfl rfl k) ?_
    refine own_go (g' := (mkF m 118 #[.val (.long q0), .second, .val (.long q1), .second, .val (.int p2), .val (.long la), .second, .val (.ref b2), .val (.ref b4)] [(.long q0), (.ref b4), (.ref b2)])) (fun _ k => XS.lloadN X13.here hx rfl (hb hby at_117) rfl k) ?_
    refine own_go (g' := (mkF m 120 #[.val (.long q0), .second, .val (.long q1), .second, .val (.int p2), .val (.long la), .second, .val (.ref b2), .val (.ref b4)] [(.long la), (.long q0), (.ref b4), (.ref b2)])) (fun _ k => XS.lload X13.here hx rfl (hb hby at_118) rfl k) ?_
    refine own_go (g' := (mkF m 121 #[.val (.long q0), .second, .val (.long q1), .second, .val (.int p2), .val (.long la), .second, .val (.ref b2), .val (.ref b4)] [(.int (5 : Int32)), (.long la), (.long q0), (.ref b4), (.ref b2)])) (fun _ k => XS.iconst X13.here hx rfl (hb hby at_120) k) ?_
    obtain ⟨v14, T14, L14, hQ14, X14, st14⟩ := own_callS X13 hx hZ (y := (⟨"com/example/table_salt/tablesalt/rows/IdRangeNextPinLaw", "step", "(Lcom/example/table_salt/tablesalt/rows/IdRange;[JJJI)Z"⟩ : MethodName)) hown (hw _ (List.mem_of_getElem? (i := 16) rfl)) (hw _ (List.mem_of_getElem? (i := 17) rfl)) (hw _ (List.mem_of_getElem? (i := 18) rfl)) (hw _ (List.mem_of_getElem? (i := 19) rfl)) ⟨by decide, by decide⟩ (argsL := [(.ref b2), (.ref b4), (.long q0), (.long la), (.int (5 : Int32))]) (rm3 l Z a0 hw b2 b4 q0 la (5 : Int32) nx'13 dn'13 rw'13 k4 T13.heap n0 Z13 ge_b2 ge_b4 q13_0 q13_1 q13_2 q13_3 q13_4 ne_b2_b4 ⟨by decide, by decide⟩ inv13) rfl (g := (mkF m 121 #[.val (.long q0), .second, .val (.long q1), .second, .val (.int p2), .val (.long la), .second, .val (.ref b2), .val (.ref b4)] [(.int (5 : Int32)), (.long la), (.long q0), (.ref b4), (.ref b2)])) rfl (by rw [hml]; rfl) (rest := []) (lenOf pd0_1 rfl) rfl (hb hby at_121) (W := 0) (by show 2 * 0 + _ ≤ _; exact Nat.le_of_eq rfl) (by decide) (by decide) (by decide) (by decide)
    obtain ⟨rfl, Nq14, Kq14, nx'14, dn'14, rw'14, pr14_0, q14_0, q14_1, q14_2, q14_3, q14_4⟩ := hQ14
    have N14 := Fr.app N13 Nq14
    have Z14 : n0 ≤ T14.heap.size := Nat.le_trans Z13 Kq14.1
    have inv14 : own_inv q0 la (6 : Int32).toInt nx'14 dn'14 := by have q := pr14_0; simp only [Int32.reduceToInt, Int.reduceAdd] at q ⊢; exact q
    refine own_go (g' := (mkF m 124 #[.val (.long q0), .second, .val (.long q1), .second, .val (.int p2), .val (.long la), .second, .val (.ref b2), .val (.ref b4)] [(.int (1 : Int32))])) (st14) ?_
    refine own_go (g' := (mkF m 127 #[.val (.long q0), .second, .val (.long q1), .second, .val (.int p2), .val (.long la), .second, .val (.ref b2), .val (.ref b4)] [])) (fun _ k => XS.ifNo X14.here hx rfl (hb hby at_124) rfl ((if0 _ _).trans (feq (by decide)).1) k) ?_
    refine own_go (g' := (mkF m 128 #[.val (.long q0), .second, .val (.long q1), .second, .val (.int p2), .val (.long la), .second, .val (.ref b2), .val (.ref b4)] [(.int (1 : Int32))])) (fun _ k => XS.iconst X14.here hx rfl (hb hby at_127) k) ?_
    refine own_go (g' := (mkF m 132 #[.val (.long q0), .second, .val (.long q1), .second, .val (.int p2), .val (.long la), .second, .val (.ref b2), .val (.ref b4)] [(.int (1 : Int32))])) (fun _ k => XS.goto X14.here hx rfl (pc0 := 128) (pc' := 132) rfl (hb hby at_128) (by decide) (by decide) k) ?_
    refine own_retN X14 hx .boolean Bd.returns Bd.notSynchronized (by simp) (hb hby at_132) (by decide) (by decide) ?_
    show QQ _ T14.heap _
    rw [← hQQ]
    exact ⟨rfl, N14⟩
  by_cases hc15 : (p2 &&& (8 : Int32)) = (0 : Int32)
  ·
    refine own_go (g' := (mkF m 14 #[.val (.long q0), .second, .val (.long q1), .second, .val (.int p2), .unset, .unset, .unset, .unset] [])) (fun _ k => XS.ifYes X0.here hx rfl (pc0 := 5) (pc' := 14) rfl (hb hby at_5) rfl ((if0 _ _).trans (teq hc15).1) (by decide) (by decide) k) ?_
    refine own_go (g' := (mkF m 15 #[.val (.long q0), .second, .val (.long q1), .second, .val (.int p2), .unset, .unset, .unset, .unset] [(.long q0)])) (fun _ k => XS.lloadN X0.here hx rfl (hb hby at_14) rfl k) ?_
    refine own_go (g' := (mkF m 17 #[.val (.long q0), .second, .val (.long q1), .second, .val (.int p2), .unset, .unset, .unset, .unset] [(.int p2), (.long q0)])) (fun _ k => XS.iload X0.here hx rfl (hb hby at_15) rfl k) ?_
    refine own_go (g' := (mkF m 19 #[.val (.long q0), .second, .val (.long q1), .second, .val (.int p2), .unset, .unset, .unset, .unset] [(.int (7 : Int32)), (.int p2), (.long q0)])) (fun _ k => XS.bipush X0.here hx rfl (hb hby at_17) k) ?_
    refine own_go (g' := (mkF m 20 #[.val (.long q0), .second, .val (.long q1), .second, .val (.int p2), .unset, .unset, .unset, .unset] [(.int (p2 &&& (7 : Int32))), (.long q0)])) (fun _ k => XS.iand X0.here hx rfl (hb hby at_19) rfl k) ?_
    refine own_go (g' := (mkF m 21 #[.val (.long q0), .second, .val (.long q1), .second, .val (.int p2), .unset, .unset, .unset, .unset] [(.int (2 : Int32)), (.int (p2 &&& (7 : Int32))), (.long q0)])) (fun _ k => XS.iconst X0.here hx rfl (hb hby at_20) k) ?_
    refine own_go (g' := (mkF m 22 #[.val (.long q0), .second, .val (.long q1), .second, .val (.int p2), .unset, .unset, .unset, .unset] [(.int ((p2 &&& (7 : Int32)) - (2 : Int32))), (.long q0)])) (fun _ k => XS.isub X0.here hx rfl (hb hby at_21) rfl k) ?_
    refine own_go (g' := (mkF m 23 #[.val (.long q0), .second, .val (.long q1), .second, .val (.int p2), .unset, .unset, .unset, .unset] [(.long (((p2 &&& (7 : Int32)) - (2 : Int32)).toInt64)), (.long q0)])) (fun _ k => XS.i2l X0.here hx rfl (hb hby at_22) rfl k) ?_
    refine own_go (g' := (mkF m 24 #[.val (.long q0), .second, .val (.long q1), .second, .val (.int p2), .unset, .unset, .unset, .unset] [(.long (q0 + (((p2 &&& (7 : Int32)) - (2 : Int32)).toInt64)))])) (fun _ k => XS.ladd X0.here hx rfl (hb hby at_23) rfl k) ?_
    refine own_go (g' := (mkF m 26 #[.val (.long q0), .second, .val (.long q1), .second, .val (.int p2), .val (.long (q0 + (((p2 &&& (7 : Int32)) - (2 : Int32)).toInt64))), .second, .unset, .unset] [])) (fun _ k => XS.lstore X0.here hx rfl (hb hby at_24) rfl (l' := #[.val (.long q0), .second, .val (.long q1), .second, .val (.int p2), .val (.long (q0 + (((p2 &&& (7 : Int32)) - (2 : Int32)).toInt64))), .second, .unset, .unset]) rfl k) ?_
    exact J1 (q0 + (((p2 &&& (7 : Int32)) - (2 : Int32)).toInt64))
  ·
    refine own_go (g' := (mkF m 8 #[.val (.long q0), .second, .val (.long q1), .second, .val (.int p2), .unset, .unset, .unset, .unset] [])) (fun _ k => XS.ifNo X0.here hx rfl (hb hby at_5) rfl ((if0 _ _).trans (feq hc15).1) k) ?_
    refine own_go (g' := (mkF m 9 #[.val (.long q0), .second, .val (.long q1), .second, .val (.int p2), .unset, .unset, .unset, .unset] [(.long q1)])) (fun _ k => XS.lloadN X0.here hx rfl (hb hby at_8) rfl k) ?_
    refine own_go (g' := (mkF m 11 #[.val (.long q0), .second, .val (.long q1), .second, .val (.int p2), .val (.long q1), .second, .unset, .unset] [])) (fun _ k => XS.lstore X0.here hx rfl (hb hby at_9) rfl (l' := #[.val (.long q0), .second, .val (.long q1), .second, .val (.int p2), .val (.long q1), .second, .unset, .unset]) rfl k) ?_
    refine own_go (g' := (mkF m 26 #[.val (.long q0), .second, .val (.long q1), .second, .val (.int p2), .val (.long q1), .second, .unset, .unset] [])) (fun _ k => XS.goto X0.here hx rfl (pc0 := 11) (pc' := 26) rfl (hb hby at_11) (by decide) (by decide) k) ?_
    exact J1 q1
set_option maxRecDepth 65536 in
set_option maxHeartbeats 40000000 in
theorem comes_1 {Post : Tables → Env → Array Value → State → Outcome → State → Prop} (hpost : ∀ tb e args s v u, (limb_1_1.after args s (.returned v) u = true ∧ limb_1_2.after args s (.returned v) u = true ∧ True) → FrameEnd s (.returned v) u (Jvm.fieldLocs frame_1_writes args s ++ Jvm.arrayLocs frame_1_arrays args s ++ Jvm.staticLocs frame_1_statics s) 16 128 → Post tb e args s (.returned v) u) :
    ArmFor flags0 classFile x code maxLocals ret World_1 tables_1 room_1 Calls_1 rest_1 Pre_1 Post := by
  intro l hfl _ _ p e ha hc hk s m args below hf hA hF happ hP
  obtain ⟨hcalls, hrest, hpre⟩ := hP
  obtain ⟨-, -, -, hnamed, -, -, -, hat⟩ := (Spec.applies_iff hf).mp happ
  obtain ⟨hg, hn⟩ := and_e (Cond.before_iff.mp (show (Jvm.Cond.and given_1 narrow_1).before args s = true from hpre))
  obtain ⟨g1, g2⟩ := and_e hg
  obtain ⟨g3, g4⟩ := and_e g2
  obtain ⟨g5, g6⟩ := and_e g4
  obtain ⟨w0, w1, w2, rfl⟩ : ∃ w0 w1 w2 : Value, args = #[w0, w1, w2] := by
    have hs : args.size = 3 := by simpa [Cond.value, given_1] using g1
    obtain ⟨L⟩ := args
    match L, hs with
    | [w0, w1, w2], _ => exact ⟨w0, w1, w2, rfl⟩
  have hw := fun d (hd : d ∈ tables_1) => atoms_spec (ws := Jvm.Cond.code x code maxLocals ret :: tables_1) hat d (List.mem_cons_of_mem _ hd)
  obtain ⟨i0, ei0⟩ := isL_v g3
  obtain rfl : w0 = (.long i0) := Option.some.inj ei0
  obtain ⟨i1, ei1⟩ := isL_v g5
  obtain rfl : w1 = (.long i1) := Option.some.inj ei1
  obtain ⟨i2, ei2⟩ := is_v g6
  obtain rfl : w2 = (.int i2) := Option.some.inj ei2
  obtain ⟨n, o, h1, h2, h3, _, L, rfl, ⟨rfl, N⟩, hq⟩ := rm0 l s _ hw i0 i1 i2 s.heap s.heap.size (Nat.le_refl _) p e ha hc hk s m _ below hf ((Spec.applies_iff_loose hf).mp happ).1 ⟨rfl, State.Warmed39.refl s, rfl⟩ trivial
  refine ⟨n, _, h1, h2, h3, hpost _ _ _ _ _ _ ⟨Cond.after_iff.mpr rfl, Cond.after_iff.mpr (eq_i res_at (Term.int_eval (1)) rfl), trivial⟩ ⟨hq.1, hq.2.1, (hq.2.2.sift fun y hy => Or.inr (N y hy)).mono (by decide) (by decide)⟩⟩
theorem main_1_1 : Claimed_1_1 := comes_1 fun _ _ _ _ _ _ h hF => ⟨h.1, hF⟩
theorem main_1_2 : Claimed_1_2 := comes_1 fun _ _ _ _ _ _ h hF => ⟨h.2.1, hF⟩
end Jvm.Pilot.@@N@@
namespace Jvm.Pilot.@@N@@
open Jvm Jvm.ClassFile Sem Op Lib Jvm.Free Jvm.Stand Jvm.Pilot.@@N@@.Jvm.D
/-! MADE BY PROGRAM (witnessworld.py) out of the Statement's table words and the real class files: 14 classes; the members and pool entries that the words name. The judged class is class 1, her method 3. -/
namespace start1
open Jvm.ClassFile
def u (s : String) : CpInfo := .utf8 (stringToUtf16 s)
/-- a pool by its gaps: so many unusable entries, then the entry; so many at the end -/
def gap : Nat → List CpInfo → List CpInfo
  | 0, r => r
  | n + 1, r => .unusable :: gap n r
def poolList (es : List (Nat × CpInfo)) (last : Nat) : List CpInfo := es.foldr (fun e r => gap e.1 (e.2 :: r)) (gap last [])
def pool (es : List (Nat × CpInfo)) (last : Nat) : Array CpInfo := ⟨poolList es last⟩
def fileOf (pool : Array CpInfo) (this : Nat) (attrs : Array Attribute := #[]) (ms : Array MethodInfo := #[]) (fl : Nat := 33) (sup : Nat := 0) (ifs : Array Nat := #[]) (fds : Array FieldInfo := #[]) : ClassFile where
  minorVersion := 0
  majorVersion := 65
  constantPool := pool
  accessFlags := fl
  thisClass := this
  superClass := sup
  interfaces := ifs
  fields := fds
  methods := ms
  attributes := attrs
def plain (name : String) (sup : Option ClassId) : Class where
  name := name
  kind := .ordinary
  loader := none
  accessFlags := 33
  super := sup
  interfaces := #[]
  cf := none
  fields := #[]
  methods := #[]
  instanceTypes := #[]
  staticTypes := #[]
  resolved := #[]
  callSites := []
  init := .initialized
  statics := none
  mirror := none

def pool0 : Array CpInfo := pool [(5, u "<init>"), (0, u "()V"), (1, .class_ 10), (1, u "java/lang/Object")] 113

def k0c0 : Code := { maxStack := 0, maxLocals := 1, code := object_method_1_code, exceptionTable := #[], attributes := #[] }
def k0m0 : Method := { name := "<init>", desc := "()V", sig := { parameters := [], returnType := none }, accessFlags := 1, code := some k0c0 }
/-- java/lang/Object -/
def k0 : Class := { plain "java/lang/Object" none with
  accessFlags := 33
  interfaces := #[]
  cf := some (fileOf pool0 8 #[] #[{ accessFlags := 1, nameIndex := 5, descriptorIndex := 6, attributes := #[] }] 33 0 #[] #[])
  fields := #[]
  methods := #[k0m0]
  instanceTypes := #[]
  staticTypes := #[]
  resolved := Array.replicate 124 none
  statics := none }

def pool1 : Array CpInfo := pool [(2, .class_ 4), (1, u "java/lang/Object"), (0, u "<init>"), (0, u "()V"), (2, .long 9223372036854775807), (1, .methodref 12 13), (0, .class_ 14), (0, .nameAndType 15 16), (0, u "com/example/table_salt/tablesalt/rows/IdRangeNextPinLaw"), (0, u "has"), (0, u "(JJI)Z"), (0, .methodref 18 19), (0, .class_ 20), (0, .nameAndType 21 22), (0, u "com/example/table_salt/tablesalt/rows/IdRange"), (0, u "next"), (0, u "([J)Z"), (0, .methodref 18 24), (0, .nameAndType 5 25), (0, u "(JJ)V"), (0, .methodref 12 27), (0, .nameAndType 28 29), (0, u "step"), (0, u "(Lcom/example/table_salt/tablesalt/rows/IdRange;[JJJI)Z"), (3, u "law")] 4

def k1m0 : Method := { name := "<init>", desc := "()V", sig := { parameters := [], returnType := none }, accessFlags := 2, code := none }
def k1c1 : Code := { maxStack := 6, maxLocals := 5, code := method_2_code, exceptionTable := #[], attributes := #[] }
def k1m1 : Method := { name := "has", desc := "(JJI)Z", sig := { parameters := [.long, .long, .int], returnType := some .boolean }, accessFlags := 10, code := some k1c1 }
def k1c2 : Code := { maxStack := 6, maxLocals := 9, code := method_3_code, exceptionTable := #[], attributes := #[] }
def k1m2 : Method := { name := "step", desc := "(Lcom/example/table_salt/tablesalt/rows/IdRange;[JJJI)Z", sig := { parameters := [(.object "com/example/table_salt/tablesalt/rows/IdRange"), (.array .long), .long, .long, .int], returnType := some .boolean }, accessFlags := 10, code := some k1c2 }
def k1c3 : Code := { maxStack := 7, maxLocals := 9, code := code, exceptionTable := #[], attributes := #[] }
def k1m3 : Method := { name := "law", desc := "(JJI)Z", sig := { parameters := [.long, .long, .int], returnType := some .boolean }, accessFlags := 9, code := some k1c3 }
/-- com/example/table_salt/tablesalt/rows/IdRangeNextPinLaw -/
def k1 : Class := { plain "com/example/table_salt/tablesalt/rows/IdRangeNextPinLaw" (some 0) with
  accessFlags := 49
  interfaces := #[]
  cf := some (fileOf pool1 12 #[] #[{ accessFlags := 2, nameIndex := 5, descriptorIndex := 6, attributes := #[] }, { accessFlags := 10, nameIndex := 15, descriptorIndex := 16, attributes := #[] }, { accessFlags := 10, nameIndex := 28, descriptorIndex := 29, attributes := #[] }, { accessFlags := 9, nameIndex := 33, descriptorIndex := 16, attributes := #[] }] 49 2 #[] #[])
  fields := #[]
  methods := #[k1m0, k1m1, k1m2, k1m3]
  instanceTypes := #[]
  staticTypes := #[]
  resolved := Array.replicate 38 none
  statics := none }

def pool2 : Array CpInfo := pool [(1, .class_ 2), (0, u "java/lang/AutoCloseable"), (0, .class_ 4), (0, u "java/lang/Object")] 7

/-- java/lang/AutoCloseable -/
def k2 : Class := { plain "java/lang/AutoCloseable" (some 0) with
  accessFlags := 1537
  interfaces := #[]
  cf := some (fileOf pool2 1 #[] #[] 1537 3 #[] #[])
  fields := #[]
  methods := #[]
  instanceTypes := #[]
  staticTypes := #[]
  resolved := Array.replicate 12 none
  statics := none }

def pool3 : Array CpInfo := pool [(1, .class_ 2), (0, u "java/io/Closeable"), (0, .class_ 4), (0, u "java/lang/Object"), (0, .class_ 6), (0, u "java/lang/AutoCloseable")] 7

/-- java/io/Closeable -/
def k3 : Class := { plain "java/io/Closeable" (some 0) with
  accessFlags := 1537
  interfaces := #[2]
  cf := some (fileOf pool3 1 #[] #[] 1537 3 #[5] #[])
  fields := #[]
  methods := #[]
  instanceTypes := #[]
  staticTypes := #[]
  resolved := Array.replicate 14 none
  statics := none }

def pool4 : Array CpInfo := pool [(1, .class_ 2), (0, u "com/example/table_salt/tablesalt/rows/RowSource"), (0, .class_ 4), (0, u "java/lang/Object"), (0, .class_ 6), (0, u "java/io/Closeable")] 7

/-- com/example/table_salt/tablesalt/rows/RowSource -/
def k4 : Class := { plain "com/example/table_salt/tablesalt/rows/RowSource" (some 0) with
  accessFlags := 1537
  interfaces := #[3]
  cf := some (fileOf pool4 1 #[] #[] 1537 3 #[5] #[])
  fields := #[]
  methods := #[]
  instanceTypes := #[]
  staticTypes := #[]
  resolved := Array.replicate 14 none
  statics := none }

def pool5 : Array CpInfo := pool [(1, .methodref 2 3), (0, .class_ 4), (0, .nameAndType 5 6), (0, u "java/lang/Object"), (0, u "<init>"), (0, u "()V"), (0, .fieldref 8 9), (0, .class_ 10), (0, .nameAndType 11 12), (0, u "com/example/table_salt/tablesalt/rows/IdRange"), (0, u "last"), (0, u "J"), (0, .fieldref 8 14), (0, .nameAndType 15 12), (0, u "next"), (0, .fieldref 8 17), (0, .nameAndType 18 19), (0, u "done"), (0, u "Z"), (0, .class_ 21), (0, u "com/example/table_salt/tablesalt/rows/RowSource"), (0, u "(JJ)V"), (3, u "([J)Z")] 3

def k5c0 : Code := { maxStack := 5, maxLocals := 5, code := prog_22_method_1_code, exceptionTable := #[], attributes := #[] }
def k5m0 : Method := { name := "<init>", desc := "(JJ)V", sig := { parameters := [.long, .long], returnType := none }, accessFlags := 1, code := some k5c0 }
def k5c1 : Code := { maxStack := 5, maxLocals := 2, code := prog_22_method_2_code, exceptionTable := #[], attributes := #[] }
def k5m1 : Method := { name := "next", desc := "([J)Z", sig := { parameters := [(.array .long)], returnType := some .boolean }, accessFlags := 1, code := some k5c1 }
/-- com/example/table_salt/tablesalt/rows/IdRange -/
def k5 : Class := { plain "com/example/table_salt/tablesalt/rows/IdRange" (some 0) with
  accessFlags := 49
  interfaces := #[4]
  cf := some (fileOf pool5 8 #[] #[{ accessFlags := 1, nameIndex := 5, descriptorIndex := 22, attributes := #[] }, { accessFlags := 1, nameIndex := 15, descriptorIndex := 26, attributes := #[] }] 49 2 #[20] #[{ accessFlags := 18, nameIndex := 11, descriptorIndex := 12, attributes := #[] }, { accessFlags := 2, nameIndex := 15, descriptorIndex := 12, attributes := #[] }, { accessFlags := 2, nameIndex := 18, descriptorIndex := 19, attributes := #[] }])
  fields := #[{ name := "last", type := .long, accessFlags := 18, slot := 0, constantValue := 0 }, { name := "next", type := .long, accessFlags := 2, slot := 1, constantValue := 0 }, { name := "done", type := .boolean, accessFlags := 2, slot := 2, constantValue := 0 }]
  methods := #[k5m0, k5m1]
  instanceTypes := #[.long, .long, .boolean]
  staticTypes := #[]
  resolved := Array.replicate 30 none
  statics := none }

def pool6 : Array CpInfo := pool [(1, u "java/lang/Cloneable"), (0, .class_ 1), (0, u "java/lang/Object"), (0, .class_ 3)] 3

/-- java/lang/Cloneable -/
def k6 : Class := { plain "java/lang/Cloneable" (some 0) with
  accessFlags := 1537
  interfaces := #[]
  cf := some (fileOf pool6 2 #[] #[] 1537 4 #[] #[])
  fields := #[]
  methods := #[]
  instanceTypes := #[]
  staticTypes := #[]
  resolved := Array.replicate 8 none
  statics := none }

def pool7 : Array CpInfo := pool [(1, u "java/io/Serializable"), (0, .class_ 1), (0, u "java/lang/Object"), (0, .class_ 3)] 3

/-- java/io/Serializable -/
def k7 : Class := { plain "java/io/Serializable" (some 0) with
  accessFlags := 1537
  interfaces := #[]
  cf := some (fileOf pool7 2 #[] #[] 1537 4 #[] #[])
  fields := #[]
  methods := #[]
  instanceTypes := #[]
  staticTypes := #[]
  resolved := Array.replicate 8 none
  statics := none }

/-- the primitive byte -/
def k8 : Class := { plain "byte" none with kind := .primitive 'B', accessFlags := 0x411 }
/-- [B -/
def k9 : Class := { plain "[B" (some 0) with kind := .array 8 .byte, interfaces := #[6, 7], accessFlags := 1041 }

/-- the primitive int -/
def k10 : Class := { plain "int" none with kind := .primitive 'I', accessFlags := 0x411 }
/-- [I -/
def k11 : Class := { plain "[I" (some 0) with kind := .array 10 .int, interfaces := #[6, 7], accessFlags := 1041 }

/-- the primitive long -/
def k12 : Class := { plain "long" none with kind := .primitive 'J', accessFlags := 0x411 }
/-- [J -/
def k13 : Class := { plain "[J" (some 0) with kind := .array 12 .long, interfaces := #[6, 7], accessFlags := 1041 }

def heap : Heap := #[]
def classes : Array Class := #[k0, k1, k2, k3, k4, k5, k6, k7, k8, k9, k10, k11, k12, k13]
def interned : List (Array UInt16 × Addr) := []
def slotsUsed : Nat := 0
def theMethod : MethodId := ⟨1, 3⟩
def args0 : Array Value := #[.long 5, .long 7, .int 9]
def aboutOver (below : List Frame) : State where
  vm := { classes := classes, interned := interned.toArray }
  heap := heap
  slotsUsed := slotsUsed
  threads := #[{ frames := .invoking theMethod args0 :: below }]
def below0 : List Frame := [.native { method := ⟨0, 0⟩, args := #[] }]
def about1 : State := aboutOver below0
def p0 : Program := .bare "" "" ""
def e0 : Env := launch0.env 0 0 0
theorem w_frames : about1.frames = Frame.invoking theMethod args0 :: below0 := rfl
set_option maxRecDepth 65536 in
theorem w_args : argsFit about1.vm theMethod args0 = true := by decide +kernel
set_option maxRecDepth 65536 in
theorem w_heap : heapFits about1 = true := by decide +kernel
set_option maxRecDepth 65536 in
theorem w_runnable : about1.curStatus? = some .runnable := by decide +kernel
set_option maxRecDepth 65536 in
theorem w_alone : about1.alone = true := by decide +kernel
set_option maxRecDepth 65536 in
theorem w_named : about1.methodNamed? x = some theMethod := by decide +kernel
set_option maxRecDepth 65536 in
theorem w_hears : about1.hears theMethod below0 = true := by decide +kernel
set_option maxRecDepth 65536 in
theorem w_ripe : about1.ripe theMethod args0 below0 = true := by decide +kernel
theorem w_running : about1.status = .running := rfl
set_option maxRecDepth 65536 in
theorem w_room : about1.hasRoom e0.platform room_1 = true :=
  launch0.hasRoom_least _ room_1 (by decide +kernel) (by decide +kernel) (by decide +kernel) (by decide +kernel) (by decide +kernel) (by decide +kernel)
theorem allAtoms_all (ts : List Jvm.Cond) (a : Array Jvm.Value) (st : Jvm.State) : (allAtoms ts).before a st = ts.all (fun c => c.before a st) := by
  induction ts with
  | nil => rfl
  | cons c t ih =>
    show (Jvm.Cond.and c (allAtoms t)).before a st = _
    rw [Jvm.Cond.before_and, ih, List.all_cons]
def words1 : List Jvm.Cond := Jvm.Cond.code x code maxLocals ret :: tables_1
/-- a 'code' word, met by the world's own term for the bytes: nothing is compared byte by byte -/
theorem code_word {y : MethodName} {bytes : ByteArray} {mx : Nat} {rt : Option FieldType} {a : Array Value} {s : State} {m : MethodId} {meth : Method} {c : Code} (h1 : s.methodNamed? y = some m) (h2 : s.vm.method? m = some meth) (h3 : meth.code = some c) (h4 : c.code = bytes)
    (h5 : (c.maxLocals == mx && c.exceptionTable.isEmpty && decide (c.maxStack ≤ mostOperands) && decide (meth.sig.returnType = rt) && !meth.locks && decide (parseMethodDescriptor y.desc = some meth.sig)) = true) : (Jvm.Cond.code y bytes mx rt).before a s = true := by
  simp only [Bool.and_eq_true, beq_iff_eq, Bool.not_eq_true', decide_eq_true_eq] at h5
  obtain ⟨⟨⟨⟨⟨g1, g2⟩, g3⟩, g4⟩, g5⟩, g6⟩ := h5
  simp [Cond.before, Cond.holds, Cond.value, h1, h2, h3, h4, g1, g2, g3, g4, g5, g6]
def isCode : Jvm.Cond → Bool
  | .code _ _ _ _ => true
  | _ => false
theorem all_split {L : List Jvm.Cond} {P : Jvm.Cond → Bool} (h1 : L.all (fun c => isCode c || P c) = true) (h2 : ∀ c ∈ L.filter isCode, P c = true) : L.all P = true := by
  refine List.all_eq_true.mpr fun c hc => ?_
  have h := List.all_eq_true.mp h1 c hc
  rcases Bool.eq_false_or_eq_true (isCode c) with hi | hi
  · exact h2 c (List.mem_filter.mpr ⟨hc, hi⟩)
  · simpa [hi] using h
set_option maxRecDepth 65536 in
theorem w_c0 : (Jvm.Cond.code x code maxLocals ret).before args0 about1 = true := code_word (m := ⟨1, 3⟩) (meth := k1m3) (c := k1c3) (by decide +kernel) rfl rfl rfl (by decide +kernel)
set_option maxRecDepth 65536 in
theorem w_c1 : (Jvm.Cond.code ({ cls := "com/example/table_salt/tablesalt/rows/IdRange", name := "<init>", desc := "(JJ)V" } : Jvm.MethodName) prog_22_method_1_code (5 : Nat) (Option.none : Option Jvm.ClassFile.FieldType)).before args0 about1 = true := code_word (m := ⟨5, 0⟩) (meth := k5m0) (c := k5c0) (by decide +kernel) rfl rfl rfl (by decide +kernel)
set_option maxRecDepth 65536 in
theorem w_c2 : (Jvm.Cond.code ({ cls := "java/lang/Object", name := "<init>", desc := "()V" } : Jvm.MethodName) object_method_1_code (1 : Nat) (Option.none : Option Jvm.ClassFile.FieldType)).before args0 about1 = true := code_word (m := ⟨0, 0⟩) (meth := k0m0) (c := k0c0) (by decide +kernel) rfl rfl rfl (by decide +kernel)
set_option maxRecDepth 65536 in
theorem w_c3 : (Jvm.Cond.code ({ cls := "com/example/table_salt/tablesalt/rows/IdRangeNextPinLaw", name := "step", desc := "(Lcom/example/table_salt/tablesalt/rows/IdRange;[JJJI)Z" } : Jvm.MethodName) method_3_code (9 : Nat) (Option.some Jvm.ClassFile.FieldType.boolean)).before args0 about1 = true := code_word (m := ⟨1, 2⟩) (meth := k1m2) (c := k1c2) (by decide +kernel) rfl rfl rfl (by decide +kernel)
set_option maxRecDepth 65536 in
theorem w_c4 : (Jvm.Cond.code ({ cls := "com/example/table_salt/tablesalt/rows/IdRangeNextPinLaw", name := "has", desc := "(JJI)Z" } : Jvm.MethodName) method_2_code (5 : Nat) (Option.some Jvm.ClassFile.FieldType.boolean)).before args0 about1 = true := code_word (m := ⟨1, 1⟩) (meth := k1m1) (c := k1c1) (by decide +kernel) rfl rfl rfl (by decide +kernel)
set_option maxRecDepth 65536 in
theorem w_c5 : (Jvm.Cond.code ({ cls := "com/example/table_salt/tablesalt/rows/IdRange", name := "next", desc := "([J)Z" } : Jvm.MethodName) prog_22_method_2_code (2 : Nat) (Option.some Jvm.ClassFile.FieldType.boolean)).before args0 about1 = true := code_word (m := ⟨5, 1⟩) (meth := k5m1) (c := k5c1) (by decide +kernel) rfl rfl rfl (by decide +kernel)
def codes1 : List Jvm.Cond := [Jvm.Cond.code x code maxLocals ret, Jvm.Cond.code ({ cls := "com/example/table_salt/tablesalt/rows/IdRange", name := "<init>", desc := "(JJ)V" } : Jvm.MethodName) prog_22_method_1_code (5 : Nat) (Option.none : Option Jvm.ClassFile.FieldType), Jvm.Cond.code ({ cls := "java/lang/Object", name := "<init>", desc := "()V" } : Jvm.MethodName) object_method_1_code (1 : Nat) (Option.none : Option Jvm.ClassFile.FieldType), Jvm.Cond.code ({ cls := "com/example/table_salt/tablesalt/rows/IdRangeNextPinLaw", name := "step", desc := "(Lcom/example/table_salt/tablesalt/rows/IdRange;[JJJI)Z" } : Jvm.MethodName) method_3_code (9 : Nat) (Option.some Jvm.ClassFile.FieldType.boolean), Jvm.Cond.code ({ cls := "com/example/table_salt/tablesalt/rows/IdRangeNextPinLaw", name := "has", desc := "(JJI)Z" } : Jvm.MethodName) method_2_code (5 : Nat) (Option.some Jvm.ClassFile.FieldType.boolean), Jvm.Cond.code ({ cls := "com/example/table_salt/tablesalt/rows/IdRange", name := "next", desc := "([J)Z" } : Jvm.MethodName) prog_22_method_2_code (2 : Nat) (Option.some Jvm.ClassFile.FieldType.boolean)]
set_option maxRecDepth 65536 in
theorem codes_eq : words1.filter isCode = codes1 := rfl
theorem w_codes : ∀ c ∈ words1.filter isCode, c.before args0 about1 = true := by
  rw [codes_eq]
  intro c hc
  simp only [codes1, List.mem_cons, List.not_mem_nil, or_false] at hc
  rcases hc with rfl | rfl | rfl | rfl | rfl | rfl
  · exact w_c0
  · exact w_c1
  · exact w_c2
  · exact w_c3
  · exact w_c4
  · exact w_c5
set_option maxRecDepth 65536 in
theorem w_t1 : (words1.take 24).all (fun c => isCode c || c.before args0 about1) = true := by decide +kernel
set_option maxRecDepth 65536 in
theorem w_t2 : (words1.drop 24).all (fun c => isCode c || c.before args0 about1) = true := by decide +kernel
theorem w_tables : (allAtoms (Jvm.Cond.code x code maxLocals ret :: tables_1)).before args0 about1 = true := by
  rw [allAtoms_all]
  show words1.all (fun c => c.before args0 about1) = true
  refine all_split ?_ w_codes
  rw [← List.take_append_drop 24 words1, List.all_append, w_t1, w_t2]
  rfl
set_option maxRecDepth 65536 in
theorem w_case : (Jvm.Cond.and given_1 narrow_1).before args0 about1 = true := by decide +kernel
theorem w_applies : (headSpec (Jvm.Cond.code x code maxLocals ret :: tables_1) room_1).applies x e0.platform about1 = true :=
  (Spec.applies_iff w_frames).mpr ⟨w_running, w_runnable, w_alone, w_named, w_hears, w_ripe, w_room, w_tables⟩
theorem atStart : AtStart classFile x code maxLocals ret World_1 tables_1 room_1 Calls_1 rest_1 Pre_1 launch0 p0 e0 about1 theMethod args0 below0 :=
  ⟨lists_1, trivial, launch0.admits_env _ _ _, launch0.least_env, fairChoices_fair.cas, fairChoices_fair.clock, w_frames, w_args, w_heap, w_applies, trivial, trivial, w_case⟩
end start1
theorem witness_1 : WitnessClaimed_1 := ⟨start1.p0, start1.e0, start1.about1, start1.theMethod, start1.args0, start1.below0, start1.atStart⟩
end Jvm.Pilot.@@N@@
